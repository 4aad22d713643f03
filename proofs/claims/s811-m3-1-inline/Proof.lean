import JvmDerived
import JvmDerived.Pilot.@@N@@Statement
import JvmDerived.Pilot.@@N@@Code
set_option linter.unusedVariables false
set_option linter.unusedSimpArgs false
namespace Jvm.Pilot.@@N@@
open Jvm Jvm.ClassFile Sem Op Lib Jvm.Free Jvm.Stand Jvm.LawKit Jvm.RoadKit Bundle Jvm.Pilot.@@N@@.Jvm.D
/-- from the frame g over the state T the run comes to a return that Q allows, with at most kc new cells and ks new slots -/
def Go (p : Program) (e : Env) (below : List Frame) (s : State) (Q : Option Value → Heap → List Loc → Prop) (kc ks : Nat) (T : State) (g : JFrame) : Prop :=
  ∃ s₂ o, Steps p.tables e below (T.setTop g) s₂ ∧ s₂.status = .running ∧ Ended s₂ below o ∧ ∃ v L, o = .returned v ∧ Q v s₂.heap L ∧ FrameEnd s o s₂ L kc ks
/-- a body's contract in this family: called with these arguments over the heap h0 it returns what Q says -/
def Con (l : Launch) (Z : State) (y : MethodName) (bytes : ByteArray) (maxL : Nat) (ret : Option FieldType) (rm : Room) (ws : List Jvm.Cond) (as' : Array Value) (h0 : Heap) (Q : Option Value → Heap → List Loc → Prop) (kc ks : Nat) : Prop :=
  MetFree l y (head1 (Jvm.Cond.code y bytes maxL ret :: ws) rm) (fun a U => a = as' ∧ Z.Warmed39 U.vm ∧ U.heap = h0) (fun _ _ _ _ _ => True) (fun _ U o U' => ∃ v L, o = .returned v ∧ Q v U'.heap L ∧ FrameEnd U o U' L kc ks)
/-- it returns r and leaves the heap as it was -/
def Qret (r : Option Value) (h0 : Heap) (n0 : Nat) (v : Option Value) (h : Heap) (L : List Loc) : Prop := v = r ∧ Fr n0 L ∧ h = h0
/-- the law's own end: true; nothing old written -/
def Q0 (n0 : Nat) (v : Option Value) (h : Heap) (L : List Loc) : Prop := v = some (.int 1) ∧ Fr n0 L
theorem own_cI (x : Int32) : (Value.int x).category = 1 := rfl
theorem own_cJ (x : Int64) : (Value.long x).category = 2 := rfl
theorem own_cR (x : Addr) : (Value.ref x).category = 1 := rfl
theorem own_cN : (Value.null).category = 1 := rfl
theorem hwi {Z : State} {a0 : Array Value} (hw : ∀ d ∈ tables_1, d.before a0 Z = true) (i : Nat) {d : Jvm.Cond} (h : tables_1[i]? = some d) : d.before a0 Z = true := hw d (List.mem_of_getElem? h)
section Own
variable {p : Program} {l : Launch} {e : Env} {R : Room} {s Z : State} {m : MethodId} {args : Array Value} {below : List Frame} {meth : Method} {c : Code} {T T' : State} {locs : List Loc} {cells slots kc ks : Nat} {Q : Option Value → Heap → List Loc → Prop} {g g' : JFrame} {h h' : Heap} {a : Addr} {C n d : String} {v : Value} {ws : List Addr}
theorem Con.of {y : MethodName} {bytes : ByteArray} {maxL : Nat} {ret : Option FieldType} {rm : Room} {cs : List Jvm.Cond} {as' : Array Value} {h0 : Heap} (hp : plainFor y = true)
    (body : ∀ p e s m below meth c s₁, Stand p l e rm s m as' below meth c s₁ [] 0 0 → p.tables.exec = Jvm.exec → Z.Warmed39 s.vm → c.code = bytes → c.maxLocals = maxL → s.vm.findClass y.cls = some m.cls → meth.name = y.name → meth.sig.returnType = ret → meth.locks = false → s₁.heap = h0 → s.heap = h0 → Go p e below s Q kc ks s₁ (entryFrame m as' maxL)) :
    Con l Z y bytes maxL ret rm cs as' h0 Q kc ks := by
  refine MetFree.of_bodySF hp hisR ?_
  intro p e s m args below meth c s₁ Bd hml0 hP hK
  obtain ⟨rfl, hZ, hh⟩ := hP
  exact body p e s m below meth c s₁ (Stand.of_body Bd) Bd.exec hZ Bd.bytes hml0 (findClass_of_methodNamed Bd.named) (name_of_methodNamed Bd.named Bd.method).1 Bd.returns Bd.notSynchronized (by rw [← hh, Bd.state]; rfl) hh
theorem Go.step (st : ∀ target, Steps p.tables e below (T'.setTop g') target → Steps p.tables e below (T.setTop g) target) (k : Go p e below s Q kc ks T' g') : Go p e below s Q kc ks T g := by
  obtain ⟨s₂, o, h1, h2⟩ := k
  exact ⟨s₂, o, st _ h1, h2⟩
theorem Go.cast (q : g = g') (k : Go p e below s Q kc ks T g') : Go p e below s Q kc ks T g := q ▸ k
theorem Go.ret (X : Stand p l e R s m args below meth c T locs cells slots) {v : Option Value} (hv : meth.sig.returnType = none → v = none) (hlk : meth.locks = false) (hq : Q v T.heap locs) (hc : cells ≤ kc) (hs : slots ≤ ks)
    (st : ∀ fs, (∀ (f : JFrame) (acts : List Action), f.method = m → f.locked = none → f.entered = [] → (doReturn e (T.setTop f) acts v).1 = T.setFrames fs) → Steps p.tables e below (T.setTop g) (T.setFrames fs)) : Go p e below s Q kc ks T g := by
  obtain ⟨fs, hr, hrun, hended, hW, hsame⟩ := X.leave (v := v) hv hlk
  exact ⟨_, _, st fs hr, hrun, hended, v, locs, rfl, hq, ⟨_, rfl⟩, hW, hsame.mono hc hs⟩
theorem Go.retN (X : Stand p l e R s m args below meth c T locs cells slots) (hx : p.tables.exec = Jvm.exec) {pc : Nat} {Ls : Array Slot} {z : Int32} {t : FieldType} {rest : List Value} (hret : meth.sig.returnType = some t) (hlk : meth.locks = false) (ht : t = .boolean ∨ t = .byte ∨ t = .char ∨ t = .short)
    (hd : decode c.code pc = .ok (.ireturn, 1)) (hq : Q (some (.int (nar t z))) T.heap locs) (hc : cells ≤ kc) (hs : slots ≤ ks) : Go p e below s Q kc ks T (mkF m pc Ls (.int z :: rest)) :=
  Go.ret X (fun q => by rw [hret] at q; cases q) hlk hq hc hs fun fs hr => Jvm.RoadKit.retN X hx hret ht hd hr
theorem Go.retI (X : Stand p l e R s m args below meth c T locs cells slots) (hx : p.tables.exec = Jvm.exec) {pc : Nat} {Ls : Array Slot} {z : Int32} {rest : List Value} (hret : meth.sig.returnType = some .int) (hlk : meth.locks = false)
    (hd : decode c.code pc = .ok (.ireturn, 1)) (hq : Q (some (.int z)) T.heap locs) (hc : cells ≤ kc) (hs : slots ≤ ks) : Go p e below s Q kc ks T (mkF m pc Ls (.int z :: rest)) :=
  Go.ret X (fun q => by rw [hret] at q; cases q) hlk hq hc hs fun fs hr => retOut X hx hret rfl (Or.inl ⟨rfl, Or.inl rfl, z, rfl⟩) hd hr
theorem Go.retJ (X : Stand p l e R s m args below meth c T locs cells slots) (hx : p.tables.exec = Jvm.exec) {pc : Nat} {Ls : Array Slot} {z : Int64} {rest : List Value} (hret : meth.sig.returnType = some .long) (hlk : meth.locks = false)
    (hd : decode c.code pc = .ok (.lreturn, 1)) (hq : Q (some (.long z)) T.heap locs) (hc : cells ≤ kc) (hs : slots ≤ ks) : Go p e below s Q kc ks T (mkF m pc Ls (.long z :: rest)) :=
  Go.ret X (fun q => by rw [hret] at q; cases q) hlk hq hc hs fun fs hr => retOut X hx hret rfl (Or.inr (Or.inl ⟨rfl, rfl, z, rfl⟩)) hd hr
theorem Go.retA (X : Stand p l e R s m args below meth c T locs cells slots) (hx : p.tables.exec = Jvm.exec) {pc : Nat} {Ls : Array Slot} {w : Value} {t : FieldType} {rest : List Value} (hret : meth.sig.returnType = some t) (ht : t.isReference = true) (hlk : meth.locks = false) (hw : w.isRef = true)
    (hd : decode c.code pc = .ok (.areturn, 1)) (hq : Q (some w) T.heap locs) (hc : cells ≤ kc) (hs : slots ≤ ks) : Go p e below s Q kc ks T (mkF m pc Ls (w :: rest)) :=
  Go.ret X (fun q => by rw [hret] at q; cases q) hlk hq hc hs fun fs hr => retOut X hx hret (by cases t <;> first | (cases ht; done) | (cases w <;> first | rfl | (cases hw; done))) (Or.inr (Or.inr (Or.inr (Or.inr ⟨rfl, ht, hw⟩)))) hd hr
theorem Go.retV (X : Stand p l e R s m args below meth c T locs cells slots) (hx : p.tables.exec = Jvm.exec) {pc : Nat} {Ls : Array Slot} (hret : meth.sig.returnType = none) (hlk : meth.locks = false)
    (hd : decode c.code pc = .ok (.return_, 1)) (hq : Q none T.heap locs) (hc : cells ≤ kc) (hs : slots ≤ ks) : Go p e below s Q kc ks T (mkF m pc Ls []) :=
  Go.ret X (fun _ => rfl) hlk hq hc hs fun fs hr => X.returnOut hx hret hd hr
theorem own_sta_keep (F : Sta Z h C n d v) (K : Keep h h' ws) (q : ∀ x ∈ ws, ∀ c : Cell, h[x]? = some c → c.vm.isStatics = false) : Sta Z h' C n d v := by
  obtain ⟨cf, i, k, f, st, cell, h1, h2, h3, h4, h5, h6, h7⟩ := F
  refine ⟨cf, i, k, f, st, cell, h1, h2, h3, h4, K.2.1 _ _ h5 (fun hm => ?_), h6, h7⟩
  have := q _ hm _ h5
  rw [h6] at this; cases this
theorem own_plain (E : Exa Z h a C) : ∀ c : Cell, h[a]? = some c → c.vm.isStatics = false := fun c hc => by
  obtain ⟨cell, k, h1, -, -, h4, -⟩ := E
  cases h1.symm.trans hc; exact h4
theorem own_eqI {args : Array Value} {s : State} {t : Term} {k : Int32} (q : (Jvm.Cond.eq t (Jvm.Term.int k)).value args s none s [] = some true) : t.eval args s none [] s = some (.int k) := by
  obtain ⟨x, y, hx, hy, kin, kin'⟩ := cmp_v (Or.inl q)
  have hy' : y = .int k := (Option.some.inj hy).symm
  subst hy'
  obtain ⟨z, rfl⟩ := kin'
  have e : (Jvm.Cond.eq t (Jvm.Term.int k)).value args s none s [] = some (decide (z = k)) := by simp [Cond.value, hx, hy]
  rw [hx, gotT e q]
theorem Con.ret {y : MethodName} {bytes : ByteArray} {maxL n0 : Nat} {ret : Option FieldType} {rm : Room} {cs : List Jvm.Cond} {as' : Array Value} {h0 h1 : Heap} {r r' : Int32} (q : r = r') (k : Con l Z y bytes maxL ret rm cs as' h0 (Qret (some (.int r)) h1 n0) kc ks) : Con l Z y bytes maxL ret rm cs as' h0 (Qret (some (.int r')) h1 n0) kc ks := q ▸ k
theorem own_arr_keep {cl : Cell} {ty : FieldType} (F : Arr Z h a cl ty) (K : Keep h h' ws) (q : a ∉ ws) : Arr Z h' a cl ty := ⟨K.2.1 a cl F.1 q, F.2⟩
/-- an object whose chain of classes lacks the class K is no K -/
theorem own_noins {a0 : Array Value} {K : String} {t : List String} {k : Nat} (E : Exa Z h a C) (hw : ∀ w ∈ Cond.chainWords (C :: t), w.before a0 Z = true) (wi : (Jvm.Cond.instantiable K k).before a0 Z = true) (hn : K ∉ C :: t) : Ins Z h a K false := by
  obtain ⟨cell, kc, h1, h2, -, h4, -⟩ := E
  obtain ⟨cy, ky, y1, y2, y3, y4, -⟩ := Cond.instantiable_spec wi
  have y5 : ky.isInterface = false := by simp only [Bool.or_eq_false_iff] at y4; exact y4.1
  exact ⟨cell, cy, h1, y1, by rw [Vm.notAssignable_of_chain h2 y1 y2 y3 y5 hw hn]; simp⟩
theorem own_len {args : Array Value} {t : Term} {cl : Cell} {ty : FieldType} {z : Int32} (ev : t.eval args Z none [] Z = some (.ref a)) (A : Arr Z Z.heap a cl ty) (el : (Jvm.Term.length t).eval args Z none [] Z = some (.int z)) : cl.slots.size < 2 ^ 31 ∧ cl.slots.size.toInt32 = z := by
  have ha := A.fin (Vm.Alike.refl _)
  by_cases q : cl.slots.size < 2 ^ 31
  · rw [len_f ev ha q] at el
    exact ⟨q, Value.int.inj (Option.some.inj el)⟩
  · simp [Term.eval, ev, ha, q] at el
theorem own_sub_at {args : Array Value} {t : Term} {idx : List Nat} {y k : Int32} (q : t.eval args Z none idx Z = some (.int y)) : (Jvm.Term.sub t (Jvm.Term.int k)).eval args Z none idx Z = some (.int (y - k)) := by simp [Term.eval, q]
theorem own_ifc {P P' : Prop} [Decidable P] [Decidable P'] (q : P ↔ P') : (if P then (1 : Int32) else 0) = if P' then 1 else 0 := by
  by_cases r : P
  · rw [if_pos r, if_pos (q.mp r)]
  · rw [if_neg r, if_neg (fun t => r (q.mpr t))]
theorem own_nf {a0 : Array Value} {y y' : MethodName} (w : (Cond.selects C y' y').before a0 Z = true) (q : y'.cls = y.cls) (hi : (Cond.instanceMethod y').before a0 Z = true) : NotFace Z y := fun r0 h0 => by
  obtain ⟨mk, meth', hn, -⟩ := Cond.instanceMethod_spec hi
  obtain ⟨k, hk, hki⟩ := notFace_of_selects w mk hn
  have t : mk.cls = r0.cls := Option.some.inj ((findClass_of_methodNamed hn).symm.trans (q ▸ findClass_of_methodNamed h0))
  rw [t] at hk; exact ⟨k, hk, hki⟩
theorem own_samem {a0 : Array Value} {y : MethodName} (d : (Cond.declares y).before a0 Z = true) (nf : NotFace Z y) (hy : y.cls ≠ "java/lang/invoke/MethodHandle" ∧ y.cls ≠ "java/lang/invoke/VarHandle") : (Cond.sameMethod y.cls y.cls y.name y.desc).before a0 Z = true := by
  obtain ⟨mm, meth', hn, -⟩ := Cond.declares_spec d
  obtain ⟨k, hk, hki⟩ := nf mm hn
  have hf := State.methodFound?_of_named hn hy
  have hc := findClass_of_methodNamed hn
  have hn' : Z.methodNamed? ⟨y.cls, y.name, y.desc⟩ = some mm := hn
  simp [Cond.before, Cond.holds, Cond.value, hc, hf, hn', hk, hki]
theorem own_selP {a0 : Array Value} {y : MethodName} (w : (Cond.selects C y y).before a0 Z = true) (hp : (Cond.privateMethod y).before a0 Z = true) (hi : (Cond.instanceMethod y).before a0 Z = true) (hy : y.cls ≠ "java/lang/invoke/MethodHandle" ∧ y.cls ≠ "java/lang/invoke/VarHandle") : (Cond.selects y.cls y y).before a0 Z = true := by
  obtain ⟨mk, meth', hn, -⟩ := Cond.instanceMethod_spec hi
  obtain ⟨k, hk, hki⟩ := notFace_of_selects w mk hn
  exact selects_self_of_private (findClass_of_methodNamed hn) hk hki (Cond.privateMethod_at hp) hi hy
theorem own_nfs {y : MethodName} (hZ : Z.Warmed39 s.vm) (nf : NotFace Z y) : NotFace s y := NotFace.move hZ.alike nf
theorem own_padr (n : Nat) {d : Value} : ∀ i, (List.replicate n d).getD i d = ([] : List Value).getD i d := fun i => by
  simp only [List.getD_eq_getElem?_getD, List.getElem?_replicate]
  split <;> rfl
end Own
/-- as Go, in a walk that may load String constants: the tables may have grown; whatever is booked for an entry of EL says its text -/
def GoW (p : Program) (e : Env) (below : List Frame) (s : State) (Z : State) (EL : List (String × Nat)) (Q : Option Value → Heap → List Loc → Prop) (kc ks : Nat) (T : State) (g : JFrame) : Prop :=
  ∃ s₂ o, Steps p.tables e below (T.setTop g) s₂ ∧ s₂.status = .running ∧ Ended s₂ below o ∧ ∃ v L, o = .returned v ∧ Q v s₂.heap L ∧ CHr Z EL s.vm s.heap s₂.vm s₂.heap ∧ ReturnedEndW s o s₂ L kc ks
def ConW (l : Launch) (Z : State) (EL : List (String × Nat)) (y : MethodName) (bytes : ByteArray) (maxL : Nat) (ret : Option FieldType) (rm : Room) (ws : List Jvm.Cond) (as' : Array Value) (h0 : Heap) (Q : Option Value → Heap → List Loc → Prop) (kc ks : Nat) : Prop :=
  MetFree l y (head1 (Jvm.Cond.code y bytes maxL ret :: ws) rm) (fun a U => a = as' ∧ Z.Warmed39 U.vm ∧ U.heap = h0 ∧ CHv Z EL U.vm h0) (fun _ _ _ _ _ => True) (fun _ U o U' => ∃ v L, o = .returned v ∧ Q v U'.heap L ∧ CHr Z EL U.vm U.heap U'.vm U'.heap ∧ ReturnedEndW U o U' L kc ks)
section OwnW
variable {p : Program} {l : Launch} {e : Env} {R : Room} {s Z : State} {m : MethodId} {args a0 : Array Value} {below : List Frame} {meth : Method} {c : Code} {T T' : State} {locs : List Loc} {cells slots kc ks k0 : Nat} {Q : Option Value → Heap → List Loc → Prop} {g g' : JFrame} {h h' : Heap} {vm0 : Vm} {EL : List (String × Nat)}
theorem ConW.of {y : MethodName} {bytes : ByteArray} {maxL : Nat} {ret : Option FieldType} {rm : Room} {cs : List Jvm.Cond} {as' : Array Value} {h0 : Heap} (hp : plainFor y = true)
    (body : ∀ p e s m below meth c s₁ k0, Stand p l e rm (s.setVm s.vm) m as' below meth c s₁ [] 0 0 → p.tables.exec = Jvm.exec → Z.Warmed39 (s.setVm s.vm).vm → c.code = bytes → c.maxLocals = maxL → (s.setVm s.vm).vm.findClass y.cls = some m.cls → meth.name = y.name → meth.sig.returnType = ret → meth.locks = false → s₁.heap = h0 → s.heap = h0 → s.Since s.vm k0 → k0 ≤ h0.size → CHr Z EL s.vm s.heap s.vm h0 → GoW p e below s Z EL Q kc ks s₁ (entryFrame m as' maxL)) :
    ConW l Z EL y bytes maxL ret rm cs as' h0 Q kc ks := by
  refine MetFree.of_bodySF hp hisR ?_
  intro p e s m args below meth c s₁ Bd hml0 hP hK
  obtain ⟨rfl, hZ, hh, H⟩ := hP
  have X : Stand p l e rm s m args below meth c s₁ [] 0 0 := Stand.of_body Bd
  have ev : s₁.vm = s.vm := by rw [Bd.state]; rfl
  have hS : s.Since s.vm 0 := ev ▸ X.warmed.since 0
  exact body p e s m below meth c s₁ 0 X Bd.exec hZ Bd.bytes hml0 (findClass_of_methodNamed Bd.named) (name_of_methodNamed Bd.named Bd.method).1 Bd.returns Bd.notSynchronized (by rw [← hh, Bd.state]; rfl) hh hS (Nat.zero_le _) (by rw [hh]; exact CHr.refl H)
theorem GoW.step (st : ∀ target, Steps p.tables e below (T'.setTop g') target → Steps p.tables e below (T.setTop g) target) (k : GoW p e below s Z EL Q kc ks T' g') : GoW p e below s Z EL Q kc ks T g := by
  obtain ⟨s₂, o, h1, h2⟩ := k
  exact ⟨s₂, o, st _ h1, h2⟩
theorem GoW.cast (q : g = g') (k : GoW p e below s Z EL Q kc ks T g') : GoW p e below s Z EL Q kc ks T g := q ▸ k
theorem GoW.ret (X : Stand p l e R (s.setVm vm0) m args below meth c T locs cells slots) (hS : s.Since vm0 k0) (hk : k0 ≤ h.size) (hZ : Z.Warmed39 (s.setVm vm0).vm) (hEL : EW Z a0 EL) (CR : CHr Z EL s.vm s.heap vm0 h) (eT : T.heap = h) {v : Option Value} (hv : meth.sig.returnType = none → v = none) (hlk : meth.locks = false) (hq : Q v T.heap locs) (hc : cells ≤ kc) (hs : slots ≤ ks)
    (st : ∀ fs, (∀ (f : JFrame) (acts : List Action), f.method = m → f.locked = none → f.entered = [] → (doReturn e (T.setTop f) acts v).1 = T.setFrames fs) → Steps p.tables e below (T.setTop g) (T.setFrames fs)) : GoW p e below s Z EL Q kc ks T g := by
  obtain ⟨fs, hr, hrun, hended, hE⟩ := X.leaveW hS (by rw [eT]; exact hk) (v := v) hv hlk
  have A := CHv.at X hZ hEL CR.1
  refine ⟨_, _, st fs hr, hrun, hended, v, locs, rfl, hq, ?_, hE.1, hE.2.1, hE.2.2.1, hE.2.2.2.mono hc hs⟩
  show CHr Z EL s.vm s.heap T.vm T.heap
  rw [eT]; exact CR.trans A
theorem GoW.retN (X : Stand p l e R (s.setVm vm0) m args below meth c T locs cells slots) (hx : p.tables.exec = Jvm.exec) (hS : s.Since vm0 k0) (hk : k0 ≤ h.size) (hZ : Z.Warmed39 (s.setVm vm0).vm) (hEL : EW Z a0 EL) (CR : CHr Z EL s.vm s.heap vm0 h) (eT : T.heap = h) {pc : Nat} {Ls : Array Slot} {z : Int32} {t : FieldType} {rest : List Value} (hret : meth.sig.returnType = some t) (hlk : meth.locks = false) (ht : t = .boolean ∨ t = .byte ∨ t = .char ∨ t = .short)
    (hd : decode c.code pc = .ok (.ireturn, 1)) (hq : Q (some (.int (nar t z))) T.heap locs) (hc : cells ≤ kc) (hs : slots ≤ ks) : GoW p e below s Z EL Q kc ks T (mkF m pc Ls (.int z :: rest)) :=
  GoW.ret X hS hk hZ hEL CR eT (fun q => by rw [hret] at q; cases q) hlk hq hc hs fun fs hr => Jvm.RoadKit.retN X hx hret ht hd hr
theorem GoW.retI (X : Stand p l e R (s.setVm vm0) m args below meth c T locs cells slots) (hx : p.tables.exec = Jvm.exec) (hS : s.Since vm0 k0) (hk : k0 ≤ h.size) (hZ : Z.Warmed39 (s.setVm vm0).vm) (hEL : EW Z a0 EL) (CR : CHr Z EL s.vm s.heap vm0 h) (eT : T.heap = h) {pc : Nat} {Ls : Array Slot} {z : Int32} {rest : List Value} (hret : meth.sig.returnType = some .int) (hlk : meth.locks = false)
    (hd : decode c.code pc = .ok (.ireturn, 1)) (hq : Q (some (.int z)) T.heap locs) (hc : cells ≤ kc) (hs : slots ≤ ks) : GoW p e below s Z EL Q kc ks T (mkF m pc Ls (.int z :: rest)) :=
  GoW.ret X hS hk hZ hEL CR eT (fun q => by rw [hret] at q; cases q) hlk hq hc hs fun fs hr => retOut X hx hret rfl (Or.inl ⟨rfl, Or.inl rfl, z, rfl⟩) hd hr
theorem GoW.retA (X : Stand p l e R (s.setVm vm0) m args below meth c T locs cells slots) (hx : p.tables.exec = Jvm.exec) (hS : s.Since vm0 k0) (hk : k0 ≤ h.size) (hZ : Z.Warmed39 (s.setVm vm0).vm) (hEL : EW Z a0 EL) (CR : CHr Z EL s.vm s.heap vm0 h) (eT : T.heap = h) {pc : Nat} {Ls : Array Slot} {w : Value} {t : FieldType} {rest : List Value} (hret : meth.sig.returnType = some t) (ht : t.isReference = true) (hlk : meth.locks = false) (hw : w.isRef = true)
    (hd : decode c.code pc = .ok (.areturn, 1)) (hq : Q (some w) T.heap locs) (hc : cells ≤ kc) (hs : slots ≤ ks) : GoW p e below s Z EL Q kc ks T (mkF m pc Ls (w :: rest)) :=
  GoW.ret X hS hk hZ hEL CR eT (fun q => by rw [hret] at q; cases q) hlk hq hc hs fun fs hr => retOut X hx hret (by cases t <;> first | (cases ht; done) | (cases w <;> first | rfl | (cases hw; done))) (Or.inr (Or.inr (Or.inr (Or.inr ⟨rfl, ht, hw⟩)))) hd hr
theorem GoW.retV (X : Stand p l e R (s.setVm vm0) m args below meth c T locs cells slots) (hx : p.tables.exec = Jvm.exec) (hS : s.Since vm0 k0) (hk : k0 ≤ h.size) (hZ : Z.Warmed39 (s.setVm vm0).vm) (hEL : EW Z a0 EL) (CR : CHr Z EL s.vm s.heap vm0 h) (eT : T.heap = h) {pc : Nat} {Ls : Array Slot} (hret : meth.sig.returnType = none) (hlk : meth.locks = false)
    (hd : decode c.code pc = .ok (.return_, 1)) (hq : Q none T.heap locs) (hc : cells ≤ kc) (hs : slots ≤ ks) : GoW p e below s Z EL Q kc ks T (mkF m pc Ls []) :=
  GoW.ret X hS hk hZ hEL CR eT (fun _ => rfl) hlk hq hc hs fun fs hr => X.returnOut hx hret hd hr
end OwnW
def own_nd (M : Nat) : Nat := if M < 10 then 1 else if M < 100 then 2 else if M < 1000 then 3 else if M < 10000 then 4 else if M < 100000 then 5 else if M < 1000000 then 6 else if M < 10000000 then 7 else if M < 100000000 then 8 else if M < 1000000000 then 9 else 10
def own_sg (x : Int32) : Nat := if x < 0 then 1 else 0
def own_M (x : Int32) : Nat := x.toInt.natAbs
def own_dg (M j : Nat) : Int32 := Int32.ofNat (48 + M / 10 ^ j % 10)
def own_ones : List Value := (List.range 100).map fun i => .int (Int32.ofNat (48 + i % 10))
def own_tens : List Value := (List.range 100).map fun i => .int (Int32.ofNat (48 + i / 10))
theorem own_M_le (x : Int32) : own_M x ≤ 2147483648 := by
  have r := rng32 x
  simp only [own_M]; omega
theorem own_sg_le (x : Int32) : own_sg x ≤ 1 := by simp only [own_sg]; split <;> omega
theorem own_nd_le (M : Nat) : 1 ≤ own_nd M ∧ own_nd M ≤ 10 := by
  simp only [own_nd]; repeat' split
  all_goals omega
theorem own_Mneg {x : Int32} (h : x < 0) : x.toInt = -(own_M x : Int) := by
  rw [Int32.lt_iff_toInt_lt, show (0 : Int32).toInt = 0 from rfl] at h
  simp only [own_M]; omega
theorem own_Mpos {x : Int32} (h : ¬ x < 0) : (-x).toInt = -(own_M x : Int) := by
  rw [Int32.lt_iff_toInt_lt, show (0 : Int32).toInt = 0 from rfl] at h
  have c := c_ineg x
  have r1 := rng32 x
  have r2 := rng32 (-x)
  simp only [own_M]; omega
theorem own_sgT {x : Int32} (h : x < 0) : own_sg x = 1 := if_pos h
theorem own_sgF {x : Int32} (h : ¬ x < 0) : own_sg x = 0 := if_neg h
theorem own_ltZ {a y : Int32} {z : Int} (h : a < y) (e : a.toInt = z) : z < y.toInt := by rw [Int32.lt_iff_toInt_lt, e] at h; exact h
theorem own_geZ {a y : Int32} {z : Int} (h : ¬ a < y) (e : a.toInt = z) : y.toInt ≤ z := by rw [Int32.lt_iff_toInt_lt, e] at h; omega
theorem own_getset (vs : List Value) (i j : Nat) (v d : Value) (hi : i < vs.length) : (vs.set i v).getD j d = if i = j then v else vs.getD j d := by
  simp only [List.getD_eq_getElem?_getD, List.getElem?_set]
  split
  · rename_i e; subst e; simp [hi]
  · rfl
theorem own_ofNat {k : Nat} (h : k < 2147483648) : (Int32.ofNat k).toInt = k := Int32.toInt_ofNat_of_lt (by omega)
theorem own_clamp {k : Nat} (h : k < 2147483648) : (Int32.ofNat k).toNatClampNeg = k := by rw [Int32.toNatClampNeg, own_ofNat h]; rfl
theorem own_ofI {x : Int32} {k : Nat} (h : k < 2147483648) (e : x.toInt = k) : x = Int32.ofNat k := Int32.toInt_inj.mp (by rw [own_ofNat h, e])
theorem own_dg_nar (M j : Nat) : nar .byte (own_dg M j) = own_dg M j := by
  have t : ∀ k : Fin 10, nar .byte (Int32.ofNat (48 + k.val)) = Int32.ofNat (48 + k.val) := by decide +kernel
  exact t ⟨M / 10 ^ j % 10, Nat.mod_lt _ (by decide)⟩
theorem own_dg_char (M j : Nat) : nar .char ((own_dg M j &&& (255 : Int32)).toUInt32.toUInt16.toUInt32.toInt32) = own_dg M j ∧ nar .char (own_dg M j) = own_dg M j := by
  have t : ∀ k : Fin 10, nar .char ((Int32.ofNat (48 + k.val) &&& (255 : Int32)).toUInt32.toUInt16.toUInt32.toInt32) = Int32.ofNat (48 + k.val) ∧ nar .char (Int32.ofNat (48 + k.val)) = Int32.ofNat (48 + k.val) := by decide +kernel
  exact t ⟨M / 10 ^ j % 10, Nat.mod_lt _ (by decide)⟩
theorem own_ones_at {k : Nat} (h : k < 100) : own_ones.getD k (.int (0 : Int32)) = .int (Int32.ofNat (48 + k % 10)) := by
  simp [own_ones, List.getD_eq_getElem?_getD, h]
theorem own_tens_at {k : Nat} (h : k < 100) : own_tens.getD k (.int (0 : Int32)) = .int (Int32.ofNat (48 + k / 10)) := by
  simp [own_tens, List.getD_eq_getElem?_getD, h]
/-- the law's digit: the long's arithmetic -/
theorem own_dgL {V p : Int64} {M j : Nat} (hM : M ≤ 2147483648) (hV : V.toInt = M) (hp : p.toInt = ((10 ^ j : Nat) : Int)) (hj : j < 10) : ((48 : Int32) + (V / p - (V / p / (10 : Int64)) * (10 : Int64)).toInt32).toUInt32.toUInt16.toUInt32.toInt32 = own_dg M j := by
  have hp1 : p ≠ -1 := fun q => by
    have := congrArg Int64.toInt q
    rw [hp, show (-1 : Int64).toInt = -1 from rfl] at this
    have : (0 : Int) ≤ ((10 ^ j : Nat) : Int) := Int.natCast_nonneg _
    omega
  have e1 := (c_ldiv V p _ hp hp1).1 (by rw [hV]; exact Int.natCast_nonneg _)
  rw [hV] at e1
  have e1' : (V / p).toInt = ((M / 10 ^ j : Nat) : Int) := by rw [e1]; exact (Int.natCast_ediv _ _).symm
  have e2 := (c_lrem (V / p) 10 10 rfl).1 (by rw [e1']; exact Int.natCast_nonneg _)
  rw [e1'] at e2
  have e3 := c_l2i (V / p - (V / p / (10 : Int64)) * (10 : Int64))
  rw [e2] at e3
  have e4 := c_iadd 48 (V / p - (V / p / (10 : Int64)) * (10 : Int64)).toInt32
  have e5 := c_i2c ((48 : Int32) + (V / p - (V / p / (10 : Int64)) * (10 : Int64)).toInt32)
  have r1 := rng32 (V / p - (V / p / (10 : Int64)) * (10 : Int64)).toInt32
  have r2 := rng32 ((48 : Int32) + (V / p - (V / p / (10 : Int64)) * (10 : Int64)).toInt32)
  rw [show (48 : Int32).toInt = 48 from rfl] at e4
  refine own_ofI (by have := Nat.mod_lt (M / 10 ^ j) (by decide : 0 < 10); omega) ?_
  have : ((M / 10 ^ j % 10 : Nat) : Int) = ((M / 10 ^ j : Nat) : Int) % 10 := Int.natCast_emod _ _
  have q := Nat.mod_lt (M / 10 ^ j) (by decide : 0 < 10)
  rw [Int.natCast_add, this]
  generalize ((M / 10 ^ j : Nat) : Int) = W at *
  show _ = (48 : Int) + _
  omega

theorem own_shr0 (n : Int32) : n >>> ((0 : Int32) &&& 31) = n := Int32.toInt_inj.mp (by rw [c_ishr n 0 0 rfl]; simp)
theorem own_ef_jdk_42_method_152_code_R (m : MethodId) (x0 : Addr) : entryFrame m #[(.ref x0)] 1 = mkF m 0 #[.val (.ref x0)] [] := by first | (simp [entryFrame, mkF, argsToLocals, Value.category]; done) | rfl | (simp [entryFrame, mkF, argsToLocals, own_cI, own_cJ, own_cR, own_cN]; done)
theorem own_pn_String : plainName "java/lang/String" = true := by first | (simp [plainName, overriddenIn]; done) | decide +kernel
theorem d_jdk_42_method_152_0 : decode jdk_42_method_152_code 0 = .ok (.getstatic 38, 3) := by decide +kernel
theorem d_jdk_42_method_152_3 : decode jdk_42_method_152_code 3 = .ok (.ifCond .eq 10, 3) := by decide +kernel
theorem d_jdk_42_method_152_6 : decode jdk_42_method_152_code 6 = .ok (.aload_n 0, 1) := by decide +kernel
theorem d_jdk_42_method_152_7 : decode jdk_42_method_152_code 7 = .ok (.getfield 15, 3) := by decide +kernel
theorem d_jdk_42_method_152_10 : decode jdk_42_method_152_code 10 = .ok (.goto 4, 3) := by decide +kernel
theorem d_jdk_42_method_152_14 : decode jdk_42_method_152_code 14 = .ok (.ireturn, 1) := by decide +kernel
set_option maxRecDepth 65536 in
set_option maxHeartbeats 40000000 in
theorem own_cod (l : Launch) (Z : State) (a0 : Array Value) (hw : ∀ d ∈ tables_1, d.before a0 Z = true) (ws : List Jvm.Cond) (a1 : Addr) (gc : Int32) (h0 : Heap) (n0 : Nat) (Z0 : n0 ≤ h0.size) (Sc : Sta Z h0 "java/lang/String" "COMPACT_STRINGS" "Z" (.int gc)) (hgc : ¬ gc = (0 : Int32)) (C1 : Fld Z h0 a1 "java/lang/String" "coder" "B" (.int (0 : Int32))) :
    Con l Z (⟨"java/lang/String", "coder", "()B"⟩ : MethodName) jdk_42_method_152_code 1 (some .byte) ({ frames := 0, cells := 0, slots := 0, locals := 0 } : Room) ws #[(.ref a1)] h0 (Qret (some (.int (0 : Int32))) h0 n0) 0 0 := by
  refine Con.of (plainFor_of_name own_pn_String) ?_
  intro pgm e s m below meth c s₁ X0 hx hZ hby hml hown hnm hret hlk e0 hs0
  have N0 := Fr.nil n0
  have hown : s.vm.findClass "java/lang/String" = some m.cls := hown
  have hnm : meth.name = "coder" := hnm
  refine Go.cast (own_ef_jdk_42_method_152_code_R m a1) ?_
  obtain ⟨T101, X101, e101, st101⟩ := getS2 X0 hx hZ hown (host := "") (Or.inl (hwi hw 82 rfl)) Via.refl e0 Sc (g := (mkF m 0 #[.val (.ref a1)] [])) rfl (hb hby d_jdk_42_method_152_0)
  refine Go.step (T' := T101) (g' := (mkF m 3 #[.val (.ref a1)] [(.int gc)])) st101 ?_
  refine Go.step (T' := T101) (g' := (mkF m 6 #[.val (.ref a1)] [])) (fun _ k => XS.ifNo X101.here hx rfl (hb hby d_jdk_42_method_152_3) rfl ((if0 _ _).trans (feq hgc).1) k) ?_
  refine Go.step (T' := T101) (g' := (mkF m 7 #[.val (.ref a1)] [(.ref a1)])) (fun _ k => XS.aloadN X101.here hx rfl (hb hby d_jdk_42_method_152_6) rfl rfl k) ?_
  obtain ⟨T102, X102, e102, st102⟩ := getF X101 hx hZ hown (host := "") (Or.inl (hwi hw 83 rfl)) Via.refl e101 C1 (g := (mkF m 7 #[.val (.ref a1)] [(.ref a1)])) rfl rfl (hb hby d_jdk_42_method_152_7)
  refine Go.step (T' := T102) (g' := (mkF m 10 #[.val (.ref a1)] [(.int (0 : Int32))])) st102 ?_
  refine Go.step (T' := T102) (g' := (mkF m 14 #[.val (.ref a1)] [(.int (0 : Int32))])) (fun _ k => XS.goto X102.here hx rfl (pc0 := 10) (pc' := 14) rfl (hb hby d_jdk_42_method_152_10) (by decide) (by decide) k) ?_
  exact Go.retN X102 hx (t := .byte) hret hlk (by simp) (hb hby d_jdk_42_method_152_14) (⟨rfl, N0, e102⟩) (by decide) (by decide)
theorem own_ef_jdk_42_method_154_code_R (m : MethodId) (x0 : Addr) : entryFrame m #[(.ref x0)] 1 = mkF m 0 #[.val (.ref x0)] [] := by first | (simp [entryFrame, mkF, argsToLocals, Value.category]; done) | rfl | (simp [entryFrame, mkF, argsToLocals, own_cI, own_cJ, own_cR, own_cN]; done)
theorem d_jdk_42_method_154_0 : decode jdk_42_method_154_code 0 = .ok (.getstatic 38, 3) := by decide +kernel
theorem d_jdk_42_method_154_3 : decode jdk_42_method_154_code 3 = .ok (.ifCond .eq 14, 3) := by decide +kernel
theorem d_jdk_42_method_154_6 : decode jdk_42_method_154_code 6 = .ok (.aload_n 0, 1) := by decide +kernel
theorem d_jdk_42_method_154_7 : decode jdk_42_method_154_code 7 = .ok (.getfield 15, 3) := by decide +kernel
theorem d_jdk_42_method_154_10 : decode jdk_42_method_154_code 10 = .ok (.ifCond .ne 7, 3) := by decide +kernel
theorem d_jdk_42_method_154_13 : decode jdk_42_method_154_code 13 = .ok (.iconst 1, 1) := by decide +kernel
theorem d_jdk_42_method_154_14 : decode jdk_42_method_154_code 14 = .ok (.goto 4, 3) := by decide +kernel
theorem d_jdk_42_method_154_18 : decode jdk_42_method_154_code 18 = .ok (.ireturn, 1) := by decide +kernel
set_option maxRecDepth 65536 in
set_option maxHeartbeats 40000000 in
theorem own_lat (l : Launch) (Z : State) (a0 : Array Value) (hw : ∀ d ∈ tables_1, d.before a0 Z = true) (ws : List Jvm.Cond) (a1 : Addr) (gc : Int32) (h0 : Heap) (n0 : Nat) (Z0 : n0 ≤ h0.size) (Sc : Sta Z h0 "java/lang/String" "COMPACT_STRINGS" "Z" (.int gc)) (hgc : ¬ gc = (0 : Int32)) (C1 : Fld Z h0 a1 "java/lang/String" "coder" "B" (.int (0 : Int32))) :
    Con l Z (⟨"java/lang/String", "isLatin1", "()Z"⟩ : MethodName) jdk_42_method_154_code 1 (some .boolean) ({ frames := 0, cells := 0, slots := 0, locals := 0 } : Room) ws #[(.ref a1)] h0 (Qret (some (.int (1 : Int32))) h0 n0) 0 0 := by
  refine Con.of (plainFor_of_name own_pn_String) ?_
  intro pgm e s m below meth c s₁ X0 hx hZ hby hml hown hnm hret hlk e0 hs0
  have N0 := Fr.nil n0
  have hown : s.vm.findClass "java/lang/String" = some m.cls := hown
  have hnm : meth.name = "isLatin1" := hnm
  refine Go.cast (own_ef_jdk_42_method_154_code_R m a1) ?_
  obtain ⟨T101, X101, e101, st101⟩ := getS2 X0 hx hZ hown (host := "") (Or.inl (hwi hw 82 rfl)) Via.refl e0 Sc (g := (mkF m 0 #[.val (.ref a1)] [])) rfl (hb hby d_jdk_42_method_154_0)
  refine Go.step (T' := T101) (g' := (mkF m 3 #[.val (.ref a1)] [(.int gc)])) st101 ?_
  refine Go.step (T' := T101) (g' := (mkF m 6 #[.val (.ref a1)] [])) (fun _ k => XS.ifNo X101.here hx rfl (hb hby d_jdk_42_method_154_3) rfl ((if0 _ _).trans (feq hgc).1) k) ?_
  refine Go.step (T' := T101) (g' := (mkF m 7 #[.val (.ref a1)] [(.ref a1)])) (fun _ k => XS.aloadN X101.here hx rfl (hb hby d_jdk_42_method_154_6) rfl rfl k) ?_
  obtain ⟨T102, X102, e102, st102⟩ := getF X101 hx hZ hown (host := "") (Or.inl (hwi hw 83 rfl)) Via.refl e101 C1 (g := (mkF m 7 #[.val (.ref a1)] [(.ref a1)])) rfl rfl (hb hby d_jdk_42_method_154_7)
  refine Go.step (T' := T102) (g' := (mkF m 10 #[.val (.ref a1)] [(.int (0 : Int32))])) st102 ?_
  refine Go.step (T' := T102) (g' := (mkF m 13 #[.val (.ref a1)] [])) (fun _ k => XS.ifNo X102.here hx rfl (hb hby d_jdk_42_method_154_10) rfl ((if0 _ _).trans (teq (by decide : (0 : Int32) = (0 : Int32))).2) k) ?_
  refine Go.step (T' := T102) (g' := (mkF m 14 #[.val (.ref a1)] [(.int (1 : Int32))])) (fun _ k => XS.iconst X102.here hx rfl (hb hby d_jdk_42_method_154_13) k) ?_
  refine Go.step (T' := T102) (g' := (mkF m 18 #[.val (.ref a1)] [(.int (1 : Int32))])) (fun _ k => XS.goto X102.here hx rfl (pc0 := 14) (pc' := 18) rfl (hb hby d_jdk_42_method_154_14) (by decide) (by decide) k) ?_
  exact Go.retN X102 hx (t := .boolean) hret hlk (by simp) (hb hby d_jdk_42_method_154_18) (⟨rfl, N0, e102⟩) (by decide) (by decide)
theorem own_ef_jdk_42_method_54_code_R (m : MethodId) (x0 : Addr) : entryFrame m #[(.ref x0)] 1 = mkF m 0 #[.val (.ref x0)] [] := by first | (simp [entryFrame, mkF, argsToLocals, Value.category]; done) | rfl | (simp [entryFrame, mkF, argsToLocals, own_cI, own_cJ, own_cR, own_cN]; done)
theorem d_jdk_42_method_54_0 : decode jdk_42_method_54_code 0 = .ok (.aload_n 0, 1) := by decide +kernel
theorem d_jdk_42_method_54_1 : decode jdk_42_method_54_code 1 = .ok (.getfield 9, 3) := by decide +kernel
theorem d_jdk_42_method_54_4 : decode jdk_42_method_54_code 4 = .ok (.arraylength, 1) := by decide +kernel
theorem d_jdk_42_method_54_5 : decode jdk_42_method_54_code 5 = .ok (.aload_n 0, 1) := by decide +kernel
theorem d_jdk_42_method_54_6 : decode jdk_42_method_54_code 6 = .ok (.invokevirtual 335, 3) := by decide +kernel
theorem own_pd0 : parseMethodDescriptor "()B" = some ⟨[], some .byte⟩ := by decide +kernel
theorem d_jdk_42_method_54_9 : decode jdk_42_method_54_code 9 = .ok (.ishr, 1) := by decide +kernel
theorem d_jdk_42_method_54_10 : decode jdk_42_method_54_code 10 = .ok (.ireturn, 1) := by decide +kernel
set_option maxRecDepth 65536 in
set_option maxHeartbeats 40000000 in
theorem own_len_ (l : Launch) (Z : State) (a0 : Array Value) (hw : ∀ d ∈ tables_1, d.before a0 Z = true) (ws : List Jvm.Cond) (a1 : Addr) (gc : Int32) (b1 : Addr) (k1 : ClassId) (n : Int32) (vs : List Value) (h0 : Heap) (n0 : Nat) (Z0 : n0 ≤ h0.size) (Sc : Sta Z h0 "java/lang/String" "COMPACT_STRINGS" "Z" (.int gc)) (hgc : ¬ gc = (0 : Int32)) (E1 : Exa Z h0 a1 "java/lang/String") (C1 : Fld Z h0 a1 "java/lang/String" "coder" "B" (.int (0 : Int32))) (B1 : Fld Z h0 a1 "java/lang/String" "value" "[B" (.ref b1)) (V1 : Arv Z h0 b1 k1 .byte n vs (.int (0 : Int32))) :
    Con l Z (⟨"java/lang/String", "length", "()I"⟩ : MethodName) jdk_42_method_54_code 1 (some .int) ({ frames := 1, cells := 0, slots := 0, locals := 13 } : Room) ws #[(.ref a1)] h0 (Qret (some (.int n)) h0 n0) 0 0 := by
  refine Con.of (plainFor_of_name own_pn_String) ?_
  intro pgm e s m below meth c s₁ X0 hx hZ hby hml hown hnm hret hlk e0 hs0
  have N0 := Fr.nil n0
  have hown : s.vm.findClass "java/lang/String" = some m.cls := hown
  have hnm : meth.name = "length" := hnm
  refine Go.cast (own_ef_jdk_42_method_54_code_R m a1) ?_
  refine Go.step (T' := s₁) (g' := (mkF m 1 #[.val (.ref a1)] [(.ref a1)])) (fun _ k => XS.aloadN X0.here hx rfl (hb hby d_jdk_42_method_54_0) rfl rfl k) ?_
  obtain ⟨T101, X101, e101, st101⟩ := getF X0 hx hZ hown (host := "") (Or.inl (hwi hw 76 rfl)) Via.refl e0 B1 (g := (mkF m 1 #[.val (.ref a1)] [(.ref a1)])) rfl rfl (hb hby d_jdk_42_method_54_1)
  refine Go.step (T' := T101) (g' := (mkF m 4 #[.val (.ref a1)] [(.ref b1)])) st101 ?_
  obtain ⟨cl102, Ar102, -, S102, M102, -, -⟩ := id V1
  refine Go.step (T' := T101) (g' := (mkF m 5 #[.val (.ref a1)] [(.int n)])) (fun _ k => X101.arraylength hx (cell := cl102) (by rw [e101]; exact Ar102.1) (State.isArrayOf_alike hZ.alike Ar102.2.1) (g := (mkF m 4 #[.val (.ref a1)] [(.ref b1)])) rfl (rest := []) rfl (hb hby d_jdk_42_method_54_4) _ (by rw [len_of S102 M102]; exact k)) ?_
  refine Go.step (T' := T101) (g' := (mkF m 6 #[.val (.ref a1)] [(.ref a1), (.int n)])) (fun _ k => XS.aloadN X101.here hx rfl (hb hby d_jdk_42_method_54_5) rfl rfl k) ?_
  obtain ⟨cq103, kq103, q103a, q103b, q103c⟩ := isOf hZ e101 E1
  obtain ⟨_, _, ⟨T103, L103, k103, n103⟩, -, X103, ⟨Lc103, hQ103, l103, y103, z103⟩, st103⟩ := X101.virtualBack hx (y := (⟨"java/lang/String", "coder", "()B"⟩ : MethodName)) (z := (⟨"java/lang/String", "coder", "()B"⟩ : MethodName)) hown (mvT hZ (hwi hw 77 rfl)) (mvT hZ (hwi hw 78 rfl)) (notFace_of_selects (args := #[]) (mvT hZ (hwi hw 80 rfl))) (mvT hZ (hwi hw 80 rfl)) (mvT hZ (hwi hw 79 rfl)) (by decide) (backOf (W := 1) (Q := Qret (some (.int (0 : Int32))) h0 n0) (own_cod l Z a0 hw [] a1 gc h0 n0 Z0 Sc hgc C1) hZ (hwi hw 81 rfl) (hwi hw 20 rfl) (by decide) (by decide)) q103a q103c (g := (mkF m 6 #[.val (.ref a1)] [(.ref a1), (.int n)])) rfl (by rw [hml]; rfl) (Steps.refl _) (argsL := []) (rest := [(.int n)]) (lenOf own_pd0 rfl) rfl (by show 2 * 0 + _ ≤ _; exact Nat.le_of_eq rfl) (hb hby d_jdk_42_method_54_6) (fun _ _ => ⟨rfl, e101, (by decide : 0 + 0 ≤ _), (by decide : 0 + 0 ≤ _)⟩)
  dsimp only [Pt.U, Pt.locs, Pt.cells, Pt.slots] at X103 l103 y103 z103 st103 hQ103
  subst l103 y103 z103
  obtain ⟨rfl, N103q, eh103⟩ := hQ103
  have N103 := Fr.app N0 N103q
  refine Go.step (T' := T103) (g' := (mkF m 9 #[.val (.ref a1)] [(.int (0 : Int32)), (.int n)])) (fun _ k => st103.trans k) ?_
  refine Go.step (T' := T103) (g' := (mkF m 10 #[.val (.ref a1)] [(.int (n >>> ((0 : Int32) &&& 31)))])) (fun _ k => XS.ishr X103.here hx rfl (hb hby d_jdk_42_method_54_9) rfl k) ?_
  exact Go.retI X103 hx hret hlk (hb hby d_jdk_42_method_54_10) (⟨by rw [own_shr0], N103, eh103⟩) (by decide) (by decide)
theorem own_ef_jdk_41_method_11_code_IIV (m : MethodId) (x0 : Int32) (x1 : Int32) (x2 : Value) (c2 : x2.category = 1) : entryFrame m #[(.int x0), (.int x1), x2] 3 = mkF m 0 #[.val (.int x0), .val (.int x1), .val x2] [] := by first | (simp [entryFrame, mkF, argsToLocals, Value.category, c2]; done) | rfl | (simp [entryFrame, mkF, argsToLocals, own_cI, own_cJ, own_cR, own_cN, c2]; done)
theorem own_pn_Preconditions : plainName "jdk/internal/util/Preconditions" = true := by first | (simp [plainName, overriddenIn]; done) | decide +kernel
theorem d_jdk_41_method_11_0 : decode jdk_41_method_11_code 0 = .ok (.iload_n 0, 1) := by decide +kernel
theorem d_jdk_41_method_11_1 : decode jdk_41_method_11_code 1 = .ok (.ifCond .lt 8, 3) := by decide +kernel
theorem d_jdk_41_method_11_4 : decode jdk_41_method_11_code 4 = .ok (.iload_n 0, 1) := by decide +kernel
theorem d_jdk_41_method_11_5 : decode jdk_41_method_11_code 5 = .ok (.iload_n 1, 1) := by decide +kernel
theorem d_jdk_41_method_11_6 : decode jdk_41_method_11_code 6 = .ok (.if_icmp .lt 10, 3) := by decide +kernel
theorem d_jdk_41_method_11_16 : decode jdk_41_method_11_code 16 = .ok (.iload_n 0, 1) := by decide +kernel
theorem d_jdk_41_method_11_17 : decode jdk_41_method_11_code 17 = .ok (.ireturn, 1) := by decide +kernel
set_option maxRecDepth 65536 in
set_option maxHeartbeats 40000000 in
theorem own_pci (l : Launch) (Z : State) (a0 : Array Value) (hw : ∀ d ∈ tables_1, d.before a0 Z = true) (ws : List Jvm.Cond) (p0 p1 : Int32) (gf : Value) (h0 : Heap) (n0 : Nat) (Z0 : n0 ≤ h0.size) (i1 : ¬ p0 < (0 : Int32)) (i2 : p0 < p1) (cgf : gf.category = 1) :
    Con l Z (⟨"jdk/internal/util/Preconditions", "checkIndex", "(IILjava/util/function/BiFunction;)I"⟩ : MethodName) jdk_41_method_11_code 3 (some .int) ({ frames := 0, cells := 0, slots := 0, locals := 0 } : Room) ws #[(.int p0), (.int p1), gf] h0 (Qret (some (.int p0)) h0 n0) 0 0 := by
  refine Con.of (plainFor_of_name own_pn_Preconditions) ?_
  intro pgm e s m below meth c s₁ X0 hx hZ hby hml hown hnm hret hlk e0 hs0
  have N0 := Fr.nil n0
  have hown : s.vm.findClass "jdk/internal/util/Preconditions" = some m.cls := hown
  have hnm : meth.name = "checkIndex" := hnm
  refine Go.cast (own_ef_jdk_41_method_11_code_IIV m p0 p1 gf cgf) ?_
  refine Go.step (T' := s₁) (g' := (mkF m 1 #[.val (.int p0), .val (.int p1), .val gf] [(.int p0)])) (fun _ k => XS.iloadN X0.here hx rfl (hb hby d_jdk_41_method_11_0) rfl  k) ?_
  refine Go.step (T' := s₁) (g' := (mkF m 4 #[.val (.int p0), .val (.int p1), .val gf] [])) (fun _ k => XS.ifNo X0.here hx rfl (hb hby d_jdk_41_method_11_1) rfl ((if0 _ _).trans (flt i1).1) k) ?_
  refine Go.step (T' := s₁) (g' := (mkF m 5 #[.val (.int p0), .val (.int p1), .val gf] [(.int p0)])) (fun _ k => XS.iloadN X0.here hx rfl (hb hby d_jdk_41_method_11_4) rfl  k) ?_
  refine Go.step (T' := s₁) (g' := (mkF m 6 #[.val (.int p0), .val (.int p1), .val gf] [(.int p1), (.int p0)])) (fun _ k => XS.iloadN X0.here hx rfl (hb hby d_jdk_41_method_11_5) rfl  k) ?_
  refine Go.step (T' := s₁) (g' := (mkF m 16 #[.val (.int p0), .val (.int p1), .val gf] [])) (fun _ k => XS.icmpYes X0.here hx rfl (pc0 := 6) (pc' := 16) rfl (hb hby d_jdk_41_method_11_6) rfl (tlt i2).1 (by decide) (by decide) k) ?_
  refine Go.step (T' := s₁) (g' := (mkF m 17 #[.val (.int p0), .val (.int p1), .val gf] [(.int p0)])) (fun _ k => XS.iloadN X0.here hx rfl (hb hby d_jdk_41_method_11_16) rfl  k) ?_
  exact Go.retI X0 hx hret hlk (hb hby d_jdk_41_method_11_17) (⟨rfl, N0, e0⟩) (by decide) (by decide)
theorem own_ef_jdk_42_method_155_code_II (m : MethodId) (x0 : Int32) (x1 : Int32) : entryFrame m #[(.int x0), (.int x1)] 2 = mkF m 0 #[.val (.int x0), .val (.int x1)] [] := by first | (simp [entryFrame, mkF, argsToLocals, Value.category]; done) | rfl | (simp [entryFrame, mkF, argsToLocals, own_cI, own_cJ, own_cR, own_cN]; done)
theorem d_jdk_42_method_155_0 : decode jdk_42_method_155_code 0 = .ok (.iload_n 0, 1) := by decide +kernel
theorem d_jdk_42_method_155_1 : decode jdk_42_method_155_code 1 = .ok (.iload_n 1, 1) := by decide +kernel
theorem d_jdk_42_method_155_2 : decode jdk_42_method_155_code 2 = .ok (.getstatic 1053, 3) := by decide +kernel
theorem d_jdk_42_method_155_5 : decode jdk_42_method_155_code 5 = .ok (.invokestatic 1059, 3) := by decide +kernel
theorem own_pd1 : parseMethodDescriptor "(IILjava/util/function/BiFunction;)I" = some ⟨[.int, .int, (.object "java/util/function/BiFunction")], some .int⟩ := by decide +kernel
theorem d_jdk_42_method_155_8 : decode jdk_42_method_155_code 8 = .ok (.pop, 1) := by decide +kernel
theorem d_jdk_42_method_155_9 : decode jdk_42_method_155_code 9 = .ok (.return_, 1) := by decide +kernel
set_option maxRecDepth 65536 in
set_option maxHeartbeats 40000000 in
theorem own_ci (l : Launch) (Z : State) (a0 : Array Value) (hw : ∀ d ∈ tables_1, d.before a0 Z = true) (ws : List Jvm.Cond) (p0 p1 : Int32) (gf : Value) (h0 : Heap) (n0 : Nat) (Z0 : n0 ≤ h0.size) (i1 : ¬ p0 < (0 : Int32)) (i2 : p0 < p1) (Sf : Sta Z h0 "jdk/internal/util/Preconditions" "SIOOBE_FORMATTER" "Ljava/util/function/BiFunction;" gf) (cgf : gf.category = 1) :
    Con l Z (⟨"java/lang/String", "checkIndex", "(II)V"⟩ : MethodName) jdk_42_method_155_code 2 none ({ frames := 1, cells := 0, slots := 0, locals := 14 } : Room) ws #[(.int p0), (.int p1)] h0 (Qret none h0 n0) 0 0 := by
  refine Con.of (plainFor_of_name own_pn_String) ?_
  intro pgm e s m below meth c s₁ X0 hx hZ hby hml hown hnm hret hlk e0 hs0
  have N0 := Fr.nil n0
  have hown : s.vm.findClass "java/lang/String" = some m.cls := hown
  have hnm : meth.name = "checkIndex" := hnm
  refine Go.cast (own_ef_jdk_42_method_155_code_II m p0 p1) ?_
  refine Go.step (T' := s₁) (g' := (mkF m 1 #[.val (.int p0), .val (.int p1)] [(.int p0)])) (fun _ k => XS.iloadN X0.here hx rfl (hb hby d_jdk_42_method_155_0) rfl  k) ?_
  refine Go.step (T' := s₁) (g' := (mkF m 2 #[.val (.int p0), .val (.int p1)] [(.int p1), (.int p0)])) (fun _ k => XS.iloadN X0.here hx rfl (hb hby d_jdk_42_method_155_1) rfl  k) ?_
  obtain ⟨T101, X101, e101, st101⟩ := getS2 X0 hx hZ hown (host := "") (Or.inl (hwi hw 176 rfl)) Via.refl e0 Sf (g := (mkF m 2 #[.val (.int p0), .val (.int p1)] [(.int p1), (.int p0)])) rfl (hb hby d_jdk_42_method_155_2)
  refine Go.step (T' := T101) (g' := (mkF m 5 #[.val (.int p0), .val (.int p1)] [gf, (.int p1), (.int p0)])) st101 ?_
  obtain ⟨_, _, ⟨T102, L102, k102, n102⟩, -, X102, ⟨Lc102, hQ102, l102, y102, z102⟩, st102⟩ := Jvm.LawKit.callS X101 hx (y := (⟨"jdk/internal/util/Preconditions", "checkIndex", "(IILjava/util/function/BiFunction;)I"⟩ : MethodName)) hown (mvT hZ (hwi hw 178 rfl)) (mvT hZ (hwi hw 179 rfl)) (mvT hZ (hwi hw 177 rfl)) (mvT hZ (hwi hw 180 rfl)) (by decide) (backOf (W := 0) (Q := Qret (some (.int p0)) h0 n0) (own_pci l Z a0 hw [] p0 p1 gf h0 n0 Z0 i1 i2 cgf) hZ (hwi hw 180 rfl) (hwi hw 177 rfl) (by decide) (by decide)) (g := (mkF m 5 #[.val (.int p0), .val (.int p1)] [gf, (.int p1), (.int p0)])) rfl (by rw [hml]; rfl) (argsL := [(.int p0), (.int p1), gf]) (rest := []) (lenOf own_pd1 rfl) rfl (by show 2 * 0 + _ ≤ _; exact Nat.le_of_eq rfl) (hb hby d_jdk_42_method_155_5) (fun _ _ => ⟨rfl, e101, (by decide : 0 + 0 ≤ _), (by decide : 0 + 0 ≤ _)⟩)
  dsimp only [Pt.U, Pt.locs, Pt.cells, Pt.slots] at X102 l102 y102 z102 st102 hQ102
  subst l102 y102 z102
  obtain ⟨rfl, N102q, eh102⟩ := hQ102
  have N102 := Fr.app N0 N102q
  refine Go.step (T' := T102) (g' := (mkF m 8 #[.val (.int p0), .val (.int p1)] [(.int p0)])) (st102) ?_
  refine Go.step (T' := T102) (g' := (mkF m 9 #[.val (.int p0), .val (.int p1)] [])) (fun _ k => XS.pop X102.here hx rfl (hb hby d_jdk_42_method_155_8) rfl rfl k) ?_
  exact Go.retV X102 hx hret hlk (hb hby d_jdk_42_method_155_9) (⟨rfl, N102, eh102⟩) (by decide) (by decide)
theorem own_ef_jdk_43_method_2_code_RI (m : MethodId) (x0 : Addr) (x1 : Int32) : entryFrame m #[(.ref x0), (.int x1)] 2 = mkF m 0 #[.val (.ref x0), .val (.int x1)] [] := by first | (simp [entryFrame, mkF, argsToLocals, Value.category]; done) | rfl | (simp [entryFrame, mkF, argsToLocals, own_cI, own_cJ, own_cR, own_cN]; done)
theorem own_pn_StringLatin1 : plainName "java/lang/StringLatin1" = true := by first | (simp [plainName, overriddenIn]; done) | decide +kernel
theorem d_jdk_43_method_2_0 : decode jdk_43_method_2_code 0 = .ok (.iload_n 1, 1) := by decide +kernel
theorem d_jdk_43_method_2_1 : decode jdk_43_method_2_code 1 = .ok (.aload_n 0, 1) := by decide +kernel
theorem d_jdk_43_method_2_2 : decode jdk_43_method_2_code 2 = .ok (.arraylength, 1) := by decide +kernel
theorem d_jdk_43_method_2_3 : decode jdk_43_method_2_code 3 = .ok (.invokestatic 9, 3) := by decide +kernel
theorem own_pd2 : parseMethodDescriptor "(II)V" = some ⟨[.int, .int], none⟩ := by decide +kernel
theorem d_jdk_43_method_2_6 : decode jdk_43_method_2_code 6 = .ok (.aload_n 0, 1) := by decide +kernel
theorem d_jdk_43_method_2_7 : decode jdk_43_method_2_code 7 = .ok (.iload_n 1, 1) := by decide +kernel
theorem d_jdk_43_method_2_8 : decode jdk_43_method_2_code 8 = .ok (.baload, 1) := by decide +kernel
theorem d_jdk_43_method_2_9 : decode jdk_43_method_2_code 9 = .ok (.sipush 255, 3) := by decide +kernel
theorem d_jdk_43_method_2_12 : decode jdk_43_method_2_code 12 = .ok (.iand, 1) := by decide +kernel
theorem d_jdk_43_method_2_13 : decode jdk_43_method_2_code 13 = .ok (.i2c, 1) := by decide +kernel
theorem d_jdk_43_method_2_14 : decode jdk_43_method_2_code 14 = .ok (.ireturn, 1) := by decide +kernel
set_option maxRecDepth 65536 in
set_option maxHeartbeats 40000000 in
theorem own_lch (l : Launch) (Z : State) (a0 : Array Value) (hw : ∀ d ∈ tables_1, d.before a0 Z = true) (ws : List Jvm.Cond) (b1 : Addr) (i : Int32) (k1 : ClassId) (n : Int32) (vs : List Value) (gf : Value) (bb cc : Int32) (h0 : Heap) (n0 : Nat) (Z0 : n0 ≤ h0.size) (V1 : Arv Z h0 b1 k1 .byte n vs (.int (0 : Int32))) (Sf : Sta Z h0 "jdk/internal/util/Preconditions" "SIOOBE_FORMATTER" "Ljava/util/function/BiFunction;" gf) (cgf : gf.category = 1) (i1 : ¬ i < (0 : Int32)) (i2 : i < n) (u : vs.getD i.toNatClampNeg (.int (0 : Int32)) = .int bb) (hc : nar .char ((bb &&& (255 : Int32)).toUInt32.toUInt16.toUInt32.toInt32) = cc) :
    Con l Z (⟨"java/lang/StringLatin1", "charAt", "([BI)C"⟩ : MethodName) jdk_43_method_2_code 2 (some .char) ({ frames := 2, cells := 0, slots := 0, locals := 27 } : Room) ws #[(.ref b1), (.int i)] h0 (Qret (some (.int cc)) h0 n0) 0 0 := by
  refine Con.of (plainFor_of_name own_pn_StringLatin1) ?_
  intro pgm e s m below meth c s₁ X0 hx hZ hby hml hown hnm hret hlk e0 hs0
  have N0 := Fr.nil n0
  have hown : s.vm.findClass "java/lang/StringLatin1" = some m.cls := hown
  have hnm : meth.name = "charAt" := hnm
  refine Go.cast (own_ef_jdk_43_method_2_code_RI m b1 i) ?_
  refine Go.step (T' := s₁) (g' := (mkF m 1 #[.val (.ref b1), .val (.int i)] [(.int i)])) (fun _ k => XS.iloadN X0.here hx rfl (hb hby d_jdk_43_method_2_0) rfl  k) ?_
  refine Go.step (T' := s₁) (g' := (mkF m 2 #[.val (.ref b1), .val (.int i)] [(.ref b1), (.int i)])) (fun _ k => XS.aloadN X0.here hx rfl (hb hby d_jdk_43_method_2_1) rfl rfl k) ?_
  obtain ⟨cl101, Ar101, -, S101, M101, -, -⟩ := id V1
  refine Go.step (T' := s₁) (g' := (mkF m 3 #[.val (.ref b1), .val (.int i)] [(.int n), (.int i)])) (fun _ k => X0.arraylength hx (cell := cl101) (by rw [e0]; exact Ar101.1) (State.isArrayOf_alike hZ.alike Ar101.2.1) (g := (mkF m 2 #[.val (.ref b1), .val (.int i)] [(.ref b1), (.int i)])) rfl (rest := [(.int i)]) rfl (hb hby d_jdk_43_method_2_2) _ (by rw [len_of S101 M101]; exact k)) ?_
  obtain ⟨_, _, ⟨T102, L102, k102, n102⟩, -, X102, ⟨Lc102, hQ102, l102, y102, z102⟩, st102⟩ := Jvm.LawKit.callS X0 hx (y := (⟨"java/lang/String", "checkIndex", "(II)V"⟩ : MethodName)) hown (mvT hZ (hwi hw 173 rfl)) (mvT hZ (hwi hw 174 rfl)) (mvT hZ (hwi hw 20 rfl)) (mvT hZ (hwi hw 175 rfl)) (by decide) (backOf (W := 0) (Q := Qret none h0 n0) (own_ci l Z a0 hw [] i n gf h0 n0 Z0 i1 i2 Sf cgf) hZ (hwi hw 175 rfl) (hwi hw 20 rfl) (by decide) (by decide)) (g := (mkF m 3 #[.val (.ref b1), .val (.int i)] [(.int n), (.int i)])) rfl (by rw [hml]; rfl) (argsL := [(.int i), (.int n)]) (rest := []) (lenOf own_pd2 rfl) rfl (by show 2 * 0 + _ ≤ _; exact Nat.le_of_eq rfl) (hb hby d_jdk_43_method_2_3) (fun _ _ => ⟨rfl, e0, (by decide : 0 + 0 ≤ _), (by decide : 0 + 0 ≤ _)⟩)
  dsimp only [Pt.U, Pt.locs, Pt.cells, Pt.slots] at X102 l102 y102 z102 st102 hQ102
  subst l102 y102 z102
  obtain ⟨rfl, N102q, eh102⟩ := hQ102
  have N102 := Fr.app N0 N102q
  refine Go.step (T' := T102) (g' := (mkF m 6 #[.val (.ref b1), .val (.int i)] [])) (st102) ?_
  refine Go.step (T' := T102) (g' := (mkF m 7 #[.val (.ref b1), .val (.int i)] [(.ref b1)])) (fun _ k => XS.aloadN X102.here hx rfl (hb hby d_jdk_43_method_2_6) rfl rfl k) ?_
  refine Go.step (T' := T102) (g' := (mkF m 8 #[.val (.ref b1), .val (.int i)] [(.int i), (.ref b1)])) (fun _ k => XS.iloadN X102.here hx rfl (hb hby d_jdk_43_method_2_7) rfl  k) ?_
  obtain ⟨cl103, Ar103, q103, S103, M103, H103, G103⟩ := id V1
  have I103 := inb_of (j := i) S103 ⟨i1, i2⟩
  refine Go.step (T' := T102) (g' := (mkF m 9 #[.val (.ref b1), .val (.int i)] [(.int bb)])) (fun _ k => X102.baloadBytes hx (j := i) (v := (.int bb)) (by rw [eh102]; exact Ar103.1) (State.isArrayOf_alike hZ.alike Ar103.2.1) Ar103.2.2 I103 (Has.at H103 I103 u) (g := (mkF m 8 #[.val (.ref b1), .val (.int i)] [(.int i), (.ref b1)])) rfl rfl (hb hby d_jdk_43_method_2_8) _ k) ?_
  refine Go.step (T' := T102) (g' := (mkF m 12 #[.val (.ref b1), .val (.int i)] [(.int (255 : Int32)), (.int bb)])) (fun _ k => XS.sipush X102.here hx rfl (hb hby d_jdk_43_method_2_9) k) ?_
  refine Go.step (T' := T102) (g' := (mkF m 13 #[.val (.ref b1), .val (.int i)] [(.int (bb &&& (255 : Int32)))])) (fun _ k => XS.iand X102.here hx rfl (hb hby d_jdk_43_method_2_12) rfl k) ?_
  refine Go.step (T' := T102) (g' := (mkF m 14 #[.val (.ref b1), .val (.int i)] [(.int ((bb &&& (255 : Int32)).toUInt32.toUInt16.toUInt32.toInt32))])) (fun _ k => XS.i2c X102.here hx rfl (hb hby d_jdk_43_method_2_13) rfl k) ?_
  exact Go.retN X102 hx (t := .char) hret hlk (by simp) (hb hby d_jdk_43_method_2_14) (⟨by rw [hc], N102, eh102⟩) (by decide) (by decide)
theorem own_ef_jdk_42_method_56_code_RI (m : MethodId) (x0 : Addr) (x1 : Int32) : entryFrame m #[(.ref x0), (.int x1)] 2 = mkF m 0 #[.val (.ref x0), .val (.int x1)] [] := by first | (simp [entryFrame, mkF, argsToLocals, Value.category]; done) | rfl | (simp [entryFrame, mkF, argsToLocals, own_cI, own_cJ, own_cR, own_cN]; done)
theorem d_jdk_42_method_56_0 : decode jdk_42_method_56_code 0 = .ok (.aload_n 0, 1) := by decide +kernel
theorem d_jdk_42_method_56_1 : decode jdk_42_method_56_code 1 = .ok (.invokevirtual 492, 3) := by decide +kernel
theorem own_pd3 : parseMethodDescriptor "()Z" = some ⟨[], some .boolean⟩ := by decide +kernel
theorem d_jdk_42_method_56_4 : decode jdk_42_method_56_code 4 = .ok (.ifCond .eq 12, 3) := by decide +kernel
theorem d_jdk_42_method_56_7 : decode jdk_42_method_56_code 7 = .ok (.aload_n 0, 1) := by decide +kernel
theorem d_jdk_42_method_56_8 : decode jdk_42_method_56_code 8 = .ok (.getfield 9, 3) := by decide +kernel
theorem d_jdk_42_method_56_11 : decode jdk_42_method_56_code 11 = .ok (.iload_n 1, 1) := by decide +kernel
theorem d_jdk_42_method_56_12 : decode jdk_42_method_56_code 12 = .ok (.invokestatic 495, 3) := by decide +kernel
theorem own_pd4 : parseMethodDescriptor "([BI)C" = some ⟨[(.array .byte), .int], some .char⟩ := by decide +kernel
theorem d_jdk_42_method_56_15 : decode jdk_42_method_56_code 15 = .ok (.ireturn, 1) := by decide +kernel
set_option maxRecDepth 65536 in
set_option maxHeartbeats 40000000 in
theorem own_ch_ (l : Launch) (Z : State) (a0 : Array Value) (hw : ∀ d ∈ tables_1, d.before a0 Z = true) (ws : List Jvm.Cond) (a1 : Addr) (i : Int32) (gc : Int32) (b1 : Addr) (k1 : ClassId) (n : Int32) (vs : List Value) (gf : Value) (bb cc : Int32) (h0 : Heap) (n0 : Nat) (Z0 : n0 ≤ h0.size) (Sc : Sta Z h0 "java/lang/String" "COMPACT_STRINGS" "Z" (.int gc)) (hgc : ¬ gc = (0 : Int32)) (E1 : Exa Z h0 a1 "java/lang/String") (C1 : Fld Z h0 a1 "java/lang/String" "coder" "B" (.int (0 : Int32))) (B1 : Fld Z h0 a1 "java/lang/String" "value" "[B" (.ref b1)) (V1 : Arv Z h0 b1 k1 .byte n vs (.int (0 : Int32))) (Sf : Sta Z h0 "jdk/internal/util/Preconditions" "SIOOBE_FORMATTER" "Ljava/util/function/BiFunction;" gf) (cgf : gf.category = 1) (i1 : ¬ i < (0 : Int32)) (i2 : i < n) (u : vs.getD i.toNatClampNeg (.int (0 : Int32)) = .int bb) (hc : nar .char ((bb &&& (255 : Int32)).toUInt32.toUInt16.toUInt32.toInt32) = cc) (hcc : nar .char cc = cc) :
    Con l Z (⟨"java/lang/String", "charAt", "(I)C"⟩ : MethodName) jdk_42_method_56_code 2 (some .char) ({ frames := 3, cells := 0, slots := 0, locals := 40 } : Room) ws #[(.ref a1), (.int i)] h0 (Qret (some (.int cc)) h0 n0) 0 0 := by
  refine Con.of (plainFor_of_name own_pn_String) ?_
  intro pgm e s m below meth c s₁ X0 hx hZ hby hml hown hnm hret hlk e0 hs0
  have N0 := Fr.nil n0
  have hown : s.vm.findClass "java/lang/String" = some m.cls := hown
  have hnm : meth.name = "charAt" := hnm
  refine Go.cast (own_ef_jdk_42_method_56_code_RI m a1 i) ?_
  refine Go.step (T' := s₁) (g' := (mkF m 1 #[.val (.ref a1), .val (.int i)] [(.ref a1)])) (fun _ k => XS.aloadN X0.here hx rfl (hb hby d_jdk_42_method_56_0) rfl rfl k) ?_
  obtain ⟨cq101, kq101, q101a, q101b, q101c⟩ := isOf hZ e0 E1
  obtain ⟨_, _, ⟨T101, L101, k101, n101⟩, -, X101, ⟨Lc101, hQ101, l101, y101, z101⟩, st101⟩ := X0.virtualBack hx (y := (⟨"java/lang/String", "isLatin1", "()Z"⟩ : MethodName)) (z := (⟨"java/lang/String", "isLatin1", "()Z"⟩ : MethodName)) hown (mvT hZ (hwi hw 164 rfl)) (mvT hZ (hwi hw 165 rfl)) (notFace_of_selects (args := #[]) (mvT hZ (hwi hw 167 rfl))) (mvT hZ (hwi hw 167 rfl)) (mvT hZ (hwi hw 166 rfl)) (by decide) (backOf (W := 0) (Q := Qret (some (.int (1 : Int32))) h0 n0) (own_lat l Z a0 hw [] a1 gc h0 n0 Z0 Sc hgc C1) hZ (hwi hw 168 rfl) (hwi hw 20 rfl) (by decide) (by decide)) q101a q101c (g := (mkF m 1 #[.val (.ref a1), .val (.int i)] [(.ref a1)])) rfl (by rw [hml]; rfl) (Steps.refl _) (argsL := []) (rest := []) (lenOf own_pd3 rfl) rfl (by show 2 * 0 + _ ≤ _; exact Nat.le_of_eq rfl) (hb hby d_jdk_42_method_56_1) (fun _ _ => ⟨rfl, e0, (by decide : 0 + 0 ≤ _), (by decide : 0 + 0 ≤ _)⟩)
  dsimp only [Pt.U, Pt.locs, Pt.cells, Pt.slots] at X101 l101 y101 z101 st101 hQ101
  subst l101 y101 z101
  obtain ⟨rfl, N101q, eh101⟩ := hQ101
  have N101 := Fr.app N0 N101q
  refine Go.step (T' := T101) (g' := (mkF m 4 #[.val (.ref a1), .val (.int i)] [(.int (1 : Int32))])) (fun _ k => st101.trans k) ?_
  refine Go.step (T' := T101) (g' := (mkF m 7 #[.val (.ref a1), .val (.int i)] [])) (fun _ k => XS.ifNo X101.here hx rfl (hb hby d_jdk_42_method_56_4) rfl ((if0 _ _).trans (feq (by decide : ¬ ((1 : Int32) = (0 : Int32)))).1) k) ?_
  refine Go.step (T' := T101) (g' := (mkF m 8 #[.val (.ref a1), .val (.int i)] [(.ref a1)])) (fun _ k => XS.aloadN X101.here hx rfl (hb hby d_jdk_42_method_56_7) rfl rfl k) ?_
  obtain ⟨T102, X102, e102, st102⟩ := getF X101 hx hZ hown (host := "") (Or.inl (hwi hw 76 rfl)) Via.refl eh101 B1 (g := (mkF m 8 #[.val (.ref a1), .val (.int i)] [(.ref a1)])) rfl rfl (hb hby d_jdk_42_method_56_8)
  refine Go.step (T' := T102) (g' := (mkF m 11 #[.val (.ref a1), .val (.int i)] [(.ref b1)])) st102 ?_
  refine Go.step (T' := T102) (g' := (mkF m 12 #[.val (.ref a1), .val (.int i)] [(.int i), (.ref b1)])) (fun _ k => XS.iloadN X102.here hx rfl (hb hby d_jdk_42_method_56_11) rfl  k) ?_
  obtain ⟨_, _, ⟨T103, L103, k103, n103⟩, -, X103, ⟨Lc103, hQ103, l103, y103, z103⟩, st103⟩ := Jvm.LawKit.callS X102 hx (y := (⟨"java/lang/StringLatin1", "charAt", "([BI)C"⟩ : MethodName)) hown (mvT hZ (hwi hw 169 rfl)) (mvT hZ (hwi hw 170 rfl)) (mvT hZ (hwi hw 171 rfl)) (mvT hZ (hwi hw 172 rfl)) (by decide) (backOf (W := 0) (Q := Qret (some (.int cc)) h0 n0) (own_lch l Z a0 hw [] b1 i k1 n vs gf bb cc h0 n0 Z0 V1 Sf cgf i1 i2 u hc) hZ (hwi hw 172 rfl) (hwi hw 171 rfl) (by decide) (by decide)) (g := (mkF m 12 #[.val (.ref a1), .val (.int i)] [(.int i), (.ref b1)])) rfl (by rw [hml]; rfl) (argsL := [(.ref b1), (.int i)]) (rest := []) (lenOf own_pd4 rfl) rfl (by show 2 * 0 + _ ≤ _; exact Nat.le_of_eq rfl) (hb hby d_jdk_42_method_56_12) (fun _ _ => ⟨rfl, e102, (by decide : 0 + 0 ≤ _), (by decide : 0 + 0 ≤ _)⟩)
  dsimp only [Pt.U, Pt.locs, Pt.cells, Pt.slots] at X103 l103 y103 z103 st103 hQ103
  subst l103 y103 z103
  obtain ⟨rfl, N103q, eh103⟩ := hQ103
  have N103 := Fr.app N101 N103q
  refine Go.step (T' := T103) (g' := (mkF m 15 #[.val (.ref a1), .val (.int i)] [(.int cc)])) (st103) ?_
  exact Go.retN X103 hx (t := .char) hret hlk (by simp) (hb hby d_jdk_42_method_56_15) (⟨by rw [hcc], N103, eh103⟩) (by decide) (by decide)
theorem own_shl0 (n : Int32) : n <<< ((0 : Int32) &&& 31) = n := by
  have c := c_ishl n 0 0 rfl
  have r1 := rng32 n
  have r2 := rng32 (n <<< ((0 : Int32) &&& 31))
  refine Int32.toInt_inj.mp ?_
  simp only [Nat.pow_zero, Int.natCast_one, Int.mul_one] at c
  omega
theorem own_0add (n : Int32) : (0 : Int32) + n = n := Int32.zero_add n
theorem own_addN (a b : Nat) : Int32.ofNat a + Int32.ofNat b = Int32.ofNat (a + b) := (Int32.ofNat_add a b).symm
theorem own_subN {a b : Nat} (h : b ≤ a) (ha : a < 1000) : Int32.ofNat a - Int32.ofNat b = Int32.ofNat (a - b) := by
  refine own_ofI (by omega) ?_
  have c := c_isub (Int32.ofNat a) (Int32.ofNat b)
  have r := rng32 (Int32.ofNat a - Int32.ofNat b)
  rw [own_ofNat (by omega), own_ofNat (by omega)] at c
  omega
theorem own_inb {i n : Nat} (hn : n < 1000) (h : i < n) : ¬ Int32.ofNat i < 0 ∧ Int32.ofNat i < Int32.ofNat n := by
  rw [Int32.lt_iff_toInt_lt, Int32.lt_iff_toInt_lt, own_ofNat (by omega), own_ofNat (by omega), show (0 : Int32).toInt = 0 from rfl]
  omega
theorem own_ge0 {i : Nat} (h : i < 1000) : ¬ Int32.ofNat i < 0 := by
  rw [Int32.lt_iff_toInt_lt, own_ofNat (by omega), show (0 : Int32).toInt = 0 from rfl]; omega
theorem own_ssE {x : Int32} {i d : Nat} (h1 : own_nd (own_M x) = i) (h2 : own_sg x = d) : Int32.ofNat (i + d) = Int32.ofNat (own_nd (own_M x) + own_sg x) := by rw [h1, h2]

theorem own_nd1 {M : Nat} (lo : True) (hi : M < 10) : own_nd M = 1 := by
  simp only [own_nd]; repeat' split
  all_goals omega
theorem own_low1 {M : Nat} (lo : 1 ≤ M) : 1 ≤ own_nd M := by
  simp only [own_nd]; repeat' split
  all_goals omega
theorem own_nd2 {M : Nat} (lo : 10 ≤ M) (hi : M < 100) : own_nd M = 2 := by
  simp only [own_nd]; repeat' split
  all_goals omega
theorem own_low2 {M : Nat} (lo : 10 ≤ M) : 2 ≤ own_nd M := by
  simp only [own_nd]; repeat' split
  all_goals omega
theorem own_nd3 {M : Nat} (lo : 100 ≤ M) (hi : M < 1000) : own_nd M = 3 := by
  simp only [own_nd]; repeat' split
  all_goals omega
theorem own_low3 {M : Nat} (lo : 100 ≤ M) : 3 ≤ own_nd M := by
  simp only [own_nd]; repeat' split
  all_goals omega
theorem own_nd4 {M : Nat} (lo : 1000 ≤ M) (hi : M < 10000) : own_nd M = 4 := by
  simp only [own_nd]; repeat' split
  all_goals omega
theorem own_low4 {M : Nat} (lo : 1000 ≤ M) : 4 ≤ own_nd M := by
  simp only [own_nd]; repeat' split
  all_goals omega
theorem own_nd5 {M : Nat} (lo : 10000 ≤ M) (hi : M < 100000) : own_nd M = 5 := by
  simp only [own_nd]; repeat' split
  all_goals omega
theorem own_low5 {M : Nat} (lo : 10000 ≤ M) : 5 ≤ own_nd M := by
  simp only [own_nd]; repeat' split
  all_goals omega
theorem own_nd6 {M : Nat} (lo : 100000 ≤ M) (hi : M < 1000000) : own_nd M = 6 := by
  simp only [own_nd]; repeat' split
  all_goals omega
theorem own_low6 {M : Nat} (lo : 100000 ≤ M) : 6 ≤ own_nd M := by
  simp only [own_nd]; repeat' split
  all_goals omega
theorem own_nd7 {M : Nat} (lo : 1000000 ≤ M) (hi : M < 10000000) : own_nd M = 7 := by
  simp only [own_nd]; repeat' split
  all_goals omega
theorem own_low7 {M : Nat} (lo : 1000000 ≤ M) : 7 ≤ own_nd M := by
  simp only [own_nd]; repeat' split
  all_goals omega
theorem own_nd8 {M : Nat} (lo : 10000000 ≤ M) (hi : M < 100000000) : own_nd M = 8 := by
  simp only [own_nd]; repeat' split
  all_goals omega
theorem own_low8 {M : Nat} (lo : 10000000 ≤ M) : 8 ≤ own_nd M := by
  simp only [own_nd]; repeat' split
  all_goals omega
theorem own_nd9 {M : Nat} (lo : 100000000 ≤ M) (hi : M < 1000000000) : own_nd M = 9 := by
  simp only [own_nd]; repeat' split
  all_goals omega
theorem own_low9 {M : Nat} (lo : 100000000 ≤ M) : 9 ≤ own_nd M := by
  simp only [own_nd]; repeat' split
  all_goals omega
theorem own_nd10 {M : Nat} (lo : 1000000000 ≤ M) (hi : True) : own_nd M = 10 := by
  simp only [own_nd]; repeat' split
  all_goals omega
theorem own_low10 {M : Nat} (lo : 1000000000 ≤ M) : 10 ≤ own_nd M := by
  simp only [own_nd]; repeat' split
  all_goals omega
theorem own_ef_jdk_33_method_13_code_I (m : MethodId) (x0 : Int32) : entryFrame m #[(.int x0)] 4 = mkF m 0 #[.val (.int x0), .unset, .unset, .unset] [] := by first | (simp [entryFrame, mkF, argsToLocals, Value.category]; done) | rfl | (simp [entryFrame, mkF, argsToLocals, own_cI, own_cJ, own_cR, own_cN]; done)
theorem own_pn_Integer : plainName "java/lang/Integer" = true := by first | (simp [plainName, overriddenIn]; done) | decide +kernel
theorem d_jdk_33_method_13_0 : decode jdk_33_method_13_code 0 = .ok (.iconst 1, 1) := by decide +kernel
theorem d_jdk_33_method_13_1 : decode jdk_33_method_13_code 1 = .ok (.istore_n 1, 1) := by decide +kernel
theorem d_jdk_33_method_13_2 : decode jdk_33_method_13_code 2 = .ok (.iload_n 0, 1) := by decide +kernel
theorem d_jdk_33_method_13_3 : decode jdk_33_method_13_code 3 = .ok (.ifCond .lt 8, 3) := by decide +kernel
theorem d_jdk_33_method_13_11 : decode jdk_33_method_13_code 11 = .ok (.bipush (-10), 2) := by decide +kernel
theorem d_jdk_33_method_13_13 : decode jdk_33_method_13_code 13 = .ok (.istore_n 2, 1) := by decide +kernel
theorem d_jdk_33_method_13_14 : decode jdk_33_method_13_code 14 = .ok (.iconst 1, 1) := by decide +kernel
theorem d_jdk_33_method_13_15 : decode jdk_33_method_13_code 15 = .ok (.istore_n 3, 1) := by decide +kernel
theorem d_jdk_33_method_13_16 : decode jdk_33_method_13_code 16 = .ok (.iload_n 3, 1) := by decide +kernel
theorem d_jdk_33_method_13_17 : decode jdk_33_method_13_code 17 = .ok (.bipush 10, 2) := by decide +kernel
theorem d_jdk_33_method_13_19 : decode jdk_33_method_13_code 19 = .ok (.if_icmp .ge 23, 3) := by decide +kernel
theorem d_jdk_33_method_13_22 : decode jdk_33_method_13_code 22 = .ok (.iload_n 0, 1) := by decide +kernel
theorem d_jdk_33_method_13_23 : decode jdk_33_method_13_code 23 = .ok (.iload_n 2, 1) := by decide +kernel
theorem d_jdk_33_method_13_24 : decode jdk_33_method_13_code 24 = .ok (.if_icmp .le 7, 3) := by decide +kernel
theorem d_jdk_33_method_13_27 : decode jdk_33_method_13_code 27 = .ok (.iload_n 3, 1) := by decide +kernel
theorem d_jdk_33_method_13_28 : decode jdk_33_method_13_code 28 = .ok (.iload_n 1, 1) := by decide +kernel
theorem d_jdk_33_method_13_29 : decode jdk_33_method_13_code 29 = .ok (.iadd, 1) := by decide +kernel
theorem d_jdk_33_method_13_30 : decode jdk_33_method_13_code 30 = .ok (.ireturn, 1) := by decide +kernel
theorem d_jdk_33_method_13_31 : decode jdk_33_method_13_code 31 = .ok (.bipush 10, 2) := by decide +kernel
theorem d_jdk_33_method_13_33 : decode jdk_33_method_13_code 33 = .ok (.iload_n 2, 1) := by decide +kernel
theorem d_jdk_33_method_13_34 : decode jdk_33_method_13_code 34 = .ok (.imul, 1) := by decide +kernel
theorem d_jdk_33_method_13_35 : decode jdk_33_method_13_code 35 = .ok (.istore_n 2, 1) := by decide +kernel
theorem d_jdk_33_method_13_36 : decode jdk_33_method_13_code 36 = .ok (.iinc 3 1, 3) := by decide +kernel
theorem d_jdk_33_method_13_39 : decode jdk_33_method_13_code 39 = .ok (.goto (-23), 3) := by decide +kernel
theorem d_jdk_33_method_13_42 : decode jdk_33_method_13_code 42 = .ok (.bipush 10, 2) := by decide +kernel
theorem d_jdk_33_method_13_44 : decode jdk_33_method_13_code 44 = .ok (.iload_n 1, 1) := by decide +kernel
theorem d_jdk_33_method_13_45 : decode jdk_33_method_13_code 45 = .ok (.iadd, 1) := by decide +kernel
theorem d_jdk_33_method_13_46 : decode jdk_33_method_13_code 46 = .ok (.ireturn, 1) := by decide +kernel
theorem d_jdk_33_method_13_6 : decode jdk_33_method_13_code 6 = .ok (.iconst 0, 1) := by decide +kernel
theorem d_jdk_33_method_13_7 : decode jdk_33_method_13_code 7 = .ok (.istore_n 1, 1) := by decide +kernel
theorem d_jdk_33_method_13_8 : decode jdk_33_method_13_code 8 = .ok (.iload_n 0, 1) := by decide +kernel
theorem d_jdk_33_method_13_9 : decode jdk_33_method_13_code 9 = .ok (.ineg, 1) := by decide +kernel
theorem d_jdk_33_method_13_10 : decode jdk_33_method_13_code 10 = .ok (.istore_n 0, 1) := by decide +kernel
set_option maxRecDepth 65536 in
set_option maxHeartbeats 40000000 in
theorem own_ssz (l : Launch) (Z : State) (a0 : Array Value) (hw : ∀ d ∈ tables_1, d.before a0 Z = true) (ws : List Jvm.Cond) (x0 : Int32) (h0 : Heap) (n0 : Nat) (Z0 : n0 ≤ h0.size)  :
    Con l Z (⟨"java/lang/Integer", "stringSize", "(I)I"⟩ : MethodName) jdk_33_method_13_code 4 (some .int) ({ frames := 0, cells := 0, slots := 0, locals := 0 } : Room) ws #[(.int x0)] h0 (Qret (some (.int (Int32.ofNat (own_nd (own_M x0) + own_sg x0)))) h0 n0) 0 0 := by
  refine Con.of (plainFor_of_name own_pn_Integer) ?_
  intro pgm e s m below meth c s₁ X0 hx hZ hby hml hown hnm hret hlk e0 hs0
  have N0 := Fr.nil n0
  have hown : s.vm.findClass "java/lang/Integer" = some m.cls := hown
  have hnm : meth.name = "stringSize" := hnm
  refine Go.cast (own_ef_jdk_33_method_13_code_I m x0) ?_
  refine Go.step (T' := s₁) (g' := (mkF m 1 #[.val (.int x0), .unset, .unset, .unset] [(.int (1 : Int32))])) (fun _ k => XS.iconst X0.here hx rfl (hb hby d_jdk_33_method_13_0) k) ?_
  refine Go.step (T' := s₁) (g' := (mkF m 2 #[.val (.int x0), .val (.int (1 : Int32)), .unset, .unset] [])) (fun _ k => XS.istoreN X0.here hx rfl (hb hby d_jdk_33_method_13_1) rfl (l' := #[.val (.int x0), .val (.int (1 : Int32)), .unset, .unset]) rfl k) ?_
  refine Go.step (T' := s₁) (g' := (mkF m 3 #[.val (.int x0), .val (.int (1 : Int32)), .unset, .unset] [(.int x0)])) (fun _ k => XS.iloadN X0.here hx rfl (hb hby d_jdk_33_method_13_2) rfl  k) ?_
  by_cases hc101 : x0 < (0 : Int32)
  · skip
    refine Go.step (T' := s₁) (g' := (mkF m 11 #[.val (.int x0), .val (.int (1 : Int32)), .unset, .unset] [])) (fun _ k => XS.ifYes X0.here hx rfl (pc0 := 3) (pc' := 11) rfl (hb hby d_jdk_33_method_13_3) rfl ((if0 _ _).trans (tlt hc101).1) (by decide) (by decide) k) ?_
    refine Go.step (T' := s₁) (g' := (mkF m 13 #[.val (.int x0), .val (.int (1 : Int32)), .unset, .unset] [(.int (-10 : Int32))])) (fun _ k => XS.bipush X0.here hx rfl (hb hby d_jdk_33_method_13_11) k) ?_
    refine Go.step (T' := s₁) (g' := (mkF m 14 #[.val (.int x0), .val (.int (1 : Int32)), .val (.int (-10 : Int32)), .unset] [])) (fun _ k => XS.istoreN X0.here hx rfl (hb hby d_jdk_33_method_13_13) rfl (l' := #[.val (.int x0), .val (.int (1 : Int32)), .val (.int (-10 : Int32)), .unset]) rfl k) ?_
    refine Go.step (T' := s₁) (g' := (mkF m 15 #[.val (.int x0), .val (.int (1 : Int32)), .val (.int (-10 : Int32)), .unset] [(.int (1 : Int32))])) (fun _ k => XS.iconst X0.here hx rfl (hb hby d_jdk_33_method_13_14) k) ?_
    refine Go.step (T' := s₁) (g' := (mkF m 16 #[.val (.int x0), .val (.int (1 : Int32)), .val (.int (-10 : Int32)), .val (.int (1 : Int32))] [])) (fun _ k => XS.istoreN X0.here hx rfl (hb hby d_jdk_33_method_13_15) rfl (l' := #[.val (.int x0), .val (.int (1 : Int32)), .val (.int (-10 : Int32)), .val (.int (1 : Int32))]) rfl k) ?_
    refine Go.step (T' := s₁) (g' := (mkF m 17 #[.val (.int x0), .val (.int (1 : Int32)), .val (.int (-10 : Int32)), .val (.int (1 : Int32))] [(.int (1 : Int32))])) (fun _ k => XS.iloadN X0.here hx rfl (hb hby d_jdk_33_method_13_16) rfl  k) ?_
    refine Go.step (T' := s₁) (g' := (mkF m 19 #[.val (.int x0), .val (.int (1 : Int32)), .val (.int (-10 : Int32)), .val (.int (1 : Int32))] [(.int (10 : Int32)), (.int (1 : Int32))])) (fun _ k => XS.bipush X0.here hx rfl (hb hby d_jdk_33_method_13_17) k) ?_
    refine Go.step (T' := s₁) (g' := (mkF m 22 #[.val (.int x0), .val (.int (1 : Int32)), .val (.int (-10 : Int32)), .val (.int (1 : Int32))] [])) (fun _ k => XS.icmpNo X0.here hx rfl (hb hby d_jdk_33_method_13_19) rfl (tlt (by decide : (1 : Int32) < (10 : Int32))).2.1 k) ?_
    refine Go.step (T' := s₁) (g' := (mkF m 23 #[.val (.int x0), .val (.int (1 : Int32)), .val (.int (-10 : Int32)), .val (.int (1 : Int32))] [(.int x0)])) (fun _ k => XS.iloadN X0.here hx rfl (hb hby d_jdk_33_method_13_22) rfl  k) ?_
    refine Go.step (T' := s₁) (g' := (mkF m 24 #[.val (.int x0), .val (.int (1 : Int32)), .val (.int (-10 : Int32)), .val (.int (1 : Int32))] [(.int (-10 : Int32)), (.int x0)])) (fun _ k => XS.iloadN X0.here hx rfl (hb hby d_jdk_33_method_13_23) rfl  k) ?_
    by_cases hc102 : (-10 : Int32) < x0
    · skip
      refine Go.step (T' := s₁) (g' := (mkF m 27 #[.val (.int x0), .val (.int (1 : Int32)), .val (.int (-10 : Int32)), .val (.int (1 : Int32))] [])) (fun _ k => XS.icmpNo X0.here hx rfl (hb hby d_jdk_33_method_13_24) rfl (tlt hc102).2.2.2 k) ?_
      refine Go.step (T' := s₁) (g' := (mkF m 28 #[.val (.int x0), .val (.int (1 : Int32)), .val (.int (-10 : Int32)), .val (.int (1 : Int32))] [(.int (1 : Int32))])) (fun _ k => XS.iloadN X0.here hx rfl (hb hby d_jdk_33_method_13_27) rfl  k) ?_
      refine Go.step (T' := s₁) (g' := (mkF m 29 #[.val (.int x0), .val (.int (1 : Int32)), .val (.int (-10 : Int32)), .val (.int (1 : Int32))] [(.int (1 : Int32)), (.int (1 : Int32))])) (fun _ k => XS.iloadN X0.here hx rfl (hb hby d_jdk_33_method_13_28) rfl  k) ?_
      refine Go.step (T' := s₁) (g' := (mkF m 30 #[.val (.int x0), .val (.int (1 : Int32)), .val (.int (-10 : Int32)), .val (.int (1 : Int32))] [(.int (2 : Int32))])) (fun _ k => XS.iadd X0.here hx rfl (hb hby d_jdk_33_method_13_29) rfl k) ?_
      exact Go.retI X0 hx hret hlk (hb hby d_jdk_33_method_13_30) (⟨congrArg (fun z => some (Value.int z)) (own_ssE (own_nd1 trivial (by have q : -10 < x0.toInt := own_ltZ hc102 rfl; have r := (own_Mneg hc101); omega)) (own_sgT hc101)), N0, e0⟩) (by decide) (by decide)
    · skip
      refine Go.step (T' := s₁) (g' := (mkF m 31 #[.val (.int x0), .val (.int (1 : Int32)), .val (.int (-10 : Int32)), .val (.int (1 : Int32))] [])) (fun _ k => XS.icmpYes X0.here hx rfl (pc0 := 24) (pc' := 31) rfl (hb hby d_jdk_33_method_13_24) rfl (flt hc102).2.2.2 (by decide) (by decide) k) ?_
      refine Go.step (T' := s₁) (g' := (mkF m 33 #[.val (.int x0), .val (.int (1 : Int32)), .val (.int (-10 : Int32)), .val (.int (1 : Int32))] [(.int (10 : Int32))])) (fun _ k => XS.bipush X0.here hx rfl (hb hby d_jdk_33_method_13_31) k) ?_
      refine Go.step (T' := s₁) (g' := (mkF m 34 #[.val (.int x0), .val (.int (1 : Int32)), .val (.int (-10 : Int32)), .val (.int (1 : Int32))] [(.int (-10 : Int32)), (.int (10 : Int32))])) (fun _ k => XS.iloadN X0.here hx rfl (hb hby d_jdk_33_method_13_33) rfl  k) ?_
      refine Go.step (T' := s₁) (g' := (mkF m 35 #[.val (.int x0), .val (.int (1 : Int32)), .val (.int (-10 : Int32)), .val (.int (1 : Int32))] [(.int ((10 : Int32) * (-10 : Int32)))])) (fun _ k => XS.imul X0.here hx rfl (hb hby d_jdk_33_method_13_34) rfl k) ?_
      rw [show ((10 : Int32) * (-10 : Int32)) = (-100 : Int32) from by decide]
      refine Go.step (T' := s₁) (g' := (mkF m 36 #[.val (.int x0), .val (.int (1 : Int32)), .val (.int (-100 : Int32)), .val (.int (1 : Int32))] [])) (fun _ k => XS.istoreN X0.here hx rfl (hb hby d_jdk_33_method_13_35) rfl (l' := #[.val (.int x0), .val (.int (1 : Int32)), .val (.int (-100 : Int32)), .val (.int (1 : Int32))]) rfl k) ?_
      refine Go.step (T' := s₁) (g' := (mkF m 39 #[.val (.int x0), .val (.int (1 : Int32)), .val (.int (-100 : Int32)), .val (.int (2 : Int32))] [])) (fun _ k => XS.iinc X0.here hx rfl (hb hby d_jdk_33_method_13_36) rfl (l' := #[.val (.int x0), .val (.int (1 : Int32)), .val (.int (-100 : Int32)), .val (.int (2 : Int32))]) rfl k) ?_
      refine Go.step (T' := s₁) (g' := (mkF m 16 #[.val (.int x0), .val (.int (1 : Int32)), .val (.int (-100 : Int32)), .val (.int (2 : Int32))] [])) (fun _ k => XS.goto X0.here hx rfl (pc0 := 39) (pc' := 16) rfl (hb hby d_jdk_33_method_13_39) (by decide) (by decide) k) ?_
      refine Go.step (T' := s₁) (g' := (mkF m 17 #[.val (.int x0), .val (.int (1 : Int32)), .val (.int (-100 : Int32)), .val (.int (2 : Int32))] [(.int (2 : Int32))])) (fun _ k => XS.iloadN X0.here hx rfl (hb hby d_jdk_33_method_13_16) rfl  k) ?_
      refine Go.step (T' := s₁) (g' := (mkF m 19 #[.val (.int x0), .val (.int (1 : Int32)), .val (.int (-100 : Int32)), .val (.int (2 : Int32))] [(.int (10 : Int32)), (.int (2 : Int32))])) (fun _ k => XS.bipush X0.here hx rfl (hb hby d_jdk_33_method_13_17) k) ?_
      refine Go.step (T' := s₁) (g' := (mkF m 22 #[.val (.int x0), .val (.int (1 : Int32)), .val (.int (-100 : Int32)), .val (.int (2 : Int32))] [])) (fun _ k => XS.icmpNo X0.here hx rfl (hb hby d_jdk_33_method_13_19) rfl (tlt (by decide : (2 : Int32) < (10 : Int32))).2.1 k) ?_
      refine Go.step (T' := s₁) (g' := (mkF m 23 #[.val (.int x0), .val (.int (1 : Int32)), .val (.int (-100 : Int32)), .val (.int (2 : Int32))] [(.int x0)])) (fun _ k => XS.iloadN X0.here hx rfl (hb hby d_jdk_33_method_13_22) rfl  k) ?_
      refine Go.step (T' := s₁) (g' := (mkF m 24 #[.val (.int x0), .val (.int (1 : Int32)), .val (.int (-100 : Int32)), .val (.int (2 : Int32))] [(.int (-100 : Int32)), (.int x0)])) (fun _ k => XS.iloadN X0.here hx rfl (hb hby d_jdk_33_method_13_23) rfl  k) ?_
      by_cases hc103 : (-100 : Int32) < x0
      · skip
        refine Go.step (T' := s₁) (g' := (mkF m 27 #[.val (.int x0), .val (.int (1 : Int32)), .val (.int (-100 : Int32)), .val (.int (2 : Int32))] [])) (fun _ k => XS.icmpNo X0.here hx rfl (hb hby d_jdk_33_method_13_24) rfl (tlt hc103).2.2.2 k) ?_
        refine Go.step (T' := s₁) (g' := (mkF m 28 #[.val (.int x0), .val (.int (1 : Int32)), .val (.int (-100 : Int32)), .val (.int (2 : Int32))] [(.int (2 : Int32))])) (fun _ k => XS.iloadN X0.here hx rfl (hb hby d_jdk_33_method_13_27) rfl  k) ?_
        refine Go.step (T' := s₁) (g' := (mkF m 29 #[.val (.int x0), .val (.int (1 : Int32)), .val (.int (-100 : Int32)), .val (.int (2 : Int32))] [(.int (1 : Int32)), (.int (2 : Int32))])) (fun _ k => XS.iloadN X0.here hx rfl (hb hby d_jdk_33_method_13_28) rfl  k) ?_
        refine Go.step (T' := s₁) (g' := (mkF m 30 #[.val (.int x0), .val (.int (1 : Int32)), .val (.int (-100 : Int32)), .val (.int (2 : Int32))] [(.int (3 : Int32))])) (fun _ k => XS.iadd X0.here hx rfl (hb hby d_jdk_33_method_13_29) rfl k) ?_
        exact Go.retI X0 hx hret hlk (hb hby d_jdk_33_method_13_30) (⟨congrArg (fun z => some (Value.int z)) (own_ssE (own_nd2 (by have q : x0.toInt ≤ -10 := own_geZ hc102 rfl; have r := (own_Mneg hc101); omega) (by have q : -100 < x0.toInt := own_ltZ hc103 rfl; have r := (own_Mneg hc101); omega)) (own_sgT hc101)), N0, e0⟩) (by decide) (by decide)
      · skip
        refine Go.step (T' := s₁) (g' := (mkF m 31 #[.val (.int x0), .val (.int (1 : Int32)), .val (.int (-100 : Int32)), .val (.int (2 : Int32))] [])) (fun _ k => XS.icmpYes X0.here hx rfl (pc0 := 24) (pc' := 31) rfl (hb hby d_jdk_33_method_13_24) rfl (flt hc103).2.2.2 (by decide) (by decide) k) ?_
        refine Go.step (T' := s₁) (g' := (mkF m 33 #[.val (.int x0), .val (.int (1 : Int32)), .val (.int (-100 : Int32)), .val (.int (2 : Int32))] [(.int (10 : Int32))])) (fun _ k => XS.bipush X0.here hx rfl (hb hby d_jdk_33_method_13_31) k) ?_
        refine Go.step (T' := s₁) (g' := (mkF m 34 #[.val (.int x0), .val (.int (1 : Int32)), .val (.int (-100 : Int32)), .val (.int (2 : Int32))] [(.int (-100 : Int32)), (.int (10 : Int32))])) (fun _ k => XS.iloadN X0.here hx rfl (hb hby d_jdk_33_method_13_33) rfl  k) ?_
        refine Go.step (T' := s₁) (g' := (mkF m 35 #[.val (.int x0), .val (.int (1 : Int32)), .val (.int (-100 : Int32)), .val (.int (2 : Int32))] [(.int ((10 : Int32) * (-100 : Int32)))])) (fun _ k => XS.imul X0.here hx rfl (hb hby d_jdk_33_method_13_34) rfl k) ?_
        rw [show ((10 : Int32) * (-100 : Int32)) = (-1000 : Int32) from by decide]
        refine Go.step (T' := s₁) (g' := (mkF m 36 #[.val (.int x0), .val (.int (1 : Int32)), .val (.int (-1000 : Int32)), .val (.int (2 : Int32))] [])) (fun _ k => XS.istoreN X0.here hx rfl (hb hby d_jdk_33_method_13_35) rfl (l' := #[.val (.int x0), .val (.int (1 : Int32)), .val (.int (-1000 : Int32)), .val (.int (2 : Int32))]) rfl k) ?_
        refine Go.step (T' := s₁) (g' := (mkF m 39 #[.val (.int x0), .val (.int (1 : Int32)), .val (.int (-1000 : Int32)), .val (.int (3 : Int32))] [])) (fun _ k => XS.iinc X0.here hx rfl (hb hby d_jdk_33_method_13_36) rfl (l' := #[.val (.int x0), .val (.int (1 : Int32)), .val (.int (-1000 : Int32)), .val (.int (3 : Int32))]) rfl k) ?_
        refine Go.step (T' := s₁) (g' := (mkF m 16 #[.val (.int x0), .val (.int (1 : Int32)), .val (.int (-1000 : Int32)), .val (.int (3 : Int32))] [])) (fun _ k => XS.goto X0.here hx rfl (pc0 := 39) (pc' := 16) rfl (hb hby d_jdk_33_method_13_39) (by decide) (by decide) k) ?_
        refine Go.step (T' := s₁) (g' := (mkF m 17 #[.val (.int x0), .val (.int (1 : Int32)), .val (.int (-1000 : Int32)), .val (.int (3 : Int32))] [(.int (3 : Int32))])) (fun _ k => XS.iloadN X0.here hx rfl (hb hby d_jdk_33_method_13_16) rfl  k) ?_
        refine Go.step (T' := s₁) (g' := (mkF m 19 #[.val (.int x0), .val (.int (1 : Int32)), .val (.int (-1000 : Int32)), .val (.int (3 : Int32))] [(.int (10 : Int32)), (.int (3 : Int32))])) (fun _ k => XS.bipush X0.here hx rfl (hb hby d_jdk_33_method_13_17) k) ?_
        refine Go.step (T' := s₁) (g' := (mkF m 22 #[.val (.int x0), .val (.int (1 : Int32)), .val (.int (-1000 : Int32)), .val (.int (3 : Int32))] [])) (fun _ k => XS.icmpNo X0.here hx rfl (hb hby d_jdk_33_method_13_19) rfl (tlt (by decide : (3 : Int32) < (10 : Int32))).2.1 k) ?_
        refine Go.step (T' := s₁) (g' := (mkF m 23 #[.val (.int x0), .val (.int (1 : Int32)), .val (.int (-1000 : Int32)), .val (.int (3 : Int32))] [(.int x0)])) (fun _ k => XS.iloadN X0.here hx rfl (hb hby d_jdk_33_method_13_22) rfl  k) ?_
        refine Go.step (T' := s₁) (g' := (mkF m 24 #[.val (.int x0), .val (.int (1 : Int32)), .val (.int (-1000 : Int32)), .val (.int (3 : Int32))] [(.int (-1000 : Int32)), (.int x0)])) (fun _ k => XS.iloadN X0.here hx rfl (hb hby d_jdk_33_method_13_23) rfl  k) ?_
        by_cases hc104 : (-1000 : Int32) < x0
        · skip
          refine Go.step (T' := s₁) (g' := (mkF m 27 #[.val (.int x0), .val (.int (1 : Int32)), .val (.int (-1000 : Int32)), .val (.int (3 : Int32))] [])) (fun _ k => XS.icmpNo X0.here hx rfl (hb hby d_jdk_33_method_13_24) rfl (tlt hc104).2.2.2 k) ?_
          refine Go.step (T' := s₁) (g' := (mkF m 28 #[.val (.int x0), .val (.int (1 : Int32)), .val (.int (-1000 : Int32)), .val (.int (3 : Int32))] [(.int (3 : Int32))])) (fun _ k => XS.iloadN X0.here hx rfl (hb hby d_jdk_33_method_13_27) rfl  k) ?_
          refine Go.step (T' := s₁) (g' := (mkF m 29 #[.val (.int x0), .val (.int (1 : Int32)), .val (.int (-1000 : Int32)), .val (.int (3 : Int32))] [(.int (1 : Int32)), (.int (3 : Int32))])) (fun _ k => XS.iloadN X0.here hx rfl (hb hby d_jdk_33_method_13_28) rfl  k) ?_
          refine Go.step (T' := s₁) (g' := (mkF m 30 #[.val (.int x0), .val (.int (1 : Int32)), .val (.int (-1000 : Int32)), .val (.int (3 : Int32))] [(.int (4 : Int32))])) (fun _ k => XS.iadd X0.here hx rfl (hb hby d_jdk_33_method_13_29) rfl k) ?_
          exact Go.retI X0 hx hret hlk (hb hby d_jdk_33_method_13_30) (⟨congrArg (fun z => some (Value.int z)) (own_ssE (own_nd3 (by have q : x0.toInt ≤ -100 := own_geZ hc103 rfl; have r := (own_Mneg hc101); omega) (by have q : -1000 < x0.toInt := own_ltZ hc104 rfl; have r := (own_Mneg hc101); omega)) (own_sgT hc101)), N0, e0⟩) (by decide) (by decide)
        · skip
          refine Go.step (T' := s₁) (g' := (mkF m 31 #[.val (.int x0), .val (.int (1 : Int32)), .val (.int (-1000 : Int32)), .val (.int (3 : Int32))] [])) (fun _ k => XS.icmpYes X0.here hx rfl (pc0 := 24) (pc' := 31) rfl (hb hby d_jdk_33_method_13_24) rfl (flt hc104).2.2.2 (by decide) (by decide) k) ?_
          refine Go.step (T' := s₁) (g' := (mkF m 33 #[.val (.int x0), .val (.int (1 : Int32)), .val (.int (-1000 : Int32)), .val (.int (3 : Int32))] [(.int (10 : Int32))])) (fun _ k => XS.bipush X0.here hx rfl (hb hby d_jdk_33_method_13_31) k) ?_
          refine Go.step (T' := s₁) (g' := (mkF m 34 #[.val (.int x0), .val (.int (1 : Int32)), .val (.int (-1000 : Int32)), .val (.int (3 : Int32))] [(.int (-1000 : Int32)), (.int (10 : Int32))])) (fun _ k => XS.iloadN X0.here hx rfl (hb hby d_jdk_33_method_13_33) rfl  k) ?_
          refine Go.step (T' := s₁) (g' := (mkF m 35 #[.val (.int x0), .val (.int (1 : Int32)), .val (.int (-1000 : Int32)), .val (.int (3 : Int32))] [(.int ((10 : Int32) * (-1000 : Int32)))])) (fun _ k => XS.imul X0.here hx rfl (hb hby d_jdk_33_method_13_34) rfl k) ?_
          rw [show ((10 : Int32) * (-1000 : Int32)) = (-10000 : Int32) from by decide]
          refine Go.step (T' := s₁) (g' := (mkF m 36 #[.val (.int x0), .val (.int (1 : Int32)), .val (.int (-10000 : Int32)), .val (.int (3 : Int32))] [])) (fun _ k => XS.istoreN X0.here hx rfl (hb hby d_jdk_33_method_13_35) rfl (l' := #[.val (.int x0), .val (.int (1 : Int32)), .val (.int (-10000 : Int32)), .val (.int (3 : Int32))]) rfl k) ?_
          refine Go.step (T' := s₁) (g' := (mkF m 39 #[.val (.int x0), .val (.int (1 : Int32)), .val (.int (-10000 : Int32)), .val (.int (4 : Int32))] [])) (fun _ k => XS.iinc X0.here hx rfl (hb hby d_jdk_33_method_13_36) rfl (l' := #[.val (.int x0), .val (.int (1 : Int32)), .val (.int (-10000 : Int32)), .val (.int (4 : Int32))]) rfl k) ?_
          refine Go.step (T' := s₁) (g' := (mkF m 16 #[.val (.int x0), .val (.int (1 : Int32)), .val (.int (-10000 : Int32)), .val (.int (4 : Int32))] [])) (fun _ k => XS.goto X0.here hx rfl (pc0 := 39) (pc' := 16) rfl (hb hby d_jdk_33_method_13_39) (by decide) (by decide) k) ?_
          refine Go.step (T' := s₁) (g' := (mkF m 17 #[.val (.int x0), .val (.int (1 : Int32)), .val (.int (-10000 : Int32)), .val (.int (4 : Int32))] [(.int (4 : Int32))])) (fun _ k => XS.iloadN X0.here hx rfl (hb hby d_jdk_33_method_13_16) rfl  k) ?_
          refine Go.step (T' := s₁) (g' := (mkF m 19 #[.val (.int x0), .val (.int (1 : Int32)), .val (.int (-10000 : Int32)), .val (.int (4 : Int32))] [(.int (10 : Int32)), (.int (4 : Int32))])) (fun _ k => XS.bipush X0.here hx rfl (hb hby d_jdk_33_method_13_17) k) ?_
          refine Go.step (T' := s₁) (g' := (mkF m 22 #[.val (.int x0), .val (.int (1 : Int32)), .val (.int (-10000 : Int32)), .val (.int (4 : Int32))] [])) (fun _ k => XS.icmpNo X0.here hx rfl (hb hby d_jdk_33_method_13_19) rfl (tlt (by decide : (4 : Int32) < (10 : Int32))).2.1 k) ?_
          refine Go.step (T' := s₁) (g' := (mkF m 23 #[.val (.int x0), .val (.int (1 : Int32)), .val (.int (-10000 : Int32)), .val (.int (4 : Int32))] [(.int x0)])) (fun _ k => XS.iloadN X0.here hx rfl (hb hby d_jdk_33_method_13_22) rfl  k) ?_
          refine Go.step (T' := s₁) (g' := (mkF m 24 #[.val (.int x0), .val (.int (1 : Int32)), .val (.int (-10000 : Int32)), .val (.int (4 : Int32))] [(.int (-10000 : Int32)), (.int x0)])) (fun _ k => XS.iloadN X0.here hx rfl (hb hby d_jdk_33_method_13_23) rfl  k) ?_
          by_cases hc105 : (-10000 : Int32) < x0
          · skip
            refine Go.step (T' := s₁) (g' := (mkF m 27 #[.val (.int x0), .val (.int (1 : Int32)), .val (.int (-10000 : Int32)), .val (.int (4 : Int32))] [])) (fun _ k => XS.icmpNo X0.here hx rfl (hb hby d_jdk_33_method_13_24) rfl (tlt hc105).2.2.2 k) ?_
            refine Go.step (T' := s₁) (g' := (mkF m 28 #[.val (.int x0), .val (.int (1 : Int32)), .val (.int (-10000 : Int32)), .val (.int (4 : Int32))] [(.int (4 : Int32))])) (fun _ k => XS.iloadN X0.here hx rfl (hb hby d_jdk_33_method_13_27) rfl  k) ?_
            refine Go.step (T' := s₁) (g' := (mkF m 29 #[.val (.int x0), .val (.int (1 : Int32)), .val (.int (-10000 : Int32)), .val (.int (4 : Int32))] [(.int (1 : Int32)), (.int (4 : Int32))])) (fun _ k => XS.iloadN X0.here hx rfl (hb hby d_jdk_33_method_13_28) rfl  k) ?_
            refine Go.step (T' := s₁) (g' := (mkF m 30 #[.val (.int x0), .val (.int (1 : Int32)), .val (.int (-10000 : Int32)), .val (.int (4 : Int32))] [(.int (5 : Int32))])) (fun _ k => XS.iadd X0.here hx rfl (hb hby d_jdk_33_method_13_29) rfl k) ?_
            exact Go.retI X0 hx hret hlk (hb hby d_jdk_33_method_13_30) (⟨congrArg (fun z => some (Value.int z)) (own_ssE (own_nd4 (by have q : x0.toInt ≤ -1000 := own_geZ hc104 rfl; have r := (own_Mneg hc101); omega) (by have q : -10000 < x0.toInt := own_ltZ hc105 rfl; have r := (own_Mneg hc101); omega)) (own_sgT hc101)), N0, e0⟩) (by decide) (by decide)
          · skip
            refine Go.step (T' := s₁) (g' := (mkF m 31 #[.val (.int x0), .val (.int (1 : Int32)), .val (.int (-10000 : Int32)), .val (.int (4 : Int32))] [])) (fun _ k => XS.icmpYes X0.here hx rfl (pc0 := 24) (pc' := 31) rfl (hb hby d_jdk_33_method_13_24) rfl (flt hc105).2.2.2 (by decide) (by decide) k) ?_
            refine Go.step (T' := s₁) (g' := (mkF m 33 #[.val (.int x0), .val (.int (1 : Int32)), .val (.int (-10000 : Int32)), .val (.int (4 : Int32))] [(.int (10 : Int32))])) (fun _ k => XS.bipush X0.here hx rfl (hb hby d_jdk_33_method_13_31) k) ?_
            refine Go.step (T' := s₁) (g' := (mkF m 34 #[.val (.int x0), .val (.int (1 : Int32)), .val (.int (-10000 : Int32)), .val (.int (4 : Int32))] [(.int (-10000 : Int32)), (.int (10 : Int32))])) (fun _ k => XS.iloadN X0.here hx rfl (hb hby d_jdk_33_method_13_33) rfl  k) ?_
            refine Go.step (T' := s₁) (g' := (mkF m 35 #[.val (.int x0), .val (.int (1 : Int32)), .val (.int (-10000 : Int32)), .val (.int (4 : Int32))] [(.int ((10 : Int32) * (-10000 : Int32)))])) (fun _ k => XS.imul X0.here hx rfl (hb hby d_jdk_33_method_13_34) rfl k) ?_
            rw [show ((10 : Int32) * (-10000 : Int32)) = (-100000 : Int32) from by decide]
            refine Go.step (T' := s₁) (g' := (mkF m 36 #[.val (.int x0), .val (.int (1 : Int32)), .val (.int (-100000 : Int32)), .val (.int (4 : Int32))] [])) (fun _ k => XS.istoreN X0.here hx rfl (hb hby d_jdk_33_method_13_35) rfl (l' := #[.val (.int x0), .val (.int (1 : Int32)), .val (.int (-100000 : Int32)), .val (.int (4 : Int32))]) rfl k) ?_
            refine Go.step (T' := s₁) (g' := (mkF m 39 #[.val (.int x0), .val (.int (1 : Int32)), .val (.int (-100000 : Int32)), .val (.int (5 : Int32))] [])) (fun _ k => XS.iinc X0.here hx rfl (hb hby d_jdk_33_method_13_36) rfl (l' := #[.val (.int x0), .val (.int (1 : Int32)), .val (.int (-100000 : Int32)), .val (.int (5 : Int32))]) rfl k) ?_
            refine Go.step (T' := s₁) (g' := (mkF m 16 #[.val (.int x0), .val (.int (1 : Int32)), .val (.int (-100000 : Int32)), .val (.int (5 : Int32))] [])) (fun _ k => XS.goto X0.here hx rfl (pc0 := 39) (pc' := 16) rfl (hb hby d_jdk_33_method_13_39) (by decide) (by decide) k) ?_
            refine Go.step (T' := s₁) (g' := (mkF m 17 #[.val (.int x0), .val (.int (1 : Int32)), .val (.int (-100000 : Int32)), .val (.int (5 : Int32))] [(.int (5 : Int32))])) (fun _ k => XS.iloadN X0.here hx rfl (hb hby d_jdk_33_method_13_16) rfl  k) ?_
            refine Go.step (T' := s₁) (g' := (mkF m 19 #[.val (.int x0), .val (.int (1 : Int32)), .val (.int (-100000 : Int32)), .val (.int (5 : Int32))] [(.int (10 : Int32)), (.int (5 : Int32))])) (fun _ k => XS.bipush X0.here hx rfl (hb hby d_jdk_33_method_13_17) k) ?_
            refine Go.step (T' := s₁) (g' := (mkF m 22 #[.val (.int x0), .val (.int (1 : Int32)), .val (.int (-100000 : Int32)), .val (.int (5 : Int32))] [])) (fun _ k => XS.icmpNo X0.here hx rfl (hb hby d_jdk_33_method_13_19) rfl (tlt (by decide : (5 : Int32) < (10 : Int32))).2.1 k) ?_
            refine Go.step (T' := s₁) (g' := (mkF m 23 #[.val (.int x0), .val (.int (1 : Int32)), .val (.int (-100000 : Int32)), .val (.int (5 : Int32))] [(.int x0)])) (fun _ k => XS.iloadN X0.here hx rfl (hb hby d_jdk_33_method_13_22) rfl  k) ?_
            refine Go.step (T' := s₁) (g' := (mkF m 24 #[.val (.int x0), .val (.int (1 : Int32)), .val (.int (-100000 : Int32)), .val (.int (5 : Int32))] [(.int (-100000 : Int32)), (.int x0)])) (fun _ k => XS.iloadN X0.here hx rfl (hb hby d_jdk_33_method_13_23) rfl  k) ?_
            by_cases hc106 : (-100000 : Int32) < x0
            · skip
              refine Go.step (T' := s₁) (g' := (mkF m 27 #[.val (.int x0), .val (.int (1 : Int32)), .val (.int (-100000 : Int32)), .val (.int (5 : Int32))] [])) (fun _ k => XS.icmpNo X0.here hx rfl (hb hby d_jdk_33_method_13_24) rfl (tlt hc106).2.2.2 k) ?_
              refine Go.step (T' := s₁) (g' := (mkF m 28 #[.val (.int x0), .val (.int (1 : Int32)), .val (.int (-100000 : Int32)), .val (.int (5 : Int32))] [(.int (5 : Int32))])) (fun _ k => XS.iloadN X0.here hx rfl (hb hby d_jdk_33_method_13_27) rfl  k) ?_
              refine Go.step (T' := s₁) (g' := (mkF m 29 #[.val (.int x0), .val (.int (1 : Int32)), .val (.int (-100000 : Int32)), .val (.int (5 : Int32))] [(.int (1 : Int32)), (.int (5 : Int32))])) (fun _ k => XS.iloadN X0.here hx rfl (hb hby d_jdk_33_method_13_28) rfl  k) ?_
              refine Go.step (T' := s₁) (g' := (mkF m 30 #[.val (.int x0), .val (.int (1 : Int32)), .val (.int (-100000 : Int32)), .val (.int (5 : Int32))] [(.int (6 : Int32))])) (fun _ k => XS.iadd X0.here hx rfl (hb hby d_jdk_33_method_13_29) rfl k) ?_
              exact Go.retI X0 hx hret hlk (hb hby d_jdk_33_method_13_30) (⟨congrArg (fun z => some (Value.int z)) (own_ssE (own_nd5 (by have q : x0.toInt ≤ -10000 := own_geZ hc105 rfl; have r := (own_Mneg hc101); omega) (by have q : -100000 < x0.toInt := own_ltZ hc106 rfl; have r := (own_Mneg hc101); omega)) (own_sgT hc101)), N0, e0⟩) (by decide) (by decide)
            · skip
              refine Go.step (T' := s₁) (g' := (mkF m 31 #[.val (.int x0), .val (.int (1 : Int32)), .val (.int (-100000 : Int32)), .val (.int (5 : Int32))] [])) (fun _ k => XS.icmpYes X0.here hx rfl (pc0 := 24) (pc' := 31) rfl (hb hby d_jdk_33_method_13_24) rfl (flt hc106).2.2.2 (by decide) (by decide) k) ?_
              refine Go.step (T' := s₁) (g' := (mkF m 33 #[.val (.int x0), .val (.int (1 : Int32)), .val (.int (-100000 : Int32)), .val (.int (5 : Int32))] [(.int (10 : Int32))])) (fun _ k => XS.bipush X0.here hx rfl (hb hby d_jdk_33_method_13_31) k) ?_
              refine Go.step (T' := s₁) (g' := (mkF m 34 #[.val (.int x0), .val (.int (1 : Int32)), .val (.int (-100000 : Int32)), .val (.int (5 : Int32))] [(.int (-100000 : Int32)), (.int (10 : Int32))])) (fun _ k => XS.iloadN X0.here hx rfl (hb hby d_jdk_33_method_13_33) rfl  k) ?_
              refine Go.step (T' := s₁) (g' := (mkF m 35 #[.val (.int x0), .val (.int (1 : Int32)), .val (.int (-100000 : Int32)), .val (.int (5 : Int32))] [(.int ((10 : Int32) * (-100000 : Int32)))])) (fun _ k => XS.imul X0.here hx rfl (hb hby d_jdk_33_method_13_34) rfl k) ?_
              rw [show ((10 : Int32) * (-100000 : Int32)) = (-1000000 : Int32) from by decide]
              refine Go.step (T' := s₁) (g' := (mkF m 36 #[.val (.int x0), .val (.int (1 : Int32)), .val (.int (-1000000 : Int32)), .val (.int (5 : Int32))] [])) (fun _ k => XS.istoreN X0.here hx rfl (hb hby d_jdk_33_method_13_35) rfl (l' := #[.val (.int x0), .val (.int (1 : Int32)), .val (.int (-1000000 : Int32)), .val (.int (5 : Int32))]) rfl k) ?_
              refine Go.step (T' := s₁) (g' := (mkF m 39 #[.val (.int x0), .val (.int (1 : Int32)), .val (.int (-1000000 : Int32)), .val (.int (6 : Int32))] [])) (fun _ k => XS.iinc X0.here hx rfl (hb hby d_jdk_33_method_13_36) rfl (l' := #[.val (.int x0), .val (.int (1 : Int32)), .val (.int (-1000000 : Int32)), .val (.int (6 : Int32))]) rfl k) ?_
              refine Go.step (T' := s₁) (g' := (mkF m 16 #[.val (.int x0), .val (.int (1 : Int32)), .val (.int (-1000000 : Int32)), .val (.int (6 : Int32))] [])) (fun _ k => XS.goto X0.here hx rfl (pc0 := 39) (pc' := 16) rfl (hb hby d_jdk_33_method_13_39) (by decide) (by decide) k) ?_
              refine Go.step (T' := s₁) (g' := (mkF m 17 #[.val (.int x0), .val (.int (1 : Int32)), .val (.int (-1000000 : Int32)), .val (.int (6 : Int32))] [(.int (6 : Int32))])) (fun _ k => XS.iloadN X0.here hx rfl (hb hby d_jdk_33_method_13_16) rfl  k) ?_
              refine Go.step (T' := s₁) (g' := (mkF m 19 #[.val (.int x0), .val (.int (1 : Int32)), .val (.int (-1000000 : Int32)), .val (.int (6 : Int32))] [(.int (10 : Int32)), (.int (6 : Int32))])) (fun _ k => XS.bipush X0.here hx rfl (hb hby d_jdk_33_method_13_17) k) ?_
              refine Go.step (T' := s₁) (g' := (mkF m 22 #[.val (.int x0), .val (.int (1 : Int32)), .val (.int (-1000000 : Int32)), .val (.int (6 : Int32))] [])) (fun _ k => XS.icmpNo X0.here hx rfl (hb hby d_jdk_33_method_13_19) rfl (tlt (by decide : (6 : Int32) < (10 : Int32))).2.1 k) ?_
              refine Go.step (T' := s₁) (g' := (mkF m 23 #[.val (.int x0), .val (.int (1 : Int32)), .val (.int (-1000000 : Int32)), .val (.int (6 : Int32))] [(.int x0)])) (fun _ k => XS.iloadN X0.here hx rfl (hb hby d_jdk_33_method_13_22) rfl  k) ?_
              refine Go.step (T' := s₁) (g' := (mkF m 24 #[.val (.int x0), .val (.int (1 : Int32)), .val (.int (-1000000 : Int32)), .val (.int (6 : Int32))] [(.int (-1000000 : Int32)), (.int x0)])) (fun _ k => XS.iloadN X0.here hx rfl (hb hby d_jdk_33_method_13_23) rfl  k) ?_
              by_cases hc107 : (-1000000 : Int32) < x0
              · skip
                refine Go.step (T' := s₁) (g' := (mkF m 27 #[.val (.int x0), .val (.int (1 : Int32)), .val (.int (-1000000 : Int32)), .val (.int (6 : Int32))] [])) (fun _ k => XS.icmpNo X0.here hx rfl (hb hby d_jdk_33_method_13_24) rfl (tlt hc107).2.2.2 k) ?_
                refine Go.step (T' := s₁) (g' := (mkF m 28 #[.val (.int x0), .val (.int (1 : Int32)), .val (.int (-1000000 : Int32)), .val (.int (6 : Int32))] [(.int (6 : Int32))])) (fun _ k => XS.iloadN X0.here hx rfl (hb hby d_jdk_33_method_13_27) rfl  k) ?_
                refine Go.step (T' := s₁) (g' := (mkF m 29 #[.val (.int x0), .val (.int (1 : Int32)), .val (.int (-1000000 : Int32)), .val (.int (6 : Int32))] [(.int (1 : Int32)), (.int (6 : Int32))])) (fun _ k => XS.iloadN X0.here hx rfl (hb hby d_jdk_33_method_13_28) rfl  k) ?_
                refine Go.step (T' := s₁) (g' := (mkF m 30 #[.val (.int x0), .val (.int (1 : Int32)), .val (.int (-1000000 : Int32)), .val (.int (6 : Int32))] [(.int (7 : Int32))])) (fun _ k => XS.iadd X0.here hx rfl (hb hby d_jdk_33_method_13_29) rfl k) ?_
                exact Go.retI X0 hx hret hlk (hb hby d_jdk_33_method_13_30) (⟨congrArg (fun z => some (Value.int z)) (own_ssE (own_nd6 (by have q : x0.toInt ≤ -100000 := own_geZ hc106 rfl; have r := (own_Mneg hc101); omega) (by have q : -1000000 < x0.toInt := own_ltZ hc107 rfl; have r := (own_Mneg hc101); omega)) (own_sgT hc101)), N0, e0⟩) (by decide) (by decide)
              · skip
                refine Go.step (T' := s₁) (g' := (mkF m 31 #[.val (.int x0), .val (.int (1 : Int32)), .val (.int (-1000000 : Int32)), .val (.int (6 : Int32))] [])) (fun _ k => XS.icmpYes X0.here hx rfl (pc0 := 24) (pc' := 31) rfl (hb hby d_jdk_33_method_13_24) rfl (flt hc107).2.2.2 (by decide) (by decide) k) ?_
                refine Go.step (T' := s₁) (g' := (mkF m 33 #[.val (.int x0), .val (.int (1 : Int32)), .val (.int (-1000000 : Int32)), .val (.int (6 : Int32))] [(.int (10 : Int32))])) (fun _ k => XS.bipush X0.here hx rfl (hb hby d_jdk_33_method_13_31) k) ?_
                refine Go.step (T' := s₁) (g' := (mkF m 34 #[.val (.int x0), .val (.int (1 : Int32)), .val (.int (-1000000 : Int32)), .val (.int (6 : Int32))] [(.int (-1000000 : Int32)), (.int (10 : Int32))])) (fun _ k => XS.iloadN X0.here hx rfl (hb hby d_jdk_33_method_13_33) rfl  k) ?_
                refine Go.step (T' := s₁) (g' := (mkF m 35 #[.val (.int x0), .val (.int (1 : Int32)), .val (.int (-1000000 : Int32)), .val (.int (6 : Int32))] [(.int ((10 : Int32) * (-1000000 : Int32)))])) (fun _ k => XS.imul X0.here hx rfl (hb hby d_jdk_33_method_13_34) rfl k) ?_
                rw [show ((10 : Int32) * (-1000000 : Int32)) = (-10000000 : Int32) from by decide]
                refine Go.step (T' := s₁) (g' := (mkF m 36 #[.val (.int x0), .val (.int (1 : Int32)), .val (.int (-10000000 : Int32)), .val (.int (6 : Int32))] [])) (fun _ k => XS.istoreN X0.here hx rfl (hb hby d_jdk_33_method_13_35) rfl (l' := #[.val (.int x0), .val (.int (1 : Int32)), .val (.int (-10000000 : Int32)), .val (.int (6 : Int32))]) rfl k) ?_
                refine Go.step (T' := s₁) (g' := (mkF m 39 #[.val (.int x0), .val (.int (1 : Int32)), .val (.int (-10000000 : Int32)), .val (.int (7 : Int32))] [])) (fun _ k => XS.iinc X0.here hx rfl (hb hby d_jdk_33_method_13_36) rfl (l' := #[.val (.int x0), .val (.int (1 : Int32)), .val (.int (-10000000 : Int32)), .val (.int (7 : Int32))]) rfl k) ?_
                refine Go.step (T' := s₁) (g' := (mkF m 16 #[.val (.int x0), .val (.int (1 : Int32)), .val (.int (-10000000 : Int32)), .val (.int (7 : Int32))] [])) (fun _ k => XS.goto X0.here hx rfl (pc0 := 39) (pc' := 16) rfl (hb hby d_jdk_33_method_13_39) (by decide) (by decide) k) ?_
                refine Go.step (T' := s₁) (g' := (mkF m 17 #[.val (.int x0), .val (.int (1 : Int32)), .val (.int (-10000000 : Int32)), .val (.int (7 : Int32))] [(.int (7 : Int32))])) (fun _ k => XS.iloadN X0.here hx rfl (hb hby d_jdk_33_method_13_16) rfl  k) ?_
                refine Go.step (T' := s₁) (g' := (mkF m 19 #[.val (.int x0), .val (.int (1 : Int32)), .val (.int (-10000000 : Int32)), .val (.int (7 : Int32))] [(.int (10 : Int32)), (.int (7 : Int32))])) (fun _ k => XS.bipush X0.here hx rfl (hb hby d_jdk_33_method_13_17) k) ?_
                refine Go.step (T' := s₁) (g' := (mkF m 22 #[.val (.int x0), .val (.int (1 : Int32)), .val (.int (-10000000 : Int32)), .val (.int (7 : Int32))] [])) (fun _ k => XS.icmpNo X0.here hx rfl (hb hby d_jdk_33_method_13_19) rfl (tlt (by decide : (7 : Int32) < (10 : Int32))).2.1 k) ?_
                refine Go.step (T' := s₁) (g' := (mkF m 23 #[.val (.int x0), .val (.int (1 : Int32)), .val (.int (-10000000 : Int32)), .val (.int (7 : Int32))] [(.int x0)])) (fun _ k => XS.iloadN X0.here hx rfl (hb hby d_jdk_33_method_13_22) rfl  k) ?_
                refine Go.step (T' := s₁) (g' := (mkF m 24 #[.val (.int x0), .val (.int (1 : Int32)), .val (.int (-10000000 : Int32)), .val (.int (7 : Int32))] [(.int (-10000000 : Int32)), (.int x0)])) (fun _ k => XS.iloadN X0.here hx rfl (hb hby d_jdk_33_method_13_23) rfl  k) ?_
                by_cases hc108 : (-10000000 : Int32) < x0
                · skip
                  refine Go.step (T' := s₁) (g' := (mkF m 27 #[.val (.int x0), .val (.int (1 : Int32)), .val (.int (-10000000 : Int32)), .val (.int (7 : Int32))] [])) (fun _ k => XS.icmpNo X0.here hx rfl (hb hby d_jdk_33_method_13_24) rfl (tlt hc108).2.2.2 k) ?_
                  refine Go.step (T' := s₁) (g' := (mkF m 28 #[.val (.int x0), .val (.int (1 : Int32)), .val (.int (-10000000 : Int32)), .val (.int (7 : Int32))] [(.int (7 : Int32))])) (fun _ k => XS.iloadN X0.here hx rfl (hb hby d_jdk_33_method_13_27) rfl  k) ?_
                  refine Go.step (T' := s₁) (g' := (mkF m 29 #[.val (.int x0), .val (.int (1 : Int32)), .val (.int (-10000000 : Int32)), .val (.int (7 : Int32))] [(.int (1 : Int32)), (.int (7 : Int32))])) (fun _ k => XS.iloadN X0.here hx rfl (hb hby d_jdk_33_method_13_28) rfl  k) ?_
                  refine Go.step (T' := s₁) (g' := (mkF m 30 #[.val (.int x0), .val (.int (1 : Int32)), .val (.int (-10000000 : Int32)), .val (.int (7 : Int32))] [(.int (8 : Int32))])) (fun _ k => XS.iadd X0.here hx rfl (hb hby d_jdk_33_method_13_29) rfl k) ?_
                  exact Go.retI X0 hx hret hlk (hb hby d_jdk_33_method_13_30) (⟨congrArg (fun z => some (Value.int z)) (own_ssE (own_nd7 (by have q : x0.toInt ≤ -1000000 := own_geZ hc107 rfl; have r := (own_Mneg hc101); omega) (by have q : -10000000 < x0.toInt := own_ltZ hc108 rfl; have r := (own_Mneg hc101); omega)) (own_sgT hc101)), N0, e0⟩) (by decide) (by decide)
                · skip
                  refine Go.step (T' := s₁) (g' := (mkF m 31 #[.val (.int x0), .val (.int (1 : Int32)), .val (.int (-10000000 : Int32)), .val (.int (7 : Int32))] [])) (fun _ k => XS.icmpYes X0.here hx rfl (pc0 := 24) (pc' := 31) rfl (hb hby d_jdk_33_method_13_24) rfl (flt hc108).2.2.2 (by decide) (by decide) k) ?_
                  refine Go.step (T' := s₁) (g' := (mkF m 33 #[.val (.int x0), .val (.int (1 : Int32)), .val (.int (-10000000 : Int32)), .val (.int (7 : Int32))] [(.int (10 : Int32))])) (fun _ k => XS.bipush X0.here hx rfl (hb hby d_jdk_33_method_13_31) k) ?_
                  refine Go.step (T' := s₁) (g' := (mkF m 34 #[.val (.int x0), .val (.int (1 : Int32)), .val (.int (-10000000 : Int32)), .val (.int (7 : Int32))] [(.int (-10000000 : Int32)), (.int (10 : Int32))])) (fun _ k => XS.iloadN X0.here hx rfl (hb hby d_jdk_33_method_13_33) rfl  k) ?_
                  refine Go.step (T' := s₁) (g' := (mkF m 35 #[.val (.int x0), .val (.int (1 : Int32)), .val (.int (-10000000 : Int32)), .val (.int (7 : Int32))] [(.int ((10 : Int32) * (-10000000 : Int32)))])) (fun _ k => XS.imul X0.here hx rfl (hb hby d_jdk_33_method_13_34) rfl k) ?_
                  rw [show ((10 : Int32) * (-10000000 : Int32)) = (-100000000 : Int32) from by decide]
                  refine Go.step (T' := s₁) (g' := (mkF m 36 #[.val (.int x0), .val (.int (1 : Int32)), .val (.int (-100000000 : Int32)), .val (.int (7 : Int32))] [])) (fun _ k => XS.istoreN X0.here hx rfl (hb hby d_jdk_33_method_13_35) rfl (l' := #[.val (.int x0), .val (.int (1 : Int32)), .val (.int (-100000000 : Int32)), .val (.int (7 : Int32))]) rfl k) ?_
                  refine Go.step (T' := s₁) (g' := (mkF m 39 #[.val (.int x0), .val (.int (1 : Int32)), .val (.int (-100000000 : Int32)), .val (.int (8 : Int32))] [])) (fun _ k => XS.iinc X0.here hx rfl (hb hby d_jdk_33_method_13_36) rfl (l' := #[.val (.int x0), .val (.int (1 : Int32)), .val (.int (-100000000 : Int32)), .val (.int (8 : Int32))]) rfl k) ?_
                  refine Go.step (T' := s₁) (g' := (mkF m 16 #[.val (.int x0), .val (.int (1 : Int32)), .val (.int (-100000000 : Int32)), .val (.int (8 : Int32))] [])) (fun _ k => XS.goto X0.here hx rfl (pc0 := 39) (pc' := 16) rfl (hb hby d_jdk_33_method_13_39) (by decide) (by decide) k) ?_
                  refine Go.step (T' := s₁) (g' := (mkF m 17 #[.val (.int x0), .val (.int (1 : Int32)), .val (.int (-100000000 : Int32)), .val (.int (8 : Int32))] [(.int (8 : Int32))])) (fun _ k => XS.iloadN X0.here hx rfl (hb hby d_jdk_33_method_13_16) rfl  k) ?_
                  refine Go.step (T' := s₁) (g' := (mkF m 19 #[.val (.int x0), .val (.int (1 : Int32)), .val (.int (-100000000 : Int32)), .val (.int (8 : Int32))] [(.int (10 : Int32)), (.int (8 : Int32))])) (fun _ k => XS.bipush X0.here hx rfl (hb hby d_jdk_33_method_13_17) k) ?_
                  refine Go.step (T' := s₁) (g' := (mkF m 22 #[.val (.int x0), .val (.int (1 : Int32)), .val (.int (-100000000 : Int32)), .val (.int (8 : Int32))] [])) (fun _ k => XS.icmpNo X0.here hx rfl (hb hby d_jdk_33_method_13_19) rfl (tlt (by decide : (8 : Int32) < (10 : Int32))).2.1 k) ?_
                  refine Go.step (T' := s₁) (g' := (mkF m 23 #[.val (.int x0), .val (.int (1 : Int32)), .val (.int (-100000000 : Int32)), .val (.int (8 : Int32))] [(.int x0)])) (fun _ k => XS.iloadN X0.here hx rfl (hb hby d_jdk_33_method_13_22) rfl  k) ?_
                  refine Go.step (T' := s₁) (g' := (mkF m 24 #[.val (.int x0), .val (.int (1 : Int32)), .val (.int (-100000000 : Int32)), .val (.int (8 : Int32))] [(.int (-100000000 : Int32)), (.int x0)])) (fun _ k => XS.iloadN X0.here hx rfl (hb hby d_jdk_33_method_13_23) rfl  k) ?_
                  by_cases hc109 : (-100000000 : Int32) < x0
                  · skip
                    refine Go.step (T' := s₁) (g' := (mkF m 27 #[.val (.int x0), .val (.int (1 : Int32)), .val (.int (-100000000 : Int32)), .val (.int (8 : Int32))] [])) (fun _ k => XS.icmpNo X0.here hx rfl (hb hby d_jdk_33_method_13_24) rfl (tlt hc109).2.2.2 k) ?_
                    refine Go.step (T' := s₁) (g' := (mkF m 28 #[.val (.int x0), .val (.int (1 : Int32)), .val (.int (-100000000 : Int32)), .val (.int (8 : Int32))] [(.int (8 : Int32))])) (fun _ k => XS.iloadN X0.here hx rfl (hb hby d_jdk_33_method_13_27) rfl  k) ?_
                    refine Go.step (T' := s₁) (g' := (mkF m 29 #[.val (.int x0), .val (.int (1 : Int32)), .val (.int (-100000000 : Int32)), .val (.int (8 : Int32))] [(.int (1 : Int32)), (.int (8 : Int32))])) (fun _ k => XS.iloadN X0.here hx rfl (hb hby d_jdk_33_method_13_28) rfl  k) ?_
                    refine Go.step (T' := s₁) (g' := (mkF m 30 #[.val (.int x0), .val (.int (1 : Int32)), .val (.int (-100000000 : Int32)), .val (.int (8 : Int32))] [(.int (9 : Int32))])) (fun _ k => XS.iadd X0.here hx rfl (hb hby d_jdk_33_method_13_29) rfl k) ?_
                    exact Go.retI X0 hx hret hlk (hb hby d_jdk_33_method_13_30) (⟨congrArg (fun z => some (Value.int z)) (own_ssE (own_nd8 (by have q : x0.toInt ≤ -10000000 := own_geZ hc108 rfl; have r := (own_Mneg hc101); omega) (by have q : -100000000 < x0.toInt := own_ltZ hc109 rfl; have r := (own_Mneg hc101); omega)) (own_sgT hc101)), N0, e0⟩) (by decide) (by decide)
                  · skip
                    refine Go.step (T' := s₁) (g' := (mkF m 31 #[.val (.int x0), .val (.int (1 : Int32)), .val (.int (-100000000 : Int32)), .val (.int (8 : Int32))] [])) (fun _ k => XS.icmpYes X0.here hx rfl (pc0 := 24) (pc' := 31) rfl (hb hby d_jdk_33_method_13_24) rfl (flt hc109).2.2.2 (by decide) (by decide) k) ?_
                    refine Go.step (T' := s₁) (g' := (mkF m 33 #[.val (.int x0), .val (.int (1 : Int32)), .val (.int (-100000000 : Int32)), .val (.int (8 : Int32))] [(.int (10 : Int32))])) (fun _ k => XS.bipush X0.here hx rfl (hb hby d_jdk_33_method_13_31) k) ?_
                    refine Go.step (T' := s₁) (g' := (mkF m 34 #[.val (.int x0), .val (.int (1 : Int32)), .val (.int (-100000000 : Int32)), .val (.int (8 : Int32))] [(.int (-100000000 : Int32)), (.int (10 : Int32))])) (fun _ k => XS.iloadN X0.here hx rfl (hb hby d_jdk_33_method_13_33) rfl  k) ?_
                    refine Go.step (T' := s₁) (g' := (mkF m 35 #[.val (.int x0), .val (.int (1 : Int32)), .val (.int (-100000000 : Int32)), .val (.int (8 : Int32))] [(.int ((10 : Int32) * (-100000000 : Int32)))])) (fun _ k => XS.imul X0.here hx rfl (hb hby d_jdk_33_method_13_34) rfl k) ?_
                    rw [show ((10 : Int32) * (-100000000 : Int32)) = (-1000000000 : Int32) from by decide]
                    refine Go.step (T' := s₁) (g' := (mkF m 36 #[.val (.int x0), .val (.int (1 : Int32)), .val (.int (-1000000000 : Int32)), .val (.int (8 : Int32))] [])) (fun _ k => XS.istoreN X0.here hx rfl (hb hby d_jdk_33_method_13_35) rfl (l' := #[.val (.int x0), .val (.int (1 : Int32)), .val (.int (-1000000000 : Int32)), .val (.int (8 : Int32))]) rfl k) ?_
                    refine Go.step (T' := s₁) (g' := (mkF m 39 #[.val (.int x0), .val (.int (1 : Int32)), .val (.int (-1000000000 : Int32)), .val (.int (9 : Int32))] [])) (fun _ k => XS.iinc X0.here hx rfl (hb hby d_jdk_33_method_13_36) rfl (l' := #[.val (.int x0), .val (.int (1 : Int32)), .val (.int (-1000000000 : Int32)), .val (.int (9 : Int32))]) rfl k) ?_
                    refine Go.step (T' := s₁) (g' := (mkF m 16 #[.val (.int x0), .val (.int (1 : Int32)), .val (.int (-1000000000 : Int32)), .val (.int (9 : Int32))] [])) (fun _ k => XS.goto X0.here hx rfl (pc0 := 39) (pc' := 16) rfl (hb hby d_jdk_33_method_13_39) (by decide) (by decide) k) ?_
                    refine Go.step (T' := s₁) (g' := (mkF m 17 #[.val (.int x0), .val (.int (1 : Int32)), .val (.int (-1000000000 : Int32)), .val (.int (9 : Int32))] [(.int (9 : Int32))])) (fun _ k => XS.iloadN X0.here hx rfl (hb hby d_jdk_33_method_13_16) rfl  k) ?_
                    refine Go.step (T' := s₁) (g' := (mkF m 19 #[.val (.int x0), .val (.int (1 : Int32)), .val (.int (-1000000000 : Int32)), .val (.int (9 : Int32))] [(.int (10 : Int32)), (.int (9 : Int32))])) (fun _ k => XS.bipush X0.here hx rfl (hb hby d_jdk_33_method_13_17) k) ?_
                    refine Go.step (T' := s₁) (g' := (mkF m 22 #[.val (.int x0), .val (.int (1 : Int32)), .val (.int (-1000000000 : Int32)), .val (.int (9 : Int32))] [])) (fun _ k => XS.icmpNo X0.here hx rfl (hb hby d_jdk_33_method_13_19) rfl (tlt (by decide : (9 : Int32) < (10 : Int32))).2.1 k) ?_
                    refine Go.step (T' := s₁) (g' := (mkF m 23 #[.val (.int x0), .val (.int (1 : Int32)), .val (.int (-1000000000 : Int32)), .val (.int (9 : Int32))] [(.int x0)])) (fun _ k => XS.iloadN X0.here hx rfl (hb hby d_jdk_33_method_13_22) rfl  k) ?_
                    refine Go.step (T' := s₁) (g' := (mkF m 24 #[.val (.int x0), .val (.int (1 : Int32)), .val (.int (-1000000000 : Int32)), .val (.int (9 : Int32))] [(.int (-1000000000 : Int32)), (.int x0)])) (fun _ k => XS.iloadN X0.here hx rfl (hb hby d_jdk_33_method_13_23) rfl  k) ?_
                    by_cases hc110 : (-1000000000 : Int32) < x0
                    · skip
                      refine Go.step (T' := s₁) (g' := (mkF m 27 #[.val (.int x0), .val (.int (1 : Int32)), .val (.int (-1000000000 : Int32)), .val (.int (9 : Int32))] [])) (fun _ k => XS.icmpNo X0.here hx rfl (hb hby d_jdk_33_method_13_24) rfl (tlt hc110).2.2.2 k) ?_
                      refine Go.step (T' := s₁) (g' := (mkF m 28 #[.val (.int x0), .val (.int (1 : Int32)), .val (.int (-1000000000 : Int32)), .val (.int (9 : Int32))] [(.int (9 : Int32))])) (fun _ k => XS.iloadN X0.here hx rfl (hb hby d_jdk_33_method_13_27) rfl  k) ?_
                      refine Go.step (T' := s₁) (g' := (mkF m 29 #[.val (.int x0), .val (.int (1 : Int32)), .val (.int (-1000000000 : Int32)), .val (.int (9 : Int32))] [(.int (1 : Int32)), (.int (9 : Int32))])) (fun _ k => XS.iloadN X0.here hx rfl (hb hby d_jdk_33_method_13_28) rfl  k) ?_
                      refine Go.step (T' := s₁) (g' := (mkF m 30 #[.val (.int x0), .val (.int (1 : Int32)), .val (.int (-1000000000 : Int32)), .val (.int (9 : Int32))] [(.int (10 : Int32))])) (fun _ k => XS.iadd X0.here hx rfl (hb hby d_jdk_33_method_13_29) rfl k) ?_
                      exact Go.retI X0 hx hret hlk (hb hby d_jdk_33_method_13_30) (⟨congrArg (fun z => some (Value.int z)) (own_ssE (own_nd9 (by have q : x0.toInt ≤ -100000000 := own_geZ hc109 rfl; have r := (own_Mneg hc101); omega) (by have q : -1000000000 < x0.toInt := own_ltZ hc110 rfl; have r := (own_Mneg hc101); omega)) (own_sgT hc101)), N0, e0⟩) (by decide) (by decide)
                    · skip
                      refine Go.step (T' := s₁) (g' := (mkF m 31 #[.val (.int x0), .val (.int (1 : Int32)), .val (.int (-1000000000 : Int32)), .val (.int (9 : Int32))] [])) (fun _ k => XS.icmpYes X0.here hx rfl (pc0 := 24) (pc' := 31) rfl (hb hby d_jdk_33_method_13_24) rfl (flt hc110).2.2.2 (by decide) (by decide) k) ?_
                      refine Go.step (T' := s₁) (g' := (mkF m 33 #[.val (.int x0), .val (.int (1 : Int32)), .val (.int (-1000000000 : Int32)), .val (.int (9 : Int32))] [(.int (10 : Int32))])) (fun _ k => XS.bipush X0.here hx rfl (hb hby d_jdk_33_method_13_31) k) ?_
                      refine Go.step (T' := s₁) (g' := (mkF m 34 #[.val (.int x0), .val (.int (1 : Int32)), .val (.int (-1000000000 : Int32)), .val (.int (9 : Int32))] [(.int (-1000000000 : Int32)), (.int (10 : Int32))])) (fun _ k => XS.iloadN X0.here hx rfl (hb hby d_jdk_33_method_13_33) rfl  k) ?_
                      refine Go.step (T' := s₁) (g' := (mkF m 35 #[.val (.int x0), .val (.int (1 : Int32)), .val (.int (-1000000000 : Int32)), .val (.int (9 : Int32))] [(.int ((10 : Int32) * (-1000000000 : Int32)))])) (fun _ k => XS.imul X0.here hx rfl (hb hby d_jdk_33_method_13_34) rfl k) ?_
                      rw [show ((10 : Int32) * (-1000000000 : Int32)) = (-1410065408 : Int32) from by decide]
                      refine Go.step (T' := s₁) (g' := (mkF m 36 #[.val (.int x0), .val (.int (1 : Int32)), .val (.int (-1410065408 : Int32)), .val (.int (9 : Int32))] [])) (fun _ k => XS.istoreN X0.here hx rfl (hb hby d_jdk_33_method_13_35) rfl (l' := #[.val (.int x0), .val (.int (1 : Int32)), .val (.int (-1410065408 : Int32)), .val (.int (9 : Int32))]) rfl k) ?_
                      refine Go.step (T' := s₁) (g' := (mkF m 39 #[.val (.int x0), .val (.int (1 : Int32)), .val (.int (-1410065408 : Int32)), .val (.int (10 : Int32))] [])) (fun _ k => XS.iinc X0.here hx rfl (hb hby d_jdk_33_method_13_36) rfl (l' := #[.val (.int x0), .val (.int (1 : Int32)), .val (.int (-1410065408 : Int32)), .val (.int (10 : Int32))]) rfl k) ?_
                      refine Go.step (T' := s₁) (g' := (mkF m 16 #[.val (.int x0), .val (.int (1 : Int32)), .val (.int (-1410065408 : Int32)), .val (.int (10 : Int32))] [])) (fun _ k => XS.goto X0.here hx rfl (pc0 := 39) (pc' := 16) rfl (hb hby d_jdk_33_method_13_39) (by decide) (by decide) k) ?_
                      refine Go.step (T' := s₁) (g' := (mkF m 17 #[.val (.int x0), .val (.int (1 : Int32)), .val (.int (-1410065408 : Int32)), .val (.int (10 : Int32))] [(.int (10 : Int32))])) (fun _ k => XS.iloadN X0.here hx rfl (hb hby d_jdk_33_method_13_16) rfl  k) ?_
                      refine Go.step (T' := s₁) (g' := (mkF m 19 #[.val (.int x0), .val (.int (1 : Int32)), .val (.int (-1410065408 : Int32)), .val (.int (10 : Int32))] [(.int (10 : Int32)), (.int (10 : Int32))])) (fun _ k => XS.bipush X0.here hx rfl (hb hby d_jdk_33_method_13_17) k) ?_
                      refine Go.step (T' := s₁) (g' := (mkF m 42 #[.val (.int x0), .val (.int (1 : Int32)), .val (.int (-1410065408 : Int32)), .val (.int (10 : Int32))] [])) (fun _ k => XS.icmpYes X0.here hx rfl (pc0 := 19) (pc' := 42) rfl (hb hby d_jdk_33_method_13_19) rfl (flt (by decide : ¬ ((10 : Int32) < (10 : Int32)))).2.1 (by decide) (by decide) k) ?_
                      refine Go.step (T' := s₁) (g' := (mkF m 44 #[.val (.int x0), .val (.int (1 : Int32)), .val (.int (-1410065408 : Int32)), .val (.int (10 : Int32))] [(.int (10 : Int32))])) (fun _ k => XS.bipush X0.here hx rfl (hb hby d_jdk_33_method_13_42) k) ?_
                      refine Go.step (T' := s₁) (g' := (mkF m 45 #[.val (.int x0), .val (.int (1 : Int32)), .val (.int (-1410065408 : Int32)), .val (.int (10 : Int32))] [(.int (1 : Int32)), (.int (10 : Int32))])) (fun _ k => XS.iloadN X0.here hx rfl (hb hby d_jdk_33_method_13_44) rfl  k) ?_
                      refine Go.step (T' := s₁) (g' := (mkF m 46 #[.val (.int x0), .val (.int (1 : Int32)), .val (.int (-1410065408 : Int32)), .val (.int (10 : Int32))] [(.int (11 : Int32))])) (fun _ k => XS.iadd X0.here hx rfl (hb hby d_jdk_33_method_13_45) rfl k) ?_
                      exact Go.retI X0 hx hret hlk (hb hby d_jdk_33_method_13_46) (⟨congrArg (fun z => some (Value.int z)) (own_ssE (own_nd10 (by have q : x0.toInt ≤ -1000000000 := own_geZ hc110 rfl; have r := (own_Mneg hc101); omega) trivial) (own_sgT hc101)), N0, e0⟩) (by decide) (by decide)
  · skip
    refine Go.step (T' := s₁) (g' := (mkF m 6 #[.val (.int x0), .val (.int (1 : Int32)), .unset, .unset] [])) (fun _ k => XS.ifNo X0.here hx rfl (hb hby d_jdk_33_method_13_3) rfl ((if0 _ _).trans (flt hc101).1) k) ?_
    refine Go.step (T' := s₁) (g' := (mkF m 7 #[.val (.int x0), .val (.int (1 : Int32)), .unset, .unset] [(.int (0 : Int32))])) (fun _ k => XS.iconst X0.here hx rfl (hb hby d_jdk_33_method_13_6) k) ?_
    refine Go.step (T' := s₁) (g' := (mkF m 8 #[.val (.int x0), .val (.int (0 : Int32)), .unset, .unset] [])) (fun _ k => XS.istoreN X0.here hx rfl (hb hby d_jdk_33_method_13_7) rfl (l' := #[.val (.int x0), .val (.int (0 : Int32)), .unset, .unset]) rfl k) ?_
    refine Go.step (T' := s₁) (g' := (mkF m 9 #[.val (.int x0), .val (.int (0 : Int32)), .unset, .unset] [(.int x0)])) (fun _ k => XS.iloadN X0.here hx rfl (hb hby d_jdk_33_method_13_8) rfl  k) ?_
    refine Go.step (T' := s₁) (g' := (mkF m 10 #[.val (.int x0), .val (.int (0 : Int32)), .unset, .unset] [(.int (-x0))])) (fun _ k => XS.ineg X0.here hx rfl (hb hby d_jdk_33_method_13_9) rfl k) ?_
    refine Go.step (T' := s₁) (g' := (mkF m 11 #[.val (.int (-x0)), .val (.int (0 : Int32)), .unset, .unset] [])) (fun _ k => XS.istoreN X0.here hx rfl (hb hby d_jdk_33_method_13_10) rfl (l' := #[.val (.int (-x0)), .val (.int (0 : Int32)), .unset, .unset]) rfl k) ?_
    refine Go.step (T' := s₁) (g' := (mkF m 13 #[.val (.int (-x0)), .val (.int (0 : Int32)), .unset, .unset] [(.int (-10 : Int32))])) (fun _ k => XS.bipush X0.here hx rfl (hb hby d_jdk_33_method_13_11) k) ?_
    refine Go.step (T' := s₁) (g' := (mkF m 14 #[.val (.int (-x0)), .val (.int (0 : Int32)), .val (.int (-10 : Int32)), .unset] [])) (fun _ k => XS.istoreN X0.here hx rfl (hb hby d_jdk_33_method_13_13) rfl (l' := #[.val (.int (-x0)), .val (.int (0 : Int32)), .val (.int (-10 : Int32)), .unset]) rfl k) ?_
    refine Go.step (T' := s₁) (g' := (mkF m 15 #[.val (.int (-x0)), .val (.int (0 : Int32)), .val (.int (-10 : Int32)), .unset] [(.int (1 : Int32))])) (fun _ k => XS.iconst X0.here hx rfl (hb hby d_jdk_33_method_13_14) k) ?_
    refine Go.step (T' := s₁) (g' := (mkF m 16 #[.val (.int (-x0)), .val (.int (0 : Int32)), .val (.int (-10 : Int32)), .val (.int (1 : Int32))] [])) (fun _ k => XS.istoreN X0.here hx rfl (hb hby d_jdk_33_method_13_15) rfl (l' := #[.val (.int (-x0)), .val (.int (0 : Int32)), .val (.int (-10 : Int32)), .val (.int (1 : Int32))]) rfl k) ?_
    refine Go.step (T' := s₁) (g' := (mkF m 17 #[.val (.int (-x0)), .val (.int (0 : Int32)), .val (.int (-10 : Int32)), .val (.int (1 : Int32))] [(.int (1 : Int32))])) (fun _ k => XS.iloadN X0.here hx rfl (hb hby d_jdk_33_method_13_16) rfl  k) ?_
    refine Go.step (T' := s₁) (g' := (mkF m 19 #[.val (.int (-x0)), .val (.int (0 : Int32)), .val (.int (-10 : Int32)), .val (.int (1 : Int32))] [(.int (10 : Int32)), (.int (1 : Int32))])) (fun _ k => XS.bipush X0.here hx rfl (hb hby d_jdk_33_method_13_17) k) ?_
    refine Go.step (T' := s₁) (g' := (mkF m 22 #[.val (.int (-x0)), .val (.int (0 : Int32)), .val (.int (-10 : Int32)), .val (.int (1 : Int32))] [])) (fun _ k => XS.icmpNo X0.here hx rfl (hb hby d_jdk_33_method_13_19) rfl (tlt (by decide : (1 : Int32) < (10 : Int32))).2.1 k) ?_
    refine Go.step (T' := s₁) (g' := (mkF m 23 #[.val (.int (-x0)), .val (.int (0 : Int32)), .val (.int (-10 : Int32)), .val (.int (1 : Int32))] [(.int (-x0))])) (fun _ k => XS.iloadN X0.here hx rfl (hb hby d_jdk_33_method_13_22) rfl  k) ?_
    refine Go.step (T' := s₁) (g' := (mkF m 24 #[.val (.int (-x0)), .val (.int (0 : Int32)), .val (.int (-10 : Int32)), .val (.int (1 : Int32))] [(.int (-10 : Int32)), (.int (-x0))])) (fun _ k => XS.iloadN X0.here hx rfl (hb hby d_jdk_33_method_13_23) rfl  k) ?_
    by_cases hc111 : (-10 : Int32) < (-x0)
    · skip
      refine Go.step (T' := s₁) (g' := (mkF m 27 #[.val (.int (-x0)), .val (.int (0 : Int32)), .val (.int (-10 : Int32)), .val (.int (1 : Int32))] [])) (fun _ k => XS.icmpNo X0.here hx rfl (hb hby d_jdk_33_method_13_24) rfl (tlt hc111).2.2.2 k) ?_
      refine Go.step (T' := s₁) (g' := (mkF m 28 #[.val (.int (-x0)), .val (.int (0 : Int32)), .val (.int (-10 : Int32)), .val (.int (1 : Int32))] [(.int (1 : Int32))])) (fun _ k => XS.iloadN X0.here hx rfl (hb hby d_jdk_33_method_13_27) rfl  k) ?_
      refine Go.step (T' := s₁) (g' := (mkF m 29 #[.val (.int (-x0)), .val (.int (0 : Int32)), .val (.int (-10 : Int32)), .val (.int (1 : Int32))] [(.int (0 : Int32)), (.int (1 : Int32))])) (fun _ k => XS.iloadN X0.here hx rfl (hb hby d_jdk_33_method_13_28) rfl  k) ?_
      refine Go.step (T' := s₁) (g' := (mkF m 30 #[.val (.int (-x0)), .val (.int (0 : Int32)), .val (.int (-10 : Int32)), .val (.int (1 : Int32))] [(.int (1 : Int32))])) (fun _ k => XS.iadd X0.here hx rfl (hb hby d_jdk_33_method_13_29) rfl k) ?_
      exact Go.retI X0 hx hret hlk (hb hby d_jdk_33_method_13_30) (⟨congrArg (fun z => some (Value.int z)) (own_ssE (own_nd1 trivial (by have q : -10 < (-x0).toInt := own_ltZ hc111 rfl; have r := (own_Mpos hc101); omega)) (own_sgF hc101)), N0, e0⟩) (by decide) (by decide)
    · skip
      refine Go.step (T' := s₁) (g' := (mkF m 31 #[.val (.int (-x0)), .val (.int (0 : Int32)), .val (.int (-10 : Int32)), .val (.int (1 : Int32))] [])) (fun _ k => XS.icmpYes X0.here hx rfl (pc0 := 24) (pc' := 31) rfl (hb hby d_jdk_33_method_13_24) rfl (flt hc111).2.2.2 (by decide) (by decide) k) ?_
      refine Go.step (T' := s₁) (g' := (mkF m 33 #[.val (.int (-x0)), .val (.int (0 : Int32)), .val (.int (-10 : Int32)), .val (.int (1 : Int32))] [(.int (10 : Int32))])) (fun _ k => XS.bipush X0.here hx rfl (hb hby d_jdk_33_method_13_31) k) ?_
      refine Go.step (T' := s₁) (g' := (mkF m 34 #[.val (.int (-x0)), .val (.int (0 : Int32)), .val (.int (-10 : Int32)), .val (.int (1 : Int32))] [(.int (-10 : Int32)), (.int (10 : Int32))])) (fun _ k => XS.iloadN X0.here hx rfl (hb hby d_jdk_33_method_13_33) rfl  k) ?_
      refine Go.step (T' := s₁) (g' := (mkF m 35 #[.val (.int (-x0)), .val (.int (0 : Int32)), .val (.int (-10 : Int32)), .val (.int (1 : Int32))] [(.int ((10 : Int32) * (-10 : Int32)))])) (fun _ k => XS.imul X0.here hx rfl (hb hby d_jdk_33_method_13_34) rfl k) ?_
      rw [show ((10 : Int32) * (-10 : Int32)) = (-100 : Int32) from by decide]
      refine Go.step (T' := s₁) (g' := (mkF m 36 #[.val (.int (-x0)), .val (.int (0 : Int32)), .val (.int (-100 : Int32)), .val (.int (1 : Int32))] [])) (fun _ k => XS.istoreN X0.here hx rfl (hb hby d_jdk_33_method_13_35) rfl (l' := #[.val (.int (-x0)), .val (.int (0 : Int32)), .val (.int (-100 : Int32)), .val (.int (1 : Int32))]) rfl k) ?_
      refine Go.step (T' := s₁) (g' := (mkF m 39 #[.val (.int (-x0)), .val (.int (0 : Int32)), .val (.int (-100 : Int32)), .val (.int (2 : Int32))] [])) (fun _ k => XS.iinc X0.here hx rfl (hb hby d_jdk_33_method_13_36) rfl (l' := #[.val (.int (-x0)), .val (.int (0 : Int32)), .val (.int (-100 : Int32)), .val (.int (2 : Int32))]) rfl k) ?_
      refine Go.step (T' := s₁) (g' := (mkF m 16 #[.val (.int (-x0)), .val (.int (0 : Int32)), .val (.int (-100 : Int32)), .val (.int (2 : Int32))] [])) (fun _ k => XS.goto X0.here hx rfl (pc0 := 39) (pc' := 16) rfl (hb hby d_jdk_33_method_13_39) (by decide) (by decide) k) ?_
      refine Go.step (T' := s₁) (g' := (mkF m 17 #[.val (.int (-x0)), .val (.int (0 : Int32)), .val (.int (-100 : Int32)), .val (.int (2 : Int32))] [(.int (2 : Int32))])) (fun _ k => XS.iloadN X0.here hx rfl (hb hby d_jdk_33_method_13_16) rfl  k) ?_
      refine Go.step (T' := s₁) (g' := (mkF m 19 #[.val (.int (-x0)), .val (.int (0 : Int32)), .val (.int (-100 : Int32)), .val (.int (2 : Int32))] [(.int (10 : Int32)), (.int (2 : Int32))])) (fun _ k => XS.bipush X0.here hx rfl (hb hby d_jdk_33_method_13_17) k) ?_
      refine Go.step (T' := s₁) (g' := (mkF m 22 #[.val (.int (-x0)), .val (.int (0 : Int32)), .val (.int (-100 : Int32)), .val (.int (2 : Int32))] [])) (fun _ k => XS.icmpNo X0.here hx rfl (hb hby d_jdk_33_method_13_19) rfl (tlt (by decide : (2 : Int32) < (10 : Int32))).2.1 k) ?_
      refine Go.step (T' := s₁) (g' := (mkF m 23 #[.val (.int (-x0)), .val (.int (0 : Int32)), .val (.int (-100 : Int32)), .val (.int (2 : Int32))] [(.int (-x0))])) (fun _ k => XS.iloadN X0.here hx rfl (hb hby d_jdk_33_method_13_22) rfl  k) ?_
      refine Go.step (T' := s₁) (g' := (mkF m 24 #[.val (.int (-x0)), .val (.int (0 : Int32)), .val (.int (-100 : Int32)), .val (.int (2 : Int32))] [(.int (-100 : Int32)), (.int (-x0))])) (fun _ k => XS.iloadN X0.here hx rfl (hb hby d_jdk_33_method_13_23) rfl  k) ?_
      by_cases hc112 : (-100 : Int32) < (-x0)
      · skip
        refine Go.step (T' := s₁) (g' := (mkF m 27 #[.val (.int (-x0)), .val (.int (0 : Int32)), .val (.int (-100 : Int32)), .val (.int (2 : Int32))] [])) (fun _ k => XS.icmpNo X0.here hx rfl (hb hby d_jdk_33_method_13_24) rfl (tlt hc112).2.2.2 k) ?_
        refine Go.step (T' := s₁) (g' := (mkF m 28 #[.val (.int (-x0)), .val (.int (0 : Int32)), .val (.int (-100 : Int32)), .val (.int (2 : Int32))] [(.int (2 : Int32))])) (fun _ k => XS.iloadN X0.here hx rfl (hb hby d_jdk_33_method_13_27) rfl  k) ?_
        refine Go.step (T' := s₁) (g' := (mkF m 29 #[.val (.int (-x0)), .val (.int (0 : Int32)), .val (.int (-100 : Int32)), .val (.int (2 : Int32))] [(.int (0 : Int32)), (.int (2 : Int32))])) (fun _ k => XS.iloadN X0.here hx rfl (hb hby d_jdk_33_method_13_28) rfl  k) ?_
        refine Go.step (T' := s₁) (g' := (mkF m 30 #[.val (.int (-x0)), .val (.int (0 : Int32)), .val (.int (-100 : Int32)), .val (.int (2 : Int32))] [(.int (2 : Int32))])) (fun _ k => XS.iadd X0.here hx rfl (hb hby d_jdk_33_method_13_29) rfl k) ?_
        exact Go.retI X0 hx hret hlk (hb hby d_jdk_33_method_13_30) (⟨congrArg (fun z => some (Value.int z)) (own_ssE (own_nd2 (by have q : (-x0).toInt ≤ -10 := own_geZ hc111 rfl; have r := (own_Mpos hc101); omega) (by have q : -100 < (-x0).toInt := own_ltZ hc112 rfl; have r := (own_Mpos hc101); omega)) (own_sgF hc101)), N0, e0⟩) (by decide) (by decide)
      · skip
        refine Go.step (T' := s₁) (g' := (mkF m 31 #[.val (.int (-x0)), .val (.int (0 : Int32)), .val (.int (-100 : Int32)), .val (.int (2 : Int32))] [])) (fun _ k => XS.icmpYes X0.here hx rfl (pc0 := 24) (pc' := 31) rfl (hb hby d_jdk_33_method_13_24) rfl (flt hc112).2.2.2 (by decide) (by decide) k) ?_
        refine Go.step (T' := s₁) (g' := (mkF m 33 #[.val (.int (-x0)), .val (.int (0 : Int32)), .val (.int (-100 : Int32)), .val (.int (2 : Int32))] [(.int (10 : Int32))])) (fun _ k => XS.bipush X0.here hx rfl (hb hby d_jdk_33_method_13_31) k) ?_
        refine Go.step (T' := s₁) (g' := (mkF m 34 #[.val (.int (-x0)), .val (.int (0 : Int32)), .val (.int (-100 : Int32)), .val (.int (2 : Int32))] [(.int (-100 : Int32)), (.int (10 : Int32))])) (fun _ k => XS.iloadN X0.here hx rfl (hb hby d_jdk_33_method_13_33) rfl  k) ?_
        refine Go.step (T' := s₁) (g' := (mkF m 35 #[.val (.int (-x0)), .val (.int (0 : Int32)), .val (.int (-100 : Int32)), .val (.int (2 : Int32))] [(.int ((10 : Int32) * (-100 : Int32)))])) (fun _ k => XS.imul X0.here hx rfl (hb hby d_jdk_33_method_13_34) rfl k) ?_
        rw [show ((10 : Int32) * (-100 : Int32)) = (-1000 : Int32) from by decide]
        refine Go.step (T' := s₁) (g' := (mkF m 36 #[.val (.int (-x0)), .val (.int (0 : Int32)), .val (.int (-1000 : Int32)), .val (.int (2 : Int32))] [])) (fun _ k => XS.istoreN X0.here hx rfl (hb hby d_jdk_33_method_13_35) rfl (l' := #[.val (.int (-x0)), .val (.int (0 : Int32)), .val (.int (-1000 : Int32)), .val (.int (2 : Int32))]) rfl k) ?_
        refine Go.step (T' := s₁) (g' := (mkF m 39 #[.val (.int (-x0)), .val (.int (0 : Int32)), .val (.int (-1000 : Int32)), .val (.int (3 : Int32))] [])) (fun _ k => XS.iinc X0.here hx rfl (hb hby d_jdk_33_method_13_36) rfl (l' := #[.val (.int (-x0)), .val (.int (0 : Int32)), .val (.int (-1000 : Int32)), .val (.int (3 : Int32))]) rfl k) ?_
        refine Go.step (T' := s₁) (g' := (mkF m 16 #[.val (.int (-x0)), .val (.int (0 : Int32)), .val (.int (-1000 : Int32)), .val (.int (3 : Int32))] [])) (fun _ k => XS.goto X0.here hx rfl (pc0 := 39) (pc' := 16) rfl (hb hby d_jdk_33_method_13_39) (by decide) (by decide) k) ?_
        refine Go.step (T' := s₁) (g' := (mkF m 17 #[.val (.int (-x0)), .val (.int (0 : Int32)), .val (.int (-1000 : Int32)), .val (.int (3 : Int32))] [(.int (3 : Int32))])) (fun _ k => XS.iloadN X0.here hx rfl (hb hby d_jdk_33_method_13_16) rfl  k) ?_
        refine Go.step (T' := s₁) (g' := (mkF m 19 #[.val (.int (-x0)), .val (.int (0 : Int32)), .val (.int (-1000 : Int32)), .val (.int (3 : Int32))] [(.int (10 : Int32)), (.int (3 : Int32))])) (fun _ k => XS.bipush X0.here hx rfl (hb hby d_jdk_33_method_13_17) k) ?_
        refine Go.step (T' := s₁) (g' := (mkF m 22 #[.val (.int (-x0)), .val (.int (0 : Int32)), .val (.int (-1000 : Int32)), .val (.int (3 : Int32))] [])) (fun _ k => XS.icmpNo X0.here hx rfl (hb hby d_jdk_33_method_13_19) rfl (tlt (by decide : (3 : Int32) < (10 : Int32))).2.1 k) ?_
        refine Go.step (T' := s₁) (g' := (mkF m 23 #[.val (.int (-x0)), .val (.int (0 : Int32)), .val (.int (-1000 : Int32)), .val (.int (3 : Int32))] [(.int (-x0))])) (fun _ k => XS.iloadN X0.here hx rfl (hb hby d_jdk_33_method_13_22) rfl  k) ?_
        refine Go.step (T' := s₁) (g' := (mkF m 24 #[.val (.int (-x0)), .val (.int (0 : Int32)), .val (.int (-1000 : Int32)), .val (.int (3 : Int32))] [(.int (-1000 : Int32)), (.int (-x0))])) (fun _ k => XS.iloadN X0.here hx rfl (hb hby d_jdk_33_method_13_23) rfl  k) ?_
        by_cases hc113 : (-1000 : Int32) < (-x0)
        · skip
          refine Go.step (T' := s₁) (g' := (mkF m 27 #[.val (.int (-x0)), .val (.int (0 : Int32)), .val (.int (-1000 : Int32)), .val (.int (3 : Int32))] [])) (fun _ k => XS.icmpNo X0.here hx rfl (hb hby d_jdk_33_method_13_24) rfl (tlt hc113).2.2.2 k) ?_
          refine Go.step (T' := s₁) (g' := (mkF m 28 #[.val (.int (-x0)), .val (.int (0 : Int32)), .val (.int (-1000 : Int32)), .val (.int (3 : Int32))] [(.int (3 : Int32))])) (fun _ k => XS.iloadN X0.here hx rfl (hb hby d_jdk_33_method_13_27) rfl  k) ?_
          refine Go.step (T' := s₁) (g' := (mkF m 29 #[.val (.int (-x0)), .val (.int (0 : Int32)), .val (.int (-1000 : Int32)), .val (.int (3 : Int32))] [(.int (0 : Int32)), (.int (3 : Int32))])) (fun _ k => XS.iloadN X0.here hx rfl (hb hby d_jdk_33_method_13_28) rfl  k) ?_
          refine Go.step (T' := s₁) (g' := (mkF m 30 #[.val (.int (-x0)), .val (.int (0 : Int32)), .val (.int (-1000 : Int32)), .val (.int (3 : Int32))] [(.int (3 : Int32))])) (fun _ k => XS.iadd X0.here hx rfl (hb hby d_jdk_33_method_13_29) rfl k) ?_
          exact Go.retI X0 hx hret hlk (hb hby d_jdk_33_method_13_30) (⟨congrArg (fun z => some (Value.int z)) (own_ssE (own_nd3 (by have q : (-x0).toInt ≤ -100 := own_geZ hc112 rfl; have r := (own_Mpos hc101); omega) (by have q : -1000 < (-x0).toInt := own_ltZ hc113 rfl; have r := (own_Mpos hc101); omega)) (own_sgF hc101)), N0, e0⟩) (by decide) (by decide)
        · skip
          refine Go.step (T' := s₁) (g' := (mkF m 31 #[.val (.int (-x0)), .val (.int (0 : Int32)), .val (.int (-1000 : Int32)), .val (.int (3 : Int32))] [])) (fun _ k => XS.icmpYes X0.here hx rfl (pc0 := 24) (pc' := 31) rfl (hb hby d_jdk_33_method_13_24) rfl (flt hc113).2.2.2 (by decide) (by decide) k) ?_
          refine Go.step (T' := s₁) (g' := (mkF m 33 #[.val (.int (-x0)), .val (.int (0 : Int32)), .val (.int (-1000 : Int32)), .val (.int (3 : Int32))] [(.int (10 : Int32))])) (fun _ k => XS.bipush X0.here hx rfl (hb hby d_jdk_33_method_13_31) k) ?_
          refine Go.step (T' := s₁) (g' := (mkF m 34 #[.val (.int (-x0)), .val (.int (0 : Int32)), .val (.int (-1000 : Int32)), .val (.int (3 : Int32))] [(.int (-1000 : Int32)), (.int (10 : Int32))])) (fun _ k => XS.iloadN X0.here hx rfl (hb hby d_jdk_33_method_13_33) rfl  k) ?_
          refine Go.step (T' := s₁) (g' := (mkF m 35 #[.val (.int (-x0)), .val (.int (0 : Int32)), .val (.int (-1000 : Int32)), .val (.int (3 : Int32))] [(.int ((10 : Int32) * (-1000 : Int32)))])) (fun _ k => XS.imul X0.here hx rfl (hb hby d_jdk_33_method_13_34) rfl k) ?_
          rw [show ((10 : Int32) * (-1000 : Int32)) = (-10000 : Int32) from by decide]
          refine Go.step (T' := s₁) (g' := (mkF m 36 #[.val (.int (-x0)), .val (.int (0 : Int32)), .val (.int (-10000 : Int32)), .val (.int (3 : Int32))] [])) (fun _ k => XS.istoreN X0.here hx rfl (hb hby d_jdk_33_method_13_35) rfl (l' := #[.val (.int (-x0)), .val (.int (0 : Int32)), .val (.int (-10000 : Int32)), .val (.int (3 : Int32))]) rfl k) ?_
          refine Go.step (T' := s₁) (g' := (mkF m 39 #[.val (.int (-x0)), .val (.int (0 : Int32)), .val (.int (-10000 : Int32)), .val (.int (4 : Int32))] [])) (fun _ k => XS.iinc X0.here hx rfl (hb hby d_jdk_33_method_13_36) rfl (l' := #[.val (.int (-x0)), .val (.int (0 : Int32)), .val (.int (-10000 : Int32)), .val (.int (4 : Int32))]) rfl k) ?_
          refine Go.step (T' := s₁) (g' := (mkF m 16 #[.val (.int (-x0)), .val (.int (0 : Int32)), .val (.int (-10000 : Int32)), .val (.int (4 : Int32))] [])) (fun _ k => XS.goto X0.here hx rfl (pc0 := 39) (pc' := 16) rfl (hb hby d_jdk_33_method_13_39) (by decide) (by decide) k) ?_
          refine Go.step (T' := s₁) (g' := (mkF m 17 #[.val (.int (-x0)), .val (.int (0 : Int32)), .val (.int (-10000 : Int32)), .val (.int (4 : Int32))] [(.int (4 : Int32))])) (fun _ k => XS.iloadN X0.here hx rfl (hb hby d_jdk_33_method_13_16) rfl  k) ?_
          refine Go.step (T' := s₁) (g' := (mkF m 19 #[.val (.int (-x0)), .val (.int (0 : Int32)), .val (.int (-10000 : Int32)), .val (.int (4 : Int32))] [(.int (10 : Int32)), (.int (4 : Int32))])) (fun _ k => XS.bipush X0.here hx rfl (hb hby d_jdk_33_method_13_17) k) ?_
          refine Go.step (T' := s₁) (g' := (mkF m 22 #[.val (.int (-x0)), .val (.int (0 : Int32)), .val (.int (-10000 : Int32)), .val (.int (4 : Int32))] [])) (fun _ k => XS.icmpNo X0.here hx rfl (hb hby d_jdk_33_method_13_19) rfl (tlt (by decide : (4 : Int32) < (10 : Int32))).2.1 k) ?_
          refine Go.step (T' := s₁) (g' := (mkF m 23 #[.val (.int (-x0)), .val (.int (0 : Int32)), .val (.int (-10000 : Int32)), .val (.int (4 : Int32))] [(.int (-x0))])) (fun _ k => XS.iloadN X0.here hx rfl (hb hby d_jdk_33_method_13_22) rfl  k) ?_
          refine Go.step (T' := s₁) (g' := (mkF m 24 #[.val (.int (-x0)), .val (.int (0 : Int32)), .val (.int (-10000 : Int32)), .val (.int (4 : Int32))] [(.int (-10000 : Int32)), (.int (-x0))])) (fun _ k => XS.iloadN X0.here hx rfl (hb hby d_jdk_33_method_13_23) rfl  k) ?_
          by_cases hc114 : (-10000 : Int32) < (-x0)
          · skip
            refine Go.step (T' := s₁) (g' := (mkF m 27 #[.val (.int (-x0)), .val (.int (0 : Int32)), .val (.int (-10000 : Int32)), .val (.int (4 : Int32))] [])) (fun _ k => XS.icmpNo X0.here hx rfl (hb hby d_jdk_33_method_13_24) rfl (tlt hc114).2.2.2 k) ?_
            refine Go.step (T' := s₁) (g' := (mkF m 28 #[.val (.int (-x0)), .val (.int (0 : Int32)), .val (.int (-10000 : Int32)), .val (.int (4 : Int32))] [(.int (4 : Int32))])) (fun _ k => XS.iloadN X0.here hx rfl (hb hby d_jdk_33_method_13_27) rfl  k) ?_
            refine Go.step (T' := s₁) (g' := (mkF m 29 #[.val (.int (-x0)), .val (.int (0 : Int32)), .val (.int (-10000 : Int32)), .val (.int (4 : Int32))] [(.int (0 : Int32)), (.int (4 : Int32))])) (fun _ k => XS.iloadN X0.here hx rfl (hb hby d_jdk_33_method_13_28) rfl  k) ?_
            refine Go.step (T' := s₁) (g' := (mkF m 30 #[.val (.int (-x0)), .val (.int (0 : Int32)), .val (.int (-10000 : Int32)), .val (.int (4 : Int32))] [(.int (4 : Int32))])) (fun _ k => XS.iadd X0.here hx rfl (hb hby d_jdk_33_method_13_29) rfl k) ?_
            exact Go.retI X0 hx hret hlk (hb hby d_jdk_33_method_13_30) (⟨congrArg (fun z => some (Value.int z)) (own_ssE (own_nd4 (by have q : (-x0).toInt ≤ -1000 := own_geZ hc113 rfl; have r := (own_Mpos hc101); omega) (by have q : -10000 < (-x0).toInt := own_ltZ hc114 rfl; have r := (own_Mpos hc101); omega)) (own_sgF hc101)), N0, e0⟩) (by decide) (by decide)
          · skip
            refine Go.step (T' := s₁) (g' := (mkF m 31 #[.val (.int (-x0)), .val (.int (0 : Int32)), .val (.int (-10000 : Int32)), .val (.int (4 : Int32))] [])) (fun _ k => XS.icmpYes X0.here hx rfl (pc0 := 24) (pc' := 31) rfl (hb hby d_jdk_33_method_13_24) rfl (flt hc114).2.2.2 (by decide) (by decide) k) ?_
            refine Go.step (T' := s₁) (g' := (mkF m 33 #[.val (.int (-x0)), .val (.int (0 : Int32)), .val (.int (-10000 : Int32)), .val (.int (4 : Int32))] [(.int (10 : Int32))])) (fun _ k => XS.bipush X0.here hx rfl (hb hby d_jdk_33_method_13_31) k) ?_
            refine Go.step (T' := s₁) (g' := (mkF m 34 #[.val (.int (-x0)), .val (.int (0 : Int32)), .val (.int (-10000 : Int32)), .val (.int (4 : Int32))] [(.int (-10000 : Int32)), (.int (10 : Int32))])) (fun _ k => XS.iloadN X0.here hx rfl (hb hby d_jdk_33_method_13_33) rfl  k) ?_
            refine Go.step (T' := s₁) (g' := (mkF m 35 #[.val (.int (-x0)), .val (.int (0 : Int32)), .val (.int (-10000 : Int32)), .val (.int (4 : Int32))] [(.int ((10 : Int32) * (-10000 : Int32)))])) (fun _ k => XS.imul X0.here hx rfl (hb hby d_jdk_33_method_13_34) rfl k) ?_
            rw [show ((10 : Int32) * (-10000 : Int32)) = (-100000 : Int32) from by decide]
            refine Go.step (T' := s₁) (g' := (mkF m 36 #[.val (.int (-x0)), .val (.int (0 : Int32)), .val (.int (-100000 : Int32)), .val (.int (4 : Int32))] [])) (fun _ k => XS.istoreN X0.here hx rfl (hb hby d_jdk_33_method_13_35) rfl (l' := #[.val (.int (-x0)), .val (.int (0 : Int32)), .val (.int (-100000 : Int32)), .val (.int (4 : Int32))]) rfl k) ?_
            refine Go.step (T' := s₁) (g' := (mkF m 39 #[.val (.int (-x0)), .val (.int (0 : Int32)), .val (.int (-100000 : Int32)), .val (.int (5 : Int32))] [])) (fun _ k => XS.iinc X0.here hx rfl (hb hby d_jdk_33_method_13_36) rfl (l' := #[.val (.int (-x0)), .val (.int (0 : Int32)), .val (.int (-100000 : Int32)), .val (.int (5 : Int32))]) rfl k) ?_
            refine Go.step (T' := s₁) (g' := (mkF m 16 #[.val (.int (-x0)), .val (.int (0 : Int32)), .val (.int (-100000 : Int32)), .val (.int (5 : Int32))] [])) (fun _ k => XS.goto X0.here hx rfl (pc0 := 39) (pc' := 16) rfl (hb hby d_jdk_33_method_13_39) (by decide) (by decide) k) ?_
            refine Go.step (T' := s₁) (g' := (mkF m 17 #[.val (.int (-x0)), .val (.int (0 : Int32)), .val (.int (-100000 : Int32)), .val (.int (5 : Int32))] [(.int (5 : Int32))])) (fun _ k => XS.iloadN X0.here hx rfl (hb hby d_jdk_33_method_13_16) rfl  k) ?_
            refine Go.step (T' := s₁) (g' := (mkF m 19 #[.val (.int (-x0)), .val (.int (0 : Int32)), .val (.int (-100000 : Int32)), .val (.int (5 : Int32))] [(.int (10 : Int32)), (.int (5 : Int32))])) (fun _ k => XS.bipush X0.here hx rfl (hb hby d_jdk_33_method_13_17) k) ?_
            refine Go.step (T' := s₁) (g' := (mkF m 22 #[.val (.int (-x0)), .val (.int (0 : Int32)), .val (.int (-100000 : Int32)), .val (.int (5 : Int32))] [])) (fun _ k => XS.icmpNo X0.here hx rfl (hb hby d_jdk_33_method_13_19) rfl (tlt (by decide : (5 : Int32) < (10 : Int32))).2.1 k) ?_
            refine Go.step (T' := s₁) (g' := (mkF m 23 #[.val (.int (-x0)), .val (.int (0 : Int32)), .val (.int (-100000 : Int32)), .val (.int (5 : Int32))] [(.int (-x0))])) (fun _ k => XS.iloadN X0.here hx rfl (hb hby d_jdk_33_method_13_22) rfl  k) ?_
            refine Go.step (T' := s₁) (g' := (mkF m 24 #[.val (.int (-x0)), .val (.int (0 : Int32)), .val (.int (-100000 : Int32)), .val (.int (5 : Int32))] [(.int (-100000 : Int32)), (.int (-x0))])) (fun _ k => XS.iloadN X0.here hx rfl (hb hby d_jdk_33_method_13_23) rfl  k) ?_
            by_cases hc115 : (-100000 : Int32) < (-x0)
            · skip
              refine Go.step (T' := s₁) (g' := (mkF m 27 #[.val (.int (-x0)), .val (.int (0 : Int32)), .val (.int (-100000 : Int32)), .val (.int (5 : Int32))] [])) (fun _ k => XS.icmpNo X0.here hx rfl (hb hby d_jdk_33_method_13_24) rfl (tlt hc115).2.2.2 k) ?_
              refine Go.step (T' := s₁) (g' := (mkF m 28 #[.val (.int (-x0)), .val (.int (0 : Int32)), .val (.int (-100000 : Int32)), .val (.int (5 : Int32))] [(.int (5 : Int32))])) (fun _ k => XS.iloadN X0.here hx rfl (hb hby d_jdk_33_method_13_27) rfl  k) ?_
              refine Go.step (T' := s₁) (g' := (mkF m 29 #[.val (.int (-x0)), .val (.int (0 : Int32)), .val (.int (-100000 : Int32)), .val (.int (5 : Int32))] [(.int (0 : Int32)), (.int (5 : Int32))])) (fun _ k => XS.iloadN X0.here hx rfl (hb hby d_jdk_33_method_13_28) rfl  k) ?_
              refine Go.step (T' := s₁) (g' := (mkF m 30 #[.val (.int (-x0)), .val (.int (0 : Int32)), .val (.int (-100000 : Int32)), .val (.int (5 : Int32))] [(.int (5 : Int32))])) (fun _ k => XS.iadd X0.here hx rfl (hb hby d_jdk_33_method_13_29) rfl k) ?_
              exact Go.retI X0 hx hret hlk (hb hby d_jdk_33_method_13_30) (⟨congrArg (fun z => some (Value.int z)) (own_ssE (own_nd5 (by have q : (-x0).toInt ≤ -10000 := own_geZ hc114 rfl; have r := (own_Mpos hc101); omega) (by have q : -100000 < (-x0).toInt := own_ltZ hc115 rfl; have r := (own_Mpos hc101); omega)) (own_sgF hc101)), N0, e0⟩) (by decide) (by decide)
            · skip
              refine Go.step (T' := s₁) (g' := (mkF m 31 #[.val (.int (-x0)), .val (.int (0 : Int32)), .val (.int (-100000 : Int32)), .val (.int (5 : Int32))] [])) (fun _ k => XS.icmpYes X0.here hx rfl (pc0 := 24) (pc' := 31) rfl (hb hby d_jdk_33_method_13_24) rfl (flt hc115).2.2.2 (by decide) (by decide) k) ?_
              refine Go.step (T' := s₁) (g' := (mkF m 33 #[.val (.int (-x0)), .val (.int (0 : Int32)), .val (.int (-100000 : Int32)), .val (.int (5 : Int32))] [(.int (10 : Int32))])) (fun _ k => XS.bipush X0.here hx rfl (hb hby d_jdk_33_method_13_31) k) ?_
              refine Go.step (T' := s₁) (g' := (mkF m 34 #[.val (.int (-x0)), .val (.int (0 : Int32)), .val (.int (-100000 : Int32)), .val (.int (5 : Int32))] [(.int (-100000 : Int32)), (.int (10 : Int32))])) (fun _ k => XS.iloadN X0.here hx rfl (hb hby d_jdk_33_method_13_33) rfl  k) ?_
              refine Go.step (T' := s₁) (g' := (mkF m 35 #[.val (.int (-x0)), .val (.int (0 : Int32)), .val (.int (-100000 : Int32)), .val (.int (5 : Int32))] [(.int ((10 : Int32) * (-100000 : Int32)))])) (fun _ k => XS.imul X0.here hx rfl (hb hby d_jdk_33_method_13_34) rfl k) ?_
              rw [show ((10 : Int32) * (-100000 : Int32)) = (-1000000 : Int32) from by decide]
              refine Go.step (T' := s₁) (g' := (mkF m 36 #[.val (.int (-x0)), .val (.int (0 : Int32)), .val (.int (-1000000 : Int32)), .val (.int (5 : Int32))] [])) (fun _ k => XS.istoreN X0.here hx rfl (hb hby d_jdk_33_method_13_35) rfl (l' := #[.val (.int (-x0)), .val (.int (0 : Int32)), .val (.int (-1000000 : Int32)), .val (.int (5 : Int32))]) rfl k) ?_
              refine Go.step (T' := s₁) (g' := (mkF m 39 #[.val (.int (-x0)), .val (.int (0 : Int32)), .val (.int (-1000000 : Int32)), .val (.int (6 : Int32))] [])) (fun _ k => XS.iinc X0.here hx rfl (hb hby d_jdk_33_method_13_36) rfl (l' := #[.val (.int (-x0)), .val (.int (0 : Int32)), .val (.int (-1000000 : Int32)), .val (.int (6 : Int32))]) rfl k) ?_
              refine Go.step (T' := s₁) (g' := (mkF m 16 #[.val (.int (-x0)), .val (.int (0 : Int32)), .val (.int (-1000000 : Int32)), .val (.int (6 : Int32))] [])) (fun _ k => XS.goto X0.here hx rfl (pc0 := 39) (pc' := 16) rfl (hb hby d_jdk_33_method_13_39) (by decide) (by decide) k) ?_
              refine Go.step (T' := s₁) (g' := (mkF m 17 #[.val (.int (-x0)), .val (.int (0 : Int32)), .val (.int (-1000000 : Int32)), .val (.int (6 : Int32))] [(.int (6 : Int32))])) (fun _ k => XS.iloadN X0.here hx rfl (hb hby d_jdk_33_method_13_16) rfl  k) ?_
              refine Go.step (T' := s₁) (g' := (mkF m 19 #[.val (.int (-x0)), .val (.int (0 : Int32)), .val (.int (-1000000 : Int32)), .val (.int (6 : Int32))] [(.int (10 : Int32)), (.int (6 : Int32))])) (fun _ k => XS.bipush X0.here hx rfl (hb hby d_jdk_33_method_13_17) k) ?_
              refine Go.step (T' := s₁) (g' := (mkF m 22 #[.val (.int (-x0)), .val (.int (0 : Int32)), .val (.int (-1000000 : Int32)), .val (.int (6 : Int32))] [])) (fun _ k => XS.icmpNo X0.here hx rfl (hb hby d_jdk_33_method_13_19) rfl (tlt (by decide : (6 : Int32) < (10 : Int32))).2.1 k) ?_
              refine Go.step (T' := s₁) (g' := (mkF m 23 #[.val (.int (-x0)), .val (.int (0 : Int32)), .val (.int (-1000000 : Int32)), .val (.int (6 : Int32))] [(.int (-x0))])) (fun _ k => XS.iloadN X0.here hx rfl (hb hby d_jdk_33_method_13_22) rfl  k) ?_
              refine Go.step (T' := s₁) (g' := (mkF m 24 #[.val (.int (-x0)), .val (.int (0 : Int32)), .val (.int (-1000000 : Int32)), .val (.int (6 : Int32))] [(.int (-1000000 : Int32)), (.int (-x0))])) (fun _ k => XS.iloadN X0.here hx rfl (hb hby d_jdk_33_method_13_23) rfl  k) ?_
              by_cases hc116 : (-1000000 : Int32) < (-x0)
              · skip
                refine Go.step (T' := s₁) (g' := (mkF m 27 #[.val (.int (-x0)), .val (.int (0 : Int32)), .val (.int (-1000000 : Int32)), .val (.int (6 : Int32))] [])) (fun _ k => XS.icmpNo X0.here hx rfl (hb hby d_jdk_33_method_13_24) rfl (tlt hc116).2.2.2 k) ?_
                refine Go.step (T' := s₁) (g' := (mkF m 28 #[.val (.int (-x0)), .val (.int (0 : Int32)), .val (.int (-1000000 : Int32)), .val (.int (6 : Int32))] [(.int (6 : Int32))])) (fun _ k => XS.iloadN X0.here hx rfl (hb hby d_jdk_33_method_13_27) rfl  k) ?_
                refine Go.step (T' := s₁) (g' := (mkF m 29 #[.val (.int (-x0)), .val (.int (0 : Int32)), .val (.int (-1000000 : Int32)), .val (.int (6 : Int32))] [(.int (0 : Int32)), (.int (6 : Int32))])) (fun _ k => XS.iloadN X0.here hx rfl (hb hby d_jdk_33_method_13_28) rfl  k) ?_
                refine Go.step (T' := s₁) (g' := (mkF m 30 #[.val (.int (-x0)), .val (.int (0 : Int32)), .val (.int (-1000000 : Int32)), .val (.int (6 : Int32))] [(.int (6 : Int32))])) (fun _ k => XS.iadd X0.here hx rfl (hb hby d_jdk_33_method_13_29) rfl k) ?_
                exact Go.retI X0 hx hret hlk (hb hby d_jdk_33_method_13_30) (⟨congrArg (fun z => some (Value.int z)) (own_ssE (own_nd6 (by have q : (-x0).toInt ≤ -100000 := own_geZ hc115 rfl; have r := (own_Mpos hc101); omega) (by have q : -1000000 < (-x0).toInt := own_ltZ hc116 rfl; have r := (own_Mpos hc101); omega)) (own_sgF hc101)), N0, e0⟩) (by decide) (by decide)
              · skip
                refine Go.step (T' := s₁) (g' := (mkF m 31 #[.val (.int (-x0)), .val (.int (0 : Int32)), .val (.int (-1000000 : Int32)), .val (.int (6 : Int32))] [])) (fun _ k => XS.icmpYes X0.here hx rfl (pc0 := 24) (pc' := 31) rfl (hb hby d_jdk_33_method_13_24) rfl (flt hc116).2.2.2 (by decide) (by decide) k) ?_
                refine Go.step (T' := s₁) (g' := (mkF m 33 #[.val (.int (-x0)), .val (.int (0 : Int32)), .val (.int (-1000000 : Int32)), .val (.int (6 : Int32))] [(.int (10 : Int32))])) (fun _ k => XS.bipush X0.here hx rfl (hb hby d_jdk_33_method_13_31) k) ?_
                refine Go.step (T' := s₁) (g' := (mkF m 34 #[.val (.int (-x0)), .val (.int (0 : Int32)), .val (.int (-1000000 : Int32)), .val (.int (6 : Int32))] [(.int (-1000000 : Int32)), (.int (10 : Int32))])) (fun _ k => XS.iloadN X0.here hx rfl (hb hby d_jdk_33_method_13_33) rfl  k) ?_
                refine Go.step (T' := s₁) (g' := (mkF m 35 #[.val (.int (-x0)), .val (.int (0 : Int32)), .val (.int (-1000000 : Int32)), .val (.int (6 : Int32))] [(.int ((10 : Int32) * (-1000000 : Int32)))])) (fun _ k => XS.imul X0.here hx rfl (hb hby d_jdk_33_method_13_34) rfl k) ?_
                rw [show ((10 : Int32) * (-1000000 : Int32)) = (-10000000 : Int32) from by decide]
                refine Go.step (T' := s₁) (g' := (mkF m 36 #[.val (.int (-x0)), .val (.int (0 : Int32)), .val (.int (-10000000 : Int32)), .val (.int (6 : Int32))] [])) (fun _ k => XS.istoreN X0.here hx rfl (hb hby d_jdk_33_method_13_35) rfl (l' := #[.val (.int (-x0)), .val (.int (0 : Int32)), .val (.int (-10000000 : Int32)), .val (.int (6 : Int32))]) rfl k) ?_
                refine Go.step (T' := s₁) (g' := (mkF m 39 #[.val (.int (-x0)), .val (.int (0 : Int32)), .val (.int (-10000000 : Int32)), .val (.int (7 : Int32))] [])) (fun _ k => XS.iinc X0.here hx rfl (hb hby d_jdk_33_method_13_36) rfl (l' := #[.val (.int (-x0)), .val (.int (0 : Int32)), .val (.int (-10000000 : Int32)), .val (.int (7 : Int32))]) rfl k) ?_
                refine Go.step (T' := s₁) (g' := (mkF m 16 #[.val (.int (-x0)), .val (.int (0 : Int32)), .val (.int (-10000000 : Int32)), .val (.int (7 : Int32))] [])) (fun _ k => XS.goto X0.here hx rfl (pc0 := 39) (pc' := 16) rfl (hb hby d_jdk_33_method_13_39) (by decide) (by decide) k) ?_
                refine Go.step (T' := s₁) (g' := (mkF m 17 #[.val (.int (-x0)), .val (.int (0 : Int32)), .val (.int (-10000000 : Int32)), .val (.int (7 : Int32))] [(.int (7 : Int32))])) (fun _ k => XS.iloadN X0.here hx rfl (hb hby d_jdk_33_method_13_16) rfl  k) ?_
                refine Go.step (T' := s₁) (g' := (mkF m 19 #[.val (.int (-x0)), .val (.int (0 : Int32)), .val (.int (-10000000 : Int32)), .val (.int (7 : Int32))] [(.int (10 : Int32)), (.int (7 : Int32))])) (fun _ k => XS.bipush X0.here hx rfl (hb hby d_jdk_33_method_13_17) k) ?_
                refine Go.step (T' := s₁) (g' := (mkF m 22 #[.val (.int (-x0)), .val (.int (0 : Int32)), .val (.int (-10000000 : Int32)), .val (.int (7 : Int32))] [])) (fun _ k => XS.icmpNo X0.here hx rfl (hb hby d_jdk_33_method_13_19) rfl (tlt (by decide : (7 : Int32) < (10 : Int32))).2.1 k) ?_
                refine Go.step (T' := s₁) (g' := (mkF m 23 #[.val (.int (-x0)), .val (.int (0 : Int32)), .val (.int (-10000000 : Int32)), .val (.int (7 : Int32))] [(.int (-x0))])) (fun _ k => XS.iloadN X0.here hx rfl (hb hby d_jdk_33_method_13_22) rfl  k) ?_
                refine Go.step (T' := s₁) (g' := (mkF m 24 #[.val (.int (-x0)), .val (.int (0 : Int32)), .val (.int (-10000000 : Int32)), .val (.int (7 : Int32))] [(.int (-10000000 : Int32)), (.int (-x0))])) (fun _ k => XS.iloadN X0.here hx rfl (hb hby d_jdk_33_method_13_23) rfl  k) ?_
                by_cases hc117 : (-10000000 : Int32) < (-x0)
                · skip
                  refine Go.step (T' := s₁) (g' := (mkF m 27 #[.val (.int (-x0)), .val (.int (0 : Int32)), .val (.int (-10000000 : Int32)), .val (.int (7 : Int32))] [])) (fun _ k => XS.icmpNo X0.here hx rfl (hb hby d_jdk_33_method_13_24) rfl (tlt hc117).2.2.2 k) ?_
                  refine Go.step (T' := s₁) (g' := (mkF m 28 #[.val (.int (-x0)), .val (.int (0 : Int32)), .val (.int (-10000000 : Int32)), .val (.int (7 : Int32))] [(.int (7 : Int32))])) (fun _ k => XS.iloadN X0.here hx rfl (hb hby d_jdk_33_method_13_27) rfl  k) ?_
                  refine Go.step (T' := s₁) (g' := (mkF m 29 #[.val (.int (-x0)), .val (.int (0 : Int32)), .val (.int (-10000000 : Int32)), .val (.int (7 : Int32))] [(.int (0 : Int32)), (.int (7 : Int32))])) (fun _ k => XS.iloadN X0.here hx rfl (hb hby d_jdk_33_method_13_28) rfl  k) ?_
                  refine Go.step (T' := s₁) (g' := (mkF m 30 #[.val (.int (-x0)), .val (.int (0 : Int32)), .val (.int (-10000000 : Int32)), .val (.int (7 : Int32))] [(.int (7 : Int32))])) (fun _ k => XS.iadd X0.here hx rfl (hb hby d_jdk_33_method_13_29) rfl k) ?_
                  exact Go.retI X0 hx hret hlk (hb hby d_jdk_33_method_13_30) (⟨congrArg (fun z => some (Value.int z)) (own_ssE (own_nd7 (by have q : (-x0).toInt ≤ -1000000 := own_geZ hc116 rfl; have r := (own_Mpos hc101); omega) (by have q : -10000000 < (-x0).toInt := own_ltZ hc117 rfl; have r := (own_Mpos hc101); omega)) (own_sgF hc101)), N0, e0⟩) (by decide) (by decide)
                · skip
                  refine Go.step (T' := s₁) (g' := (mkF m 31 #[.val (.int (-x0)), .val (.int (0 : Int32)), .val (.int (-10000000 : Int32)), .val (.int (7 : Int32))] [])) (fun _ k => XS.icmpYes X0.here hx rfl (pc0 := 24) (pc' := 31) rfl (hb hby d_jdk_33_method_13_24) rfl (flt hc117).2.2.2 (by decide) (by decide) k) ?_
                  refine Go.step (T' := s₁) (g' := (mkF m 33 #[.val (.int (-x0)), .val (.int (0 : Int32)), .val (.int (-10000000 : Int32)), .val (.int (7 : Int32))] [(.int (10 : Int32))])) (fun _ k => XS.bipush X0.here hx rfl (hb hby d_jdk_33_method_13_31) k) ?_
                  refine Go.step (T' := s₁) (g' := (mkF m 34 #[.val (.int (-x0)), .val (.int (0 : Int32)), .val (.int (-10000000 : Int32)), .val (.int (7 : Int32))] [(.int (-10000000 : Int32)), (.int (10 : Int32))])) (fun _ k => XS.iloadN X0.here hx rfl (hb hby d_jdk_33_method_13_33) rfl  k) ?_
                  refine Go.step (T' := s₁) (g' := (mkF m 35 #[.val (.int (-x0)), .val (.int (0 : Int32)), .val (.int (-10000000 : Int32)), .val (.int (7 : Int32))] [(.int ((10 : Int32) * (-10000000 : Int32)))])) (fun _ k => XS.imul X0.here hx rfl (hb hby d_jdk_33_method_13_34) rfl k) ?_
                  rw [show ((10 : Int32) * (-10000000 : Int32)) = (-100000000 : Int32) from by decide]
                  refine Go.step (T' := s₁) (g' := (mkF m 36 #[.val (.int (-x0)), .val (.int (0 : Int32)), .val (.int (-100000000 : Int32)), .val (.int (7 : Int32))] [])) (fun _ k => XS.istoreN X0.here hx rfl (hb hby d_jdk_33_method_13_35) rfl (l' := #[.val (.int (-x0)), .val (.int (0 : Int32)), .val (.int (-100000000 : Int32)), .val (.int (7 : Int32))]) rfl k) ?_
                  refine Go.step (T' := s₁) (g' := (mkF m 39 #[.val (.int (-x0)), .val (.int (0 : Int32)), .val (.int (-100000000 : Int32)), .val (.int (8 : Int32))] [])) (fun _ k => XS.iinc X0.here hx rfl (hb hby d_jdk_33_method_13_36) rfl (l' := #[.val (.int (-x0)), .val (.int (0 : Int32)), .val (.int (-100000000 : Int32)), .val (.int (8 : Int32))]) rfl k) ?_
                  refine Go.step (T' := s₁) (g' := (mkF m 16 #[.val (.int (-x0)), .val (.int (0 : Int32)), .val (.int (-100000000 : Int32)), .val (.int (8 : Int32))] [])) (fun _ k => XS.goto X0.here hx rfl (pc0 := 39) (pc' := 16) rfl (hb hby d_jdk_33_method_13_39) (by decide) (by decide) k) ?_
                  refine Go.step (T' := s₁) (g' := (mkF m 17 #[.val (.int (-x0)), .val (.int (0 : Int32)), .val (.int (-100000000 : Int32)), .val (.int (8 : Int32))] [(.int (8 : Int32))])) (fun _ k => XS.iloadN X0.here hx rfl (hb hby d_jdk_33_method_13_16) rfl  k) ?_
                  refine Go.step (T' := s₁) (g' := (mkF m 19 #[.val (.int (-x0)), .val (.int (0 : Int32)), .val (.int (-100000000 : Int32)), .val (.int (8 : Int32))] [(.int (10 : Int32)), (.int (8 : Int32))])) (fun _ k => XS.bipush X0.here hx rfl (hb hby d_jdk_33_method_13_17) k) ?_
                  refine Go.step (T' := s₁) (g' := (mkF m 22 #[.val (.int (-x0)), .val (.int (0 : Int32)), .val (.int (-100000000 : Int32)), .val (.int (8 : Int32))] [])) (fun _ k => XS.icmpNo X0.here hx rfl (hb hby d_jdk_33_method_13_19) rfl (tlt (by decide : (8 : Int32) < (10 : Int32))).2.1 k) ?_
                  refine Go.step (T' := s₁) (g' := (mkF m 23 #[.val (.int (-x0)), .val (.int (0 : Int32)), .val (.int (-100000000 : Int32)), .val (.int (8 : Int32))] [(.int (-x0))])) (fun _ k => XS.iloadN X0.here hx rfl (hb hby d_jdk_33_method_13_22) rfl  k) ?_
                  refine Go.step (T' := s₁) (g' := (mkF m 24 #[.val (.int (-x0)), .val (.int (0 : Int32)), .val (.int (-100000000 : Int32)), .val (.int (8 : Int32))] [(.int (-100000000 : Int32)), (.int (-x0))])) (fun _ k => XS.iloadN X0.here hx rfl (hb hby d_jdk_33_method_13_23) rfl  k) ?_
                  by_cases hc118 : (-100000000 : Int32) < (-x0)
                  · skip
                    refine Go.step (T' := s₁) (g' := (mkF m 27 #[.val (.int (-x0)), .val (.int (0 : Int32)), .val (.int (-100000000 : Int32)), .val (.int (8 : Int32))] [])) (fun _ k => XS.icmpNo X0.here hx rfl (hb hby d_jdk_33_method_13_24) rfl (tlt hc118).2.2.2 k) ?_
                    refine Go.step (T' := s₁) (g' := (mkF m 28 #[.val (.int (-x0)), .val (.int (0 : Int32)), .val (.int (-100000000 : Int32)), .val (.int (8 : Int32))] [(.int (8 : Int32))])) (fun _ k => XS.iloadN X0.here hx rfl (hb hby d_jdk_33_method_13_27) rfl  k) ?_
                    refine Go.step (T' := s₁) (g' := (mkF m 29 #[.val (.int (-x0)), .val (.int (0 : Int32)), .val (.int (-100000000 : Int32)), .val (.int (8 : Int32))] [(.int (0 : Int32)), (.int (8 : Int32))])) (fun _ k => XS.iloadN X0.here hx rfl (hb hby d_jdk_33_method_13_28) rfl  k) ?_
                    refine Go.step (T' := s₁) (g' := (mkF m 30 #[.val (.int (-x0)), .val (.int (0 : Int32)), .val (.int (-100000000 : Int32)), .val (.int (8 : Int32))] [(.int (8 : Int32))])) (fun _ k => XS.iadd X0.here hx rfl (hb hby d_jdk_33_method_13_29) rfl k) ?_
                    exact Go.retI X0 hx hret hlk (hb hby d_jdk_33_method_13_30) (⟨congrArg (fun z => some (Value.int z)) (own_ssE (own_nd8 (by have q : (-x0).toInt ≤ -10000000 := own_geZ hc117 rfl; have r := (own_Mpos hc101); omega) (by have q : -100000000 < (-x0).toInt := own_ltZ hc118 rfl; have r := (own_Mpos hc101); omega)) (own_sgF hc101)), N0, e0⟩) (by decide) (by decide)
                  · skip
                    refine Go.step (T' := s₁) (g' := (mkF m 31 #[.val (.int (-x0)), .val (.int (0 : Int32)), .val (.int (-100000000 : Int32)), .val (.int (8 : Int32))] [])) (fun _ k => XS.icmpYes X0.here hx rfl (pc0 := 24) (pc' := 31) rfl (hb hby d_jdk_33_method_13_24) rfl (flt hc118).2.2.2 (by decide) (by decide) k) ?_
                    refine Go.step (T' := s₁) (g' := (mkF m 33 #[.val (.int (-x0)), .val (.int (0 : Int32)), .val (.int (-100000000 : Int32)), .val (.int (8 : Int32))] [(.int (10 : Int32))])) (fun _ k => XS.bipush X0.here hx rfl (hb hby d_jdk_33_method_13_31) k) ?_
                    refine Go.step (T' := s₁) (g' := (mkF m 34 #[.val (.int (-x0)), .val (.int (0 : Int32)), .val (.int (-100000000 : Int32)), .val (.int (8 : Int32))] [(.int (-100000000 : Int32)), (.int (10 : Int32))])) (fun _ k => XS.iloadN X0.here hx rfl (hb hby d_jdk_33_method_13_33) rfl  k) ?_
                    refine Go.step (T' := s₁) (g' := (mkF m 35 #[.val (.int (-x0)), .val (.int (0 : Int32)), .val (.int (-100000000 : Int32)), .val (.int (8 : Int32))] [(.int ((10 : Int32) * (-100000000 : Int32)))])) (fun _ k => XS.imul X0.here hx rfl (hb hby d_jdk_33_method_13_34) rfl k) ?_
                    rw [show ((10 : Int32) * (-100000000 : Int32)) = (-1000000000 : Int32) from by decide]
                    refine Go.step (T' := s₁) (g' := (mkF m 36 #[.val (.int (-x0)), .val (.int (0 : Int32)), .val (.int (-1000000000 : Int32)), .val (.int (8 : Int32))] [])) (fun _ k => XS.istoreN X0.here hx rfl (hb hby d_jdk_33_method_13_35) rfl (l' := #[.val (.int (-x0)), .val (.int (0 : Int32)), .val (.int (-1000000000 : Int32)), .val (.int (8 : Int32))]) rfl k) ?_
                    refine Go.step (T' := s₁) (g' := (mkF m 39 #[.val (.int (-x0)), .val (.int (0 : Int32)), .val (.int (-1000000000 : Int32)), .val (.int (9 : Int32))] [])) (fun _ k => XS.iinc X0.here hx rfl (hb hby d_jdk_33_method_13_36) rfl (l' := #[.val (.int (-x0)), .val (.int (0 : Int32)), .val (.int (-1000000000 : Int32)), .val (.int (9 : Int32))]) rfl k) ?_
                    refine Go.step (T' := s₁) (g' := (mkF m 16 #[.val (.int (-x0)), .val (.int (0 : Int32)), .val (.int (-1000000000 : Int32)), .val (.int (9 : Int32))] [])) (fun _ k => XS.goto X0.here hx rfl (pc0 := 39) (pc' := 16) rfl (hb hby d_jdk_33_method_13_39) (by decide) (by decide) k) ?_
                    refine Go.step (T' := s₁) (g' := (mkF m 17 #[.val (.int (-x0)), .val (.int (0 : Int32)), .val (.int (-1000000000 : Int32)), .val (.int (9 : Int32))] [(.int (9 : Int32))])) (fun _ k => XS.iloadN X0.here hx rfl (hb hby d_jdk_33_method_13_16) rfl  k) ?_
                    refine Go.step (T' := s₁) (g' := (mkF m 19 #[.val (.int (-x0)), .val (.int (0 : Int32)), .val (.int (-1000000000 : Int32)), .val (.int (9 : Int32))] [(.int (10 : Int32)), (.int (9 : Int32))])) (fun _ k => XS.bipush X0.here hx rfl (hb hby d_jdk_33_method_13_17) k) ?_
                    refine Go.step (T' := s₁) (g' := (mkF m 22 #[.val (.int (-x0)), .val (.int (0 : Int32)), .val (.int (-1000000000 : Int32)), .val (.int (9 : Int32))] [])) (fun _ k => XS.icmpNo X0.here hx rfl (hb hby d_jdk_33_method_13_19) rfl (tlt (by decide : (9 : Int32) < (10 : Int32))).2.1 k) ?_
                    refine Go.step (T' := s₁) (g' := (mkF m 23 #[.val (.int (-x0)), .val (.int (0 : Int32)), .val (.int (-1000000000 : Int32)), .val (.int (9 : Int32))] [(.int (-x0))])) (fun _ k => XS.iloadN X0.here hx rfl (hb hby d_jdk_33_method_13_22) rfl  k) ?_
                    refine Go.step (T' := s₁) (g' := (mkF m 24 #[.val (.int (-x0)), .val (.int (0 : Int32)), .val (.int (-1000000000 : Int32)), .val (.int (9 : Int32))] [(.int (-1000000000 : Int32)), (.int (-x0))])) (fun _ k => XS.iloadN X0.here hx rfl (hb hby d_jdk_33_method_13_23) rfl  k) ?_
                    by_cases hc119 : (-1000000000 : Int32) < (-x0)
                    · skip
                      refine Go.step (T' := s₁) (g' := (mkF m 27 #[.val (.int (-x0)), .val (.int (0 : Int32)), .val (.int (-1000000000 : Int32)), .val (.int (9 : Int32))] [])) (fun _ k => XS.icmpNo X0.here hx rfl (hb hby d_jdk_33_method_13_24) rfl (tlt hc119).2.2.2 k) ?_
                      refine Go.step (T' := s₁) (g' := (mkF m 28 #[.val (.int (-x0)), .val (.int (0 : Int32)), .val (.int (-1000000000 : Int32)), .val (.int (9 : Int32))] [(.int (9 : Int32))])) (fun _ k => XS.iloadN X0.here hx rfl (hb hby d_jdk_33_method_13_27) rfl  k) ?_
                      refine Go.step (T' := s₁) (g' := (mkF m 29 #[.val (.int (-x0)), .val (.int (0 : Int32)), .val (.int (-1000000000 : Int32)), .val (.int (9 : Int32))] [(.int (0 : Int32)), (.int (9 : Int32))])) (fun _ k => XS.iloadN X0.here hx rfl (hb hby d_jdk_33_method_13_28) rfl  k) ?_
                      refine Go.step (T' := s₁) (g' := (mkF m 30 #[.val (.int (-x0)), .val (.int (0 : Int32)), .val (.int (-1000000000 : Int32)), .val (.int (9 : Int32))] [(.int (9 : Int32))])) (fun _ k => XS.iadd X0.here hx rfl (hb hby d_jdk_33_method_13_29) rfl k) ?_
                      exact Go.retI X0 hx hret hlk (hb hby d_jdk_33_method_13_30) (⟨congrArg (fun z => some (Value.int z)) (own_ssE (own_nd9 (by have q : (-x0).toInt ≤ -100000000 := own_geZ hc118 rfl; have r := (own_Mpos hc101); omega) (by have q : -1000000000 < (-x0).toInt := own_ltZ hc119 rfl; have r := (own_Mpos hc101); omega)) (own_sgF hc101)), N0, e0⟩) (by decide) (by decide)
                    · skip
                      refine Go.step (T' := s₁) (g' := (mkF m 31 #[.val (.int (-x0)), .val (.int (0 : Int32)), .val (.int (-1000000000 : Int32)), .val (.int (9 : Int32))] [])) (fun _ k => XS.icmpYes X0.here hx rfl (pc0 := 24) (pc' := 31) rfl (hb hby d_jdk_33_method_13_24) rfl (flt hc119).2.2.2 (by decide) (by decide) k) ?_
                      refine Go.step (T' := s₁) (g' := (mkF m 33 #[.val (.int (-x0)), .val (.int (0 : Int32)), .val (.int (-1000000000 : Int32)), .val (.int (9 : Int32))] [(.int (10 : Int32))])) (fun _ k => XS.bipush X0.here hx rfl (hb hby d_jdk_33_method_13_31) k) ?_
                      refine Go.step (T' := s₁) (g' := (mkF m 34 #[.val (.int (-x0)), .val (.int (0 : Int32)), .val (.int (-1000000000 : Int32)), .val (.int (9 : Int32))] [(.int (-1000000000 : Int32)), (.int (10 : Int32))])) (fun _ k => XS.iloadN X0.here hx rfl (hb hby d_jdk_33_method_13_33) rfl  k) ?_
                      refine Go.step (T' := s₁) (g' := (mkF m 35 #[.val (.int (-x0)), .val (.int (0 : Int32)), .val (.int (-1000000000 : Int32)), .val (.int (9 : Int32))] [(.int ((10 : Int32) * (-1000000000 : Int32)))])) (fun _ k => XS.imul X0.here hx rfl (hb hby d_jdk_33_method_13_34) rfl k) ?_
                      rw [show ((10 : Int32) * (-1000000000 : Int32)) = (-1410065408 : Int32) from by decide]
                      refine Go.step (T' := s₁) (g' := (mkF m 36 #[.val (.int (-x0)), .val (.int (0 : Int32)), .val (.int (-1410065408 : Int32)), .val (.int (9 : Int32))] [])) (fun _ k => XS.istoreN X0.here hx rfl (hb hby d_jdk_33_method_13_35) rfl (l' := #[.val (.int (-x0)), .val (.int (0 : Int32)), .val (.int (-1410065408 : Int32)), .val (.int (9 : Int32))]) rfl k) ?_
                      refine Go.step (T' := s₁) (g' := (mkF m 39 #[.val (.int (-x0)), .val (.int (0 : Int32)), .val (.int (-1410065408 : Int32)), .val (.int (10 : Int32))] [])) (fun _ k => XS.iinc X0.here hx rfl (hb hby d_jdk_33_method_13_36) rfl (l' := #[.val (.int (-x0)), .val (.int (0 : Int32)), .val (.int (-1410065408 : Int32)), .val (.int (10 : Int32))]) rfl k) ?_
                      refine Go.step (T' := s₁) (g' := (mkF m 16 #[.val (.int (-x0)), .val (.int (0 : Int32)), .val (.int (-1410065408 : Int32)), .val (.int (10 : Int32))] [])) (fun _ k => XS.goto X0.here hx rfl (pc0 := 39) (pc' := 16) rfl (hb hby d_jdk_33_method_13_39) (by decide) (by decide) k) ?_
                      refine Go.step (T' := s₁) (g' := (mkF m 17 #[.val (.int (-x0)), .val (.int (0 : Int32)), .val (.int (-1410065408 : Int32)), .val (.int (10 : Int32))] [(.int (10 : Int32))])) (fun _ k => XS.iloadN X0.here hx rfl (hb hby d_jdk_33_method_13_16) rfl  k) ?_
                      refine Go.step (T' := s₁) (g' := (mkF m 19 #[.val (.int (-x0)), .val (.int (0 : Int32)), .val (.int (-1410065408 : Int32)), .val (.int (10 : Int32))] [(.int (10 : Int32)), (.int (10 : Int32))])) (fun _ k => XS.bipush X0.here hx rfl (hb hby d_jdk_33_method_13_17) k) ?_
                      refine Go.step (T' := s₁) (g' := (mkF m 42 #[.val (.int (-x0)), .val (.int (0 : Int32)), .val (.int (-1410065408 : Int32)), .val (.int (10 : Int32))] [])) (fun _ k => XS.icmpYes X0.here hx rfl (pc0 := 19) (pc' := 42) rfl (hb hby d_jdk_33_method_13_19) rfl (flt (by decide : ¬ ((10 : Int32) < (10 : Int32)))).2.1 (by decide) (by decide) k) ?_
                      refine Go.step (T' := s₁) (g' := (mkF m 44 #[.val (.int (-x0)), .val (.int (0 : Int32)), .val (.int (-1410065408 : Int32)), .val (.int (10 : Int32))] [(.int (10 : Int32))])) (fun _ k => XS.bipush X0.here hx rfl (hb hby d_jdk_33_method_13_42) k) ?_
                      refine Go.step (T' := s₁) (g' := (mkF m 45 #[.val (.int (-x0)), .val (.int (0 : Int32)), .val (.int (-1410065408 : Int32)), .val (.int (10 : Int32))] [(.int (0 : Int32)), (.int (10 : Int32))])) (fun _ k => XS.iloadN X0.here hx rfl (hb hby d_jdk_33_method_13_44) rfl  k) ?_
                      refine Go.step (T' := s₁) (g' := (mkF m 46 #[.val (.int (-x0)), .val (.int (0 : Int32)), .val (.int (-1410065408 : Int32)), .val (.int (10 : Int32))] [(.int (10 : Int32))])) (fun _ k => XS.iadd X0.here hx rfl (hb hby d_jdk_33_method_13_45) rfl k) ?_
                      exact Go.retI X0 hx hret hlk (hb hby d_jdk_33_method_13_46) (⟨congrArg (fun z => some (Value.int z)) (own_ssE (own_nd10 (by have q : (-x0).toInt ≤ -1000000000 := own_geZ hc119 rfl; have r := (own_Mpos hc101); omega) trivial) (own_sgF hc101)), N0, e0⟩) (by decide) (by decide)
theorem own_ef_jdk_68_method_68_code_R (m : MethodId) (x0 : Addr) : entryFrame m #[(.ref x0)] 1 = mkF m 0 #[.val (.ref x0)] [] := by first | (simp [entryFrame, mkF, argsToLocals, Value.category]; done) | rfl | (simp [entryFrame, mkF, argsToLocals, own_cI, own_cJ, own_cR, own_cN]; done)
theorem own_pn_AbstractStringBuilder : plainName "java/lang/AbstractStringBuilder" = true := by first | (simp [plainName, overriddenIn]; done) | decide +kernel
theorem d_jdk_68_method_68_0 : decode jdk_68_method_68_code 0 = .ok (.getstatic 18, 3) := by decide +kernel
theorem d_jdk_68_method_68_3 : decode jdk_68_method_68_code 3 = .ok (.ifCond .eq 14, 3) := by decide +kernel
theorem d_jdk_68_method_68_6 : decode jdk_68_method_68_code 6 = .ok (.aload_n 0, 1) := by decide +kernel
theorem d_jdk_68_method_68_7 : decode jdk_68_method_68_code 7 = .ok (.getfield 22, 3) := by decide +kernel
theorem d_jdk_68_method_68_10 : decode jdk_68_method_68_code 10 = .ok (.ifCond .ne 7, 3) := by decide +kernel
theorem d_jdk_68_method_68_13 : decode jdk_68_method_68_code 13 = .ok (.iconst 1, 1) := by decide +kernel
theorem d_jdk_68_method_68_14 : decode jdk_68_method_68_code 14 = .ok (.goto 4, 3) := by decide +kernel
theorem d_jdk_68_method_68_18 : decode jdk_68_method_68_code 18 = .ok (.ireturn, 1) := by decide +kernel
set_option maxRecDepth 65536 in
set_option maxHeartbeats 40000000 in
theorem own_alat (l : Launch) (Z : State) (a0 : Array Value) (hw : ∀ d ∈ tables_1, d.before a0 Z = true) (ws : List Jvm.Cond) (a1 : Addr) (gc : Int32) (h0 : Heap) (n0 : Nat) (Z0 : n0 ≤ h0.size) (Sc : Sta Z h0 "java/lang/String" "COMPACT_STRINGS" "Z" (.int gc)) (hgc : ¬ gc = (0 : Int32)) (C1 : Fld Z h0 a1 "java/lang/AbstractStringBuilder" "coder" "B" (.int (0 : Int32))) :
    Con l Z (⟨"java/lang/AbstractStringBuilder", "isLatin1", "()Z"⟩ : MethodName) jdk_68_method_68_code 1 (some .boolean) ({ frames := 0, cells := 0, slots := 0, locals := 0 } : Room) ws #[(.ref a1)] h0 (Qret (some (.int (1 : Int32))) h0 n0) 0 0 := by
  refine Con.of (plainFor_of_name own_pn_AbstractStringBuilder) ?_
  intro pgm e s m below meth c s₁ X0 hx hZ hby hml hown hnm hret hlk e0 hs0
  have N0 := Fr.nil n0
  have hown : s.vm.findClass "java/lang/AbstractStringBuilder" = some m.cls := hown
  have hnm : meth.name = "isLatin1" := hnm
  refine Go.cast (own_ef_jdk_68_method_68_code_R m a1) ?_
  obtain ⟨T101, X101, e101, st101⟩ := getS2 X0 hx hZ hown (host := "") (Or.inl (hwi hw 19 rfl)) Via.refl e0 Sc (g := (mkF m 0 #[.val (.ref a1)] [])) rfl (hb hby d_jdk_68_method_68_0)
  refine Go.step (T' := T101) (g' := (mkF m 3 #[.val (.ref a1)] [(.int gc)])) st101 ?_
  refine Go.step (T' := T101) (g' := (mkF m 6 #[.val (.ref a1)] [])) (fun _ k => XS.ifNo X101.here hx rfl (hb hby d_jdk_68_method_68_3) rfl ((if0 _ _).trans (feq hgc).1) k) ?_
  refine Go.step (T' := T101) (g' := (mkF m 7 #[.val (.ref a1)] [(.ref a1)])) (fun _ k => XS.aloadN X101.here hx rfl (hb hby d_jdk_68_method_68_6) rfl rfl k) ?_
  obtain ⟨T102, X102, e102, st102⟩ := getF X101 hx hZ hown (host := "") (Or.inl (hwi hw 24 rfl)) Via.refl e101 C1 (g := (mkF m 7 #[.val (.ref a1)] [(.ref a1)])) rfl rfl (hb hby d_jdk_68_method_68_7)
  refine Go.step (T' := T102) (g' := (mkF m 10 #[.val (.ref a1)] [(.int (0 : Int32))])) st102 ?_
  refine Go.step (T' := T102) (g' := (mkF m 13 #[.val (.ref a1)] [])) (fun _ k => XS.ifNo X102.here hx rfl (hb hby d_jdk_68_method_68_10) rfl ((if0 _ _).trans (teq (by decide : (0 : Int32) = (0 : Int32))).2) k) ?_
  refine Go.step (T' := T102) (g' := (mkF m 14 #[.val (.ref a1)] [(.int (1 : Int32))])) (fun _ k => XS.iconst X102.here hx rfl (hb hby d_jdk_68_method_68_13) k) ?_
  refine Go.step (T' := T102) (g' := (mkF m 18 #[.val (.ref a1)] [(.int (1 : Int32))])) (fun _ k => XS.goto X102.here hx rfl (pc0 := 14) (pc' := 18) rfl (hb hby d_jdk_68_method_68_14) (by decide) (by decide) k) ?_
  exact Go.retN X102 hx (t := .boolean) hret hlk (by simp) (hb hby d_jdk_68_method_68_18) (⟨rfl, N0, e102⟩) (by decide) (by decide)
theorem own_ef_jdk_68_method_9_code_RI (m : MethodId) (x0 : Addr) (x1 : Int32) : entryFrame m #[(.ref x0), (.int x1)] 3 = mkF m 0 #[.val (.ref x0), .val (.int x1), .unset] [] := by first | (simp [entryFrame, mkF, argsToLocals, Value.category]; done) | rfl | (simp [entryFrame, mkF, argsToLocals, own_cI, own_cJ, own_cR, own_cN]; done)
theorem d_jdk_68_method_9_0 : decode jdk_68_method_9_code 0 = .ok (.aload_n 0, 1) := by decide +kernel
theorem d_jdk_68_method_9_1 : decode jdk_68_method_9_code 1 = .ok (.getfield 15, 3) := by decide +kernel
theorem d_jdk_68_method_9_4 : decode jdk_68_method_9_code 4 = .ok (.arraylength, 1) := by decide +kernel
theorem d_jdk_68_method_9_5 : decode jdk_68_method_9_code 5 = .ok (.aload_n 0, 1) := by decide +kernel
theorem d_jdk_68_method_9_6 : decode jdk_68_method_9_code 6 = .ok (.getfield 22, 3) := by decide +kernel
theorem d_jdk_68_method_9_9 : decode jdk_68_method_9_code 9 = .ok (.ishr, 1) := by decide +kernel
theorem d_jdk_68_method_9_10 : decode jdk_68_method_9_code 10 = .ok (.istore_n 2, 1) := by decide +kernel
theorem d_jdk_68_method_9_11 : decode jdk_68_method_9_code 11 = .ok (.iload_n 1, 1) := by decide +kernel
theorem d_jdk_68_method_9_12 : decode jdk_68_method_9_code 12 = .ok (.iload_n 2, 1) := by decide +kernel
theorem d_jdk_68_method_9_13 : decode jdk_68_method_9_code 13 = .ok (.isub, 1) := by decide +kernel
theorem d_jdk_68_method_9_14 : decode jdk_68_method_9_code 14 = .ok (.ifCond .le 24, 3) := by decide +kernel
theorem d_jdk_68_method_9_38 : decode jdk_68_method_9_code 38 = .ok (.return_, 1) := by decide +kernel
set_option maxRecDepth 65536 in
set_option maxHeartbeats 40000000 in
theorem own_ens (l : Launch) (Z : State) (a0 : Array Value) (hw : ∀ d ∈ tables_1, d.before a0 Z = true) (ws : List Jvm.Cond) (a1 : Addr) (mm : Int32) (b1 : Addr) (k1 : ClassId) (vs : List Value) (h0 : Heap) (n0 : Nat) (Z0 : n0 ≤ h0.size) (C1 : Fld Z h0 a1 "java/lang/AbstractStringBuilder" "coder" "B" (.int (0 : Int32))) (B1 : Fld Z h0 a1 "java/lang/AbstractStringBuilder" "value" "[B" (.ref b1)) (V1 : Arv Z h0 b1 k1 .byte (16 : Int32) vs (.int (0 : Int32))) (hm : ¬ (0 : Int32) < (mm - ((16 : Int32) >>> ((0 : Int32) &&& 31)))) :
    Con l Z (⟨"java/lang/AbstractStringBuilder", "ensureCapacityInternal", "(I)V"⟩ : MethodName) jdk_68_method_9_code 3 none ({ frames := 0, cells := 0, slots := 0, locals := 0 } : Room) ws #[(.ref a1), (.int mm)] h0 (Qret none h0 n0) 0 0 := by
  refine Con.of (plainFor_of_name own_pn_AbstractStringBuilder) ?_
  intro pgm e s m below meth c s₁ X0 hx hZ hby hml hown hnm hret hlk e0 hs0
  have N0 := Fr.nil n0
  have hown : s.vm.findClass "java/lang/AbstractStringBuilder" = some m.cls := hown
  have hnm : meth.name = "ensureCapacityInternal" := hnm
  refine Go.cast (own_ef_jdk_68_method_9_code_RI m a1 mm) ?_
  refine Go.step (T' := s₁) (g' := (mkF m 1 #[.val (.ref a1), .val (.int mm), .unset] [(.ref a1)])) (fun _ k => XS.aloadN X0.here hx rfl (hb hby d_jdk_68_method_9_0) rfl rfl k) ?_
  obtain ⟨T101, X101, e101, st101⟩ := getF X0 hx hZ hown (host := "") (Or.inl (hwi hw 22 rfl)) Via.refl e0 B1 (g := (mkF m 1 #[.val (.ref a1), .val (.int mm), .unset] [(.ref a1)])) rfl rfl (hb hby d_jdk_68_method_9_1)
  refine Go.step (T' := T101) (g' := (mkF m 4 #[.val (.ref a1), .val (.int mm), .unset] [(.ref b1)])) st101 ?_
  obtain ⟨cl102, Ar102, -, S102, M102, -, -⟩ := id V1
  refine Go.step (T' := T101) (g' := (mkF m 5 #[.val (.ref a1), .val (.int mm), .unset] [(.int (16 : Int32))])) (fun _ k => X101.arraylength hx (cell := cl102) (by rw [e101]; exact Ar102.1) (State.isArrayOf_alike hZ.alike Ar102.2.1) (g := (mkF m 4 #[.val (.ref a1), .val (.int mm), .unset] [(.ref b1)])) rfl (rest := []) rfl (hb hby d_jdk_68_method_9_4) _ (by rw [len_of S102 M102]; exact k)) ?_
  refine Go.step (T' := T101) (g' := (mkF m 6 #[.val (.ref a1), .val (.int mm), .unset] [(.ref a1), (.int (16 : Int32))])) (fun _ k => XS.aloadN X101.here hx rfl (hb hby d_jdk_68_method_9_5) rfl rfl k) ?_
  obtain ⟨T103, X103, e103, st103⟩ := getF X101 hx hZ hown (host := "") (Or.inl (hwi hw 24 rfl)) Via.refl e101 C1 (g := (mkF m 6 #[.val (.ref a1), .val (.int mm), .unset] [(.ref a1), (.int (16 : Int32))])) rfl rfl (hb hby d_jdk_68_method_9_6)
  refine Go.step (T' := T103) (g' := (mkF m 9 #[.val (.ref a1), .val (.int mm), .unset] [(.int (0 : Int32)), (.int (16 : Int32))])) st103 ?_
  refine Go.step (T' := T103) (g' := (mkF m 10 #[.val (.ref a1), .val (.int mm), .unset] [(.int ((16 : Int32) >>> ((0 : Int32) &&& 31)))])) (fun _ k => XS.ishr X103.here hx rfl (hb hby d_jdk_68_method_9_9) rfl k) ?_
  refine Go.step (T' := T103) (g' := (mkF m 11 #[.val (.ref a1), .val (.int mm), .val (.int ((16 : Int32) >>> ((0 : Int32) &&& 31)))] [])) (fun _ k => XS.istoreN X103.here hx rfl (hb hby d_jdk_68_method_9_10) rfl (l' := #[.val (.ref a1), .val (.int mm), .val (.int ((16 : Int32) >>> ((0 : Int32) &&& 31)))]) rfl k) ?_
  refine Go.step (T' := T103) (g' := (mkF m 12 #[.val (.ref a1), .val (.int mm), .val (.int ((16 : Int32) >>> ((0 : Int32) &&& 31)))] [(.int mm)])) (fun _ k => XS.iloadN X103.here hx rfl (hb hby d_jdk_68_method_9_11) rfl  k) ?_
  refine Go.step (T' := T103) (g' := (mkF m 13 #[.val (.ref a1), .val (.int mm), .val (.int ((16 : Int32) >>> ((0 : Int32) &&& 31)))] [(.int ((16 : Int32) >>> ((0 : Int32) &&& 31))), (.int mm)])) (fun _ k => XS.iloadN X103.here hx rfl (hb hby d_jdk_68_method_9_12) rfl  k) ?_
  refine Go.step (T' := T103) (g' := (mkF m 14 #[.val (.ref a1), .val (.int mm), .val (.int ((16 : Int32) >>> ((0 : Int32) &&& 31)))] [(.int (mm - ((16 : Int32) >>> ((0 : Int32) &&& 31))))])) (fun _ k => XS.isub X103.here hx rfl (hb hby d_jdk_68_method_9_13) rfl k) ?_
  refine Go.step (T' := T103) (g' := (mkF m 38 #[.val (.ref a1), .val (.int mm), .val (.int ((16 : Int32) >>> ((0 : Int32) &&& 31)))] [])) (fun _ k => XS.ifYes X103.here hx rfl (pc0 := 14) (pc' := 38) rfl (hb hby d_jdk_68_method_9_14) rfl ((if0 _ _).trans (flt hm).2.2.2) (by decide) (by decide) k) ?_
  exact Go.retV X103 hx hret hlk (hb hby d_jdk_68_method_9_38) (⟨rfl, N0, e103⟩) (by decide) (by decide)
theorem own_fit {k : Nat} (h : k ≤ 16) : ¬ (0 : Int32) < (Int32.ofNat k - ((16 : Int32) >>> ((0 : Int32) &&& 31))) := by
  rw [own_shr0, show (16 : Int32) = Int32.ofNat 16 from rfl]
  have c := c_isub (Int32.ofNat k) (Int32.ofNat 16)
  have r := rng32 (Int32.ofNat k - Int32.ofNat 16)
  rw [own_ofNat (by omega), own_ofNat (by omega)] at c
  rw [Int32.lt_iff_toInt_lt, show (0 : Int32).toInt = 0 from rfl]
  omega
theorem own_ef_jdk_68_method_64_code_R (m : MethodId) (x0 : Addr) : entryFrame m #[(.ref x0)] 1 = mkF m 0 #[.val (.ref x0)] [] := by first | (simp [entryFrame, mkF, argsToLocals, Value.category]; done) | rfl | (simp [entryFrame, mkF, argsToLocals, own_cI, own_cJ, own_cR, own_cN]; done)
theorem d_jdk_68_method_64_0 : decode jdk_68_method_64_code 0 = .ok (.aload_n 0, 1) := by decide +kernel
theorem d_jdk_68_method_64_1 : decode jdk_68_method_64_code 1 = .ok (.getfield 15, 3) := by decide +kernel
theorem d_jdk_68_method_64_4 : decode jdk_68_method_64_code 4 = .ok (.areturn, 1) := by decide +kernel
set_option maxRecDepth 65536 in
set_option maxHeartbeats 40000000 in
theorem own_gv (l : Launch) (Z : State) (a0 : Array Value) (hw : ∀ d ∈ tables_1, d.before a0 Z = true) (ws : List Jvm.Cond) (a1 b1 : Addr) (h0 : Heap) (n0 : Nat) (Z0 : n0 ≤ h0.size) (B1 : Fld Z h0 a1 "java/lang/AbstractStringBuilder" "value" "[B" (.ref b1)) :
    Con l Z (⟨"java/lang/AbstractStringBuilder", "getValue", "()[B"⟩ : MethodName) jdk_68_method_64_code 1 (some (.array .byte)) ({ frames := 0, cells := 0, slots := 0, locals := 0 } : Room) ws #[(.ref a1)] h0 (Qret (some (.ref b1)) h0 n0) 0 0 := by
  refine Con.of (plainFor_of_name own_pn_AbstractStringBuilder) ?_
  intro pgm e s m below meth c s₁ X0 hx hZ hby hml hown hnm hret hlk e0 hs0
  have N0 := Fr.nil n0
  have hown : s.vm.findClass "java/lang/AbstractStringBuilder" = some m.cls := hown
  have hnm : meth.name = "getValue" := hnm
  refine Go.cast (own_ef_jdk_68_method_64_code_R m a1) ?_
  refine Go.step (T' := s₁) (g' := (mkF m 1 #[.val (.ref a1)] [(.ref a1)])) (fun _ k => XS.aloadN X0.here hx rfl (hb hby d_jdk_68_method_64_0) rfl rfl k) ?_
  obtain ⟨T101, X101, e101, st101⟩ := getF X0 hx hZ hown (host := "") (Or.inl (hwi hw 22 rfl)) Via.refl e0 B1 (g := (mkF m 1 #[.val (.ref a1)] [(.ref a1)])) rfl rfl (hb hby d_jdk_68_method_64_1)
  refine Go.step (T' := T101) (g' := (mkF m 4 #[.val (.ref a1)] [(.ref b1)])) st101 ?_
  exact Go.retA X101 hx (t := (.array .byte)) hret rfl hlk rfl (hb hby d_jdk_68_method_64_4) (⟨rfl, N0, e101⟩) (by decide) (by decide)
theorem own_ef_jdk_68_method_6_code_R (m : MethodId) (x0 : Addr) : entryFrame m #[(.ref x0)] 1 = mkF m 0 #[.val (.ref x0)] [] := by first | (simp [entryFrame, mkF, argsToLocals, Value.category]; done) | rfl | (simp [entryFrame, mkF, argsToLocals, own_cI, own_cJ, own_cR, own_cN]; done)
theorem d_jdk_68_method_6_0 : decode jdk_68_method_6_code 0 = .ok (.aload_n 0, 1) := by decide +kernel
theorem d_jdk_68_method_6_1 : decode jdk_68_method_6_code 1 = .ok (.getfield 79, 3) := by decide +kernel
theorem d_jdk_68_method_6_4 : decode jdk_68_method_6_code 4 = .ok (.ireturn, 1) := by decide +kernel
set_option maxRecDepth 65536 in
set_option maxHeartbeats 40000000 in
theorem own_alen (l : Launch) (Z : State) (a0 : Array Value) (hw : ∀ d ∈ tables_1, d.before a0 Z = true) (ws : List Jvm.Cond) (a1 : Addr) (n1 : Int32) (h0 : Heap) (n0 : Nat) (Z0 : n0 ≤ h0.size) (E1 : Exa Z h0 a1 "java/lang/StringBuilder") (N1 : Fld Z h0 a1 "java/lang/AbstractStringBuilder" "count" "I" (.int n1)) :
    Con l Z (⟨"java/lang/AbstractStringBuilder", "length", "()I"⟩ : MethodName) jdk_68_method_6_code 1 (some .int) ({ frames := 0, cells := 0, slots := 0, locals := 0 } : Room) ws #[(.ref a1)] h0 (Qret (some (.int n1)) h0 n0) 0 0 := by
  refine Con.of (plainFor_of_name own_pn_AbstractStringBuilder) ?_
  intro pgm e s m below meth c s₁ X0 hx hZ hby hml hown hnm hret hlk e0 hs0
  have N0 := Fr.nil n0
  have hown : s.vm.findClass "java/lang/AbstractStringBuilder" = some m.cls := hown
  have hnm : meth.name = "length" := hnm
  refine Go.cast (own_ef_jdk_68_method_6_code_R m a1) ?_
  refine Go.step (T' := s₁) (g' := (mkF m 1 #[.val (.ref a1)] [(.ref a1)])) (fun _ k => XS.aloadN X0.here hx rfl (hb hby d_jdk_68_method_6_0) rfl rfl k) ?_
  obtain ⟨T101, X101, e101, st101⟩ := getF X0 hx hZ hown (host := "") (Or.inl (hwi hw 36 rfl)) Via.refl e0 N1 (g := (mkF m 1 #[.val (.ref a1)] [(.ref a1)])) rfl rfl (hb hby d_jdk_68_method_6_1)
  refine Go.step (T' := T101) (g' := (mkF m 4 #[.val (.ref a1)] [(.int n1)])) st101 ?_
  exact Go.retI X101 hx hret hlk (hb hby d_jdk_68_method_6_4) (⟨rfl, N0, e101⟩) (by decide) (by decide)
theorem own_ef_jdk_67_method_93_code_R (m : MethodId) (x0 : Addr) : entryFrame m #[(.ref x0)] 1 = mkF m 0 #[.val (.ref x0)] [] := by first | (simp [entryFrame, mkF, argsToLocals, Value.category]; done) | rfl | (simp [entryFrame, mkF, argsToLocals, own_cI, own_cJ, own_cR, own_cN]; done)
theorem own_pn_StringBuilder : plainName "java/lang/StringBuilder" = true := by first | (simp [plainName, overriddenIn]; done) | decide +kernel
theorem d_jdk_67_method_93_0 : decode jdk_67_method_93_code 0 = .ok (.aload_n 0, 1) := by decide +kernel
theorem d_jdk_67_method_93_1 : decode jdk_67_method_93_code 1 = .ok (.invokespecial 343, 3) := by decide +kernel
theorem own_pd5 : parseMethodDescriptor "()I" = some ⟨[], some .int⟩ := by decide +kernel
theorem d_jdk_67_method_93_4 : decode jdk_67_method_93_code 4 = .ok (.ireturn, 1) := by decide +kernel
set_option maxRecDepth 65536 in
set_option maxHeartbeats 40000000 in
theorem own_slen (l : Launch) (Z : State) (a0 : Array Value) (hw : ∀ d ∈ tables_1, d.before a0 Z = true) (ws : List Jvm.Cond) (a1 : Addr) (n1 : Int32) (h0 : Heap) (n0 : Nat) (Z0 : n0 ≤ h0.size) (E1 : Exa Z h0 a1 "java/lang/StringBuilder") (N1 : Fld Z h0 a1 "java/lang/AbstractStringBuilder" "count" "I" (.int n1)) :
    Con l Z (⟨"java/lang/StringBuilder", "length", "()I"⟩ : MethodName) jdk_67_method_93_code 1 (some .int) ({ frames := 1, cells := 0, slots := 0, locals := 12 } : Room) ws #[(.ref a1)] h0 (Qret (some (.int n1)) h0 n0) 0 0 := by
  refine Con.of (plainFor_of_name own_pn_StringBuilder) ?_
  intro pgm e s m below meth c s₁ X0 hx hZ hby hml hown hnm hret hlk e0 hs0
  have N0 := Fr.nil n0
  have hown : s.vm.findClass "java/lang/StringBuilder" = some m.cls := hown
  have hnm : meth.name = "length" := hnm
  refine Go.cast (own_ef_jdk_67_method_93_code_R m a1) ?_
  refine Go.step (T' := s₁) (g' := (mkF m 1 #[.val (.ref a1)] [(.ref a1)])) (fun _ k => XS.aloadN X0.here hx rfl (hb hby d_jdk_67_method_93_0) rfl rfl k) ?_
  obtain ⟨_, _, ⟨T101, L101, k101, n101⟩, -, X101, ⟨Lc101, hQ101, l101, y101, z101⟩, st101⟩ := superBack X0 hx hZ (y := (⟨"java/lang/AbstractStringBuilder", "length", "()I"⟩ : MethodName)) hown (hwi hw 129 rfl) (own_samem (hwi hw 124 rfl) (own_nf (y := (⟨"java/lang/AbstractStringBuilder", "length", "()I"⟩ : MethodName)) (hwi hw 45 rfl) rfl (hwi hw 43 rfl)) (by decide)) (hwi hw 125 rfl) (hwi hw 33 rfl) (by decide) (backOf (W := 0) (Q := Qret (some (.int n1)) h0 n0) (own_alen l Z a0 hw [] a1 n1 h0 n0 Z0 E1 N1) hZ (hwi hw 130 rfl) (hwi hw 14 rfl) (by decide) (by decide)) e0 (Ins.self E1) (g := (mkF m 1 #[.val (.ref a1)] [(.ref a1)])) rfl (by rw [hml]; rfl) (hwi hw 130 rfl) (argsL := []) (rest := []) (lenOf own_pd5 rfl) rfl (by show 2 * 0 + _ ≤ _; exact Nat.le_of_eq rfl) (hb hby d_jdk_67_method_93_1) (fun _ _ => ⟨rfl, e0, (by decide : 0 + 0 ≤ _), (by decide : 0 + 0 ≤ _)⟩)
  dsimp only [Pt.U, Pt.locs, Pt.cells, Pt.slots] at X101 l101 y101 z101 st101 hQ101
  subst l101 y101 z101
  obtain ⟨rfl, N101q, eh101⟩ := hQ101
  have N101 := Fr.app N0 N101q
  refine Go.step (T' := T101) (g' := (mkF m 4 #[.val (.ref a1)] [(.int n1)])) (fun _ k => st101.trans k) ?_
  exact Go.retI X101 hx hret hlk (hb hby d_jdk_67_method_93_4) (⟨rfl, N101, eh101⟩) (by decide) (by decide)
theorem own_turn {y : Int32} {M : Nat} (hM : M ≤ 2147483648) (hy : y.toInt = -(M : Int)) : (y / (100 : Int32)).toInt = -((M / 100 : Nat) : Int) ∧ (y / (100 : Int32)) * (100 : Int32) - y = Int32.ofNat (M % 100) := by
  have e1 : (y / (100 : Int32)).toInt = -((M / 100 : Nat) : Int) := by
    rcases Nat.eq_zero_or_pos M with rfl | hp
    · have := (c_idiv y 100 100 rfl (by decide)).1 (by rw [hy]; exact Int.le_refl _); rw [this, hy]; rfl
    · have := (c_idiv y 100 100 rfl (by decide)).2 (by rw [hy]; omega); rw [this, hy]; omega
  refine ⟨e1, own_ofI (by omega) ?_⟩
  have c1 := c_imul (y / (100 : Int32)) 100
  have c2 := c_isub ((y / (100 : Int32)) * (100 : Int32)) y
  have r1 := rng32 ((y / (100 : Int32)) * (100 : Int32))
  have r2 := rng32 ((y / (100 : Int32)) * (100 : Int32) - y)
  rw [e1, show (100 : Int32).toInt = 100 from rfl] at c1
  rw [hy] at c2
  omega
theorem own_negM {y : Int32} {M : Nat} (hM : M < 100) (hy : y.toInt = -(M : Int)) : -y = Int32.ofNat M := by
  refine own_ofI (by omega) ?_
  have c := c_ineg y
  have r := rng32 (-y)
  omega
theorem own_dec1 {c : Nat} (h : 1 ≤ c) (hc : c < 1000) : Int32.ofNat c + (-1 : Int32) = Int32.ofNat (c - 1) := by
  refine own_ofI (by omega) ?_
  have q := c_iadd (Int32.ofNat c) (-1)
  have r := rng32 (Int32.ofNat c + (-1))
  rw [own_ofNat (by omega), show (-1 : Int32).toInt = -1 from rfl] at q
  omega
theorem own_16 {i : Nat} (h : i < 16) : ¬ Int32.ofNat i < 0 ∧ Int32.ofNat i < (16 : Int32) := own_inb (n := 16) (by decide) h
theorem own_100 {i : Nat} (h : i < 100) : ¬ Int32.ofNat i < 0 ∧ Int32.ofNat i < (100 : Int32) := own_inb (n := 100) (by decide) h
theorem own_1at {i : Nat} (h : i < 100) : own_ones.getD (Int32.ofNat i).toNatClampNeg (.int (0 : Int32)) = .int (Int32.ofNat (48 + i % 10)) := by rw [own_clamp (by omega), own_ones_at h]
theorem own_10at {i : Nat} (h : i < 100) : own_tens.getD (Int32.ofNat i).toNatClampNeg (.int (0 : Int32)) = .int (Int32.ofNat (48 + i / 10)) := by rw [own_clamp (by omega), own_tens_at h]
theorem own_byte {k : Nat} (h : k < 10) : nar .byte (Int32.ofNat (48 + k)) = Int32.ofNat (48 + k) := by
  have t : ∀ k : Fin 10, nar .byte (Int32.ofNat (48 + k.val)) = Int32.ofNat (48 + k.val) := by decide +kernel
  exact t ⟨k, h⟩
/-- the number M0's text in the first places of vs: sg places for a sign, then its digits -/
def Digs (M0 sg : Nat) (vs : List Value) : Prop := (∀ j, j < own_nd M0 → vs.getD (own_nd M0 + sg - 1 - j) (.int (0 : Int32)) = .int (own_dg M0 j)) ∧ (sg = 1 → vs.getD 0 (.int (0 : Int32)) = .int (45 : Int32))
def Qgc (Z : State) (b1 : Addr) (k1 : ClassId) (M0 sg : Nat) (h0 : Heap) (n0 : Nat) (v : Option Value) (h : Heap) (L : List Loc) : Prop := ∃ (r : Int32) (vs : List Value), v = some (.int r) ∧ Fr n0 L ∧ Keep h0 h [b1] ∧ vs.length = 16 ∧ Arv Z h b1 k1 .byte (16 : Int32) vs (.int (0 : Int32)) ∧ Digs M0 sg vs
theorem own_dstep {M0 sg t i : Nat} {v : Int32} {vs : List Value} (hl : vs.length = 16) (hdn : ∀ j, j < t → vs.getD (own_nd M0 + sg - 1 - j) (.int (0 : Int32)) = .int (own_dg M0 j)) (ht : t < own_nd M0) (hsg : sg ≤ 1) (hi : i = own_nd M0 + sg - 1 - t) (hv : v = own_dg M0 t) : ∀ j, j < t + 1 → (vs.set i (.int (nar .byte v))).getD (own_nd M0 + sg - 1 - j) (.int (0 : Int32)) = .int (own_dg M0 j) := by
  have hn := own_nd_le M0
  intro j hj
  rw [own_getset _ _ _ _ _ (by rw [hl]; omega)]
  by_cases q : j = t
  · subst q; rw [if_pos hi, hv, own_dg_nar]
  · rw [if_neg (by omega)]; exact hdn j (by omega)
theorem own_dgt {M0 t P k : Nat} (hP : 10 ^ t = P) (h : k = M0 / P % 10) : Int32.ofNat (48 + k) = own_dg M0 t := by subst hP; rw [h]; rfl
theorem own_dgs {M0 t : Nat} (h : M0 / 10 ^ t < 100) : Int32.ofNat (48 + M0 / 10 ^ t / 10) = own_dg M0 (t + 1) := by
  have q : M0 / 10 ^ (t + 1) = M0 / 10 ^ t / 10 := by rw [Nat.pow_succ, Nat.div_div_eq_div_mul]
  rw [own_dg, q, Nat.mod_eq_of_lt (by omega)]
theorem own_dg1 {M0 t : Nat} : Int32.ofNat (48 + M0 / 10 ^ t % 10) = own_dg M0 t := rfl
theorem own_dec {c c' : Nat} (h : c' + 1 = c) (hc : c < 1000) : Int32.ofNat c + (-1 : Int32) = Int32.ofNat c' := by
  subst h; rw [own_dec1 (by omega) hc]; rfl
theorem own_sign {M0 sg i : Nat} {vs : List Value} (hl : vs.length = 16) (hs : sg = 1) (hi : i = 0) (hdn : ∀ j, j < own_nd M0 → vs.getD (own_nd M0 + sg - 1 - j) (.int (0 : Int32)) = .int (own_dg M0 j)) : Digs M0 sg (vs.set i (.int (nar .byte (45 : Int32)))) := by
  subst hs; subst hi
  have hn := own_nd_le M0
  refine ⟨fun j hj => ?_, fun _ => ?_⟩
  · rw [own_getset _ _ _ _ _ (by rw [hl]; decide), if_neg (by omega)]; exact hdn j hj
  · rw [own_getset _ _ _ _ _ (by rw [hl]; decide), if_pos rfl]; rfl
theorem own_nosign {M0 sg : Nat} {vs : List Value} (hs : sg = 0) (hdn : ∀ j, j < own_nd M0 → vs.getD (own_nd M0 + sg - 1 - j) (.int (0 : Int32)) = .int (own_dg M0 j)) : Digs M0 sg vs := ⟨hdn, fun q => absurd q (by omega)⟩
theorem own_ltZ' {a y : Int32} {z : Int} (h : y < a) (e : a.toInt = z) : y.toInt < z := by rw [Int32.lt_iff_toInt_lt, e] at h; exact h
theorem own_geZ' {a y : Int32} {z : Int} (h : ¬ y < a) (e : a.toInt = z) : z ≤ y.toInt := by rw [Int32.lt_iff_toInt_lt, e] at h; omega
theorem d_jdk_33_method_12_72 : decode jdk_33_method_12_code 72 = .ok (.aload_n 2, 1) := by decide +kernel
theorem d_jdk_33_method_12_73 : decode jdk_33_method_12_code 73 = .ok (.iinc 5 (-1), 3) := by decide +kernel
theorem d_jdk_33_method_12_76 : decode jdk_33_method_12_code 76 = .ok (.iload 5, 2) := by decide +kernel
theorem d_jdk_33_method_12_78 : decode jdk_33_method_12_code 78 = .ok (.getstatic 83, 3) := by decide +kernel
theorem d_jdk_33_method_12_81 : decode jdk_33_method_12_code 81 = .ok (.iload_n 0, 1) := by decide +kernel
theorem d_jdk_33_method_12_82 : decode jdk_33_method_12_code 82 = .ok (.ineg, 1) := by decide +kernel
theorem d_jdk_33_method_12_83 : decode jdk_33_method_12_code 83 = .ok (.baload, 1) := by decide +kernel
theorem d_jdk_33_method_12_84 : decode jdk_33_method_12_code 84 = .ok (.bastore, 1) := by decide +kernel
theorem d_jdk_33_method_12_85 : decode jdk_33_method_12_code 85 = .ok (.iload_n 0, 1) := by decide +kernel
theorem d_jdk_33_method_12_86 : decode jdk_33_method_12_code 86 = .ok (.bipush (-9), 2) := by decide +kernel
theorem d_jdk_33_method_12_88 : decode jdk_33_method_12_code 88 = .ok (.if_icmp .ge 16, 3) := by decide +kernel
theorem d_jdk_33_method_12_91 : decode jdk_33_method_12_code 91 = .ok (.aload_n 2, 1) := by decide +kernel
theorem d_jdk_33_method_12_92 : decode jdk_33_method_12_code 92 = .ok (.iinc 5 (-1), 3) := by decide +kernel
theorem d_jdk_33_method_12_95 : decode jdk_33_method_12_code 95 = .ok (.iload 5, 2) := by decide +kernel
theorem d_jdk_33_method_12_97 : decode jdk_33_method_12_code 97 = .ok (.getstatic 87, 3) := by decide +kernel
theorem d_jdk_33_method_12_100 : decode jdk_33_method_12_code 100 = .ok (.iload_n 0, 1) := by decide +kernel
theorem d_jdk_33_method_12_101 : decode jdk_33_method_12_code 101 = .ok (.ineg, 1) := by decide +kernel
theorem d_jdk_33_method_12_102 : decode jdk_33_method_12_code 102 = .ok (.baload, 1) := by decide +kernel
theorem d_jdk_33_method_12_103 : decode jdk_33_method_12_code 103 = .ok (.bastore, 1) := by decide +kernel
theorem d_jdk_33_method_12_104 : decode jdk_33_method_12_code 104 = .ok (.iload 6, 2) := by decide +kernel
theorem d_jdk_33_method_12_106 : decode jdk_33_method_12_code 106 = .ok (.ifCond .eq 12, 3) := by decide +kernel
theorem d_jdk_33_method_12_118 : decode jdk_33_method_12_code 118 = .ok (.iload 5, 2) := by decide +kernel
theorem d_jdk_33_method_12_120 : decode jdk_33_method_12_code 120 = .ok (.ireturn, 1) := by decide +kernel
theorem d_jdk_33_method_12_109 : decode jdk_33_method_12_code 109 = .ok (.aload_n 2, 1) := by decide +kernel
theorem d_jdk_33_method_12_110 : decode jdk_33_method_12_code 110 = .ok (.iinc 5 (-1), 3) := by decide +kernel
theorem d_jdk_33_method_12_113 : decode jdk_33_method_12_code 113 = .ok (.iload 5, 2) := by decide +kernel
theorem d_jdk_33_method_12_115 : decode jdk_33_method_12_code 115 = .ok (.bipush 45, 2) := by decide +kernel
theorem d_jdk_33_method_12_117 : decode jdk_33_method_12_code 117 = .ok (.bastore, 1) := by decide +kernel
set_option maxRecDepth 65536 in
set_option maxHeartbeats 40000000 in
theorem own_gcx {pgm : Program} {l : Launch} {e : Env} {s : State} {m : MethodId} {args : Array Value} {below : List Frame} {meth : Method} {c : Code} {T0 : State} {locs : List Loc} {cells slots : Nat} {Z : State} {a0 : Array Value} {h0 : Heap} {n0 : Nat} (y : Int32) (ci : Int32) (ng : Int32) (b1 : Addr) (k1 : ClassId) (d1 : Addr) (d2 : Addr) (kd1 : ClassId) (kd2 : ClassId) (hB0 : Heap) (sg : Nat) (M0 : Nat) (vs : List Value) (t : Nat) (s3 : Slot) (s4 : Slot)
    (X0 : Stand pgm l e ({ frames := 0, cells := 0, slots := 0, locals := 0 } : Room) s m args below meth c T0 locs cells slots) (hx : pgm.tables.exec = Jvm.exec) (hZ : Z.Warmed39 s.vm) (hw : ∀ d ∈ tables_1, d.before a0 Z = true) (hby : c.code = jdk_33_method_12_code) (hml : c.maxLocals = 7) (hown : s.vm.findClass "java/lang/Integer" = some m.cls) (hret : meth.sig.returnType = (some .int)) (hlk : meth.locks = false) (e0 : T0.heap = h0) (N0 : Fr n0 locs) (Z0 : n0 ≤ h0.size) (hcells : cells ≤ 0) (hslots : slots ≤ 0) (f0 : Sta Z h0 "java/lang/Integer" "DigitOnes" "[B" (.ref d1)) (f1 : Sta Z h0 "java/lang/Integer" "DigitTens" "[B" (.ref d2)) (f2 : Arv Z h0 d1 kd1 .byte (100 : Int32) own_ones (.int (0 : Int32))) (f3 : Arv Z h0 d2 kd2 .byte (100 : Int32) own_tens (.int (0 : Int32))) (f4 : Arv Z h0 b1 k1 .byte (16 : Int32) vs (.int (0 : Int32))) (f5 : Exa Z h0 b1 "[B") (f6 : d1 ≠ b1) (f7 : d2 ≠ b1) (f8 : n0 ≤ b1) (K00 : Keep hB0 h0 [b1]) (hM0 : M0 ≤ 2147483648) (hy : y.toInt = -((M0 / 10 ^ t : Nat) : Int)) (hl : vs.length = 16) (hsg : sg ≤ 1) (hng : ng = Int32.ofNat sg) (hdn : ∀ j, j < t → vs.getD (own_nd M0 + sg - 1 - j) (.int (0 : Int32)) = .int (own_dg M0 j)) (hM : M0 / 10 ^ t < 100) (hnd : own_nd M0 = t + (if M0 / 10 ^ t < 10 then 1 else 2)) :
    Go pgm e below s (Qgc Z b1 k1 M0 sg hB0 n0) 0 0 T0 (mkF m 72 #[.val (.int y), .val (.int ci), .val (.ref b1), s3, s4, .val (.int (Int32.ofNat (own_nd M0 + sg - t))), .val (.int ng)] []) := by
  have hn10 := own_nd_le M0
  have hnd' : t + 1 ≤ own_nd M0 ∧ own_nd M0 ≤ t + 2 := by rw [hnd]; split <;> omega
  refine Go.step (T' := T0) (g' := (mkF m 73 #[.val (.int y), .val (.int ci), .val (.ref b1), s3, s4, .val (.int (Int32.ofNat (own_nd M0 + sg - t))), .val (.int ng)] [(.ref b1)])) (fun _ k => XS.aloadN X0.here hx rfl (hb hby d_jdk_33_method_12_72) rfl rfl k) ?_
  refine Go.step (T' := T0) (g' := (mkF m 76 #[.val (.int y), .val (.int ci), .val (.ref b1), s3, s4, .val (.int ((Int32.ofNat (own_nd M0 + sg - t)) + (-1 : Int32))), .val (.int ng)] [(.ref b1)])) (fun _ k => XS.iinc X0.here hx rfl (hb hby d_jdk_33_method_12_73) rfl (l' := #[.val (.int y), .val (.int ci), .val (.ref b1), s3, s4, .val (.int ((Int32.ofNat (own_nd M0 + sg - t)) + (-1 : Int32))), .val (.int ng)]) rfl k) ?_
  rw [own_dec (c' := own_nd M0 + sg - t - 1) (by omega) (by omega)]
  refine Go.step (T' := T0) (g' := (mkF m 78 #[.val (.int y), .val (.int ci), .val (.ref b1), s3, s4, .val (.int (Int32.ofNat (own_nd M0 + sg - t - 1))), .val (.int ng)] [(.int (Int32.ofNat (own_nd M0 + sg - t - 1))), (.ref b1)])) (fun _ k => XS.iload X0.here hx rfl (hb hby d_jdk_33_method_12_76) rfl  k) ?_
  obtain ⟨T101, X101, e101, st101⟩ := getS2 X0 hx hZ hown (host := "") (Or.inl (hwi hw 55 rfl)) Via.refl e0 f0 (g := (mkF m 78 #[.val (.int y), .val (.int ci), .val (.ref b1), s3, s4, .val (.int (Int32.ofNat (own_nd M0 + sg - t - 1))), .val (.int ng)] [(.int (Int32.ofNat (own_nd M0 + sg - t - 1))), (.ref b1)])) rfl (hb hby d_jdk_33_method_12_78)
  refine Go.step (T' := T101) (g' := (mkF m 81 #[.val (.int y), .val (.int ci), .val (.ref b1), s3, s4, .val (.int (Int32.ofNat (own_nd M0 + sg - t - 1))), .val (.int ng)] [(.ref d1), (.int (Int32.ofNat (own_nd M0 + sg - t - 1))), (.ref b1)])) st101 ?_
  refine Go.step (T' := T101) (g' := (mkF m 82 #[.val (.int y), .val (.int ci), .val (.ref b1), s3, s4, .val (.int (Int32.ofNat (own_nd M0 + sg - t - 1))), .val (.int ng)] [(.int y), (.ref d1), (.int (Int32.ofNat (own_nd M0 + sg - t - 1))), (.ref b1)])) (fun _ k => XS.iloadN X101.here hx rfl (hb hby d_jdk_33_method_12_81) rfl  k) ?_
  refine Go.step (T' := T101) (g' := (mkF m 83 #[.val (.int y), .val (.int ci), .val (.ref b1), s3, s4, .val (.int (Int32.ofNat (own_nd M0 + sg - t - 1))), .val (.int ng)] [(.int (-y)), (.ref d1), (.int (Int32.ofNat (own_nd M0 + sg - t - 1))), (.ref b1)])) (fun _ k => XS.ineg X101.here hx rfl (hb hby d_jdk_33_method_12_82) rfl k) ?_
  rw [own_negM hM hy]
  obtain ⟨cl102, Ar102, q102, S102, M102, H102, G102⟩ := id f2
  have I102 := inb_of (j := (Int32.ofNat (M0 / 10 ^ t))) S102 (own_100 hM)
  refine Go.step (T' := T101) (g' := (mkF m 84 #[.val (.int y), .val (.int ci), .val (.ref b1), s3, s4, .val (.int (Int32.ofNat (own_nd M0 + sg - t - 1))), .val (.int ng)] [(.int (Int32.ofNat (48 + M0 / 10 ^ t % 10))), (.int (Int32.ofNat (own_nd M0 + sg - t - 1))), (.ref b1)])) (fun _ k => X101.baloadBytes hx (j := (Int32.ofNat (M0 / 10 ^ t))) (v := (.int (Int32.ofNat (48 + M0 / 10 ^ t % 10)))) (by rw [e101]; exact Ar102.1) (State.isArrayOf_alike hZ.alike Ar102.2.1) Ar102.2.2 I102 (Has.at H102 I102 (own_1at hM)) (g := (mkF m 83 #[.val (.int y), .val (.int ci), .val (.ref b1), s3, s4, .val (.int (Int32.ofNat (own_nd M0 + sg - t - 1))), .val (.int ng)] [(.int (Int32.ofNat (M0 / 10 ^ t))), (.ref d1), (.int (Int32.ofNat (own_nd M0 + sg - t - 1))), (.ref b1)])) rfl rfl (hb hby d_jdk_33_method_12_83) _ k) ?_
  obtain ⟨cl103, Ar103, q103, S103, M103, H103, G103⟩ := id f4
  obtain ⟨T103, h103, X103, e103, W103, st103⟩ := stB X101 hx hZ e101 Ar103 (j := (Int32.ofNat (own_nd M0 + sg - t - 1))) (inb_of S103 (own_16 (by omega))) (g := (mkF m 84 #[.val (.int y), .val (.int ci), .val (.ref b1), s3, s4, .val (.int (Int32.ofNat (own_nd M0 + sg - t - 1))), .val (.int ng)] [(.int (Int32.ofNat (48 + M0 / 10 ^ t % 10))), (.int (Int32.ofNat (own_nd M0 + sg - t - 1))), (.ref b1)])) rfl rfl (hb hby d_jdk_33_method_12_84)
  have V103 : Arv Z h103 b1 k1 .byte (16 : Int32) (vs.set (own_nd M0 + sg - t - 1) (.int (nar .byte (Int32.ofNat (48 + M0 / 10 ^ t % 10))))) (.int (0 : Int32)) := Arv.set Ar103 q103 S103 M103 H103 G103 (fits_nar_byte _) W103 (own_nd M0 + sg - t - 1) (own_clamp (by omega)) (by rw [hl]; omega)
  have N103 := Fr.snoc X103 N0 f8
  have Z103 : n0 ≤ h103.size := Nat.le_trans Z0 (Keep.of_wr W103).1
  have K103 := K00.wr W103 (Or.inl (List.mem_of_getElem? (i := 0) rfl))
  have F104 := f0.wr W103
  have F105 := f1.wr W103
  have F106 := f2.other W103 f6
  have F107 := f3.other W103 f7
  have F108 := f5.wr W103
  refine Go.step (T' := T103) (g' := (mkF m 85 #[.val (.int y), .val (.int ci), .val (.ref b1), s3, s4, .val (.int (Int32.ofNat (own_nd M0 + sg - t - 1))), .val (.int ng)] [])) st103 ?_
  have hd1 := own_dstep hl hdn (by omega) hsg (i := own_nd M0 + sg - t - 1) (by omega) own_dg1
  have hl1 : (vs.set (own_nd M0 + sg - t - 1) (.int (nar .byte (Int32.ofNat (48 + M0 / 10 ^ t % 10))))).length = 16 := by rw [List.length_set, hl]
  refine Go.step (T' := T103) (g' := (mkF m 86 #[.val (.int y), .val (.int ci), .val (.ref b1), s3, s4, .val (.int (Int32.ofNat (own_nd M0 + sg - t - 1))), .val (.int ng)] [(.int y)])) (fun _ k => XS.iloadN X103.here hx rfl (hb hby d_jdk_33_method_12_85) rfl  k) ?_
  refine Go.step (T' := T103) (g' := (mkF m 88 #[.val (.int y), .val (.int ci), .val (.ref b1), s3, s4, .val (.int (Int32.ofNat (own_nd M0 + sg - t - 1))), .val (.int ng)] [(.int (-9 : Int32)), (.int y)])) (fun _ k => XS.bipush X103.here hx rfl (hb hby d_jdk_33_method_12_86) k) ?_
  by_cases hc109 : y < (-9 : Int32)
  · skip
    refine Go.step (T' := T103) (g' := (mkF m 91 #[.val (.int y), .val (.int ci), .val (.ref b1), s3, s4, .val (.int (Int32.ofNat (own_nd M0 + sg - t - 1))), .val (.int ng)] [])) (fun _ k => XS.icmpNo X103.here hx rfl (hb hby d_jdk_33_method_12_88) rfl (tlt hc109).2.1 k) ?_
    have h2 : own_nd M0 = t + 2 := by rw [hnd, if_neg (fun q => by have r : y.toInt < -9 := own_ltZ' hc109 rfl; omega)]
    refine Go.step (T' := T103) (g' := (mkF m 92 #[.val (.int y), .val (.int ci), .val (.ref b1), s3, s4, .val (.int (Int32.ofNat (own_nd M0 + sg - t - 1))), .val (.int ng)] [(.ref b1)])) (fun _ k => XS.aloadN X103.here hx rfl (hb hby d_jdk_33_method_12_91) rfl rfl k) ?_
    refine Go.step (T' := T103) (g' := (mkF m 95 #[.val (.int y), .val (.int ci), .val (.ref b1), s3, s4, .val (.int ((Int32.ofNat (own_nd M0 + sg - t - 1)) + (-1 : Int32))), .val (.int ng)] [(.ref b1)])) (fun _ k => XS.iinc X103.here hx rfl (hb hby d_jdk_33_method_12_92) rfl (l' := #[.val (.int y), .val (.int ci), .val (.ref b1), s3, s4, .val (.int ((Int32.ofNat (own_nd M0 + sg - t - 1)) + (-1 : Int32))), .val (.int ng)]) rfl k) ?_
    rw [own_dec (c' := own_nd M0 + sg - t - 2) (by omega) (by omega)]
    refine Go.step (T' := T103) (g' := (mkF m 97 #[.val (.int y), .val (.int ci), .val (.ref b1), s3, s4, .val (.int (Int32.ofNat (own_nd M0 + sg - t - 2))), .val (.int ng)] [(.int (Int32.ofNat (own_nd M0 + sg - t - 2))), (.ref b1)])) (fun _ k => XS.iload X103.here hx rfl (hb hby d_jdk_33_method_12_95) rfl  k) ?_
    obtain ⟨T110, X110, e110, st110⟩ := getS2 X103 hx hZ hown (host := "") (Or.inl (hwi hw 189 rfl)) Via.refl e103 F105 (g := (mkF m 97 #[.val (.int y), .val (.int ci), .val (.ref b1), s3, s4, .val (.int (Int32.ofNat (own_nd M0 + sg - t - 2))), .val (.int ng)] [(.int (Int32.ofNat (own_nd M0 + sg - t - 2))), (.ref b1)])) rfl (hb hby d_jdk_33_method_12_97)
    refine Go.step (T' := T110) (g' := (mkF m 100 #[.val (.int y), .val (.int ci), .val (.ref b1), s3, s4, .val (.int (Int32.ofNat (own_nd M0 + sg - t - 2))), .val (.int ng)] [(.ref d2), (.int (Int32.ofNat (own_nd M0 + sg - t - 2))), (.ref b1)])) st110 ?_
    refine Go.step (T' := T110) (g' := (mkF m 101 #[.val (.int y), .val (.int ci), .val (.ref b1), s3, s4, .val (.int (Int32.ofNat (own_nd M0 + sg - t - 2))), .val (.int ng)] [(.int y), (.ref d2), (.int (Int32.ofNat (own_nd M0 + sg - t - 2))), (.ref b1)])) (fun _ k => XS.iloadN X110.here hx rfl (hb hby d_jdk_33_method_12_100) rfl  k) ?_
    refine Go.step (T' := T110) (g' := (mkF m 102 #[.val (.int y), .val (.int ci), .val (.ref b1), s3, s4, .val (.int (Int32.ofNat (own_nd M0 + sg - t - 2))), .val (.int ng)] [(.int (-y)), (.ref d2), (.int (Int32.ofNat (own_nd M0 + sg - t - 2))), (.ref b1)])) (fun _ k => XS.ineg X110.here hx rfl (hb hby d_jdk_33_method_12_101) rfl k) ?_
    rw [own_negM hM hy]
    obtain ⟨cl111, Ar111, q111, S111, M111, H111, G111⟩ := id F107
    have I111 := inb_of (j := (Int32.ofNat (M0 / 10 ^ t))) S111 (own_100 hM)
    refine Go.step (T' := T110) (g' := (mkF m 103 #[.val (.int y), .val (.int ci), .val (.ref b1), s3, s4, .val (.int (Int32.ofNat (own_nd M0 + sg - t - 2))), .val (.int ng)] [(.int (Int32.ofNat (48 + M0 / 10 ^ t / 10))), (.int (Int32.ofNat (own_nd M0 + sg - t - 2))), (.ref b1)])) (fun _ k => X110.baloadBytes hx (j := (Int32.ofNat (M0 / 10 ^ t))) (v := (.int (Int32.ofNat (48 + M0 / 10 ^ t / 10)))) (by rw [e110]; exact Ar111.1) (State.isArrayOf_alike hZ.alike Ar111.2.1) Ar111.2.2 I111 (Has.at H111 I111 (own_10at hM)) (g := (mkF m 102 #[.val (.int y), .val (.int ci), .val (.ref b1), s3, s4, .val (.int (Int32.ofNat (own_nd M0 + sg - t - 2))), .val (.int ng)] [(.int (Int32.ofNat (M0 / 10 ^ t))), (.ref d2), (.int (Int32.ofNat (own_nd M0 + sg - t - 2))), (.ref b1)])) rfl rfl (hb hby d_jdk_33_method_12_102) _ k) ?_
    obtain ⟨cl112, Ar112, q112, S112, M112, H112, G112⟩ := id V103
    obtain ⟨T112, h112, X112, e112, W112, st112⟩ := stB X110 hx hZ e110 Ar112 (j := (Int32.ofNat (own_nd M0 + sg - t - 2))) (inb_of S112 (own_16 (by omega))) (g := (mkF m 103 #[.val (.int y), .val (.int ci), .val (.ref b1), s3, s4, .val (.int (Int32.ofNat (own_nd M0 + sg - t - 2))), .val (.int ng)] [(.int (Int32.ofNat (48 + M0 / 10 ^ t / 10))), (.int (Int32.ofNat (own_nd M0 + sg - t - 2))), (.ref b1)])) rfl rfl (hb hby d_jdk_33_method_12_103)
    have V112 : Arv Z h112 b1 k1 .byte (16 : Int32) ((vs.set (own_nd M0 + sg - t - 1) (.int (nar .byte (Int32.ofNat (48 + M0 / 10 ^ t % 10))))).set (own_nd M0 + sg - t - 2) (.int (nar .byte (Int32.ofNat (48 + M0 / 10 ^ t / 10))))) (.int (0 : Int32)) := Arv.set Ar112 q112 S112 M112 H112 G112 (fits_nar_byte _) W112 (own_nd M0 + sg - t - 2) (own_clamp (by omega)) (by rw [hl1]; omega)
    have N112 := Fr.snoc X112 N103 f8
    have Z112 : n0 ≤ h112.size := Nat.le_trans Z103 (Keep.of_wr W112).1
    have K112 := K103.wr W112 (Or.inl (List.mem_of_getElem? (i := 0) rfl))
    have F113 := F104.wr W112
    have F114 := F105.wr W112
    have F115 := F106.other W112 f6
    have F116 := F107.other W112 f7
    have F117 := F108.wr W112
    refine Go.step (T' := T112) (g' := (mkF m 104 #[.val (.int y), .val (.int ci), .val (.ref b1), s3, s4, .val (.int (Int32.ofNat (own_nd M0 + sg - t - 2))), .val (.int ng)] [])) st112 ?_
    have hd2 := own_dstep hl1 hd1 (by omega) hsg (i := own_nd M0 + sg - t - 2) (by omega) (own_dgs hM)
    have hl2 : ((vs.set (own_nd M0 + sg - t - 1) (.int (nar .byte (Int32.ofNat (48 + M0 / 10 ^ t % 10))))).set (own_nd M0 + sg - t - 2) (.int (nar .byte (Int32.ofNat (48 + M0 / 10 ^ t / 10))))).length = 16 := by rw [List.length_set, hl1]
    refine Go.step (T' := T112) (g' := (mkF m 106 #[.val (.int y), .val (.int ci), .val (.ref b1), s3, s4, .val (.int (Int32.ofNat (own_nd M0 + sg - t - 2))), .val (.int ng)] [(.int ng)])) (fun _ k => XS.iload X112.here hx rfl (hb hby d_jdk_33_method_12_104) rfl  k) ?_
    by_cases hc118 : ng = (0 : Int32)
    · skip
      refine Go.step (T' := T112) (g' := (mkF m 118 #[.val (.int y), .val (.int ci), .val (.ref b1), s3, s4, .val (.int (Int32.ofNat (own_nd M0 + sg - t - 2))), .val (.int ng)] [])) (fun _ k => XS.ifYes X112.here hx rfl (pc0 := 106) (pc' := 118) rfl (hb hby d_jdk_33_method_12_106) rfl ((if0 _ _).trans (teq hc118).1) (by decide) (by decide) k) ?_
      refine Go.step (T' := T112) (g' := (mkF m 120 #[.val (.int y), .val (.int ci), .val (.ref b1), s3, s4, .val (.int (Int32.ofNat (own_nd M0 + sg - t - 2))), .val (.int ng)] [(.int (Int32.ofNat (own_nd M0 + sg - t - 2)))])) (fun _ k => XS.iload X112.here hx rfl (hb hby d_jdk_33_method_12_118) rfl  k) ?_
      exact Go.retI X112 hx hret hlk (hb hby d_jdk_33_method_12_120) (by rw [e112]; exact ⟨_, _, rfl, N112, K112, hl2, V112, own_nosign (by have q := hc118; rw [hng] at q; have r := congrArg Int32.toInt q; rw [own_ofNat (by omega)] at r; have r0 : (0 : Int32).toInt = 0 := rfl; omega) (fun j hj => hd2 j (by omega))⟩) (by omega) (by omega)
    · skip
      refine Go.step (T' := T112) (g' := (mkF m 109 #[.val (.int y), .val (.int ci), .val (.ref b1), s3, s4, .val (.int (Int32.ofNat (own_nd M0 + sg - t - 2))), .val (.int ng)] [])) (fun _ k => XS.ifNo X112.here hx rfl (hb hby d_jdk_33_method_12_106) rfl ((if0 _ _).trans (feq hc118).1) k) ?_
      refine Go.step (T' := T112) (g' := (mkF m 110 #[.val (.int y), .val (.int ci), .val (.ref b1), s3, s4, .val (.int (Int32.ofNat (own_nd M0 + sg - t - 2))), .val (.int ng)] [(.ref b1)])) (fun _ k => XS.aloadN X112.here hx rfl (hb hby d_jdk_33_method_12_109) rfl rfl k) ?_
      refine Go.step (T' := T112) (g' := (mkF m 113 #[.val (.int y), .val (.int ci), .val (.ref b1), s3, s4, .val (.int ((Int32.ofNat (own_nd M0 + sg - t - 2)) + (-1 : Int32))), .val (.int ng)] [(.ref b1)])) (fun _ k => XS.iinc X112.here hx rfl (hb hby d_jdk_33_method_12_110) rfl (l' := #[.val (.int y), .val (.int ci), .val (.ref b1), s3, s4, .val (.int ((Int32.ofNat (own_nd M0 + sg - t - 2)) + (-1 : Int32))), .val (.int ng)]) rfl k) ?_
      have hs1 : sg = 1 := by rcases Nat.lt_or_ge sg 1 with q | q; exact absurd (by rw [hng, show sg = 0 by omega]; rfl) hc118; omega
      rw [own_dec (c' := 0) (by omega) (by omega)]
      refine Go.step (T' := T112) (g' := (mkF m 115 #[.val (.int y), .val (.int ci), .val (.ref b1), s3, s4, .val (.int (Int32.ofNat (0))), .val (.int ng)] [(.int (Int32.ofNat (0))), (.ref b1)])) (fun _ k => XS.iload X112.here hx rfl (hb hby d_jdk_33_method_12_113) rfl  k) ?_
      refine Go.step (T' := T112) (g' := (mkF m 117 #[.val (.int y), .val (.int ci), .val (.ref b1), s3, s4, .val (.int (Int32.ofNat (0))), .val (.int ng)] [(.int (45 : Int32)), (.int (Int32.ofNat (0))), (.ref b1)])) (fun _ k => XS.bipush X112.here hx rfl (hb hby d_jdk_33_method_12_115) k) ?_
      obtain ⟨cl119, Ar119, q119, S119, M119, H119, G119⟩ := id V112
      obtain ⟨T119, h119, X119, e119, W119, st119⟩ := stB X112 hx hZ e112 Ar119 (j := (Int32.ofNat (0))) (inb_of S119 (own_16 (by omega))) (g := (mkF m 117 #[.val (.int y), .val (.int ci), .val (.ref b1), s3, s4, .val (.int (Int32.ofNat (0))), .val (.int ng)] [(.int (45 : Int32)), (.int (Int32.ofNat (0))), (.ref b1)])) rfl rfl (hb hby d_jdk_33_method_12_117)
      have V119 : Arv Z h119 b1 k1 .byte (16 : Int32) (((vs.set (own_nd M0 + sg - t - 1) (.int (nar .byte (Int32.ofNat (48 + M0 / 10 ^ t % 10))))).set (own_nd M0 + sg - t - 2) (.int (nar .byte (Int32.ofNat (48 + M0 / 10 ^ t / 10))))).set 0 (.int (nar .byte (45 : Int32)))) (.int (0 : Int32)) := Arv.set Ar119 q119 S119 M119 H119 G119 (fits_nar_byte _) W119 0 (own_clamp (by omega)) (by rw [hl2]; decide)
      have N119 := Fr.snoc X119 N112 f8
      have Z119 : n0 ≤ h119.size := Nat.le_trans Z112 (Keep.of_wr W119).1
      have K119 := K112.wr W119 (Or.inl (List.mem_of_getElem? (i := 0) rfl))
      have F120 := F113.wr W119
      have F121 := F114.wr W119
      have F122 := F115.other W119 f6
      have F123 := F116.other W119 f7
      have F124 := F117.wr W119
      refine Go.step (T' := T119) (g' := (mkF m 118 #[.val (.int y), .val (.int ci), .val (.ref b1), s3, s4, .val (.int (Int32.ofNat (0))), .val (.int ng)] [])) st119 ?_
      refine Go.step (T' := T119) (g' := (mkF m 120 #[.val (.int y), .val (.int ci), .val (.ref b1), s3, s4, .val (.int (Int32.ofNat (0))), .val (.int ng)] [(.int (Int32.ofNat (0)))])) (fun _ k => XS.iload X119.here hx rfl (hb hby d_jdk_33_method_12_118) rfl  k) ?_
      exact Go.retI X119 hx hret hlk (hb hby d_jdk_33_method_12_120) (by rw [e119]; exact ⟨_, _, rfl, N119, K119, (by rw [List.length_set, hl2]), V119, own_sign hl2 hs1 rfl (fun j hj => hd2 j (by omega))⟩) (by omega) (by omega)
  · skip
    refine Go.step (T' := T103) (g' := (mkF m 104 #[.val (.int y), .val (.int ci), .val (.ref b1), s3, s4, .val (.int (Int32.ofNat (own_nd M0 + sg - t - 1))), .val (.int ng)] [])) (fun _ k => XS.icmpYes X103.here hx rfl (pc0 := 88) (pc' := 104) rfl (hb hby d_jdk_33_method_12_88) rfl (flt hc109).2.1 (by decide) (by decide) k) ?_
    have h1 : own_nd M0 = t + 1 := by rw [hnd, if_pos (by have r : -9 ≤ y.toInt := own_geZ' hc109 rfl; omega)]
    refine Go.step (T' := T103) (g' := (mkF m 106 #[.val (.int y), .val (.int ci), .val (.ref b1), s3, s4, .val (.int (Int32.ofNat (own_nd M0 + sg - t - 1))), .val (.int ng)] [(.int ng)])) (fun _ k => XS.iload X103.here hx rfl (hb hby d_jdk_33_method_12_104) rfl  k) ?_
    by_cases hc125 : ng = (0 : Int32)
    · skip
      refine Go.step (T' := T103) (g' := (mkF m 118 #[.val (.int y), .val (.int ci), .val (.ref b1), s3, s4, .val (.int (Int32.ofNat (own_nd M0 + sg - t - 1))), .val (.int ng)] [])) (fun _ k => XS.ifYes X103.here hx rfl (pc0 := 106) (pc' := 118) rfl (hb hby d_jdk_33_method_12_106) rfl ((if0 _ _).trans (teq hc125).1) (by decide) (by decide) k) ?_
      refine Go.step (T' := T103) (g' := (mkF m 120 #[.val (.int y), .val (.int ci), .val (.ref b1), s3, s4, .val (.int (Int32.ofNat (own_nd M0 + sg - t - 1))), .val (.int ng)] [(.int (Int32.ofNat (own_nd M0 + sg - t - 1)))])) (fun _ k => XS.iload X103.here hx rfl (hb hby d_jdk_33_method_12_118) rfl  k) ?_
      exact Go.retI X103 hx hret hlk (hb hby d_jdk_33_method_12_120) (by rw [e103]; exact ⟨_, _, rfl, N103, K103, hl1, V103, own_nosign (by have q := hc125; rw [hng] at q; have r := congrArg Int32.toInt q; rw [own_ofNat (by omega)] at r; have r0 : (0 : Int32).toInt = 0 := rfl; omega) (fun j hj => hd1 j (by omega))⟩) (by omega) (by omega)
    · skip
      refine Go.step (T' := T103) (g' := (mkF m 109 #[.val (.int y), .val (.int ci), .val (.ref b1), s3, s4, .val (.int (Int32.ofNat (own_nd M0 + sg - t - 1))), .val (.int ng)] [])) (fun _ k => XS.ifNo X103.here hx rfl (hb hby d_jdk_33_method_12_106) rfl ((if0 _ _).trans (feq hc125).1) k) ?_
      refine Go.step (T' := T103) (g' := (mkF m 110 #[.val (.int y), .val (.int ci), .val (.ref b1), s3, s4, .val (.int (Int32.ofNat (own_nd M0 + sg - t - 1))), .val (.int ng)] [(.ref b1)])) (fun _ k => XS.aloadN X103.here hx rfl (hb hby d_jdk_33_method_12_109) rfl rfl k) ?_
      refine Go.step (T' := T103) (g' := (mkF m 113 #[.val (.int y), .val (.int ci), .val (.ref b1), s3, s4, .val (.int ((Int32.ofNat (own_nd M0 + sg - t - 1)) + (-1 : Int32))), .val (.int ng)] [(.ref b1)])) (fun _ k => XS.iinc X103.here hx rfl (hb hby d_jdk_33_method_12_110) rfl (l' := #[.val (.int y), .val (.int ci), .val (.ref b1), s3, s4, .val (.int ((Int32.ofNat (own_nd M0 + sg - t - 1)) + (-1 : Int32))), .val (.int ng)]) rfl k) ?_
      have hs1 : sg = 1 := by rcases Nat.lt_or_ge sg 1 with q | q; exact absurd (by rw [hng, show sg = 0 by omega]; rfl) hc125; omega
      rw [own_dec (c' := 0) (by omega) (by omega)]
      refine Go.step (T' := T103) (g' := (mkF m 115 #[.val (.int y), .val (.int ci), .val (.ref b1), s3, s4, .val (.int (Int32.ofNat (0))), .val (.int ng)] [(.int (Int32.ofNat (0))), (.ref b1)])) (fun _ k => XS.iload X103.here hx rfl (hb hby d_jdk_33_method_12_113) rfl  k) ?_
      refine Go.step (T' := T103) (g' := (mkF m 117 #[.val (.int y), .val (.int ci), .val (.ref b1), s3, s4, .val (.int (Int32.ofNat (0))), .val (.int ng)] [(.int (45 : Int32)), (.int (Int32.ofNat (0))), (.ref b1)])) (fun _ k => XS.bipush X103.here hx rfl (hb hby d_jdk_33_method_12_115) k) ?_
      obtain ⟨cl126, Ar126, q126, S126, M126, H126, G126⟩ := id V103
      obtain ⟨T126, h126, X126, e126, W126, st126⟩ := stB X103 hx hZ e103 Ar126 (j := (Int32.ofNat (0))) (inb_of S126 (own_16 (by omega))) (g := (mkF m 117 #[.val (.int y), .val (.int ci), .val (.ref b1), s3, s4, .val (.int (Int32.ofNat (0))), .val (.int ng)] [(.int (45 : Int32)), (.int (Int32.ofNat (0))), (.ref b1)])) rfl rfl (hb hby d_jdk_33_method_12_117)
      have V126 : Arv Z h126 b1 k1 .byte (16 : Int32) ((vs.set (own_nd M0 + sg - t - 1) (.int (nar .byte (Int32.ofNat (48 + M0 / 10 ^ t % 10))))).set 0 (.int (nar .byte (45 : Int32)))) (.int (0 : Int32)) := Arv.set Ar126 q126 S126 M126 H126 G126 (fits_nar_byte _) W126 0 (own_clamp (by omega)) (by rw [hl1]; decide)
      have N126 := Fr.snoc X126 N103 f8
      have Z126 : n0 ≤ h126.size := Nat.le_trans Z103 (Keep.of_wr W126).1
      have K126 := K103.wr W126 (Or.inl (List.mem_of_getElem? (i := 0) rfl))
      have F127 := F104.wr W126
      have F128 := F105.wr W126
      have F129 := F106.other W126 f6
      have F130 := F107.other W126 f7
      have F131 := F108.wr W126
      refine Go.step (T' := T126) (g' := (mkF m 118 #[.val (.int y), .val (.int ci), .val (.ref b1), s3, s4, .val (.int (Int32.ofNat (0))), .val (.int ng)] [])) st126 ?_
      refine Go.step (T' := T126) (g' := (mkF m 120 #[.val (.int y), .val (.int ci), .val (.ref b1), s3, s4, .val (.int (Int32.ofNat (0))), .val (.int ng)] [(.int (Int32.ofNat (0)))])) (fun _ k => XS.iload X126.here hx rfl (hb hby d_jdk_33_method_12_118) rfl  k) ?_
      exact Go.retI X126 hx hret hlk (hb hby d_jdk_33_method_12_120) (by rw [e126]; exact ⟨_, _, rfl, N126, K126, (by rw [List.length_set, hl1]), V126, own_sign hl1 hs1 rfl (fun j hj => hd1 j (by omega))⟩) (by omega) (by omega)
theorem own_ndt8 {M0 : Nat} (hM0 : M0 ≤ 2147483648) (hlow : 100000000 ≤ M0) (hM : M0 / 100000000 < 100) : own_nd M0 = 8 + (if M0 / 10 ^ 8 < 10 then 1 else 2) := by
  rw [show 10 ^ 8 = 100000000 from rfl]
  split
  · exact own_nd9 hlow (by omega)
  · exact own_nd10 (by omega) trivial
theorem d_jdk_33_method_12_22 : decode jdk_33_method_12_code 22 = .ok (.iload_n 0, 1) := by decide +kernel
theorem d_jdk_33_method_12_23 : decode jdk_33_method_12_code 23 = .ok (.bipush (-100), 2) := by decide +kernel
theorem d_jdk_33_method_12_25 : decode jdk_33_method_12_code 25 = .ok (.if_icmp .gt 47, 3) := by decide +kernel
set_option maxRecDepth 65536 in
set_option maxHeartbeats 40000000 in
theorem own_gc8 {pgm : Program} {l : Launch} {e : Env} {s : State} {m : MethodId} {args : Array Value} {below : List Frame} {meth : Method} {c : Code} {T0 : State} {locs : List Loc} {cells slots : Nat} {Z : State} {a0 : Array Value} {h0 : Heap} {n0 : Nat} (y : Int32) (ci : Int32) (ng : Int32) (b1 : Addr) (k1 : ClassId) (d1 : Addr) (d2 : Addr) (kd1 : ClassId) (kd2 : ClassId) (hB0 : Heap) (sg : Nat) (M0 : Nat) (vs : List Value) (q3 : Int32) (q4 : Int32)
    (X0 : Stand pgm l e ({ frames := 0, cells := 0, slots := 0, locals := 0 } : Room) s m args below meth c T0 locs cells slots) (hx : pgm.tables.exec = Jvm.exec) (hZ : Z.Warmed39 s.vm) (hw : ∀ d ∈ tables_1, d.before a0 Z = true) (hby : c.code = jdk_33_method_12_code) (hml : c.maxLocals = 7) (hown : s.vm.findClass "java/lang/Integer" = some m.cls) (hret : meth.sig.returnType = (some .int)) (hlk : meth.locks = false) (e0 : T0.heap = h0) (N0 : Fr n0 locs) (Z0 : n0 ≤ h0.size) (hcells : cells ≤ 0) (hslots : slots ≤ 0) (f0 : Sta Z h0 "java/lang/Integer" "DigitOnes" "[B" (.ref d1)) (f1 : Sta Z h0 "java/lang/Integer" "DigitTens" "[B" (.ref d2)) (f2 : Arv Z h0 d1 kd1 .byte (100 : Int32) own_ones (.int (0 : Int32))) (f3 : Arv Z h0 d2 kd2 .byte (100 : Int32) own_tens (.int (0 : Int32))) (f4 : Arv Z h0 b1 k1 .byte (16 : Int32) vs (.int (0 : Int32))) (f5 : Exa Z h0 b1 "[B") (f6 : d1 ≠ b1) (f7 : d2 ≠ b1) (f8 : n0 ≤ b1) (K00 : Keep hB0 h0 [b1]) (hM0 : M0 ≤ 2147483648) (hy : y.toInt = -((M0 / 100000000 : Nat) : Int)) (hl : vs.length = 16) (hsg : sg ≤ 1) (hng : ng = Int32.ofNat sg) (hdn : ∀ j, j < 8 → vs.getD (own_nd M0 + sg - 1 - j) (.int (0 : Int32)) = .int (own_dg M0 j)) (hlow : 100000000 ≤ M0) :
    Go pgm e below s (Qgc Z b1 k1 M0 sg hB0 n0) 0 0 T0 (mkF m 22 #[.val (.int y), .val (.int ci), .val (.ref b1), .val (.int q3), .val (.int q4), .val (.int (Int32.ofNat (own_nd M0 + sg - 8))), .val (.int ng)] []) := by
  have hn10 := own_nd_le M0
  have hc8 : (-100 : Int32) < y := by rw [Int32.lt_iff_toInt_lt, show (-100 : Int32).toInt = -100 from rfl]; omega
  refine Go.step (T' := T0) (g' := (mkF m 23 #[.val (.int y), .val (.int ci), .val (.ref b1), .val (.int q3), .val (.int q4), .val (.int (Int32.ofNat (own_nd M0 + sg - 8))), .val (.int ng)] [(.int y)])) (fun _ k => XS.iloadN X0.here hx rfl (hb hby d_jdk_33_method_12_22) rfl  k) ?_
  refine Go.step (T' := T0) (g' := (mkF m 25 #[.val (.int y), .val (.int ci), .val (.ref b1), .val (.int q3), .val (.int q4), .val (.int (Int32.ofNat (own_nd M0 + sg - 8))), .val (.int ng)] [(.int (-100 : Int32)), (.int y)])) (fun _ k => XS.bipush X0.here hx rfl (hb hby d_jdk_33_method_12_23) k) ?_
  refine Go.step (T' := T0) (g' := (mkF m 72 #[.val (.int y), .val (.int ci), .val (.ref b1), .val (.int q3), .val (.int q4), .val (.int (Int32.ofNat (own_nd M0 + sg - 8))), .val (.int ng)] [])) (fun _ k => XS.icmpYes X0.here hx rfl (pc0 := 25) (pc' := 72) rfl (hb hby d_jdk_33_method_12_25) rfl (tlt hc8).2.2.1 (by decide) (by decide) k) ?_
  have hM : M0 / 100000000 < 100 := by have r : -100 < y.toInt := own_ltZ hc8 rfl; omega
  exact own_gcx y ci ng b1 k1 d1 d2 kd1 kd2 hB0 sg M0 vs 8 (.val (.int q3)) (.val (.int q4)) X0 hx hZ hw hby hml hown hret hlk e0 N0 Z0 (by omega) (by omega) f0 f1 f2 f3 f4 f5 f6 f7 f8 K00 hM0 hy hl hsg hng hdn hM (own_ndt8 hM0 hlow hM)
theorem own_ndt6 {M0 : Nat} (hM0 : M0 ≤ 2147483648) (hlow : 1000000 ≤ M0) (hM : M0 / 1000000 < 100) : own_nd M0 = 6 + (if M0 / 10 ^ 6 < 10 then 1 else 2) := by
  rw [show 10 ^ 6 = 1000000 from rfl]
  split
  · exact own_nd7 hlow (by omega)
  · exact own_nd8 (by omega) (by omega)
theorem d_jdk_33_method_12_28 : decode jdk_33_method_12_code 28 = .ok (.iload_n 0, 1) := by decide +kernel
theorem d_jdk_33_method_12_29 : decode jdk_33_method_12_code 29 = .ok (.bipush 100, 2) := by decide +kernel
theorem d_jdk_33_method_12_31 : decode jdk_33_method_12_code 31 = .ok (.idiv, 1) := by decide +kernel
theorem d_jdk_33_method_12_32 : decode jdk_33_method_12_code 32 = .ok (.istore_n 3, 1) := by decide +kernel
theorem d_jdk_33_method_12_33 : decode jdk_33_method_12_code 33 = .ok (.iload_n 3, 1) := by decide +kernel
theorem d_jdk_33_method_12_34 : decode jdk_33_method_12_code 34 = .ok (.bipush 100, 2) := by decide +kernel
theorem d_jdk_33_method_12_36 : decode jdk_33_method_12_code 36 = .ok (.imul, 1) := by decide +kernel
theorem d_jdk_33_method_12_37 : decode jdk_33_method_12_code 37 = .ok (.iload_n 0, 1) := by decide +kernel
theorem d_jdk_33_method_12_38 : decode jdk_33_method_12_code 38 = .ok (.isub, 1) := by decide +kernel
theorem d_jdk_33_method_12_39 : decode jdk_33_method_12_code 39 = .ok (.istore 4, 2) := by decide +kernel
theorem d_jdk_33_method_12_41 : decode jdk_33_method_12_code 41 = .ok (.iload_n 3, 1) := by decide +kernel
theorem d_jdk_33_method_12_42 : decode jdk_33_method_12_code 42 = .ok (.istore_n 0, 1) := by decide +kernel
theorem d_jdk_33_method_12_43 : decode jdk_33_method_12_code 43 = .ok (.aload_n 2, 1) := by decide +kernel
theorem d_jdk_33_method_12_44 : decode jdk_33_method_12_code 44 = .ok (.iinc 5 (-1), 3) := by decide +kernel
theorem d_jdk_33_method_12_47 : decode jdk_33_method_12_code 47 = .ok (.iload 5, 2) := by decide +kernel
theorem d_jdk_33_method_12_49 : decode jdk_33_method_12_code 49 = .ok (.getstatic 83, 3) := by decide +kernel
theorem d_jdk_33_method_12_52 : decode jdk_33_method_12_code 52 = .ok (.iload 4, 2) := by decide +kernel
theorem d_jdk_33_method_12_54 : decode jdk_33_method_12_code 54 = .ok (.baload, 1) := by decide +kernel
theorem d_jdk_33_method_12_55 : decode jdk_33_method_12_code 55 = .ok (.bastore, 1) := by decide +kernel
theorem d_jdk_33_method_12_56 : decode jdk_33_method_12_code 56 = .ok (.aload_n 2, 1) := by decide +kernel
theorem d_jdk_33_method_12_57 : decode jdk_33_method_12_code 57 = .ok (.iinc 5 (-1), 3) := by decide +kernel
theorem d_jdk_33_method_12_60 : decode jdk_33_method_12_code 60 = .ok (.iload 5, 2) := by decide +kernel
theorem d_jdk_33_method_12_62 : decode jdk_33_method_12_code 62 = .ok (.getstatic 87, 3) := by decide +kernel
theorem d_jdk_33_method_12_65 : decode jdk_33_method_12_code 65 = .ok (.iload 4, 2) := by decide +kernel
theorem d_jdk_33_method_12_67 : decode jdk_33_method_12_code 67 = .ok (.baload, 1) := by decide +kernel
theorem d_jdk_33_method_12_68 : decode jdk_33_method_12_code 68 = .ok (.bastore, 1) := by decide +kernel
theorem d_jdk_33_method_12_69 : decode jdk_33_method_12_code 69 = .ok (.goto (-47), 3) := by decide +kernel
set_option maxRecDepth 65536 in
set_option maxHeartbeats 40000000 in
theorem own_gc6 {pgm : Program} {l : Launch} {e : Env} {s : State} {m : MethodId} {args : Array Value} {below : List Frame} {meth : Method} {c : Code} {T0 : State} {locs : List Loc} {cells slots : Nat} {Z : State} {a0 : Array Value} {h0 : Heap} {n0 : Nat} (y : Int32) (ci : Int32) (ng : Int32) (b1 : Addr) (k1 : ClassId) (d1 : Addr) (d2 : Addr) (kd1 : ClassId) (kd2 : ClassId) (hB0 : Heap) (sg : Nat) (M0 : Nat) (vs : List Value) (q3 : Int32) (q4 : Int32)
    (X0 : Stand pgm l e ({ frames := 0, cells := 0, slots := 0, locals := 0 } : Room) s m args below meth c T0 locs cells slots) (hx : pgm.tables.exec = Jvm.exec) (hZ : Z.Warmed39 s.vm) (hw : ∀ d ∈ tables_1, d.before a0 Z = true) (hby : c.code = jdk_33_method_12_code) (hml : c.maxLocals = 7) (hown : s.vm.findClass "java/lang/Integer" = some m.cls) (hret : meth.sig.returnType = (some .int)) (hlk : meth.locks = false) (e0 : T0.heap = h0) (N0 : Fr n0 locs) (Z0 : n0 ≤ h0.size) (hcells : cells ≤ 0) (hslots : slots ≤ 0) (f0 : Sta Z h0 "java/lang/Integer" "DigitOnes" "[B" (.ref d1)) (f1 : Sta Z h0 "java/lang/Integer" "DigitTens" "[B" (.ref d2)) (f2 : Arv Z h0 d1 kd1 .byte (100 : Int32) own_ones (.int (0 : Int32))) (f3 : Arv Z h0 d2 kd2 .byte (100 : Int32) own_tens (.int (0 : Int32))) (f4 : Arv Z h0 b1 k1 .byte (16 : Int32) vs (.int (0 : Int32))) (f5 : Exa Z h0 b1 "[B") (f6 : d1 ≠ b1) (f7 : d2 ≠ b1) (f8 : n0 ≤ b1) (K00 : Keep hB0 h0 [b1]) (hM0 : M0 ≤ 2147483648) (hy : y.toInt = -((M0 / 1000000 : Nat) : Int)) (hl : vs.length = 16) (hsg : sg ≤ 1) (hng : ng = Int32.ofNat sg) (hdn : ∀ j, j < 6 → vs.getD (own_nd M0 + sg - 1 - j) (.int (0 : Int32)) = .int (own_dg M0 j)) (hlow : 1000000 ≤ M0) :
    Go pgm e below s (Qgc Z b1 k1 M0 sg hB0 n0) 0 0 T0 (mkF m 22 #[.val (.int y), .val (.int ci), .val (.ref b1), .val (.int q3), .val (.int q4), .val (.int (Int32.ofNat (own_nd M0 + sg - 6))), .val (.int ng)] []) := by
  have hn10 := own_nd_le M0
  refine Go.step (T' := T0) (g' := (mkF m 23 #[.val (.int y), .val (.int ci), .val (.ref b1), .val (.int q3), .val (.int q4), .val (.int (Int32.ofNat (own_nd M0 + sg - 6))), .val (.int ng)] [(.int y)])) (fun _ k => XS.iloadN X0.here hx rfl (hb hby d_jdk_33_method_12_22) rfl  k) ?_
  refine Go.step (T' := T0) (g' := (mkF m 25 #[.val (.int y), .val (.int ci), .val (.ref b1), .val (.int q3), .val (.int q4), .val (.int (Int32.ofNat (own_nd M0 + sg - 6))), .val (.int ng)] [(.int (-100 : Int32)), (.int y)])) (fun _ k => XS.bipush X0.here hx rfl (hb hby d_jdk_33_method_12_23) k) ?_
  by_cases hc101 : (-100 : Int32) < y
  · skip
    refine Go.step (T' := T0) (g' := (mkF m 72 #[.val (.int y), .val (.int ci), .val (.ref b1), .val (.int q3), .val (.int q4), .val (.int (Int32.ofNat (own_nd M0 + sg - 6))), .val (.int ng)] [])) (fun _ k => XS.icmpYes X0.here hx rfl (pc0 := 25) (pc' := 72) rfl (hb hby d_jdk_33_method_12_25) rfl (tlt hc101).2.2.1 (by decide) (by decide) k) ?_
    have hM : M0 / 1000000 < 100 := by have r : -100 < y.toInt := own_ltZ hc101 rfl; omega
    exact own_gcx y ci ng b1 k1 d1 d2 kd1 kd2 hB0 sg M0 vs 6 (.val (.int q3)) (.val (.int q4)) X0 hx hZ hw hby hml hown hret hlk e0 N0 Z0 (by omega) (by omega) f0 f1 f2 f3 f4 f5 f6 f7 f8 K00 hM0 hy hl hsg hng hdn hM (own_ndt6 hM0 hlow hM)
  · skip
    refine Go.step (T' := T0) (g' := (mkF m 28 #[.val (.int y), .val (.int ci), .val (.ref b1), .val (.int q3), .val (.int q4), .val (.int (Int32.ofNat (own_nd M0 + sg - 6))), .val (.int ng)] [])) (fun _ k => XS.icmpNo X0.here hx rfl (hb hby d_jdk_33_method_12_25) rfl (flt hc101).2.2.1 k) ?_
    have hMM : 100 ≤ M0 / 1000000 := by have r : y.toInt ≤ -100 := own_geZ hc101 rfl; omega
    have hnd : 9 ≤ own_nd M0 := own_low9 (by omega)
    obtain ⟨e1, e2⟩ := own_turn (M := M0 / 1000000) (by omega) hy
    refine Go.step (T' := T0) (g' := (mkF m 29 #[.val (.int y), .val (.int ci), .val (.ref b1), .val (.int q3), .val (.int q4), .val (.int (Int32.ofNat (own_nd M0 + sg - 6))), .val (.int ng)] [(.int y)])) (fun _ k => XS.iloadN X0.here hx rfl (hb hby d_jdk_33_method_12_28) rfl  k) ?_
    refine Go.step (T' := T0) (g' := (mkF m 31 #[.val (.int y), .val (.int ci), .val (.ref b1), .val (.int q3), .val (.int q4), .val (.int (Int32.ofNat (own_nd M0 + sg - 6))), .val (.int ng)] [(.int (100 : Int32)), (.int y)])) (fun _ k => XS.bipush X0.here hx rfl (hb hby d_jdk_33_method_12_29) k) ?_
    refine Go.step (T' := T0) (g' := (mkF m 32 #[.val (.int y), .val (.int ci), .val (.ref b1), .val (.int q3), .val (.int q4), .val (.int (Int32.ofNat (own_nd M0 + sg - 6))), .val (.int ng)] [(.int (y / (100 : Int32)))])) (fun _ k => XS.idiv X0.here hx rfl (hb hby d_jdk_33_method_12_31) rfl (by decide) k) ?_
    refine Go.step (T' := T0) (g' := (mkF m 33 #[.val (.int y), .val (.int ci), .val (.ref b1), .val (.int (y / (100 : Int32))), .val (.int q4), .val (.int (Int32.ofNat (own_nd M0 + sg - 6))), .val (.int ng)] [])) (fun _ k => XS.istoreN X0.here hx rfl (hb hby d_jdk_33_method_12_32) rfl (l' := #[.val (.int y), .val (.int ci), .val (.ref b1), .val (.int (y / (100 : Int32))), .val (.int q4), .val (.int (Int32.ofNat (own_nd M0 + sg - 6))), .val (.int ng)]) rfl k) ?_
    refine Go.step (T' := T0) (g' := (mkF m 34 #[.val (.int y), .val (.int ci), .val (.ref b1), .val (.int (y / (100 : Int32))), .val (.int q4), .val (.int (Int32.ofNat (own_nd M0 + sg - 6))), .val (.int ng)] [(.int (y / (100 : Int32)))])) (fun _ k => XS.iloadN X0.here hx rfl (hb hby d_jdk_33_method_12_33) rfl  k) ?_
    refine Go.step (T' := T0) (g' := (mkF m 36 #[.val (.int y), .val (.int ci), .val (.ref b1), .val (.int (y / (100 : Int32))), .val (.int q4), .val (.int (Int32.ofNat (own_nd M0 + sg - 6))), .val (.int ng)] [(.int (100 : Int32)), (.int (y / (100 : Int32)))])) (fun _ k => XS.bipush X0.here hx rfl (hb hby d_jdk_33_method_12_34) k) ?_
    refine Go.step (T' := T0) (g' := (mkF m 37 #[.val (.int y), .val (.int ci), .val (.ref b1), .val (.int (y / (100 : Int32))), .val (.int q4), .val (.int (Int32.ofNat (own_nd M0 + sg - 6))), .val (.int ng)] [(.int ((y / (100 : Int32)) * (100 : Int32)))])) (fun _ k => XS.imul X0.here hx rfl (hb hby d_jdk_33_method_12_36) rfl k) ?_
    refine Go.step (T' := T0) (g' := (mkF m 38 #[.val (.int y), .val (.int ci), .val (.ref b1), .val (.int (y / (100 : Int32))), .val (.int q4), .val (.int (Int32.ofNat (own_nd M0 + sg - 6))), .val (.int ng)] [(.int y), (.int ((y / (100 : Int32)) * (100 : Int32)))])) (fun _ k => XS.iloadN X0.here hx rfl (hb hby d_jdk_33_method_12_37) rfl  k) ?_
    refine Go.step (T' := T0) (g' := (mkF m 39 #[.val (.int y), .val (.int ci), .val (.ref b1), .val (.int (y / (100 : Int32))), .val (.int q4), .val (.int (Int32.ofNat (own_nd M0 + sg - 6))), .val (.int ng)] [(.int (((y / (100 : Int32)) * (100 : Int32)) - y))])) (fun _ k => XS.isub X0.here hx rfl (hb hby d_jdk_33_method_12_38) rfl k) ?_
    refine Go.step (T' := T0) (g' := (mkF m 41 #[.val (.int y), .val (.int ci), .val (.ref b1), .val (.int (y / (100 : Int32))), .val (.int (((y / (100 : Int32)) * (100 : Int32)) - y)), .val (.int (Int32.ofNat (own_nd M0 + sg - 6))), .val (.int ng)] [])) (fun _ k => XS.istore X0.here hx rfl (hb hby d_jdk_33_method_12_39) rfl (l' := #[.val (.int y), .val (.int ci), .val (.ref b1), .val (.int (y / (100 : Int32))), .val (.int (((y / (100 : Int32)) * (100 : Int32)) - y)), .val (.int (Int32.ofNat (own_nd M0 + sg - 6))), .val (.int ng)]) rfl k) ?_
    rw [e2]
    refine Go.step (T' := T0) (g' := (mkF m 42 #[.val (.int y), .val (.int ci), .val (.ref b1), .val (.int (y / (100 : Int32))), .val (.int (Int32.ofNat (M0 / 1000000 % 100))), .val (.int (Int32.ofNat (own_nd M0 + sg - 6))), .val (.int ng)] [(.int (y / (100 : Int32)))])) (fun _ k => XS.iloadN X0.here hx rfl (hb hby d_jdk_33_method_12_41) rfl  k) ?_
    refine Go.step (T' := T0) (g' := (mkF m 43 #[.val (.int (y / (100 : Int32))), .val (.int ci), .val (.ref b1), .val (.int (y / (100 : Int32))), .val (.int (Int32.ofNat (M0 / 1000000 % 100))), .val (.int (Int32.ofNat (own_nd M0 + sg - 6))), .val (.int ng)] [])) (fun _ k => XS.istoreN X0.here hx rfl (hb hby d_jdk_33_method_12_42) rfl (l' := #[.val (.int (y / (100 : Int32))), .val (.int ci), .val (.ref b1), .val (.int (y / (100 : Int32))), .val (.int (Int32.ofNat (M0 / 1000000 % 100))), .val (.int (Int32.ofNat (own_nd M0 + sg - 6))), .val (.int ng)]) rfl k) ?_
    refine Go.step (T' := T0) (g' := (mkF m 44 #[.val (.int (y / (100 : Int32))), .val (.int ci), .val (.ref b1), .val (.int (y / (100 : Int32))), .val (.int (Int32.ofNat (M0 / 1000000 % 100))), .val (.int (Int32.ofNat (own_nd M0 + sg - 6))), .val (.int ng)] [(.ref b1)])) (fun _ k => XS.aloadN X0.here hx rfl (hb hby d_jdk_33_method_12_43) rfl rfl k) ?_
    refine Go.step (T' := T0) (g' := (mkF m 47 #[.val (.int (y / (100 : Int32))), .val (.int ci), .val (.ref b1), .val (.int (y / (100 : Int32))), .val (.int (Int32.ofNat (M0 / 1000000 % 100))), .val (.int ((Int32.ofNat (own_nd M0 + sg - 6)) + (-1 : Int32))), .val (.int ng)] [(.ref b1)])) (fun _ k => XS.iinc X0.here hx rfl (hb hby d_jdk_33_method_12_44) rfl (l' := #[.val (.int (y / (100 : Int32))), .val (.int ci), .val (.ref b1), .val (.int (y / (100 : Int32))), .val (.int (Int32.ofNat (M0 / 1000000 % 100))), .val (.int ((Int32.ofNat (own_nd M0 + sg - 6)) + (-1 : Int32))), .val (.int ng)]) rfl k) ?_
    rw [own_dec (c' := own_nd M0 + sg - 7) (by omega) (by omega)]
    refine Go.step (T' := T0) (g' := (mkF m 49 #[.val (.int (y / (100 : Int32))), .val (.int ci), .val (.ref b1), .val (.int (y / (100 : Int32))), .val (.int (Int32.ofNat (M0 / 1000000 % 100))), .val (.int (Int32.ofNat (own_nd M0 + sg - 7))), .val (.int ng)] [(.int (Int32.ofNat (own_nd M0 + sg - 7))), (.ref b1)])) (fun _ k => XS.iload X0.here hx rfl (hb hby d_jdk_33_method_12_47) rfl  k) ?_
    obtain ⟨T102, X102, e102, st102⟩ := getS2 X0 hx hZ hown (host := "") (Or.inl (hwi hw 55 rfl)) Via.refl e0 f0 (g := (mkF m 49 #[.val (.int (y / (100 : Int32))), .val (.int ci), .val (.ref b1), .val (.int (y / (100 : Int32))), .val (.int (Int32.ofNat (M0 / 1000000 % 100))), .val (.int (Int32.ofNat (own_nd M0 + sg - 7))), .val (.int ng)] [(.int (Int32.ofNat (own_nd M0 + sg - 7))), (.ref b1)])) rfl (hb hby d_jdk_33_method_12_49)
    refine Go.step (T' := T102) (g' := (mkF m 52 #[.val (.int (y / (100 : Int32))), .val (.int ci), .val (.ref b1), .val (.int (y / (100 : Int32))), .val (.int (Int32.ofNat (M0 / 1000000 % 100))), .val (.int (Int32.ofNat (own_nd M0 + sg - 7))), .val (.int ng)] [(.ref d1), (.int (Int32.ofNat (own_nd M0 + sg - 7))), (.ref b1)])) st102 ?_
    refine Go.step (T' := T102) (g' := (mkF m 54 #[.val (.int (y / (100 : Int32))), .val (.int ci), .val (.ref b1), .val (.int (y / (100 : Int32))), .val (.int (Int32.ofNat (M0 / 1000000 % 100))), .val (.int (Int32.ofNat (own_nd M0 + sg - 7))), .val (.int ng)] [(.int (Int32.ofNat (M0 / 1000000 % 100))), (.ref d1), (.int (Int32.ofNat (own_nd M0 + sg - 7))), (.ref b1)])) (fun _ k => XS.iload X102.here hx rfl (hb hby d_jdk_33_method_12_52) rfl  k) ?_
    obtain ⟨cl103, Ar103, q103, S103, M103, H103, G103⟩ := id f2
    have I103 := inb_of (j := (Int32.ofNat (M0 / 1000000 % 100))) S103 (own_100 (by omega))
    refine Go.step (T' := T102) (g' := (mkF m 55 #[.val (.int (y / (100 : Int32))), .val (.int ci), .val (.ref b1), .val (.int (y / (100 : Int32))), .val (.int (Int32.ofNat (M0 / 1000000 % 100))), .val (.int (Int32.ofNat (own_nd M0 + sg - 7))), .val (.int ng)] [(.int (Int32.ofNat (48 + M0 / 1000000 % 100 % 10))), (.int (Int32.ofNat (own_nd M0 + sg - 7))), (.ref b1)])) (fun _ k => X102.baloadBytes hx (j := (Int32.ofNat (M0 / 1000000 % 100))) (v := (.int (Int32.ofNat (48 + M0 / 1000000 % 100 % 10)))) (by rw [e102]; exact Ar103.1) (State.isArrayOf_alike hZ.alike Ar103.2.1) Ar103.2.2 I103 (Has.at H103 I103 (own_1at (by omega))) (g := (mkF m 54 #[.val (.int (y / (100 : Int32))), .val (.int ci), .val (.ref b1), .val (.int (y / (100 : Int32))), .val (.int (Int32.ofNat (M0 / 1000000 % 100))), .val (.int (Int32.ofNat (own_nd M0 + sg - 7))), .val (.int ng)] [(.int (Int32.ofNat (M0 / 1000000 % 100))), (.ref d1), (.int (Int32.ofNat (own_nd M0 + sg - 7))), (.ref b1)])) rfl rfl (hb hby d_jdk_33_method_12_54) _ k) ?_
    obtain ⟨cl104, Ar104, q104, S104, M104, H104, G104⟩ := id f4
    obtain ⟨T104, h104, X104, e104, W104, st104⟩ := stB X102 hx hZ e102 Ar104 (j := (Int32.ofNat (own_nd M0 + sg - 7))) (inb_of S104 (own_16 (by omega))) (g := (mkF m 55 #[.val (.int (y / (100 : Int32))), .val (.int ci), .val (.ref b1), .val (.int (y / (100 : Int32))), .val (.int (Int32.ofNat (M0 / 1000000 % 100))), .val (.int (Int32.ofNat (own_nd M0 + sg - 7))), .val (.int ng)] [(.int (Int32.ofNat (48 + M0 / 1000000 % 100 % 10))), (.int (Int32.ofNat (own_nd M0 + sg - 7))), (.ref b1)])) rfl rfl (hb hby d_jdk_33_method_12_55)
    have V104 : Arv Z h104 b1 k1 .byte (16 : Int32) (vs.set (own_nd M0 + sg - 7) (.int (nar .byte (Int32.ofNat (48 + M0 / 1000000 % 100 % 10))))) (.int (0 : Int32)) := Arv.set Ar104 q104 S104 M104 H104 G104 (fits_nar_byte _) W104 (own_nd M0 + sg - 7) (own_clamp (by omega)) (by rw [hl]; omega)
    have N104 := Fr.snoc X104 N0 f8
    have Z104 : n0 ≤ h104.size := Nat.le_trans Z0 (Keep.of_wr W104).1
    have K104 := K00.wr W104 (Or.inl (List.mem_of_getElem? (i := 0) rfl))
    have F105 := f0.wr W104
    have F106 := f1.wr W104
    have F107 := f2.other W104 f6
    have F108 := f3.other W104 f7
    have F109 := f5.wr W104
    refine Go.step (T' := T104) (g' := (mkF m 56 #[.val (.int (y / (100 : Int32))), .val (.int ci), .val (.ref b1), .val (.int (y / (100 : Int32))), .val (.int (Int32.ofNat (M0 / 1000000 % 100))), .val (.int (Int32.ofNat (own_nd M0 + sg - 7))), .val (.int ng)] [])) st104 ?_
    have hd1 := own_dstep (t := 6) hl hdn (by omega) hsg (i := own_nd M0 + sg - 7) (by omega) (own_dgt (P := 1000000) rfl (k := M0 / 1000000 % 100 % 10) (by omega))
    have hl1 : (vs.set (own_nd M0 + sg - 7) (.int (nar .byte (Int32.ofNat (48 + M0 / 1000000 % 100 % 10))))).length = 16 := by rw [List.length_set, hl]
    refine Go.step (T' := T104) (g' := (mkF m 57 #[.val (.int (y / (100 : Int32))), .val (.int ci), .val (.ref b1), .val (.int (y / (100 : Int32))), .val (.int (Int32.ofNat (M0 / 1000000 % 100))), .val (.int (Int32.ofNat (own_nd M0 + sg - 7))), .val (.int ng)] [(.ref b1)])) (fun _ k => XS.aloadN X104.here hx rfl (hb hby d_jdk_33_method_12_56) rfl rfl k) ?_
    refine Go.step (T' := T104) (g' := (mkF m 60 #[.val (.int (y / (100 : Int32))), .val (.int ci), .val (.ref b1), .val (.int (y / (100 : Int32))), .val (.int (Int32.ofNat (M0 / 1000000 % 100))), .val (.int ((Int32.ofNat (own_nd M0 + sg - 7)) + (-1 : Int32))), .val (.int ng)] [(.ref b1)])) (fun _ k => XS.iinc X104.here hx rfl (hb hby d_jdk_33_method_12_57) rfl (l' := #[.val (.int (y / (100 : Int32))), .val (.int ci), .val (.ref b1), .val (.int (y / (100 : Int32))), .val (.int (Int32.ofNat (M0 / 1000000 % 100))), .val (.int ((Int32.ofNat (own_nd M0 + sg - 7)) + (-1 : Int32))), .val (.int ng)]) rfl k) ?_
    rw [own_dec (c' := own_nd M0 + sg - 8) (by omega) (by omega)]
    refine Go.step (T' := T104) (g' := (mkF m 62 #[.val (.int (y / (100 : Int32))), .val (.int ci), .val (.ref b1), .val (.int (y / (100 : Int32))), .val (.int (Int32.ofNat (M0 / 1000000 % 100))), .val (.int (Int32.ofNat (own_nd M0 + sg - 8))), .val (.int ng)] [(.int (Int32.ofNat (own_nd M0 + sg - 8))), (.ref b1)])) (fun _ k => XS.iload X104.here hx rfl (hb hby d_jdk_33_method_12_60) rfl  k) ?_
    obtain ⟨T110, X110, e110, st110⟩ := getS2 X104 hx hZ hown (host := "") (Or.inl (hwi hw 189 rfl)) Via.refl e104 F106 (g := (mkF m 62 #[.val (.int (y / (100 : Int32))), .val (.int ci), .val (.ref b1), .val (.int (y / (100 : Int32))), .val (.int (Int32.ofNat (M0 / 1000000 % 100))), .val (.int (Int32.ofNat (own_nd M0 + sg - 8))), .val (.int ng)] [(.int (Int32.ofNat (own_nd M0 + sg - 8))), (.ref b1)])) rfl (hb hby d_jdk_33_method_12_62)
    refine Go.step (T' := T110) (g' := (mkF m 65 #[.val (.int (y / (100 : Int32))), .val (.int ci), .val (.ref b1), .val (.int (y / (100 : Int32))), .val (.int (Int32.ofNat (M0 / 1000000 % 100))), .val (.int (Int32.ofNat (own_nd M0 + sg - 8))), .val (.int ng)] [(.ref d2), (.int (Int32.ofNat (own_nd M0 + sg - 8))), (.ref b1)])) st110 ?_
    refine Go.step (T' := T110) (g' := (mkF m 67 #[.val (.int (y / (100 : Int32))), .val (.int ci), .val (.ref b1), .val (.int (y / (100 : Int32))), .val (.int (Int32.ofNat (M0 / 1000000 % 100))), .val (.int (Int32.ofNat (own_nd M0 + sg - 8))), .val (.int ng)] [(.int (Int32.ofNat (M0 / 1000000 % 100))), (.ref d2), (.int (Int32.ofNat (own_nd M0 + sg - 8))), (.ref b1)])) (fun _ k => XS.iload X110.here hx rfl (hb hby d_jdk_33_method_12_65) rfl  k) ?_
    obtain ⟨cl111, Ar111, q111, S111, M111, H111, G111⟩ := id F108
    have I111 := inb_of (j := (Int32.ofNat (M0 / 1000000 % 100))) S111 (own_100 (by omega))
    refine Go.step (T' := T110) (g' := (mkF m 68 #[.val (.int (y / (100 : Int32))), .val (.int ci), .val (.ref b1), .val (.int (y / (100 : Int32))), .val (.int (Int32.ofNat (M0 / 1000000 % 100))), .val (.int (Int32.ofNat (own_nd M0 + sg - 8))), .val (.int ng)] [(.int (Int32.ofNat (48 + M0 / 1000000 % 100 / 10))), (.int (Int32.ofNat (own_nd M0 + sg - 8))), (.ref b1)])) (fun _ k => X110.baloadBytes hx (j := (Int32.ofNat (M0 / 1000000 % 100))) (v := (.int (Int32.ofNat (48 + M0 / 1000000 % 100 / 10)))) (by rw [e110]; exact Ar111.1) (State.isArrayOf_alike hZ.alike Ar111.2.1) Ar111.2.2 I111 (Has.at H111 I111 (own_10at (by omega))) (g := (mkF m 67 #[.val (.int (y / (100 : Int32))), .val (.int ci), .val (.ref b1), .val (.int (y / (100 : Int32))), .val (.int (Int32.ofNat (M0 / 1000000 % 100))), .val (.int (Int32.ofNat (own_nd M0 + sg - 8))), .val (.int ng)] [(.int (Int32.ofNat (M0 / 1000000 % 100))), (.ref d2), (.int (Int32.ofNat (own_nd M0 + sg - 8))), (.ref b1)])) rfl rfl (hb hby d_jdk_33_method_12_67) _ k) ?_
    obtain ⟨cl112, Ar112, q112, S112, M112, H112, G112⟩ := id V104
    obtain ⟨T112, h112, X112, e112, W112, st112⟩ := stB X110 hx hZ e110 Ar112 (j := (Int32.ofNat (own_nd M0 + sg - 8))) (inb_of S112 (own_16 (by omega))) (g := (mkF m 68 #[.val (.int (y / (100 : Int32))), .val (.int ci), .val (.ref b1), .val (.int (y / (100 : Int32))), .val (.int (Int32.ofNat (M0 / 1000000 % 100))), .val (.int (Int32.ofNat (own_nd M0 + sg - 8))), .val (.int ng)] [(.int (Int32.ofNat (48 + M0 / 1000000 % 100 / 10))), (.int (Int32.ofNat (own_nd M0 + sg - 8))), (.ref b1)])) rfl rfl (hb hby d_jdk_33_method_12_68)
    have V112 : Arv Z h112 b1 k1 .byte (16 : Int32) ((vs.set (own_nd M0 + sg - 7) (.int (nar .byte (Int32.ofNat (48 + M0 / 1000000 % 100 % 10))))).set (own_nd M0 + sg - 8) (.int (nar .byte (Int32.ofNat (48 + M0 / 1000000 % 100 / 10))))) (.int (0 : Int32)) := Arv.set Ar112 q112 S112 M112 H112 G112 (fits_nar_byte _) W112 (own_nd M0 + sg - 8) (own_clamp (by omega)) (by rw [hl1]; omega)
    have N112 := Fr.snoc X112 N104 f8
    have Z112 : n0 ≤ h112.size := Nat.le_trans Z104 (Keep.of_wr W112).1
    have K112 := K104.wr W112 (Or.inl (List.mem_of_getElem? (i := 0) rfl))
    have F113 := F105.wr W112
    have F114 := F106.wr W112
    have F115 := F107.other W112 f6
    have F116 := F108.other W112 f7
    have F117 := F109.wr W112
    refine Go.step (T' := T112) (g' := (mkF m 69 #[.val (.int (y / (100 : Int32))), .val (.int ci), .val (.ref b1), .val (.int (y / (100 : Int32))), .val (.int (Int32.ofNat (M0 / 1000000 % 100))), .val (.int (Int32.ofNat (own_nd M0 + sg - 8))), .val (.int ng)] [])) st112 ?_
    have hd2 := own_dstep (t := 7) hl1 hd1 (by omega) hsg (i := own_nd M0 + sg - 8) (by omega) (own_dgt (P := 10000000) rfl (k := M0 / 1000000 % 100 / 10) (by omega))
    have hl2 : ((vs.set (own_nd M0 + sg - 7) (.int (nar .byte (Int32.ofNat (48 + M0 / 1000000 % 100 % 10))))).set (own_nd M0 + sg - 8) (.int (nar .byte (Int32.ofNat (48 + M0 / 1000000 % 100 / 10))))).length = 16 := by rw [List.length_set, hl1]
    refine Go.step (T' := T112) (g' := (mkF m 22 #[.val (.int (y / (100 : Int32))), .val (.int ci), .val (.ref b1), .val (.int (y / (100 : Int32))), .val (.int (Int32.ofNat (M0 / 1000000 % 100))), .val (.int (Int32.ofNat (own_nd M0 + sg - 8))), .val (.int ng)] [])) (fun _ k => XS.goto X112.here hx rfl (pc0 := 69) (pc' := 22) rfl (hb hby d_jdk_33_method_12_69) (by decide) (by decide) k) ?_
    exact own_gc8 (y / (100 : Int32)) ci ng b1 k1 d1 d2 kd1 kd2 hB0 sg M0 ((vs.set (own_nd M0 + sg - 7) (.int (nar .byte (Int32.ofNat (48 + M0 / 1000000 % 100 % 10))))).set (own_nd M0 + sg - 8) (.int (nar .byte (Int32.ofNat (48 + M0 / 1000000 % 100 / 10))))) (y / (100 : Int32)) (Int32.ofNat (M0 / 1000000 % 100)) X112 hx hZ hw hby hml hown hret hlk e112 N112 Z112 (by omega) (by omega) F113 F114 F115 F116 V112 F117 f6 f7 f8 K112 hM0 (by have q := e1; omega) hl2 hsg hng hd2 (by omega)
theorem own_ndt4 {M0 : Nat} (hM0 : M0 ≤ 2147483648) (hlow : 10000 ≤ M0) (hM : M0 / 10000 < 100) : own_nd M0 = 4 + (if M0 / 10 ^ 4 < 10 then 1 else 2) := by
  rw [show 10 ^ 4 = 10000 from rfl]
  split
  · exact own_nd5 hlow (by omega)
  · exact own_nd6 (by omega) (by omega)
set_option maxRecDepth 65536 in
set_option maxHeartbeats 40000000 in
theorem own_gc4 {pgm : Program} {l : Launch} {e : Env} {s : State} {m : MethodId} {args : Array Value} {below : List Frame} {meth : Method} {c : Code} {T0 : State} {locs : List Loc} {cells slots : Nat} {Z : State} {a0 : Array Value} {h0 : Heap} {n0 : Nat} (y : Int32) (ci : Int32) (ng : Int32) (b1 : Addr) (k1 : ClassId) (d1 : Addr) (d2 : Addr) (kd1 : ClassId) (kd2 : ClassId) (hB0 : Heap) (sg : Nat) (M0 : Nat) (vs : List Value) (q3 : Int32) (q4 : Int32)
    (X0 : Stand pgm l e ({ frames := 0, cells := 0, slots := 0, locals := 0 } : Room) s m args below meth c T0 locs cells slots) (hx : pgm.tables.exec = Jvm.exec) (hZ : Z.Warmed39 s.vm) (hw : ∀ d ∈ tables_1, d.before a0 Z = true) (hby : c.code = jdk_33_method_12_code) (hml : c.maxLocals = 7) (hown : s.vm.findClass "java/lang/Integer" = some m.cls) (hret : meth.sig.returnType = (some .int)) (hlk : meth.locks = false) (e0 : T0.heap = h0) (N0 : Fr n0 locs) (Z0 : n0 ≤ h0.size) (hcells : cells ≤ 0) (hslots : slots ≤ 0) (f0 : Sta Z h0 "java/lang/Integer" "DigitOnes" "[B" (.ref d1)) (f1 : Sta Z h0 "java/lang/Integer" "DigitTens" "[B" (.ref d2)) (f2 : Arv Z h0 d1 kd1 .byte (100 : Int32) own_ones (.int (0 : Int32))) (f3 : Arv Z h0 d2 kd2 .byte (100 : Int32) own_tens (.int (0 : Int32))) (f4 : Arv Z h0 b1 k1 .byte (16 : Int32) vs (.int (0 : Int32))) (f5 : Exa Z h0 b1 "[B") (f6 : d1 ≠ b1) (f7 : d2 ≠ b1) (f8 : n0 ≤ b1) (K00 : Keep hB0 h0 [b1]) (hM0 : M0 ≤ 2147483648) (hy : y.toInt = -((M0 / 10000 : Nat) : Int)) (hl : vs.length = 16) (hsg : sg ≤ 1) (hng : ng = Int32.ofNat sg) (hdn : ∀ j, j < 4 → vs.getD (own_nd M0 + sg - 1 - j) (.int (0 : Int32)) = .int (own_dg M0 j)) (hlow : 10000 ≤ M0) :
    Go pgm e below s (Qgc Z b1 k1 M0 sg hB0 n0) 0 0 T0 (mkF m 22 #[.val (.int y), .val (.int ci), .val (.ref b1), .val (.int q3), .val (.int q4), .val (.int (Int32.ofNat (own_nd M0 + sg - 4))), .val (.int ng)] []) := by
  have hn10 := own_nd_le M0
  refine Go.step (T' := T0) (g' := (mkF m 23 #[.val (.int y), .val (.int ci), .val (.ref b1), .val (.int q3), .val (.int q4), .val (.int (Int32.ofNat (own_nd M0 + sg - 4))), .val (.int ng)] [(.int y)])) (fun _ k => XS.iloadN X0.here hx rfl (hb hby d_jdk_33_method_12_22) rfl  k) ?_
  refine Go.step (T' := T0) (g' := (mkF m 25 #[.val (.int y), .val (.int ci), .val (.ref b1), .val (.int q3), .val (.int q4), .val (.int (Int32.ofNat (own_nd M0 + sg - 4))), .val (.int ng)] [(.int (-100 : Int32)), (.int y)])) (fun _ k => XS.bipush X0.here hx rfl (hb hby d_jdk_33_method_12_23) k) ?_
  by_cases hc101 : (-100 : Int32) < y
  · skip
    refine Go.step (T' := T0) (g' := (mkF m 72 #[.val (.int y), .val (.int ci), .val (.ref b1), .val (.int q3), .val (.int q4), .val (.int (Int32.ofNat (own_nd M0 + sg - 4))), .val (.int ng)] [])) (fun _ k => XS.icmpYes X0.here hx rfl (pc0 := 25) (pc' := 72) rfl (hb hby d_jdk_33_method_12_25) rfl (tlt hc101).2.2.1 (by decide) (by decide) k) ?_
    have hM : M0 / 10000 < 100 := by have r : -100 < y.toInt := own_ltZ hc101 rfl; omega
    exact own_gcx y ci ng b1 k1 d1 d2 kd1 kd2 hB0 sg M0 vs 4 (.val (.int q3)) (.val (.int q4)) X0 hx hZ hw hby hml hown hret hlk e0 N0 Z0 (by omega) (by omega) f0 f1 f2 f3 f4 f5 f6 f7 f8 K00 hM0 hy hl hsg hng hdn hM (own_ndt4 hM0 hlow hM)
  · skip
    refine Go.step (T' := T0) (g' := (mkF m 28 #[.val (.int y), .val (.int ci), .val (.ref b1), .val (.int q3), .val (.int q4), .val (.int (Int32.ofNat (own_nd M0 + sg - 4))), .val (.int ng)] [])) (fun _ k => XS.icmpNo X0.here hx rfl (hb hby d_jdk_33_method_12_25) rfl (flt hc101).2.2.1 k) ?_
    have hMM : 100 ≤ M0 / 10000 := by have r : y.toInt ≤ -100 := own_geZ hc101 rfl; omega
    have hnd : 7 ≤ own_nd M0 := own_low7 (by omega)
    obtain ⟨e1, e2⟩ := own_turn (M := M0 / 10000) (by omega) hy
    refine Go.step (T' := T0) (g' := (mkF m 29 #[.val (.int y), .val (.int ci), .val (.ref b1), .val (.int q3), .val (.int q4), .val (.int (Int32.ofNat (own_nd M0 + sg - 4))), .val (.int ng)] [(.int y)])) (fun _ k => XS.iloadN X0.here hx rfl (hb hby d_jdk_33_method_12_28) rfl  k) ?_
    refine Go.step (T' := T0) (g' := (mkF m 31 #[.val (.int y), .val (.int ci), .val (.ref b1), .val (.int q3), .val (.int q4), .val (.int (Int32.ofNat (own_nd M0 + sg - 4))), .val (.int ng)] [(.int (100 : Int32)), (.int y)])) (fun _ k => XS.bipush X0.here hx rfl (hb hby d_jdk_33_method_12_29) k) ?_
    refine Go.step (T' := T0) (g' := (mkF m 32 #[.val (.int y), .val (.int ci), .val (.ref b1), .val (.int q3), .val (.int q4), .val (.int (Int32.ofNat (own_nd M0 + sg - 4))), .val (.int ng)] [(.int (y / (100 : Int32)))])) (fun _ k => XS.idiv X0.here hx rfl (hb hby d_jdk_33_method_12_31) rfl (by decide) k) ?_
    refine Go.step (T' := T0) (g' := (mkF m 33 #[.val (.int y), .val (.int ci), .val (.ref b1), .val (.int (y / (100 : Int32))), .val (.int q4), .val (.int (Int32.ofNat (own_nd M0 + sg - 4))), .val (.int ng)] [])) (fun _ k => XS.istoreN X0.here hx rfl (hb hby d_jdk_33_method_12_32) rfl (l' := #[.val (.int y), .val (.int ci), .val (.ref b1), .val (.int (y / (100 : Int32))), .val (.int q4), .val (.int (Int32.ofNat (own_nd M0 + sg - 4))), .val (.int ng)]) rfl k) ?_
    refine Go.step (T' := T0) (g' := (mkF m 34 #[.val (.int y), .val (.int ci), .val (.ref b1), .val (.int (y / (100 : Int32))), .val (.int q4), .val (.int (Int32.ofNat (own_nd M0 + sg - 4))), .val (.int ng)] [(.int (y / (100 : Int32)))])) (fun _ k => XS.iloadN X0.here hx rfl (hb hby d_jdk_33_method_12_33) rfl  k) ?_
    refine Go.step (T' := T0) (g' := (mkF m 36 #[.val (.int y), .val (.int ci), .val (.ref b1), .val (.int (y / (100 : Int32))), .val (.int q4), .val (.int (Int32.ofNat (own_nd M0 + sg - 4))), .val (.int ng)] [(.int (100 : Int32)), (.int (y / (100 : Int32)))])) (fun _ k => XS.bipush X0.here hx rfl (hb hby d_jdk_33_method_12_34) k) ?_
    refine Go.step (T' := T0) (g' := (mkF m 37 #[.val (.int y), .val (.int ci), .val (.ref b1), .val (.int (y / (100 : Int32))), .val (.int q4), .val (.int (Int32.ofNat (own_nd M0 + sg - 4))), .val (.int ng)] [(.int ((y / (100 : Int32)) * (100 : Int32)))])) (fun _ k => XS.imul X0.here hx rfl (hb hby d_jdk_33_method_12_36) rfl k) ?_
    refine Go.step (T' := T0) (g' := (mkF m 38 #[.val (.int y), .val (.int ci), .val (.ref b1), .val (.int (y / (100 : Int32))), .val (.int q4), .val (.int (Int32.ofNat (own_nd M0 + sg - 4))), .val (.int ng)] [(.int y), (.int ((y / (100 : Int32)) * (100 : Int32)))])) (fun _ k => XS.iloadN X0.here hx rfl (hb hby d_jdk_33_method_12_37) rfl  k) ?_
    refine Go.step (T' := T0) (g' := (mkF m 39 #[.val (.int y), .val (.int ci), .val (.ref b1), .val (.int (y / (100 : Int32))), .val (.int q4), .val (.int (Int32.ofNat (own_nd M0 + sg - 4))), .val (.int ng)] [(.int (((y / (100 : Int32)) * (100 : Int32)) - y))])) (fun _ k => XS.isub X0.here hx rfl (hb hby d_jdk_33_method_12_38) rfl k) ?_
    refine Go.step (T' := T0) (g' := (mkF m 41 #[.val (.int y), .val (.int ci), .val (.ref b1), .val (.int (y / (100 : Int32))), .val (.int (((y / (100 : Int32)) * (100 : Int32)) - y)), .val (.int (Int32.ofNat (own_nd M0 + sg - 4))), .val (.int ng)] [])) (fun _ k => XS.istore X0.here hx rfl (hb hby d_jdk_33_method_12_39) rfl (l' := #[.val (.int y), .val (.int ci), .val (.ref b1), .val (.int (y / (100 : Int32))), .val (.int (((y / (100 : Int32)) * (100 : Int32)) - y)), .val (.int (Int32.ofNat (own_nd M0 + sg - 4))), .val (.int ng)]) rfl k) ?_
    rw [e2]
    refine Go.step (T' := T0) (g' := (mkF m 42 #[.val (.int y), .val (.int ci), .val (.ref b1), .val (.int (y / (100 : Int32))), .val (.int (Int32.ofNat (M0 / 10000 % 100))), .val (.int (Int32.ofNat (own_nd M0 + sg - 4))), .val (.int ng)] [(.int (y / (100 : Int32)))])) (fun _ k => XS.iloadN X0.here hx rfl (hb hby d_jdk_33_method_12_41) rfl  k) ?_
    refine Go.step (T' := T0) (g' := (mkF m 43 #[.val (.int (y / (100 : Int32))), .val (.int ci), .val (.ref b1), .val (.int (y / (100 : Int32))), .val (.int (Int32.ofNat (M0 / 10000 % 100))), .val (.int (Int32.ofNat (own_nd M0 + sg - 4))), .val (.int ng)] [])) (fun _ k => XS.istoreN X0.here hx rfl (hb hby d_jdk_33_method_12_42) rfl (l' := #[.val (.int (y / (100 : Int32))), .val (.int ci), .val (.ref b1), .val (.int (y / (100 : Int32))), .val (.int (Int32.ofNat (M0 / 10000 % 100))), .val (.int (Int32.ofNat (own_nd M0 + sg - 4))), .val (.int ng)]) rfl k) ?_
    refine Go.step (T' := T0) (g' := (mkF m 44 #[.val (.int (y / (100 : Int32))), .val (.int ci), .val (.ref b1), .val (.int (y / (100 : Int32))), .val (.int (Int32.ofNat (M0 / 10000 % 100))), .val (.int (Int32.ofNat (own_nd M0 + sg - 4))), .val (.int ng)] [(.ref b1)])) (fun _ k => XS.aloadN X0.here hx rfl (hb hby d_jdk_33_method_12_43) rfl rfl k) ?_
    refine Go.step (T' := T0) (g' := (mkF m 47 #[.val (.int (y / (100 : Int32))), .val (.int ci), .val (.ref b1), .val (.int (y / (100 : Int32))), .val (.int (Int32.ofNat (M0 / 10000 % 100))), .val (.int ((Int32.ofNat (own_nd M0 + sg - 4)) + (-1 : Int32))), .val (.int ng)] [(.ref b1)])) (fun _ k => XS.iinc X0.here hx rfl (hb hby d_jdk_33_method_12_44) rfl (l' := #[.val (.int (y / (100 : Int32))), .val (.int ci), .val (.ref b1), .val (.int (y / (100 : Int32))), .val (.int (Int32.ofNat (M0 / 10000 % 100))), .val (.int ((Int32.ofNat (own_nd M0 + sg - 4)) + (-1 : Int32))), .val (.int ng)]) rfl k) ?_
    rw [own_dec (c' := own_nd M0 + sg - 5) (by omega) (by omega)]
    refine Go.step (T' := T0) (g' := (mkF m 49 #[.val (.int (y / (100 : Int32))), .val (.int ci), .val (.ref b1), .val (.int (y / (100 : Int32))), .val (.int (Int32.ofNat (M0 / 10000 % 100))), .val (.int (Int32.ofNat (own_nd M0 + sg - 5))), .val (.int ng)] [(.int (Int32.ofNat (own_nd M0 + sg - 5))), (.ref b1)])) (fun _ k => XS.iload X0.here hx rfl (hb hby d_jdk_33_method_12_47) rfl  k) ?_
    obtain ⟨T102, X102, e102, st102⟩ := getS2 X0 hx hZ hown (host := "") (Or.inl (hwi hw 55 rfl)) Via.refl e0 f0 (g := (mkF m 49 #[.val (.int (y / (100 : Int32))), .val (.int ci), .val (.ref b1), .val (.int (y / (100 : Int32))), .val (.int (Int32.ofNat (M0 / 10000 % 100))), .val (.int (Int32.ofNat (own_nd M0 + sg - 5))), .val (.int ng)] [(.int (Int32.ofNat (own_nd M0 + sg - 5))), (.ref b1)])) rfl (hb hby d_jdk_33_method_12_49)
    refine Go.step (T' := T102) (g' := (mkF m 52 #[.val (.int (y / (100 : Int32))), .val (.int ci), .val (.ref b1), .val (.int (y / (100 : Int32))), .val (.int (Int32.ofNat (M0 / 10000 % 100))), .val (.int (Int32.ofNat (own_nd M0 + sg - 5))), .val (.int ng)] [(.ref d1), (.int (Int32.ofNat (own_nd M0 + sg - 5))), (.ref b1)])) st102 ?_
    refine Go.step (T' := T102) (g' := (mkF m 54 #[.val (.int (y / (100 : Int32))), .val (.int ci), .val (.ref b1), .val (.int (y / (100 : Int32))), .val (.int (Int32.ofNat (M0 / 10000 % 100))), .val (.int (Int32.ofNat (own_nd M0 + sg - 5))), .val (.int ng)] [(.int (Int32.ofNat (M0 / 10000 % 100))), (.ref d1), (.int (Int32.ofNat (own_nd M0 + sg - 5))), (.ref b1)])) (fun _ k => XS.iload X102.here hx rfl (hb hby d_jdk_33_method_12_52) rfl  k) ?_
    obtain ⟨cl103, Ar103, q103, S103, M103, H103, G103⟩ := id f2
    have I103 := inb_of (j := (Int32.ofNat (M0 / 10000 % 100))) S103 (own_100 (by omega))
    refine Go.step (T' := T102) (g' := (mkF m 55 #[.val (.int (y / (100 : Int32))), .val (.int ci), .val (.ref b1), .val (.int (y / (100 : Int32))), .val (.int (Int32.ofNat (M0 / 10000 % 100))), .val (.int (Int32.ofNat (own_nd M0 + sg - 5))), .val (.int ng)] [(.int (Int32.ofNat (48 + M0 / 10000 % 100 % 10))), (.int (Int32.ofNat (own_nd M0 + sg - 5))), (.ref b1)])) (fun _ k => X102.baloadBytes hx (j := (Int32.ofNat (M0 / 10000 % 100))) (v := (.int (Int32.ofNat (48 + M0 / 10000 % 100 % 10)))) (by rw [e102]; exact Ar103.1) (State.isArrayOf_alike hZ.alike Ar103.2.1) Ar103.2.2 I103 (Has.at H103 I103 (own_1at (by omega))) (g := (mkF m 54 #[.val (.int (y / (100 : Int32))), .val (.int ci), .val (.ref b1), .val (.int (y / (100 : Int32))), .val (.int (Int32.ofNat (M0 / 10000 % 100))), .val (.int (Int32.ofNat (own_nd M0 + sg - 5))), .val (.int ng)] [(.int (Int32.ofNat (M0 / 10000 % 100))), (.ref d1), (.int (Int32.ofNat (own_nd M0 + sg - 5))), (.ref b1)])) rfl rfl (hb hby d_jdk_33_method_12_54) _ k) ?_
    obtain ⟨cl104, Ar104, q104, S104, M104, H104, G104⟩ := id f4
    obtain ⟨T104, h104, X104, e104, W104, st104⟩ := stB X102 hx hZ e102 Ar104 (j := (Int32.ofNat (own_nd M0 + sg - 5))) (inb_of S104 (own_16 (by omega))) (g := (mkF m 55 #[.val (.int (y / (100 : Int32))), .val (.int ci), .val (.ref b1), .val (.int (y / (100 : Int32))), .val (.int (Int32.ofNat (M0 / 10000 % 100))), .val (.int (Int32.ofNat (own_nd M0 + sg - 5))), .val (.int ng)] [(.int (Int32.ofNat (48 + M0 / 10000 % 100 % 10))), (.int (Int32.ofNat (own_nd M0 + sg - 5))), (.ref b1)])) rfl rfl (hb hby d_jdk_33_method_12_55)
    have V104 : Arv Z h104 b1 k1 .byte (16 : Int32) (vs.set (own_nd M0 + sg - 5) (.int (nar .byte (Int32.ofNat (48 + M0 / 10000 % 100 % 10))))) (.int (0 : Int32)) := Arv.set Ar104 q104 S104 M104 H104 G104 (fits_nar_byte _) W104 (own_nd M0 + sg - 5) (own_clamp (by omega)) (by rw [hl]; omega)
    have N104 := Fr.snoc X104 N0 f8
    have Z104 : n0 ≤ h104.size := Nat.le_trans Z0 (Keep.of_wr W104).1
    have K104 := K00.wr W104 (Or.inl (List.mem_of_getElem? (i := 0) rfl))
    have F105 := f0.wr W104
    have F106 := f1.wr W104
    have F107 := f2.other W104 f6
    have F108 := f3.other W104 f7
    have F109 := f5.wr W104
    refine Go.step (T' := T104) (g' := (mkF m 56 #[.val (.int (y / (100 : Int32))), .val (.int ci), .val (.ref b1), .val (.int (y / (100 : Int32))), .val (.int (Int32.ofNat (M0 / 10000 % 100))), .val (.int (Int32.ofNat (own_nd M0 + sg - 5))), .val (.int ng)] [])) st104 ?_
    have hd1 := own_dstep (t := 4) hl hdn (by omega) hsg (i := own_nd M0 + sg - 5) (by omega) (own_dgt (P := 10000) rfl (k := M0 / 10000 % 100 % 10) (by omega))
    have hl1 : (vs.set (own_nd M0 + sg - 5) (.int (nar .byte (Int32.ofNat (48 + M0 / 10000 % 100 % 10))))).length = 16 := by rw [List.length_set, hl]
    refine Go.step (T' := T104) (g' := (mkF m 57 #[.val (.int (y / (100 : Int32))), .val (.int ci), .val (.ref b1), .val (.int (y / (100 : Int32))), .val (.int (Int32.ofNat (M0 / 10000 % 100))), .val (.int (Int32.ofNat (own_nd M0 + sg - 5))), .val (.int ng)] [(.ref b1)])) (fun _ k => XS.aloadN X104.here hx rfl (hb hby d_jdk_33_method_12_56) rfl rfl k) ?_
    refine Go.step (T' := T104) (g' := (mkF m 60 #[.val (.int (y / (100 : Int32))), .val (.int ci), .val (.ref b1), .val (.int (y / (100 : Int32))), .val (.int (Int32.ofNat (M0 / 10000 % 100))), .val (.int ((Int32.ofNat (own_nd M0 + sg - 5)) + (-1 : Int32))), .val (.int ng)] [(.ref b1)])) (fun _ k => XS.iinc X104.here hx rfl (hb hby d_jdk_33_method_12_57) rfl (l' := #[.val (.int (y / (100 : Int32))), .val (.int ci), .val (.ref b1), .val (.int (y / (100 : Int32))), .val (.int (Int32.ofNat (M0 / 10000 % 100))), .val (.int ((Int32.ofNat (own_nd M0 + sg - 5)) + (-1 : Int32))), .val (.int ng)]) rfl k) ?_
    rw [own_dec (c' := own_nd M0 + sg - 6) (by omega) (by omega)]
    refine Go.step (T' := T104) (g' := (mkF m 62 #[.val (.int (y / (100 : Int32))), .val (.int ci), .val (.ref b1), .val (.int (y / (100 : Int32))), .val (.int (Int32.ofNat (M0 / 10000 % 100))), .val (.int (Int32.ofNat (own_nd M0 + sg - 6))), .val (.int ng)] [(.int (Int32.ofNat (own_nd M0 + sg - 6))), (.ref b1)])) (fun _ k => XS.iload X104.here hx rfl (hb hby d_jdk_33_method_12_60) rfl  k) ?_
    obtain ⟨T110, X110, e110, st110⟩ := getS2 X104 hx hZ hown (host := "") (Or.inl (hwi hw 189 rfl)) Via.refl e104 F106 (g := (mkF m 62 #[.val (.int (y / (100 : Int32))), .val (.int ci), .val (.ref b1), .val (.int (y / (100 : Int32))), .val (.int (Int32.ofNat (M0 / 10000 % 100))), .val (.int (Int32.ofNat (own_nd M0 + sg - 6))), .val (.int ng)] [(.int (Int32.ofNat (own_nd M0 + sg - 6))), (.ref b1)])) rfl (hb hby d_jdk_33_method_12_62)
    refine Go.step (T' := T110) (g' := (mkF m 65 #[.val (.int (y / (100 : Int32))), .val (.int ci), .val (.ref b1), .val (.int (y / (100 : Int32))), .val (.int (Int32.ofNat (M0 / 10000 % 100))), .val (.int (Int32.ofNat (own_nd M0 + sg - 6))), .val (.int ng)] [(.ref d2), (.int (Int32.ofNat (own_nd M0 + sg - 6))), (.ref b1)])) st110 ?_
    refine Go.step (T' := T110) (g' := (mkF m 67 #[.val (.int (y / (100 : Int32))), .val (.int ci), .val (.ref b1), .val (.int (y / (100 : Int32))), .val (.int (Int32.ofNat (M0 / 10000 % 100))), .val (.int (Int32.ofNat (own_nd M0 + sg - 6))), .val (.int ng)] [(.int (Int32.ofNat (M0 / 10000 % 100))), (.ref d2), (.int (Int32.ofNat (own_nd M0 + sg - 6))), (.ref b1)])) (fun _ k => XS.iload X110.here hx rfl (hb hby d_jdk_33_method_12_65) rfl  k) ?_
    obtain ⟨cl111, Ar111, q111, S111, M111, H111, G111⟩ := id F108
    have I111 := inb_of (j := (Int32.ofNat (M0 / 10000 % 100))) S111 (own_100 (by omega))
    refine Go.step (T' := T110) (g' := (mkF m 68 #[.val (.int (y / (100 : Int32))), .val (.int ci), .val (.ref b1), .val (.int (y / (100 : Int32))), .val (.int (Int32.ofNat (M0 / 10000 % 100))), .val (.int (Int32.ofNat (own_nd M0 + sg - 6))), .val (.int ng)] [(.int (Int32.ofNat (48 + M0 / 10000 % 100 / 10))), (.int (Int32.ofNat (own_nd M0 + sg - 6))), (.ref b1)])) (fun _ k => X110.baloadBytes hx (j := (Int32.ofNat (M0 / 10000 % 100))) (v := (.int (Int32.ofNat (48 + M0 / 10000 % 100 / 10)))) (by rw [e110]; exact Ar111.1) (State.isArrayOf_alike hZ.alike Ar111.2.1) Ar111.2.2 I111 (Has.at H111 I111 (own_10at (by omega))) (g := (mkF m 67 #[.val (.int (y / (100 : Int32))), .val (.int ci), .val (.ref b1), .val (.int (y / (100 : Int32))), .val (.int (Int32.ofNat (M0 / 10000 % 100))), .val (.int (Int32.ofNat (own_nd M0 + sg - 6))), .val (.int ng)] [(.int (Int32.ofNat (M0 / 10000 % 100))), (.ref d2), (.int (Int32.ofNat (own_nd M0 + sg - 6))), (.ref b1)])) rfl rfl (hb hby d_jdk_33_method_12_67) _ k) ?_
    obtain ⟨cl112, Ar112, q112, S112, M112, H112, G112⟩ := id V104
    obtain ⟨T112, h112, X112, e112, W112, st112⟩ := stB X110 hx hZ e110 Ar112 (j := (Int32.ofNat (own_nd M0 + sg - 6))) (inb_of S112 (own_16 (by omega))) (g := (mkF m 68 #[.val (.int (y / (100 : Int32))), .val (.int ci), .val (.ref b1), .val (.int (y / (100 : Int32))), .val (.int (Int32.ofNat (M0 / 10000 % 100))), .val (.int (Int32.ofNat (own_nd M0 + sg - 6))), .val (.int ng)] [(.int (Int32.ofNat (48 + M0 / 10000 % 100 / 10))), (.int (Int32.ofNat (own_nd M0 + sg - 6))), (.ref b1)])) rfl rfl (hb hby d_jdk_33_method_12_68)
    have V112 : Arv Z h112 b1 k1 .byte (16 : Int32) ((vs.set (own_nd M0 + sg - 5) (.int (nar .byte (Int32.ofNat (48 + M0 / 10000 % 100 % 10))))).set (own_nd M0 + sg - 6) (.int (nar .byte (Int32.ofNat (48 + M0 / 10000 % 100 / 10))))) (.int (0 : Int32)) := Arv.set Ar112 q112 S112 M112 H112 G112 (fits_nar_byte _) W112 (own_nd M0 + sg - 6) (own_clamp (by omega)) (by rw [hl1]; omega)
    have N112 := Fr.snoc X112 N104 f8
    have Z112 : n0 ≤ h112.size := Nat.le_trans Z104 (Keep.of_wr W112).1
    have K112 := K104.wr W112 (Or.inl (List.mem_of_getElem? (i := 0) rfl))
    have F113 := F105.wr W112
    have F114 := F106.wr W112
    have F115 := F107.other W112 f6
    have F116 := F108.other W112 f7
    have F117 := F109.wr W112
    refine Go.step (T' := T112) (g' := (mkF m 69 #[.val (.int (y / (100 : Int32))), .val (.int ci), .val (.ref b1), .val (.int (y / (100 : Int32))), .val (.int (Int32.ofNat (M0 / 10000 % 100))), .val (.int (Int32.ofNat (own_nd M0 + sg - 6))), .val (.int ng)] [])) st112 ?_
    have hd2 := own_dstep (t := 5) hl1 hd1 (by omega) hsg (i := own_nd M0 + sg - 6) (by omega) (own_dgt (P := 100000) rfl (k := M0 / 10000 % 100 / 10) (by omega))
    have hl2 : ((vs.set (own_nd M0 + sg - 5) (.int (nar .byte (Int32.ofNat (48 + M0 / 10000 % 100 % 10))))).set (own_nd M0 + sg - 6) (.int (nar .byte (Int32.ofNat (48 + M0 / 10000 % 100 / 10))))).length = 16 := by rw [List.length_set, hl1]
    refine Go.step (T' := T112) (g' := (mkF m 22 #[.val (.int (y / (100 : Int32))), .val (.int ci), .val (.ref b1), .val (.int (y / (100 : Int32))), .val (.int (Int32.ofNat (M0 / 10000 % 100))), .val (.int (Int32.ofNat (own_nd M0 + sg - 6))), .val (.int ng)] [])) (fun _ k => XS.goto X112.here hx rfl (pc0 := 69) (pc' := 22) rfl (hb hby d_jdk_33_method_12_69) (by decide) (by decide) k) ?_
    exact own_gc6 (y / (100 : Int32)) ci ng b1 k1 d1 d2 kd1 kd2 hB0 sg M0 ((vs.set (own_nd M0 + sg - 5) (.int (nar .byte (Int32.ofNat (48 + M0 / 10000 % 100 % 10))))).set (own_nd M0 + sg - 6) (.int (nar .byte (Int32.ofNat (48 + M0 / 10000 % 100 / 10))))) (y / (100 : Int32)) (Int32.ofNat (M0 / 10000 % 100)) X112 hx hZ hw hby hml hown hret hlk e112 N112 Z112 (by omega) (by omega) F113 F114 F115 F116 V112 F117 f6 f7 f8 K112 hM0 (by have q := e1; omega) hl2 hsg hng hd2 (by omega)
theorem own_ndt2 {M0 : Nat} (hM0 : M0 ≤ 2147483648) (hlow : 100 ≤ M0) (hM : M0 / 100 < 100) : own_nd M0 = 2 + (if M0 / 10 ^ 2 < 10 then 1 else 2) := by
  rw [show 10 ^ 2 = 100 from rfl]
  split
  · exact own_nd3 hlow (by omega)
  · exact own_nd4 (by omega) (by omega)
set_option maxRecDepth 65536 in
set_option maxHeartbeats 40000000 in
theorem own_gc2 {pgm : Program} {l : Launch} {e : Env} {s : State} {m : MethodId} {args : Array Value} {below : List Frame} {meth : Method} {c : Code} {T0 : State} {locs : List Loc} {cells slots : Nat} {Z : State} {a0 : Array Value} {h0 : Heap} {n0 : Nat} (y : Int32) (ci : Int32) (ng : Int32) (b1 : Addr) (k1 : ClassId) (d1 : Addr) (d2 : Addr) (kd1 : ClassId) (kd2 : ClassId) (hB0 : Heap) (sg : Nat) (M0 : Nat) (vs : List Value) (q3 : Int32) (q4 : Int32)
    (X0 : Stand pgm l e ({ frames := 0, cells := 0, slots := 0, locals := 0 } : Room) s m args below meth c T0 locs cells slots) (hx : pgm.tables.exec = Jvm.exec) (hZ : Z.Warmed39 s.vm) (hw : ∀ d ∈ tables_1, d.before a0 Z = true) (hby : c.code = jdk_33_method_12_code) (hml : c.maxLocals = 7) (hown : s.vm.findClass "java/lang/Integer" = some m.cls) (hret : meth.sig.returnType = (some .int)) (hlk : meth.locks = false) (e0 : T0.heap = h0) (N0 : Fr n0 locs) (Z0 : n0 ≤ h0.size) (hcells : cells ≤ 0) (hslots : slots ≤ 0) (f0 : Sta Z h0 "java/lang/Integer" "DigitOnes" "[B" (.ref d1)) (f1 : Sta Z h0 "java/lang/Integer" "DigitTens" "[B" (.ref d2)) (f2 : Arv Z h0 d1 kd1 .byte (100 : Int32) own_ones (.int (0 : Int32))) (f3 : Arv Z h0 d2 kd2 .byte (100 : Int32) own_tens (.int (0 : Int32))) (f4 : Arv Z h0 b1 k1 .byte (16 : Int32) vs (.int (0 : Int32))) (f5 : Exa Z h0 b1 "[B") (f6 : d1 ≠ b1) (f7 : d2 ≠ b1) (f8 : n0 ≤ b1) (K00 : Keep hB0 h0 [b1]) (hM0 : M0 ≤ 2147483648) (hy : y.toInt = -((M0 / 100 : Nat) : Int)) (hl : vs.length = 16) (hsg : sg ≤ 1) (hng : ng = Int32.ofNat sg) (hdn : ∀ j, j < 2 → vs.getD (own_nd M0 + sg - 1 - j) (.int (0 : Int32)) = .int (own_dg M0 j)) (hlow : 100 ≤ M0) :
    Go pgm e below s (Qgc Z b1 k1 M0 sg hB0 n0) 0 0 T0 (mkF m 22 #[.val (.int y), .val (.int ci), .val (.ref b1), .val (.int q3), .val (.int q4), .val (.int (Int32.ofNat (own_nd M0 + sg - 2))), .val (.int ng)] []) := by
  have hn10 := own_nd_le M0
  refine Go.step (T' := T0) (g' := (mkF m 23 #[.val (.int y), .val (.int ci), .val (.ref b1), .val (.int q3), .val (.int q4), .val (.int (Int32.ofNat (own_nd M0 + sg - 2))), .val (.int ng)] [(.int y)])) (fun _ k => XS.iloadN X0.here hx rfl (hb hby d_jdk_33_method_12_22) rfl  k) ?_
  refine Go.step (T' := T0) (g' := (mkF m 25 #[.val (.int y), .val (.int ci), .val (.ref b1), .val (.int q3), .val (.int q4), .val (.int (Int32.ofNat (own_nd M0 + sg - 2))), .val (.int ng)] [(.int (-100 : Int32)), (.int y)])) (fun _ k => XS.bipush X0.here hx rfl (hb hby d_jdk_33_method_12_23) k) ?_
  by_cases hc101 : (-100 : Int32) < y
  · skip
    refine Go.step (T' := T0) (g' := (mkF m 72 #[.val (.int y), .val (.int ci), .val (.ref b1), .val (.int q3), .val (.int q4), .val (.int (Int32.ofNat (own_nd M0 + sg - 2))), .val (.int ng)] [])) (fun _ k => XS.icmpYes X0.here hx rfl (pc0 := 25) (pc' := 72) rfl (hb hby d_jdk_33_method_12_25) rfl (tlt hc101).2.2.1 (by decide) (by decide) k) ?_
    have hM : M0 / 100 < 100 := by have r : -100 < y.toInt := own_ltZ hc101 rfl; omega
    exact own_gcx y ci ng b1 k1 d1 d2 kd1 kd2 hB0 sg M0 vs 2 (.val (.int q3)) (.val (.int q4)) X0 hx hZ hw hby hml hown hret hlk e0 N0 Z0 (by omega) (by omega) f0 f1 f2 f3 f4 f5 f6 f7 f8 K00 hM0 hy hl hsg hng hdn hM (own_ndt2 hM0 hlow hM)
  · skip
    refine Go.step (T' := T0) (g' := (mkF m 28 #[.val (.int y), .val (.int ci), .val (.ref b1), .val (.int q3), .val (.int q4), .val (.int (Int32.ofNat (own_nd M0 + sg - 2))), .val (.int ng)] [])) (fun _ k => XS.icmpNo X0.here hx rfl (hb hby d_jdk_33_method_12_25) rfl (flt hc101).2.2.1 k) ?_
    have hMM : 100 ≤ M0 / 100 := by have r : y.toInt ≤ -100 := own_geZ hc101 rfl; omega
    have hnd : 5 ≤ own_nd M0 := own_low5 (by omega)
    obtain ⟨e1, e2⟩ := own_turn (M := M0 / 100) (by omega) hy
    refine Go.step (T' := T0) (g' := (mkF m 29 #[.val (.int y), .val (.int ci), .val (.ref b1), .val (.int q3), .val (.int q4), .val (.int (Int32.ofNat (own_nd M0 + sg - 2))), .val (.int ng)] [(.int y)])) (fun _ k => XS.iloadN X0.here hx rfl (hb hby d_jdk_33_method_12_28) rfl  k) ?_
    refine Go.step (T' := T0) (g' := (mkF m 31 #[.val (.int y), .val (.int ci), .val (.ref b1), .val (.int q3), .val (.int q4), .val (.int (Int32.ofNat (own_nd M0 + sg - 2))), .val (.int ng)] [(.int (100 : Int32)), (.int y)])) (fun _ k => XS.bipush X0.here hx rfl (hb hby d_jdk_33_method_12_29) k) ?_
    refine Go.step (T' := T0) (g' := (mkF m 32 #[.val (.int y), .val (.int ci), .val (.ref b1), .val (.int q3), .val (.int q4), .val (.int (Int32.ofNat (own_nd M0 + sg - 2))), .val (.int ng)] [(.int (y / (100 : Int32)))])) (fun _ k => XS.idiv X0.here hx rfl (hb hby d_jdk_33_method_12_31) rfl (by decide) k) ?_
    refine Go.step (T' := T0) (g' := (mkF m 33 #[.val (.int y), .val (.int ci), .val (.ref b1), .val (.int (y / (100 : Int32))), .val (.int q4), .val (.int (Int32.ofNat (own_nd M0 + sg - 2))), .val (.int ng)] [])) (fun _ k => XS.istoreN X0.here hx rfl (hb hby d_jdk_33_method_12_32) rfl (l' := #[.val (.int y), .val (.int ci), .val (.ref b1), .val (.int (y / (100 : Int32))), .val (.int q4), .val (.int (Int32.ofNat (own_nd M0 + sg - 2))), .val (.int ng)]) rfl k) ?_
    refine Go.step (T' := T0) (g' := (mkF m 34 #[.val (.int y), .val (.int ci), .val (.ref b1), .val (.int (y / (100 : Int32))), .val (.int q4), .val (.int (Int32.ofNat (own_nd M0 + sg - 2))), .val (.int ng)] [(.int (y / (100 : Int32)))])) (fun _ k => XS.iloadN X0.here hx rfl (hb hby d_jdk_33_method_12_33) rfl  k) ?_
    refine Go.step (T' := T0) (g' := (mkF m 36 #[.val (.int y), .val (.int ci), .val (.ref b1), .val (.int (y / (100 : Int32))), .val (.int q4), .val (.int (Int32.ofNat (own_nd M0 + sg - 2))), .val (.int ng)] [(.int (100 : Int32)), (.int (y / (100 : Int32)))])) (fun _ k => XS.bipush X0.here hx rfl (hb hby d_jdk_33_method_12_34) k) ?_
    refine Go.step (T' := T0) (g' := (mkF m 37 #[.val (.int y), .val (.int ci), .val (.ref b1), .val (.int (y / (100 : Int32))), .val (.int q4), .val (.int (Int32.ofNat (own_nd M0 + sg - 2))), .val (.int ng)] [(.int ((y / (100 : Int32)) * (100 : Int32)))])) (fun _ k => XS.imul X0.here hx rfl (hb hby d_jdk_33_method_12_36) rfl k) ?_
    refine Go.step (T' := T0) (g' := (mkF m 38 #[.val (.int y), .val (.int ci), .val (.ref b1), .val (.int (y / (100 : Int32))), .val (.int q4), .val (.int (Int32.ofNat (own_nd M0 + sg - 2))), .val (.int ng)] [(.int y), (.int ((y / (100 : Int32)) * (100 : Int32)))])) (fun _ k => XS.iloadN X0.here hx rfl (hb hby d_jdk_33_method_12_37) rfl  k) ?_
    refine Go.step (T' := T0) (g' := (mkF m 39 #[.val (.int y), .val (.int ci), .val (.ref b1), .val (.int (y / (100 : Int32))), .val (.int q4), .val (.int (Int32.ofNat (own_nd M0 + sg - 2))), .val (.int ng)] [(.int (((y / (100 : Int32)) * (100 : Int32)) - y))])) (fun _ k => XS.isub X0.here hx rfl (hb hby d_jdk_33_method_12_38) rfl k) ?_
    refine Go.step (T' := T0) (g' := (mkF m 41 #[.val (.int y), .val (.int ci), .val (.ref b1), .val (.int (y / (100 : Int32))), .val (.int (((y / (100 : Int32)) * (100 : Int32)) - y)), .val (.int (Int32.ofNat (own_nd M0 + sg - 2))), .val (.int ng)] [])) (fun _ k => XS.istore X0.here hx rfl (hb hby d_jdk_33_method_12_39) rfl (l' := #[.val (.int y), .val (.int ci), .val (.ref b1), .val (.int (y / (100 : Int32))), .val (.int (((y / (100 : Int32)) * (100 : Int32)) - y)), .val (.int (Int32.ofNat (own_nd M0 + sg - 2))), .val (.int ng)]) rfl k) ?_
    rw [e2]
    refine Go.step (T' := T0) (g' := (mkF m 42 #[.val (.int y), .val (.int ci), .val (.ref b1), .val (.int (y / (100 : Int32))), .val (.int (Int32.ofNat (M0 / 100 % 100))), .val (.int (Int32.ofNat (own_nd M0 + sg - 2))), .val (.int ng)] [(.int (y / (100 : Int32)))])) (fun _ k => XS.iloadN X0.here hx rfl (hb hby d_jdk_33_method_12_41) rfl  k) ?_
    refine Go.step (T' := T0) (g' := (mkF m 43 #[.val (.int (y / (100 : Int32))), .val (.int ci), .val (.ref b1), .val (.int (y / (100 : Int32))), .val (.int (Int32.ofNat (M0 / 100 % 100))), .val (.int (Int32.ofNat (own_nd M0 + sg - 2))), .val (.int ng)] [])) (fun _ k => XS.istoreN X0.here hx rfl (hb hby d_jdk_33_method_12_42) rfl (l' := #[.val (.int (y / (100 : Int32))), .val (.int ci), .val (.ref b1), .val (.int (y / (100 : Int32))), .val (.int (Int32.ofNat (M0 / 100 % 100))), .val (.int (Int32.ofNat (own_nd M0 + sg - 2))), .val (.int ng)]) rfl k) ?_
    refine Go.step (T' := T0) (g' := (mkF m 44 #[.val (.int (y / (100 : Int32))), .val (.int ci), .val (.ref b1), .val (.int (y / (100 : Int32))), .val (.int (Int32.ofNat (M0 / 100 % 100))), .val (.int (Int32.ofNat (own_nd M0 + sg - 2))), .val (.int ng)] [(.ref b1)])) (fun _ k => XS.aloadN X0.here hx rfl (hb hby d_jdk_33_method_12_43) rfl rfl k) ?_
    refine Go.step (T' := T0) (g' := (mkF m 47 #[.val (.int (y / (100 : Int32))), .val (.int ci), .val (.ref b1), .val (.int (y / (100 : Int32))), .val (.int (Int32.ofNat (M0 / 100 % 100))), .val (.int ((Int32.ofNat (own_nd M0 + sg - 2)) + (-1 : Int32))), .val (.int ng)] [(.ref b1)])) (fun _ k => XS.iinc X0.here hx rfl (hb hby d_jdk_33_method_12_44) rfl (l' := #[.val (.int (y / (100 : Int32))), .val (.int ci), .val (.ref b1), .val (.int (y / (100 : Int32))), .val (.int (Int32.ofNat (M0 / 100 % 100))), .val (.int ((Int32.ofNat (own_nd M0 + sg - 2)) + (-1 : Int32))), .val (.int ng)]) rfl k) ?_
    rw [own_dec (c' := own_nd M0 + sg - 3) (by omega) (by omega)]
    refine Go.step (T' := T0) (g' := (mkF m 49 #[.val (.int (y / (100 : Int32))), .val (.int ci), .val (.ref b1), .val (.int (y / (100 : Int32))), .val (.int (Int32.ofNat (M0 / 100 % 100))), .val (.int (Int32.ofNat (own_nd M0 + sg - 3))), .val (.int ng)] [(.int (Int32.ofNat (own_nd M0 + sg - 3))), (.ref b1)])) (fun _ k => XS.iload X0.here hx rfl (hb hby d_jdk_33_method_12_47) rfl  k) ?_
    obtain ⟨T102, X102, e102, st102⟩ := getS2 X0 hx hZ hown (host := "") (Or.inl (hwi hw 55 rfl)) Via.refl e0 f0 (g := (mkF m 49 #[.val (.int (y / (100 : Int32))), .val (.int ci), .val (.ref b1), .val (.int (y / (100 : Int32))), .val (.int (Int32.ofNat (M0 / 100 % 100))), .val (.int (Int32.ofNat (own_nd M0 + sg - 3))), .val (.int ng)] [(.int (Int32.ofNat (own_nd M0 + sg - 3))), (.ref b1)])) rfl (hb hby d_jdk_33_method_12_49)
    refine Go.step (T' := T102) (g' := (mkF m 52 #[.val (.int (y / (100 : Int32))), .val (.int ci), .val (.ref b1), .val (.int (y / (100 : Int32))), .val (.int (Int32.ofNat (M0 / 100 % 100))), .val (.int (Int32.ofNat (own_nd M0 + sg - 3))), .val (.int ng)] [(.ref d1), (.int (Int32.ofNat (own_nd M0 + sg - 3))), (.ref b1)])) st102 ?_
    refine Go.step (T' := T102) (g' := (mkF m 54 #[.val (.int (y / (100 : Int32))), .val (.int ci), .val (.ref b1), .val (.int (y / (100 : Int32))), .val (.int (Int32.ofNat (M0 / 100 % 100))), .val (.int (Int32.ofNat (own_nd M0 + sg - 3))), .val (.int ng)] [(.int (Int32.ofNat (M0 / 100 % 100))), (.ref d1), (.int (Int32.ofNat (own_nd M0 + sg - 3))), (.ref b1)])) (fun _ k => XS.iload X102.here hx rfl (hb hby d_jdk_33_method_12_52) rfl  k) ?_
    obtain ⟨cl103, Ar103, q103, S103, M103, H103, G103⟩ := id f2
    have I103 := inb_of (j := (Int32.ofNat (M0 / 100 % 100))) S103 (own_100 (by omega))
    refine Go.step (T' := T102) (g' := (mkF m 55 #[.val (.int (y / (100 : Int32))), .val (.int ci), .val (.ref b1), .val (.int (y / (100 : Int32))), .val (.int (Int32.ofNat (M0 / 100 % 100))), .val (.int (Int32.ofNat (own_nd M0 + sg - 3))), .val (.int ng)] [(.int (Int32.ofNat (48 + M0 / 100 % 100 % 10))), (.int (Int32.ofNat (own_nd M0 + sg - 3))), (.ref b1)])) (fun _ k => X102.baloadBytes hx (j := (Int32.ofNat (M0 / 100 % 100))) (v := (.int (Int32.ofNat (48 + M0 / 100 % 100 % 10)))) (by rw [e102]; exact Ar103.1) (State.isArrayOf_alike hZ.alike Ar103.2.1) Ar103.2.2 I103 (Has.at H103 I103 (own_1at (by omega))) (g := (mkF m 54 #[.val (.int (y / (100 : Int32))), .val (.int ci), .val (.ref b1), .val (.int (y / (100 : Int32))), .val (.int (Int32.ofNat (M0 / 100 % 100))), .val (.int (Int32.ofNat (own_nd M0 + sg - 3))), .val (.int ng)] [(.int (Int32.ofNat (M0 / 100 % 100))), (.ref d1), (.int (Int32.ofNat (own_nd M0 + sg - 3))), (.ref b1)])) rfl rfl (hb hby d_jdk_33_method_12_54) _ k) ?_
    obtain ⟨cl104, Ar104, q104, S104, M104, H104, G104⟩ := id f4
    obtain ⟨T104, h104, X104, e104, W104, st104⟩ := stB X102 hx hZ e102 Ar104 (j := (Int32.ofNat (own_nd M0 + sg - 3))) (inb_of S104 (own_16 (by omega))) (g := (mkF m 55 #[.val (.int (y / (100 : Int32))), .val (.int ci), .val (.ref b1), .val (.int (y / (100 : Int32))), .val (.int (Int32.ofNat (M0 / 100 % 100))), .val (.int (Int32.ofNat (own_nd M0 + sg - 3))), .val (.int ng)] [(.int (Int32.ofNat (48 + M0 / 100 % 100 % 10))), (.int (Int32.ofNat (own_nd M0 + sg - 3))), (.ref b1)])) rfl rfl (hb hby d_jdk_33_method_12_55)
    have V104 : Arv Z h104 b1 k1 .byte (16 : Int32) (vs.set (own_nd M0 + sg - 3) (.int (nar .byte (Int32.ofNat (48 + M0 / 100 % 100 % 10))))) (.int (0 : Int32)) := Arv.set Ar104 q104 S104 M104 H104 G104 (fits_nar_byte _) W104 (own_nd M0 + sg - 3) (own_clamp (by omega)) (by rw [hl]; omega)
    have N104 := Fr.snoc X104 N0 f8
    have Z104 : n0 ≤ h104.size := Nat.le_trans Z0 (Keep.of_wr W104).1
    have K104 := K00.wr W104 (Or.inl (List.mem_of_getElem? (i := 0) rfl))
    have F105 := f0.wr W104
    have F106 := f1.wr W104
    have F107 := f2.other W104 f6
    have F108 := f3.other W104 f7
    have F109 := f5.wr W104
    refine Go.step (T' := T104) (g' := (mkF m 56 #[.val (.int (y / (100 : Int32))), .val (.int ci), .val (.ref b1), .val (.int (y / (100 : Int32))), .val (.int (Int32.ofNat (M0 / 100 % 100))), .val (.int (Int32.ofNat (own_nd M0 + sg - 3))), .val (.int ng)] [])) st104 ?_
    have hd1 := own_dstep (t := 2) hl hdn (by omega) hsg (i := own_nd M0 + sg - 3) (by omega) (own_dgt (P := 100) rfl (k := M0 / 100 % 100 % 10) (by omega))
    have hl1 : (vs.set (own_nd M0 + sg - 3) (.int (nar .byte (Int32.ofNat (48 + M0 / 100 % 100 % 10))))).length = 16 := by rw [List.length_set, hl]
    refine Go.step (T' := T104) (g' := (mkF m 57 #[.val (.int (y / (100 : Int32))), .val (.int ci), .val (.ref b1), .val (.int (y / (100 : Int32))), .val (.int (Int32.ofNat (M0 / 100 % 100))), .val (.int (Int32.ofNat (own_nd M0 + sg - 3))), .val (.int ng)] [(.ref b1)])) (fun _ k => XS.aloadN X104.here hx rfl (hb hby d_jdk_33_method_12_56) rfl rfl k) ?_
    refine Go.step (T' := T104) (g' := (mkF m 60 #[.val (.int (y / (100 : Int32))), .val (.int ci), .val (.ref b1), .val (.int (y / (100 : Int32))), .val (.int (Int32.ofNat (M0 / 100 % 100))), .val (.int ((Int32.ofNat (own_nd M0 + sg - 3)) + (-1 : Int32))), .val (.int ng)] [(.ref b1)])) (fun _ k => XS.iinc X104.here hx rfl (hb hby d_jdk_33_method_12_57) rfl (l' := #[.val (.int (y / (100 : Int32))), .val (.int ci), .val (.ref b1), .val (.int (y / (100 : Int32))), .val (.int (Int32.ofNat (M0 / 100 % 100))), .val (.int ((Int32.ofNat (own_nd M0 + sg - 3)) + (-1 : Int32))), .val (.int ng)]) rfl k) ?_
    rw [own_dec (c' := own_nd M0 + sg - 4) (by omega) (by omega)]
    refine Go.step (T' := T104) (g' := (mkF m 62 #[.val (.int (y / (100 : Int32))), .val (.int ci), .val (.ref b1), .val (.int (y / (100 : Int32))), .val (.int (Int32.ofNat (M0 / 100 % 100))), .val (.int (Int32.ofNat (own_nd M0 + sg - 4))), .val (.int ng)] [(.int (Int32.ofNat (own_nd M0 + sg - 4))), (.ref b1)])) (fun _ k => XS.iload X104.here hx rfl (hb hby d_jdk_33_method_12_60) rfl  k) ?_
    obtain ⟨T110, X110, e110, st110⟩ := getS2 X104 hx hZ hown (host := "") (Or.inl (hwi hw 189 rfl)) Via.refl e104 F106 (g := (mkF m 62 #[.val (.int (y / (100 : Int32))), .val (.int ci), .val (.ref b1), .val (.int (y / (100 : Int32))), .val (.int (Int32.ofNat (M0 / 100 % 100))), .val (.int (Int32.ofNat (own_nd M0 + sg - 4))), .val (.int ng)] [(.int (Int32.ofNat (own_nd M0 + sg - 4))), (.ref b1)])) rfl (hb hby d_jdk_33_method_12_62)
    refine Go.step (T' := T110) (g' := (mkF m 65 #[.val (.int (y / (100 : Int32))), .val (.int ci), .val (.ref b1), .val (.int (y / (100 : Int32))), .val (.int (Int32.ofNat (M0 / 100 % 100))), .val (.int (Int32.ofNat (own_nd M0 + sg - 4))), .val (.int ng)] [(.ref d2), (.int (Int32.ofNat (own_nd M0 + sg - 4))), (.ref b1)])) st110 ?_
    refine Go.step (T' := T110) (g' := (mkF m 67 #[.val (.int (y / (100 : Int32))), .val (.int ci), .val (.ref b1), .val (.int (y / (100 : Int32))), .val (.int (Int32.ofNat (M0 / 100 % 100))), .val (.int (Int32.ofNat (own_nd M0 + sg - 4))), .val (.int ng)] [(.int (Int32.ofNat (M0 / 100 % 100))), (.ref d2), (.int (Int32.ofNat (own_nd M0 + sg - 4))), (.ref b1)])) (fun _ k => XS.iload X110.here hx rfl (hb hby d_jdk_33_method_12_65) rfl  k) ?_
    obtain ⟨cl111, Ar111, q111, S111, M111, H111, G111⟩ := id F108
    have I111 := inb_of (j := (Int32.ofNat (M0 / 100 % 100))) S111 (own_100 (by omega))
    refine Go.step (T' := T110) (g' := (mkF m 68 #[.val (.int (y / (100 : Int32))), .val (.int ci), .val (.ref b1), .val (.int (y / (100 : Int32))), .val (.int (Int32.ofNat (M0 / 100 % 100))), .val (.int (Int32.ofNat (own_nd M0 + sg - 4))), .val (.int ng)] [(.int (Int32.ofNat (48 + M0 / 100 % 100 / 10))), (.int (Int32.ofNat (own_nd M0 + sg - 4))), (.ref b1)])) (fun _ k => X110.baloadBytes hx (j := (Int32.ofNat (M0 / 100 % 100))) (v := (.int (Int32.ofNat (48 + M0 / 100 % 100 / 10)))) (by rw [e110]; exact Ar111.1) (State.isArrayOf_alike hZ.alike Ar111.2.1) Ar111.2.2 I111 (Has.at H111 I111 (own_10at (by omega))) (g := (mkF m 67 #[.val (.int (y / (100 : Int32))), .val (.int ci), .val (.ref b1), .val (.int (y / (100 : Int32))), .val (.int (Int32.ofNat (M0 / 100 % 100))), .val (.int (Int32.ofNat (own_nd M0 + sg - 4))), .val (.int ng)] [(.int (Int32.ofNat (M0 / 100 % 100))), (.ref d2), (.int (Int32.ofNat (own_nd M0 + sg - 4))), (.ref b1)])) rfl rfl (hb hby d_jdk_33_method_12_67) _ k) ?_
    obtain ⟨cl112, Ar112, q112, S112, M112, H112, G112⟩ := id V104
    obtain ⟨T112, h112, X112, e112, W112, st112⟩ := stB X110 hx hZ e110 Ar112 (j := (Int32.ofNat (own_nd M0 + sg - 4))) (inb_of S112 (own_16 (by omega))) (g := (mkF m 68 #[.val (.int (y / (100 : Int32))), .val (.int ci), .val (.ref b1), .val (.int (y / (100 : Int32))), .val (.int (Int32.ofNat (M0 / 100 % 100))), .val (.int (Int32.ofNat (own_nd M0 + sg - 4))), .val (.int ng)] [(.int (Int32.ofNat (48 + M0 / 100 % 100 / 10))), (.int (Int32.ofNat (own_nd M0 + sg - 4))), (.ref b1)])) rfl rfl (hb hby d_jdk_33_method_12_68)
    have V112 : Arv Z h112 b1 k1 .byte (16 : Int32) ((vs.set (own_nd M0 + sg - 3) (.int (nar .byte (Int32.ofNat (48 + M0 / 100 % 100 % 10))))).set (own_nd M0 + sg - 4) (.int (nar .byte (Int32.ofNat (48 + M0 / 100 % 100 / 10))))) (.int (0 : Int32)) := Arv.set Ar112 q112 S112 M112 H112 G112 (fits_nar_byte _) W112 (own_nd M0 + sg - 4) (own_clamp (by omega)) (by rw [hl1]; omega)
    have N112 := Fr.snoc X112 N104 f8
    have Z112 : n0 ≤ h112.size := Nat.le_trans Z104 (Keep.of_wr W112).1
    have K112 := K104.wr W112 (Or.inl (List.mem_of_getElem? (i := 0) rfl))
    have F113 := F105.wr W112
    have F114 := F106.wr W112
    have F115 := F107.other W112 f6
    have F116 := F108.other W112 f7
    have F117 := F109.wr W112
    refine Go.step (T' := T112) (g' := (mkF m 69 #[.val (.int (y / (100 : Int32))), .val (.int ci), .val (.ref b1), .val (.int (y / (100 : Int32))), .val (.int (Int32.ofNat (M0 / 100 % 100))), .val (.int (Int32.ofNat (own_nd M0 + sg - 4))), .val (.int ng)] [])) st112 ?_
    have hd2 := own_dstep (t := 3) hl1 hd1 (by omega) hsg (i := own_nd M0 + sg - 4) (by omega) (own_dgt (P := 1000) rfl (k := M0 / 100 % 100 / 10) (by omega))
    have hl2 : ((vs.set (own_nd M0 + sg - 3) (.int (nar .byte (Int32.ofNat (48 + M0 / 100 % 100 % 10))))).set (own_nd M0 + sg - 4) (.int (nar .byte (Int32.ofNat (48 + M0 / 100 % 100 / 10))))).length = 16 := by rw [List.length_set, hl1]
    refine Go.step (T' := T112) (g' := (mkF m 22 #[.val (.int (y / (100 : Int32))), .val (.int ci), .val (.ref b1), .val (.int (y / (100 : Int32))), .val (.int (Int32.ofNat (M0 / 100 % 100))), .val (.int (Int32.ofNat (own_nd M0 + sg - 4))), .val (.int ng)] [])) (fun _ k => XS.goto X112.here hx rfl (pc0 := 69) (pc' := 22) rfl (hb hby d_jdk_33_method_12_69) (by decide) (by decide) k) ?_
    exact own_gc4 (y / (100 : Int32)) ci ng b1 k1 d1 d2 kd1 kd2 hB0 sg M0 ((vs.set (own_nd M0 + sg - 3) (.int (nar .byte (Int32.ofNat (48 + M0 / 100 % 100 % 10))))).set (own_nd M0 + sg - 4) (.int (nar .byte (Int32.ofNat (48 + M0 / 100 % 100 / 10))))) (y / (100 : Int32)) (Int32.ofNat (M0 / 100 % 100)) X112 hx hZ hw hby hml hown hret hlk e112 N112 Z112 (by omega) (by omega) F113 F114 F115 F116 V112 F117 f6 f7 f8 K112 hM0 (by have q := e1; omega) hl2 hsg hng hd2 (by omega)
theorem own_ndt0 {M0 : Nat} (hM0 : M0 ≤ 2147483648) (hlow : True) (hM : M0 / 1 < 100) : own_nd M0 = 0 + (if M0 / 10 ^ 0 < 10 then 1 else 2) := by
  rw [show 10 ^ 0 = 1 from rfl]
  split
  · exact own_nd1 trivial (by omega)
  · exact own_nd2 (by omega) (by omega)
set_option maxRecDepth 65536 in
set_option maxHeartbeats 40000000 in
theorem own_gc0 {pgm : Program} {l : Launch} {e : Env} {s : State} {m : MethodId} {args : Array Value} {below : List Frame} {meth : Method} {c : Code} {T0 : State} {locs : List Loc} {cells slots : Nat} {Z : State} {a0 : Array Value} {h0 : Heap} {n0 : Nat} (y : Int32) (ci : Int32) (ng : Int32) (b1 : Addr) (k1 : ClassId) (d1 : Addr) (d2 : Addr) (kd1 : ClassId) (kd2 : ClassId) (hB0 : Heap) (sg : Nat) (M0 : Nat) (vs : List Value)
    (X0 : Stand pgm l e ({ frames := 0, cells := 0, slots := 0, locals := 0 } : Room) s m args below meth c T0 locs cells slots) (hx : pgm.tables.exec = Jvm.exec) (hZ : Z.Warmed39 s.vm) (hw : ∀ d ∈ tables_1, d.before a0 Z = true) (hby : c.code = jdk_33_method_12_code) (hml : c.maxLocals = 7) (hown : s.vm.findClass "java/lang/Integer" = some m.cls) (hret : meth.sig.returnType = (some .int)) (hlk : meth.locks = false) (e0 : T0.heap = h0) (N0 : Fr n0 locs) (Z0 : n0 ≤ h0.size) (hcells : cells ≤ 0) (hslots : slots ≤ 0) (f0 : Sta Z h0 "java/lang/Integer" "DigitOnes" "[B" (.ref d1)) (f1 : Sta Z h0 "java/lang/Integer" "DigitTens" "[B" (.ref d2)) (f2 : Arv Z h0 d1 kd1 .byte (100 : Int32) own_ones (.int (0 : Int32))) (f3 : Arv Z h0 d2 kd2 .byte (100 : Int32) own_tens (.int (0 : Int32))) (f4 : Arv Z h0 b1 k1 .byte (16 : Int32) vs (.int (0 : Int32))) (f5 : Exa Z h0 b1 "[B") (f6 : d1 ≠ b1) (f7 : d2 ≠ b1) (f8 : n0 ≤ b1) (K00 : Keep hB0 h0 [b1]) (hM0 : M0 ≤ 2147483648) (hy : y.toInt = -((M0 / 1 : Nat) : Int)) (hl : vs.length = 16) (hsg : sg ≤ 1) (hng : ng = Int32.ofNat sg) (hdn : ∀ j, j < 0 → vs.getD (own_nd M0 + sg - 1 - j) (.int (0 : Int32)) = .int (own_dg M0 j)) :
    Go pgm e below s (Qgc Z b1 k1 M0 sg hB0 n0) 0 0 T0 (mkF m 22 #[.val (.int y), .val (.int ci), .val (.ref b1), .unset, .unset, .val (.int (Int32.ofNat (own_nd M0 + sg))), .val (.int ng)] []) := by
  have hn10 := own_nd_le M0
  refine Go.step (T' := T0) (g' := (mkF m 23 #[.val (.int y), .val (.int ci), .val (.ref b1), .unset, .unset, .val (.int (Int32.ofNat (own_nd M0 + sg))), .val (.int ng)] [(.int y)])) (fun _ k => XS.iloadN X0.here hx rfl (hb hby d_jdk_33_method_12_22) rfl  k) ?_
  refine Go.step (T' := T0) (g' := (mkF m 25 #[.val (.int y), .val (.int ci), .val (.ref b1), .unset, .unset, .val (.int (Int32.ofNat (own_nd M0 + sg))), .val (.int ng)] [(.int (-100 : Int32)), (.int y)])) (fun _ k => XS.bipush X0.here hx rfl (hb hby d_jdk_33_method_12_23) k) ?_
  by_cases hc101 : (-100 : Int32) < y
  · skip
    refine Go.step (T' := T0) (g' := (mkF m 72 #[.val (.int y), .val (.int ci), .val (.ref b1), .unset, .unset, .val (.int (Int32.ofNat (own_nd M0 + sg))), .val (.int ng)] [])) (fun _ k => XS.icmpYes X0.here hx rfl (pc0 := 25) (pc' := 72) rfl (hb hby d_jdk_33_method_12_25) rfl (tlt hc101).2.2.1 (by decide) (by decide) k) ?_
    have hM : M0 / 1 < 100 := by have r : -100 < y.toInt := own_ltZ hc101 rfl; omega
    exact own_gcx y ci ng b1 k1 d1 d2 kd1 kd2 hB0 sg M0 vs 0 (.unset) (.unset) X0 hx hZ hw hby hml hown hret hlk e0 N0 Z0 (by omega) (by omega) f0 f1 f2 f3 f4 f5 f6 f7 f8 K00 hM0 hy hl hsg hng hdn hM (own_ndt0 hM0 trivial hM)
  · skip
    refine Go.step (T' := T0) (g' := (mkF m 28 #[.val (.int y), .val (.int ci), .val (.ref b1), .unset, .unset, .val (.int (Int32.ofNat (own_nd M0 + sg))), .val (.int ng)] [])) (fun _ k => XS.icmpNo X0.here hx rfl (hb hby d_jdk_33_method_12_25) rfl (flt hc101).2.2.1 k) ?_
    have hMM : 100 ≤ M0 / 1 := by have r : y.toInt ≤ -100 := own_geZ hc101 rfl; omega
    have hnd : 3 ≤ own_nd M0 := own_low3 (by omega)
    obtain ⟨e1, e2⟩ := own_turn (M := M0 / 1) (by omega) hy
    refine Go.step (T' := T0) (g' := (mkF m 29 #[.val (.int y), .val (.int ci), .val (.ref b1), .unset, .unset, .val (.int (Int32.ofNat (own_nd M0 + sg))), .val (.int ng)] [(.int y)])) (fun _ k => XS.iloadN X0.here hx rfl (hb hby d_jdk_33_method_12_28) rfl  k) ?_
    refine Go.step (T' := T0) (g' := (mkF m 31 #[.val (.int y), .val (.int ci), .val (.ref b1), .unset, .unset, .val (.int (Int32.ofNat (own_nd M0 + sg))), .val (.int ng)] [(.int (100 : Int32)), (.int y)])) (fun _ k => XS.bipush X0.here hx rfl (hb hby d_jdk_33_method_12_29) k) ?_
    refine Go.step (T' := T0) (g' := (mkF m 32 #[.val (.int y), .val (.int ci), .val (.ref b1), .unset, .unset, .val (.int (Int32.ofNat (own_nd M0 + sg))), .val (.int ng)] [(.int (y / (100 : Int32)))])) (fun _ k => XS.idiv X0.here hx rfl (hb hby d_jdk_33_method_12_31) rfl (by decide) k) ?_
    refine Go.step (T' := T0) (g' := (mkF m 33 #[.val (.int y), .val (.int ci), .val (.ref b1), .val (.int (y / (100 : Int32))), .unset, .val (.int (Int32.ofNat (own_nd M0 + sg))), .val (.int ng)] [])) (fun _ k => XS.istoreN X0.here hx rfl (hb hby d_jdk_33_method_12_32) rfl (l' := #[.val (.int y), .val (.int ci), .val (.ref b1), .val (.int (y / (100 : Int32))), .unset, .val (.int (Int32.ofNat (own_nd M0 + sg))), .val (.int ng)]) rfl k) ?_
    refine Go.step (T' := T0) (g' := (mkF m 34 #[.val (.int y), .val (.int ci), .val (.ref b1), .val (.int (y / (100 : Int32))), .unset, .val (.int (Int32.ofNat (own_nd M0 + sg))), .val (.int ng)] [(.int (y / (100 : Int32)))])) (fun _ k => XS.iloadN X0.here hx rfl (hb hby d_jdk_33_method_12_33) rfl  k) ?_
    refine Go.step (T' := T0) (g' := (mkF m 36 #[.val (.int y), .val (.int ci), .val (.ref b1), .val (.int (y / (100 : Int32))), .unset, .val (.int (Int32.ofNat (own_nd M0 + sg))), .val (.int ng)] [(.int (100 : Int32)), (.int (y / (100 : Int32)))])) (fun _ k => XS.bipush X0.here hx rfl (hb hby d_jdk_33_method_12_34) k) ?_
    refine Go.step (T' := T0) (g' := (mkF m 37 #[.val (.int y), .val (.int ci), .val (.ref b1), .val (.int (y / (100 : Int32))), .unset, .val (.int (Int32.ofNat (own_nd M0 + sg))), .val (.int ng)] [(.int ((y / (100 : Int32)) * (100 : Int32)))])) (fun _ k => XS.imul X0.here hx rfl (hb hby d_jdk_33_method_12_36) rfl k) ?_
    refine Go.step (T' := T0) (g' := (mkF m 38 #[.val (.int y), .val (.int ci), .val (.ref b1), .val (.int (y / (100 : Int32))), .unset, .val (.int (Int32.ofNat (own_nd M0 + sg))), .val (.int ng)] [(.int y), (.int ((y / (100 : Int32)) * (100 : Int32)))])) (fun _ k => XS.iloadN X0.here hx rfl (hb hby d_jdk_33_method_12_37) rfl  k) ?_
    refine Go.step (T' := T0) (g' := (mkF m 39 #[.val (.int y), .val (.int ci), .val (.ref b1), .val (.int (y / (100 : Int32))), .unset, .val (.int (Int32.ofNat (own_nd M0 + sg))), .val (.int ng)] [(.int (((y / (100 : Int32)) * (100 : Int32)) - y))])) (fun _ k => XS.isub X0.here hx rfl (hb hby d_jdk_33_method_12_38) rfl k) ?_
    refine Go.step (T' := T0) (g' := (mkF m 41 #[.val (.int y), .val (.int ci), .val (.ref b1), .val (.int (y / (100 : Int32))), .val (.int (((y / (100 : Int32)) * (100 : Int32)) - y)), .val (.int (Int32.ofNat (own_nd M0 + sg))), .val (.int ng)] [])) (fun _ k => XS.istore X0.here hx rfl (hb hby d_jdk_33_method_12_39) rfl (l' := #[.val (.int y), .val (.int ci), .val (.ref b1), .val (.int (y / (100 : Int32))), .val (.int (((y / (100 : Int32)) * (100 : Int32)) - y)), .val (.int (Int32.ofNat (own_nd M0 + sg))), .val (.int ng)]) rfl k) ?_
    rw [e2]
    refine Go.step (T' := T0) (g' := (mkF m 42 #[.val (.int y), .val (.int ci), .val (.ref b1), .val (.int (y / (100 : Int32))), .val (.int (Int32.ofNat (M0 / 1 % 100))), .val (.int (Int32.ofNat (own_nd M0 + sg))), .val (.int ng)] [(.int (y / (100 : Int32)))])) (fun _ k => XS.iloadN X0.here hx rfl (hb hby d_jdk_33_method_12_41) rfl  k) ?_
    refine Go.step (T' := T0) (g' := (mkF m 43 #[.val (.int (y / (100 : Int32))), .val (.int ci), .val (.ref b1), .val (.int (y / (100 : Int32))), .val (.int (Int32.ofNat (M0 / 1 % 100))), .val (.int (Int32.ofNat (own_nd M0 + sg))), .val (.int ng)] [])) (fun _ k => XS.istoreN X0.here hx rfl (hb hby d_jdk_33_method_12_42) rfl (l' := #[.val (.int (y / (100 : Int32))), .val (.int ci), .val (.ref b1), .val (.int (y / (100 : Int32))), .val (.int (Int32.ofNat (M0 / 1 % 100))), .val (.int (Int32.ofNat (own_nd M0 + sg))), .val (.int ng)]) rfl k) ?_
    refine Go.step (T' := T0) (g' := (mkF m 44 #[.val (.int (y / (100 : Int32))), .val (.int ci), .val (.ref b1), .val (.int (y / (100 : Int32))), .val (.int (Int32.ofNat (M0 / 1 % 100))), .val (.int (Int32.ofNat (own_nd M0 + sg))), .val (.int ng)] [(.ref b1)])) (fun _ k => XS.aloadN X0.here hx rfl (hb hby d_jdk_33_method_12_43) rfl rfl k) ?_
    refine Go.step (T' := T0) (g' := (mkF m 47 #[.val (.int (y / (100 : Int32))), .val (.int ci), .val (.ref b1), .val (.int (y / (100 : Int32))), .val (.int (Int32.ofNat (M0 / 1 % 100))), .val (.int ((Int32.ofNat (own_nd M0 + sg)) + (-1 : Int32))), .val (.int ng)] [(.ref b1)])) (fun _ k => XS.iinc X0.here hx rfl (hb hby d_jdk_33_method_12_44) rfl (l' := #[.val (.int (y / (100 : Int32))), .val (.int ci), .val (.ref b1), .val (.int (y / (100 : Int32))), .val (.int (Int32.ofNat (M0 / 1 % 100))), .val (.int ((Int32.ofNat (own_nd M0 + sg)) + (-1 : Int32))), .val (.int ng)]) rfl k) ?_
    rw [own_dec (c' := own_nd M0 + sg - 1) (by omega) (by omega)]
    refine Go.step (T' := T0) (g' := (mkF m 49 #[.val (.int (y / (100 : Int32))), .val (.int ci), .val (.ref b1), .val (.int (y / (100 : Int32))), .val (.int (Int32.ofNat (M0 / 1 % 100))), .val (.int (Int32.ofNat (own_nd M0 + sg - 1))), .val (.int ng)] [(.int (Int32.ofNat (own_nd M0 + sg - 1))), (.ref b1)])) (fun _ k => XS.iload X0.here hx rfl (hb hby d_jdk_33_method_12_47) rfl  k) ?_
    obtain ⟨T102, X102, e102, st102⟩ := getS2 X0 hx hZ hown (host := "") (Or.inl (hwi hw 55 rfl)) Via.refl e0 f0 (g := (mkF m 49 #[.val (.int (y / (100 : Int32))), .val (.int ci), .val (.ref b1), .val (.int (y / (100 : Int32))), .val (.int (Int32.ofNat (M0 / 1 % 100))), .val (.int (Int32.ofNat (own_nd M0 + sg - 1))), .val (.int ng)] [(.int (Int32.ofNat (own_nd M0 + sg - 1))), (.ref b1)])) rfl (hb hby d_jdk_33_method_12_49)
    refine Go.step (T' := T102) (g' := (mkF m 52 #[.val (.int (y / (100 : Int32))), .val (.int ci), .val (.ref b1), .val (.int (y / (100 : Int32))), .val (.int (Int32.ofNat (M0 / 1 % 100))), .val (.int (Int32.ofNat (own_nd M0 + sg - 1))), .val (.int ng)] [(.ref d1), (.int (Int32.ofNat (own_nd M0 + sg - 1))), (.ref b1)])) st102 ?_
    refine Go.step (T' := T102) (g' := (mkF m 54 #[.val (.int (y / (100 : Int32))), .val (.int ci), .val (.ref b1), .val (.int (y / (100 : Int32))), .val (.int (Int32.ofNat (M0 / 1 % 100))), .val (.int (Int32.ofNat (own_nd M0 + sg - 1))), .val (.int ng)] [(.int (Int32.ofNat (M0 / 1 % 100))), (.ref d1), (.int (Int32.ofNat (own_nd M0 + sg - 1))), (.ref b1)])) (fun _ k => XS.iload X102.here hx rfl (hb hby d_jdk_33_method_12_52) rfl  k) ?_
    obtain ⟨cl103, Ar103, q103, S103, M103, H103, G103⟩ := id f2
    have I103 := inb_of (j := (Int32.ofNat (M0 / 1 % 100))) S103 (own_100 (by omega))
    refine Go.step (T' := T102) (g' := (mkF m 55 #[.val (.int (y / (100 : Int32))), .val (.int ci), .val (.ref b1), .val (.int (y / (100 : Int32))), .val (.int (Int32.ofNat (M0 / 1 % 100))), .val (.int (Int32.ofNat (own_nd M0 + sg - 1))), .val (.int ng)] [(.int (Int32.ofNat (48 + M0 / 1 % 100 % 10))), (.int (Int32.ofNat (own_nd M0 + sg - 1))), (.ref b1)])) (fun _ k => X102.baloadBytes hx (j := (Int32.ofNat (M0 / 1 % 100))) (v := (.int (Int32.ofNat (48 + M0 / 1 % 100 % 10)))) (by rw [e102]; exact Ar103.1) (State.isArrayOf_alike hZ.alike Ar103.2.1) Ar103.2.2 I103 (Has.at H103 I103 (own_1at (by omega))) (g := (mkF m 54 #[.val (.int (y / (100 : Int32))), .val (.int ci), .val (.ref b1), .val (.int (y / (100 : Int32))), .val (.int (Int32.ofNat (M0 / 1 % 100))), .val (.int (Int32.ofNat (own_nd M0 + sg - 1))), .val (.int ng)] [(.int (Int32.ofNat (M0 / 1 % 100))), (.ref d1), (.int (Int32.ofNat (own_nd M0 + sg - 1))), (.ref b1)])) rfl rfl (hb hby d_jdk_33_method_12_54) _ k) ?_
    obtain ⟨cl104, Ar104, q104, S104, M104, H104, G104⟩ := id f4
    obtain ⟨T104, h104, X104, e104, W104, st104⟩ := stB X102 hx hZ e102 Ar104 (j := (Int32.ofNat (own_nd M0 + sg - 1))) (inb_of S104 (own_16 (by omega))) (g := (mkF m 55 #[.val (.int (y / (100 : Int32))), .val (.int ci), .val (.ref b1), .val (.int (y / (100 : Int32))), .val (.int (Int32.ofNat (M0 / 1 % 100))), .val (.int (Int32.ofNat (own_nd M0 + sg - 1))), .val (.int ng)] [(.int (Int32.ofNat (48 + M0 / 1 % 100 % 10))), (.int (Int32.ofNat (own_nd M0 + sg - 1))), (.ref b1)])) rfl rfl (hb hby d_jdk_33_method_12_55)
    have V104 : Arv Z h104 b1 k1 .byte (16 : Int32) (vs.set (own_nd M0 + sg - 1) (.int (nar .byte (Int32.ofNat (48 + M0 / 1 % 100 % 10))))) (.int (0 : Int32)) := Arv.set Ar104 q104 S104 M104 H104 G104 (fits_nar_byte _) W104 (own_nd M0 + sg - 1) (own_clamp (by omega)) (by rw [hl]; omega)
    have N104 := Fr.snoc X104 N0 f8
    have Z104 : n0 ≤ h104.size := Nat.le_trans Z0 (Keep.of_wr W104).1
    have K104 := K00.wr W104 (Or.inl (List.mem_of_getElem? (i := 0) rfl))
    have F105 := f0.wr W104
    have F106 := f1.wr W104
    have F107 := f2.other W104 f6
    have F108 := f3.other W104 f7
    have F109 := f5.wr W104
    refine Go.step (T' := T104) (g' := (mkF m 56 #[.val (.int (y / (100 : Int32))), .val (.int ci), .val (.ref b1), .val (.int (y / (100 : Int32))), .val (.int (Int32.ofNat (M0 / 1 % 100))), .val (.int (Int32.ofNat (own_nd M0 + sg - 1))), .val (.int ng)] [])) st104 ?_
    have hd1 := own_dstep (t := 0) hl hdn (by omega) hsg (i := own_nd M0 + sg - 1) (by omega) (own_dgt (P := 1) rfl (k := M0 / 1 % 100 % 10) (by omega))
    have hl1 : (vs.set (own_nd M0 + sg - 1) (.int (nar .byte (Int32.ofNat (48 + M0 / 1 % 100 % 10))))).length = 16 := by rw [List.length_set, hl]
    refine Go.step (T' := T104) (g' := (mkF m 57 #[.val (.int (y / (100 : Int32))), .val (.int ci), .val (.ref b1), .val (.int (y / (100 : Int32))), .val (.int (Int32.ofNat (M0 / 1 % 100))), .val (.int (Int32.ofNat (own_nd M0 + sg - 1))), .val (.int ng)] [(.ref b1)])) (fun _ k => XS.aloadN X104.here hx rfl (hb hby d_jdk_33_method_12_56) rfl rfl k) ?_
    refine Go.step (T' := T104) (g' := (mkF m 60 #[.val (.int (y / (100 : Int32))), .val (.int ci), .val (.ref b1), .val (.int (y / (100 : Int32))), .val (.int (Int32.ofNat (M0 / 1 % 100))), .val (.int ((Int32.ofNat (own_nd M0 + sg - 1)) + (-1 : Int32))), .val (.int ng)] [(.ref b1)])) (fun _ k => XS.iinc X104.here hx rfl (hb hby d_jdk_33_method_12_57) rfl (l' := #[.val (.int (y / (100 : Int32))), .val (.int ci), .val (.ref b1), .val (.int (y / (100 : Int32))), .val (.int (Int32.ofNat (M0 / 1 % 100))), .val (.int ((Int32.ofNat (own_nd M0 + sg - 1)) + (-1 : Int32))), .val (.int ng)]) rfl k) ?_
    rw [own_dec (c' := own_nd M0 + sg - 2) (by omega) (by omega)]
    refine Go.step (T' := T104) (g' := (mkF m 62 #[.val (.int (y / (100 : Int32))), .val (.int ci), .val (.ref b1), .val (.int (y / (100 : Int32))), .val (.int (Int32.ofNat (M0 / 1 % 100))), .val (.int (Int32.ofNat (own_nd M0 + sg - 2))), .val (.int ng)] [(.int (Int32.ofNat (own_nd M0 + sg - 2))), (.ref b1)])) (fun _ k => XS.iload X104.here hx rfl (hb hby d_jdk_33_method_12_60) rfl  k) ?_
    obtain ⟨T110, X110, e110, st110⟩ := getS2 X104 hx hZ hown (host := "") (Or.inl (hwi hw 189 rfl)) Via.refl e104 F106 (g := (mkF m 62 #[.val (.int (y / (100 : Int32))), .val (.int ci), .val (.ref b1), .val (.int (y / (100 : Int32))), .val (.int (Int32.ofNat (M0 / 1 % 100))), .val (.int (Int32.ofNat (own_nd M0 + sg - 2))), .val (.int ng)] [(.int (Int32.ofNat (own_nd M0 + sg - 2))), (.ref b1)])) rfl (hb hby d_jdk_33_method_12_62)
    refine Go.step (T' := T110) (g' := (mkF m 65 #[.val (.int (y / (100 : Int32))), .val (.int ci), .val (.ref b1), .val (.int (y / (100 : Int32))), .val (.int (Int32.ofNat (M0 / 1 % 100))), .val (.int (Int32.ofNat (own_nd M0 + sg - 2))), .val (.int ng)] [(.ref d2), (.int (Int32.ofNat (own_nd M0 + sg - 2))), (.ref b1)])) st110 ?_
    refine Go.step (T' := T110) (g' := (mkF m 67 #[.val (.int (y / (100 : Int32))), .val (.int ci), .val (.ref b1), .val (.int (y / (100 : Int32))), .val (.int (Int32.ofNat (M0 / 1 % 100))), .val (.int (Int32.ofNat (own_nd M0 + sg - 2))), .val (.int ng)] [(.int (Int32.ofNat (M0 / 1 % 100))), (.ref d2), (.int (Int32.ofNat (own_nd M0 + sg - 2))), (.ref b1)])) (fun _ k => XS.iload X110.here hx rfl (hb hby d_jdk_33_method_12_65) rfl  k) ?_
    obtain ⟨cl111, Ar111, q111, S111, M111, H111, G111⟩ := id F108
    have I111 := inb_of (j := (Int32.ofNat (M0 / 1 % 100))) S111 (own_100 (by omega))
    refine Go.step (T' := T110) (g' := (mkF m 68 #[.val (.int (y / (100 : Int32))), .val (.int ci), .val (.ref b1), .val (.int (y / (100 : Int32))), .val (.int (Int32.ofNat (M0 / 1 % 100))), .val (.int (Int32.ofNat (own_nd M0 + sg - 2))), .val (.int ng)] [(.int (Int32.ofNat (48 + M0 / 1 % 100 / 10))), (.int (Int32.ofNat (own_nd M0 + sg - 2))), (.ref b1)])) (fun _ k => X110.baloadBytes hx (j := (Int32.ofNat (M0 / 1 % 100))) (v := (.int (Int32.ofNat (48 + M0 / 1 % 100 / 10)))) (by rw [e110]; exact Ar111.1) (State.isArrayOf_alike hZ.alike Ar111.2.1) Ar111.2.2 I111 (Has.at H111 I111 (own_10at (by omega))) (g := (mkF m 67 #[.val (.int (y / (100 : Int32))), .val (.int ci), .val (.ref b1), .val (.int (y / (100 : Int32))), .val (.int (Int32.ofNat (M0 / 1 % 100))), .val (.int (Int32.ofNat (own_nd M0 + sg - 2))), .val (.int ng)] [(.int (Int32.ofNat (M0 / 1 % 100))), (.ref d2), (.int (Int32.ofNat (own_nd M0 + sg - 2))), (.ref b1)])) rfl rfl (hb hby d_jdk_33_method_12_67) _ k) ?_
    obtain ⟨cl112, Ar112, q112, S112, M112, H112, G112⟩ := id V104
    obtain ⟨T112, h112, X112, e112, W112, st112⟩ := stB X110 hx hZ e110 Ar112 (j := (Int32.ofNat (own_nd M0 + sg - 2))) (inb_of S112 (own_16 (by omega))) (g := (mkF m 68 #[.val (.int (y / (100 : Int32))), .val (.int ci), .val (.ref b1), .val (.int (y / (100 : Int32))), .val (.int (Int32.ofNat (M0 / 1 % 100))), .val (.int (Int32.ofNat (own_nd M0 + sg - 2))), .val (.int ng)] [(.int (Int32.ofNat (48 + M0 / 1 % 100 / 10))), (.int (Int32.ofNat (own_nd M0 + sg - 2))), (.ref b1)])) rfl rfl (hb hby d_jdk_33_method_12_68)
    have V112 : Arv Z h112 b1 k1 .byte (16 : Int32) ((vs.set (own_nd M0 + sg - 1) (.int (nar .byte (Int32.ofNat (48 + M0 / 1 % 100 % 10))))).set (own_nd M0 + sg - 2) (.int (nar .byte (Int32.ofNat (48 + M0 / 1 % 100 / 10))))) (.int (0 : Int32)) := Arv.set Ar112 q112 S112 M112 H112 G112 (fits_nar_byte _) W112 (own_nd M0 + sg - 2) (own_clamp (by omega)) (by rw [hl1]; omega)
    have N112 := Fr.snoc X112 N104 f8
    have Z112 : n0 ≤ h112.size := Nat.le_trans Z104 (Keep.of_wr W112).1
    have K112 := K104.wr W112 (Or.inl (List.mem_of_getElem? (i := 0) rfl))
    have F113 := F105.wr W112
    have F114 := F106.wr W112
    have F115 := F107.other W112 f6
    have F116 := F108.other W112 f7
    have F117 := F109.wr W112
    refine Go.step (T' := T112) (g' := (mkF m 69 #[.val (.int (y / (100 : Int32))), .val (.int ci), .val (.ref b1), .val (.int (y / (100 : Int32))), .val (.int (Int32.ofNat (M0 / 1 % 100))), .val (.int (Int32.ofNat (own_nd M0 + sg - 2))), .val (.int ng)] [])) st112 ?_
    have hd2 := own_dstep (t := 1) hl1 hd1 (by omega) hsg (i := own_nd M0 + sg - 2) (by omega) (own_dgt (P := 10) rfl (k := M0 / 1 % 100 / 10) (by omega))
    have hl2 : ((vs.set (own_nd M0 + sg - 1) (.int (nar .byte (Int32.ofNat (48 + M0 / 1 % 100 % 10))))).set (own_nd M0 + sg - 2) (.int (nar .byte (Int32.ofNat (48 + M0 / 1 % 100 / 10))))).length = 16 := by rw [List.length_set, hl1]
    refine Go.step (T' := T112) (g' := (mkF m 22 #[.val (.int (y / (100 : Int32))), .val (.int ci), .val (.ref b1), .val (.int (y / (100 : Int32))), .val (.int (Int32.ofNat (M0 / 1 % 100))), .val (.int (Int32.ofNat (own_nd M0 + sg - 2))), .val (.int ng)] [])) (fun _ k => XS.goto X112.here hx rfl (pc0 := 69) (pc' := 22) rfl (hb hby d_jdk_33_method_12_69) (by decide) (by decide) k) ?_
    exact own_gc2 (y / (100 : Int32)) ci ng b1 k1 d1 d2 kd1 kd2 hB0 sg M0 ((vs.set (own_nd M0 + sg - 1) (.int (nar .byte (Int32.ofNat (48 + M0 / 1 % 100 % 10))))).set (own_nd M0 + sg - 2) (.int (nar .byte (Int32.ofNat (48 + M0 / 1 % 100 / 10))))) (y / (100 : Int32)) (Int32.ofNat (M0 / 1 % 100)) X112 hx hZ hw hby hml hown hret hlk e112 N112 Z112 (by omega) (by omega) F113 F114 F115 F116 V112 F117 f6 f7 f8 K112 hM0 (by have q := e1; omega) hl2 hsg hng hd2 (by omega)
theorem own_ef_jdk_33_method_12_code_IIR (m : MethodId) (x0 : Int32) (x1 : Int32) (x2 : Addr) : entryFrame m #[(.int x0), (.int x1), (.ref x2)] 7 = mkF m 0 #[.val (.int x0), .val (.int x1), .val (.ref x2), .unset, .unset, .unset, .unset] [] := by first | (simp [entryFrame, mkF, argsToLocals, Value.category]; done) | rfl | (simp [entryFrame, mkF, argsToLocals, own_cI, own_cJ, own_cR, own_cN]; done)
theorem d_jdk_33_method_12_0 : decode jdk_33_method_12_code 0 = .ok (.iload_n 1, 1) := by decide +kernel
theorem d_jdk_33_method_12_1 : decode jdk_33_method_12_code 1 = .ok (.istore 5, 2) := by decide +kernel
theorem d_jdk_33_method_12_3 : decode jdk_33_method_12_code 3 = .ok (.iload_n 0, 1) := by decide +kernel
theorem d_jdk_33_method_12_4 : decode jdk_33_method_12_code 4 = .ok (.ifCond .ge 7, 3) := by decide +kernel
theorem d_jdk_33_method_12_7 : decode jdk_33_method_12_code 7 = .ok (.iconst 1, 1) := by decide +kernel
theorem d_jdk_33_method_12_8 : decode jdk_33_method_12_code 8 = .ok (.goto 4, 3) := by decide +kernel
theorem d_jdk_33_method_12_12 : decode jdk_33_method_12_code 12 = .ok (.istore 6, 2) := by decide +kernel
theorem d_jdk_33_method_12_14 : decode jdk_33_method_12_code 14 = .ok (.iload 6, 2) := by decide +kernel
theorem d_jdk_33_method_12_16 : decode jdk_33_method_12_code 16 = .ok (.ifCond .ne 6, 3) := by decide +kernel
theorem d_jdk_33_method_12_11 : decode jdk_33_method_12_code 11 = .ok (.iconst 0, 1) := by decide +kernel
theorem d_jdk_33_method_12_19 : decode jdk_33_method_12_code 19 = .ok (.iload_n 0, 1) := by decide +kernel
theorem d_jdk_33_method_12_20 : decode jdk_33_method_12_code 20 = .ok (.ineg, 1) := by decide +kernel
theorem d_jdk_33_method_12_21 : decode jdk_33_method_12_code 21 = .ok (.istore_n 0, 1) := by decide +kernel
set_option maxRecDepth 65536 in
set_option maxHeartbeats 40000000 in
theorem own_gc (l : Launch) (Z : State) (a0 : Array Value) (hw : ∀ d ∈ tables_1, d.before a0 Z = true) (ws : List Jvm.Cond) (x0 : Int32) (b1 : Addr) (k1 : ClassId) (d1 d2 : Addr) (kd1 kd2 : ClassId) (vs : List Value) (h0 : Heap) (n0 : Nat) (Z0 : n0 ≤ h0.size) (f0 : Sta Z h0 "java/lang/Integer" "DigitOnes" "[B" (.ref d1)) (f1 : Sta Z h0 "java/lang/Integer" "DigitTens" "[B" (.ref d2)) (f2 : Arv Z h0 d1 kd1 .byte (100 : Int32) own_ones (.int (0 : Int32))) (f3 : Arv Z h0 d2 kd2 .byte (100 : Int32) own_tens (.int (0 : Int32))) (f4 : Arv Z h0 b1 k1 .byte (16 : Int32) vs (.int (0 : Int32))) (f5 : Exa Z h0 b1 "[B") (f6 : d1 ≠ b1) (f7 : d2 ≠ b1) (f8 : n0 ≤ b1) (hl : vs.length = 16) :
    Con l Z (⟨"java/lang/Integer", "getChars", "(II[B)I"⟩ : MethodName) jdk_33_method_12_code 7 (some .int) ({ frames := 0, cells := 0, slots := 0, locals := 0 } : Room) ws #[(.int x0), (.int (Int32.ofNat (own_nd (own_M x0) + own_sg x0))), (.ref b1)] h0 (Qgc Z b1 k1 (own_M x0) (own_sg x0) h0 n0) 0 0 := by
  refine Con.of (plainFor_of_name own_pn_Integer) ?_
  intro pgm e s m below meth c s₁ X0 hx hZ hby hml hown hnm hret hlk e0 hs0
  have N0 := Fr.nil n0
  have hown : s.vm.findClass "java/lang/Integer" = some m.cls := hown
  have hnm : meth.name = "getChars" := hnm
  refine Go.cast (own_ef_jdk_33_method_12_code_IIR m x0 (Int32.ofNat (own_nd (own_M x0) + own_sg x0)) b1) ?_
  refine Go.step (T' := s₁) (g' := (mkF m 1 #[.val (.int x0), .val (.int (Int32.ofNat (own_nd (own_M x0) + own_sg x0))), .val (.ref b1), .unset, .unset, .unset, .unset] [(.int (Int32.ofNat (own_nd (own_M x0) + own_sg x0)))])) (fun _ k => XS.iloadN X0.here hx rfl (hb hby d_jdk_33_method_12_0) rfl  k) ?_
  refine Go.step (T' := s₁) (g' := (mkF m 3 #[.val (.int x0), .val (.int (Int32.ofNat (own_nd (own_M x0) + own_sg x0))), .val (.ref b1), .unset, .unset, .val (.int (Int32.ofNat (own_nd (own_M x0) + own_sg x0))), .unset] [])) (fun _ k => XS.istore X0.here hx rfl (hb hby d_jdk_33_method_12_1) rfl (l' := #[.val (.int x0), .val (.int (Int32.ofNat (own_nd (own_M x0) + own_sg x0))), .val (.ref b1), .unset, .unset, .val (.int (Int32.ofNat (own_nd (own_M x0) + own_sg x0))), .unset]) rfl k) ?_
  refine Go.step (T' := s₁) (g' := (mkF m 4 #[.val (.int x0), .val (.int (Int32.ofNat (own_nd (own_M x0) + own_sg x0))), .val (.ref b1), .unset, .unset, .val (.int (Int32.ofNat (own_nd (own_M x0) + own_sg x0))), .unset] [(.int x0)])) (fun _ k => XS.iloadN X0.here hx rfl (hb hby d_jdk_33_method_12_3) rfl  k) ?_
  by_cases hc101 : x0 < (0 : Int32)
  · skip
    refine Go.step (T' := s₁) (g' := (mkF m 7 #[.val (.int x0), .val (.int (Int32.ofNat (own_nd (own_M x0) + own_sg x0))), .val (.ref b1), .unset, .unset, .val (.int (Int32.ofNat (own_nd (own_M x0) + own_sg x0))), .unset] [])) (fun _ k => XS.ifNo X0.here hx rfl (hb hby d_jdk_33_method_12_4) rfl ((if0 _ _).trans (tlt hc101).2.1) k) ?_
    refine Go.step (T' := s₁) (g' := (mkF m 8 #[.val (.int x0), .val (.int (Int32.ofNat (own_nd (own_M x0) + own_sg x0))), .val (.ref b1), .unset, .unset, .val (.int (Int32.ofNat (own_nd (own_M x0) + own_sg x0))), .unset] [(.int (1 : Int32))])) (fun _ k => XS.iconst X0.here hx rfl (hb hby d_jdk_33_method_12_7) k) ?_
    refine Go.step (T' := s₁) (g' := (mkF m 12 #[.val (.int x0), .val (.int (Int32.ofNat (own_nd (own_M x0) + own_sg x0))), .val (.ref b1), .unset, .unset, .val (.int (Int32.ofNat (own_nd (own_M x0) + own_sg x0))), .unset] [(.int (1 : Int32))])) (fun _ k => XS.goto X0.here hx rfl (pc0 := 8) (pc' := 12) rfl (hb hby d_jdk_33_method_12_8) (by decide) (by decide) k) ?_
    refine Go.step (T' := s₁) (g' := (mkF m 14 #[.val (.int x0), .val (.int (Int32.ofNat (own_nd (own_M x0) + own_sg x0))), .val (.ref b1), .unset, .unset, .val (.int (Int32.ofNat (own_nd (own_M x0) + own_sg x0))), .val (.int (1 : Int32))] [])) (fun _ k => XS.istore X0.here hx rfl (hb hby d_jdk_33_method_12_12) rfl (l' := #[.val (.int x0), .val (.int (Int32.ofNat (own_nd (own_M x0) + own_sg x0))), .val (.ref b1), .unset, .unset, .val (.int (Int32.ofNat (own_nd (own_M x0) + own_sg x0))), .val (.int (1 : Int32))]) rfl k) ?_
    refine Go.step (T' := s₁) (g' := (mkF m 16 #[.val (.int x0), .val (.int (Int32.ofNat (own_nd (own_M x0) + own_sg x0))), .val (.ref b1), .unset, .unset, .val (.int (Int32.ofNat (own_nd (own_M x0) + own_sg x0))), .val (.int (1 : Int32))] [(.int (1 : Int32))])) (fun _ k => XS.iload X0.here hx rfl (hb hby d_jdk_33_method_12_14) rfl  k) ?_
    refine Go.step (T' := s₁) (g' := (mkF m 22 #[.val (.int x0), .val (.int (Int32.ofNat (own_nd (own_M x0) + own_sg x0))), .val (.ref b1), .unset, .unset, .val (.int (Int32.ofNat (own_nd (own_M x0) + own_sg x0))), .val (.int (1 : Int32))] [])) (fun _ k => XS.ifYes X0.here hx rfl (pc0 := 16) (pc' := 22) rfl (hb hby d_jdk_33_method_12_16) rfl ((if0 _ _).trans (feq (by decide : ¬ ((1 : Int32) = (0 : Int32)))).2) (by decide) (by decide) k) ?_
    have hyy : (x0).toInt = -((own_M x0 / 1 : Nat) : Int) := by rw [Nat.div_one]; exact own_Mneg hc101
    exact own_gc0 x0 (Int32.ofNat (own_nd (own_M x0) + own_sg x0)) (1 : Int32) b1 k1 d1 d2 kd1 kd2 h0 (own_sg x0) (own_M x0) vs X0 hx hZ hw hby hml hown hret hlk e0 N0 Z0 (by decide) (by decide) f0 f1 f2 f3 f4 f5 f6 f7 f8 (Keep.refl h0 [b1]) (own_M_le x0) hyy hl (own_sg_le x0) (by rw [own_sgT hc101]; rfl) (fun j q => absurd q (Nat.not_lt_zero j))
  · skip
    refine Go.step (T' := s₁) (g' := (mkF m 11 #[.val (.int x0), .val (.int (Int32.ofNat (own_nd (own_M x0) + own_sg x0))), .val (.ref b1), .unset, .unset, .val (.int (Int32.ofNat (own_nd (own_M x0) + own_sg x0))), .unset] [])) (fun _ k => XS.ifYes X0.here hx rfl (pc0 := 4) (pc' := 11) rfl (hb hby d_jdk_33_method_12_4) rfl ((if0 _ _).trans (flt hc101).2.1) (by decide) (by decide) k) ?_
    refine Go.step (T' := s₁) (g' := (mkF m 12 #[.val (.int x0), .val (.int (Int32.ofNat (own_nd (own_M x0) + own_sg x0))), .val (.ref b1), .unset, .unset, .val (.int (Int32.ofNat (own_nd (own_M x0) + own_sg x0))), .unset] [(.int (0 : Int32))])) (fun _ k => XS.iconst X0.here hx rfl (hb hby d_jdk_33_method_12_11) k) ?_
    refine Go.step (T' := s₁) (g' := (mkF m 14 #[.val (.int x0), .val (.int (Int32.ofNat (own_nd (own_M x0) + own_sg x0))), .val (.ref b1), .unset, .unset, .val (.int (Int32.ofNat (own_nd (own_M x0) + own_sg x0))), .val (.int (0 : Int32))] [])) (fun _ k => XS.istore X0.here hx rfl (hb hby d_jdk_33_method_12_12) rfl (l' := #[.val (.int x0), .val (.int (Int32.ofNat (own_nd (own_M x0) + own_sg x0))), .val (.ref b1), .unset, .unset, .val (.int (Int32.ofNat (own_nd (own_M x0) + own_sg x0))), .val (.int (0 : Int32))]) rfl k) ?_
    refine Go.step (T' := s₁) (g' := (mkF m 16 #[.val (.int x0), .val (.int (Int32.ofNat (own_nd (own_M x0) + own_sg x0))), .val (.ref b1), .unset, .unset, .val (.int (Int32.ofNat (own_nd (own_M x0) + own_sg x0))), .val (.int (0 : Int32))] [(.int (0 : Int32))])) (fun _ k => XS.iload X0.here hx rfl (hb hby d_jdk_33_method_12_14) rfl  k) ?_
    refine Go.step (T' := s₁) (g' := (mkF m 19 #[.val (.int x0), .val (.int (Int32.ofNat (own_nd (own_M x0) + own_sg x0))), .val (.ref b1), .unset, .unset, .val (.int (Int32.ofNat (own_nd (own_M x0) + own_sg x0))), .val (.int (0 : Int32))] [])) (fun _ k => XS.ifNo X0.here hx rfl (hb hby d_jdk_33_method_12_16) rfl ((if0 _ _).trans (teq (by decide : (0 : Int32) = (0 : Int32))).2) k) ?_
    refine Go.step (T' := s₁) (g' := (mkF m 20 #[.val (.int x0), .val (.int (Int32.ofNat (own_nd (own_M x0) + own_sg x0))), .val (.ref b1), .unset, .unset, .val (.int (Int32.ofNat (own_nd (own_M x0) + own_sg x0))), .val (.int (0 : Int32))] [(.int x0)])) (fun _ k => XS.iloadN X0.here hx rfl (hb hby d_jdk_33_method_12_19) rfl  k) ?_
    refine Go.step (T' := s₁) (g' := (mkF m 21 #[.val (.int x0), .val (.int (Int32.ofNat (own_nd (own_M x0) + own_sg x0))), .val (.ref b1), .unset, .unset, .val (.int (Int32.ofNat (own_nd (own_M x0) + own_sg x0))), .val (.int (0 : Int32))] [(.int (-x0))])) (fun _ k => XS.ineg X0.here hx rfl (hb hby d_jdk_33_method_12_20) rfl k) ?_
    refine Go.step (T' := s₁) (g' := (mkF m 22 #[.val (.int (-x0)), .val (.int (Int32.ofNat (own_nd (own_M x0) + own_sg x0))), .val (.ref b1), .unset, .unset, .val (.int (Int32.ofNat (own_nd (own_M x0) + own_sg x0))), .val (.int (0 : Int32))] [])) (fun _ k => XS.istoreN X0.here hx rfl (hb hby d_jdk_33_method_12_21) rfl (l' := #[.val (.int (-x0)), .val (.int (Int32.ofNat (own_nd (own_M x0) + own_sg x0))), .val (.ref b1), .unset, .unset, .val (.int (Int32.ofNat (own_nd (own_M x0) + own_sg x0))), .val (.int (0 : Int32))]) rfl k) ?_
    have hyy : ((-x0)).toInt = -((own_M x0 / 1 : Nat) : Int) := by rw [Nat.div_one]; exact own_Mpos hc101
    exact own_gc0 (-x0) (Int32.ofNat (own_nd (own_M x0) + own_sg x0)) (0 : Int32) b1 k1 d1 d2 kd1 kd2 h0 (own_sg x0) (own_M x0) vs X0 hx hZ hw hby hml hown hret hlk e0 N0 Z0 (by decide) (by decide) f0 f1 f2 f3 f4 f5 f6 f7 f8 (Keep.refl h0 [b1]) (own_M_le x0) hyy hl (own_sg_le x0) (by rw [own_sgF hc101]; rfl) (fun j q => absurd q (Nat.not_lt_zero j))
def own_z16 : List Value := [(.int (0 : Int32)), (.int (0 : Int32)), (.int (0 : Int32)), (.int (0 : Int32)), (.int (0 : Int32)), (.int (0 : Int32)), (.int (0 : Int32)), (.int (0 : Int32)), (.int (0 : Int32)), (.int (0 : Int32)), (.int (0 : Int32)), (.int (0 : Int32)), (.int (0 : Int32)), (.int (0 : Int32)), (.int (0 : Int32)), (.int (0 : Int32))]
def Qini (Z : State) (a1 : Addr) (h0 : Heap) (n0 : Nat) (v : Option Value) (h : Heap) (L : List Loc) : Prop := ∃ (b : Addr) (k : ClassId), v = none ∧ Fr n0 L ∧ Keep h0 h [a1] ∧ h0.size ≤ b ∧ Exa Z h a1 "java/lang/StringBuilder" ∧ Fld Z h a1 "java/lang/AbstractStringBuilder" "value" "[B" (.ref b) ∧ Fld Z h a1 "java/lang/AbstractStringBuilder" "coder" "B" (.int (0 : Int32)) ∧ Fld Z h a1 "java/lang/AbstractStringBuilder" "count" "I" (.int (0 : Int32)) ∧ Exa Z h b "[B" ∧ Arv Z h b k .byte (16 : Int32) own_z16 (.int (0 : Int32))
theorem own_ef_jdk_68_method_2_code_RI (m : MethodId) (x0 : Addr) (x1 : Int32) : entryFrame m #[(.ref x0), (.int x1)] 2 = mkF m 0 #[.val (.ref x0), .val (.int x1)] [] := by first | (simp [entryFrame, mkF, argsToLocals, Value.category]; done) | rfl | (simp [entryFrame, mkF, argsToLocals, own_cI, own_cJ, own_cR, own_cN]; done)
theorem d_jdk_68_method_2_0 : decode jdk_68_method_2_code 0 = .ok (.aload_n 0, 1) := by decide +kernel
theorem d_jdk_68_method_2_1 : decode jdk_68_method_2_code 1 = .ok (.invokespecial 3, 3) := by decide +kernel
theorem d_jdk_68_method_2_4 : decode jdk_68_method_2_code 4 = .ok (.getstatic 18, 3) := by decide +kernel
theorem d_jdk_68_method_2_7 : decode jdk_68_method_2_code 7 = .ok (.ifCond .eq 18, 3) := by decide +kernel
theorem d_jdk_68_method_2_10 : decode jdk_68_method_2_code 10 = .ok (.aload_n 0, 1) := by decide +kernel
theorem d_jdk_68_method_2_11 : decode jdk_68_method_2_code 11 = .ok (.iload_n 1, 1) := by decide +kernel
theorem d_jdk_68_method_2_12 : decode jdk_68_method_2_code 12 = .ok (.newarray .byte, 2) := by decide +kernel
theorem d_jdk_68_method_2_14 : decode jdk_68_method_2_code 14 = .ok (.putfield 15, 3) := by decide +kernel
theorem d_jdk_68_method_2_17 : decode jdk_68_method_2_code 17 = .ok (.aload_n 0, 1) := by decide +kernel
theorem d_jdk_68_method_2_18 : decode jdk_68_method_2_code 18 = .ok (.iconst 0, 1) := by decide +kernel
theorem d_jdk_68_method_2_19 : decode jdk_68_method_2_code 19 = .ok (.putfield 22, 3) := by decide +kernel
theorem d_jdk_68_method_2_22 : decode jdk_68_method_2_code 22 = .ok (.goto 16, 3) := by decide +kernel
theorem d_jdk_68_method_2_38 : decode jdk_68_method_2_code 38 = .ok (.return_, 1) := by decide +kernel
set_option maxRecDepth 65536 in
set_option maxHeartbeats 40000000 in
theorem own_asbi (l : Launch) (Z : State) (a0 : Array Value) (hw : ∀ d ∈ tables_1, d.before a0 Z = true) (ws : List Jvm.Cond) (a1 : Addr) (gc : Int32) (u0 u1 : Value) (h0 : Heap) (n0 : Nat) (Z0 : n0 ≤ h0.size) (Sc : Sta Z h0 "java/lang/String" "COMPACT_STRINGS" "Z" (.int gc)) (hgc : ¬ gc = (0 : Int32)) (E1 : Exa Z h0 a1 "java/lang/StringBuilder") (g1 : n0 ≤ a1) (U0 : Fld Z h0 a1 "java/lang/AbstractStringBuilder" "value" "[B" u0) (U1 : Fld Z h0 a1 "java/lang/AbstractStringBuilder" "coder" "B" u1) (U2 : Fld Z h0 a1 "java/lang/AbstractStringBuilder" "count" "I" (.int (0 : Int32))) :
    Con l Z (⟨"java/lang/AbstractStringBuilder", "<init>", "(I)V"⟩ : MethodName) jdk_68_method_2_code 2 none ({ frames := 1, cells := 1, slots := 16, locals := 12 } : Room) ws #[(.ref a1), (.int (16 : Int32))] h0 (Qini Z a1 h0 n0) 1 16 := by
  refine Con.of (plainFor_of_name own_pn_AbstractStringBuilder) ?_
  intro pgm e s m below meth c s₁ X0 hx hZ hby hml hown hnm hret hlk e0 hs0
  have N0 := Fr.nil n0
  have hown : s.vm.findClass "java/lang/AbstractStringBuilder" = some m.cls := hown
  have hnm : meth.name = "<init>" := hnm
  refine Go.cast (own_ef_jdk_68_method_2_code_RI m a1 (16 : Int32)) ?_
  have K0 := Keep.refl h0 [a1]
  refine Go.step (T' := s₁) (g' := (mkF m 1 #[.val (.ref a1), .val (.int (16 : Int32))] [(.ref a1)])) (fun _ k => XS.aloadN X0.here hx rfl (hb hby d_jdk_68_method_2_0) rfl rfl k) ?_
  obtain ⟨T101, X101, e101, st101⟩ := initO X0 hx hZ hown (hwi hw 16 rfl) (hwi hw 17 rfl) (hwi hw 18 rfl) e0 (g := (mkF m 1 #[.val (.ref a1), .val (.int (16 : Int32))] [(.ref a1)])) rfl (by rw [hml]; rfl) rfl (hb hby d_jdk_68_method_2_1) (by decide) (W := 0) (by show 2 * 0 + _ ≤ _; exact Nat.le_of_eq rfl) (by decide)
  refine Go.step (T' := T101) (g' := (mkF m 4 #[.val (.ref a1), .val (.int (16 : Int32))] [])) st101 ?_
  obtain ⟨T102, X102, e102, st102⟩ := getS2 X101 hx hZ hown (host := "") (Or.inl (hwi hw 19 rfl)) Via.refl e101 Sc (g := (mkF m 4 #[.val (.ref a1), .val (.int (16 : Int32))] [])) rfl (hb hby d_jdk_68_method_2_4)
  refine Go.step (T' := T102) (g' := (mkF m 7 #[.val (.ref a1), .val (.int (16 : Int32))] [(.int gc)])) st102 ?_
  refine Go.step (T' := T102) (g' := (mkF m 10 #[.val (.ref a1), .val (.int (16 : Int32))] [])) (fun _ k => XS.ifNo X102.here hx rfl (hb hby d_jdk_68_method_2_7) rfl ((if0 _ _).trans (feq hgc).1) k) ?_
  refine Go.step (T' := T102) (g' := (mkF m 11 #[.val (.ref a1), .val (.int (16 : Int32))] [(.ref a1)])) (fun _ k => XS.aloadN X102.here hx rfl (hb hby d_jdk_68_method_2_10) rfl rfl k) ?_
  refine Go.step (T' := T102) (g' := (mkF m 12 #[.val (.ref a1), .val (.int (16 : Int32))] [(.int (16 : Int32)), (.ref a1)])) (fun _ k => XS.iloadN X102.here hx rfl (hb hby d_jdk_68_method_2_11) rfl  k) ?_
  obtain ⟨T103, h103, k103, X103, e103, E103, A103, EA103, st103⟩ := newPE X102 hx hZ (hwi hw 21 rfl) e102 (g := (mkF m 12 #[.val (.ref a1), .val (.int (16 : Int32))] [(.int (16 : Int32)), (.ref a1)])) rfl (hb hby d_jdk_68_method_2_12) rfl (by decide) (cap := 16) (by decide) (by decide) (by decide) (by decide) (ad := "[B") (by decide)
  obtain ⟨b103, g103⟩ : ∃ z, z = h0.size := ⟨_, rfl⟩
  rw [← g103] at A103 EA103 st103
  have ne104 : a1 ≠ b103 := by have q := E1.lt; intro r; rw [r, g103] at q; exact Nat.lt_irrefl _ q
  have ge103 : n0 ≤ b103 := Nat.le_trans Z0 (Nat.le_of_eq g103.symm)
  have Z103 : n0 ≤ h103.size := Nat.le_trans Z0 E103.1
  have sz103 : h0.size ≤ b103 := Nat.le_trans K0.1 (Nat.le_of_eq g103.symm)
  have K103 := K0.ext E103
  have F105 := Sc.ext E103
  have F106 := E1.ext E103
  have F107 := U0.ext E103
  have F108 := U1.ext E103
  have F109 := U2.ext E103
  have V103 : Arv Z h103 b103 k103 .byte (16 : Int32) [(.int (0 : Int32)), (.int (0 : Int32)), (.int (0 : Int32)), (.int (0 : Int32)), (.int (0 : Int32)), (.int (0 : Int32)), (.int (0 : Int32)), (.int (0 : Int32)), (.int (0 : Int32)), (.int (0 : Int32)), (.int (0 : Int32)), (.int (0 : Int32)), (.int (0 : Int32)), (.int (0 : Int32)), (.int (0 : Int32)), (.int (0 : Int32))] (.int (0 : Int32)) := (Arv.new A103 (by decide)).pad (pad_rep [] (.int (0 : Int32)) 16)
  refine Go.step (T' := T103) (g' := (mkF m 14 #[.val (.ref a1), .val (.int (16 : Int32))] [(.ref b103), (.ref a1)])) st103 ?_
  obtain ⟨T110, h110, X110, e110, W110, st110⟩ := putF X103 hx hZ hown (host := "") (Or.inl (hwi hw 22 rfl)) Via.refl e103 F107 F106 (Or.inl (hwi hw 23 rfl)) (hwi hw 5 rfl) (ty := (.array .byte)) (by decide) rfl rfl (g := (mkF m 14 #[.val (.ref a1), .val (.int (16 : Int32))] [(.ref b103), (.ref a1)])) rfl rfl (hb hby d_jdk_68_method_2_14)
  have N110 := Fr.snoc X110 N0 g1
  have Z110 : n0 ≤ h110.size := Nat.le_trans Z103 (Keep.of_wr W110).1
  have K110 := K103.wr W110 (Or.inl (List.mem_of_getElem? (i := 0) rfl))
  have F111 := F105.wr W110
  have F112 := F106.wr W110
  have F113 := F108.other W110 (Or.inr (slot_ne (Or.inl (hwi hw 25 rfl)) (Or.inl (hwi hw 23 rfl)) (by decide) (t := .byte) (t' := (.array .byte)) (by decide) (by decide)))
  have F114 := F109.other W110 (Or.inr (slot_ne (Or.inl (hwi hw 37 rfl)) (Or.inl (hwi hw 23 rfl)) (by decide) (t := .int) (t' := (.array .byte)) (by decide) (by decide)))
  have F115 := V103.other W110 (Ne.symm ne104)
  have F116 := EA103.wr W110
  have F117 := F107.same W110
  refine Go.step (T' := T110) (g' := (mkF m 17 #[.val (.ref a1), .val (.int (16 : Int32))] [])) st110 ?_
  refine Go.step (T' := T110) (g' := (mkF m 18 #[.val (.ref a1), .val (.int (16 : Int32))] [(.ref a1)])) (fun _ k => XS.aloadN X110.here hx rfl (hb hby d_jdk_68_method_2_17) rfl rfl k) ?_
  refine Go.step (T' := T110) (g' := (mkF m 19 #[.val (.ref a1), .val (.int (16 : Int32))] [(.int (0 : Int32)), (.ref a1)])) (fun _ k => XS.iconst X110.here hx rfl (hb hby d_jdk_68_method_2_18) k) ?_
  obtain ⟨T118, h118, X118, e118, W118, st118⟩ := putFN X110 hx hZ hown (hwi hw 24 rfl) Via.refl e110 F113 F112 (Or.inl (hwi hw 25 rfl)) (hwi hw 5 rfl) (ty := .byte) (v' := (.int (0 : Int32))) (by decide) (rfl) (by decide) (g := (mkF m 19 #[.val (.ref a1), .val (.int (16 : Int32))] [(.int (0 : Int32)), (.ref a1)])) rfl rfl (hb hby d_jdk_68_method_2_19)
  have N118 := Fr.snoc X118 N110 g1
  have Z118 : n0 ≤ h118.size := Nat.le_trans Z110 (Keep.of_wr W118).1
  have K118 := K110.wr W118 (Or.inl (List.mem_of_getElem? (i := 0) rfl))
  have F119 := F111.wr W118
  have F120 := F112.wr W118
  have F121 := F114.other W118 (Or.inr (slot_ne (Or.inl (hwi hw 37 rfl)) (Or.inl (hwi hw 25 rfl)) (by decide) (t := .int) (t' := .byte) (by decide) (by decide)))
  have F122 := F115.other W118 (Ne.symm ne104)
  have F123 := F116.wr W118
  have F124 := F117.other W118 (Or.inr (slot_ne (Or.inl (hwi hw 23 rfl)) (Or.inl (hwi hw 25 rfl)) (by decide) (t := (.array .byte)) (t' := .byte) (by decide) (by decide)))
  have F125 := F113.same W118
  refine Go.step (T' := T118) (g' := (mkF m 22 #[.val (.ref a1), .val (.int (16 : Int32))] [])) st118 ?_
  refine Go.step (T' := T118) (g' := (mkF m 38 #[.val (.ref a1), .val (.int (16 : Int32))] [])) (fun _ k => XS.goto X118.here hx rfl (pc0 := 22) (pc' := 38) rfl (hb hby d_jdk_68_method_2_22) (by decide) (by decide) k) ?_
  exact Go.retV X118 hx hret hlk (hb hby d_jdk_68_method_2_38) (by rw [e118]; exact ⟨b103, _, rfl, N118, K118, sz103, F120, F124, F125, F121, F123, F122⟩) (by decide) (by decide)
theorem own_ef_jdk_67_method_1_code_R (m : MethodId) (x0 : Addr) : entryFrame m #[(.ref x0)] 1 = mkF m 0 #[.val (.ref x0)] [] := by first | (simp [entryFrame, mkF, argsToLocals, Value.category]; done) | rfl | (simp [entryFrame, mkF, argsToLocals, own_cI, own_cJ, own_cR, own_cN]; done)
theorem d_jdk_67_method_1_0 : decode jdk_67_method_1_code 0 = .ok (.aload_n 0, 1) := by decide +kernel
theorem d_jdk_67_method_1_1 : decode jdk_67_method_1_code 1 = .ok (.bipush 16, 2) := by decide +kernel
theorem d_jdk_67_method_1_3 : decode jdk_67_method_1_code 3 = .ok (.invokespecial 1, 3) := by decide +kernel
theorem own_pd6 : parseMethodDescriptor "(I)V" = some ⟨[.int], none⟩ := by decide +kernel
theorem d_jdk_67_method_1_6 : decode jdk_67_method_1_code 6 = .ok (.return_, 1) := by decide +kernel
set_option maxRecDepth 65536 in
set_option maxHeartbeats 40000000 in
theorem own_sbi (l : Launch) (Z : State) (a0 : Array Value) (hw : ∀ d ∈ tables_1, d.before a0 Z = true) (ws : List Jvm.Cond) (a1 : Addr) (gc : Int32) (u0 u1 : Value) (h0 : Heap) (n0 : Nat) (Z0 : n0 ≤ h0.size) (Sc : Sta Z h0 "java/lang/String" "COMPACT_STRINGS" "Z" (.int gc)) (hgc : ¬ gc = (0 : Int32)) (E1 : Exa Z h0 a1 "java/lang/StringBuilder") (g1 : n0 ≤ a1) (U0 : Fld Z h0 a1 "java/lang/AbstractStringBuilder" "value" "[B" u0) (U1 : Fld Z h0 a1 "java/lang/AbstractStringBuilder" "coder" "B" u1) (U2 : Fld Z h0 a1 "java/lang/AbstractStringBuilder" "count" "I" (.int (0 : Int32))) :
    Con l Z (⟨"java/lang/StringBuilder", "<init>", "()V"⟩ : MethodName) jdk_67_method_1_code 1 none ({ frames := 2, cells := 1, slots := 16, locals := 25 } : Room) ws #[(.ref a1)] h0 (Qini Z a1 h0 n0) 1 16 := by
  refine Con.of (plainFor_of_name own_pn_StringBuilder) ?_
  intro pgm e s m below meth c s₁ X0 hx hZ hby hml hown hnm hret hlk e0 hs0
  have N0 := Fr.nil n0
  have hown : s.vm.findClass "java/lang/StringBuilder" = some m.cls := hown
  have hnm : meth.name = "<init>" := hnm
  refine Go.cast (own_ef_jdk_67_method_1_code_R m a1) ?_
  have K0 := Keep.refl h0 [a1]
  refine Go.step (T' := s₁) (g' := (mkF m 1 #[.val (.ref a1)] [(.ref a1)])) (fun _ k => XS.aloadN X0.here hx rfl (hb hby d_jdk_67_method_1_0) rfl rfl k) ?_
  refine Go.step (T' := s₁) (g' := (mkF m 3 #[.val (.ref a1)] [(.int (16 : Int32)), (.ref a1)])) (fun _ k => XS.bipush X0.here hx rfl (hb hby d_jdk_67_method_1_1) k) ?_
  obtain ⟨_, _, ⟨T101, L101, k101, n101⟩, -, X101, ⟨Lc101, hQ101, l101, y101, z101⟩, st101⟩ := X0.specialBack hx (y := (⟨"java/lang/AbstractStringBuilder", "<init>", "(I)V"⟩ : MethodName)) rfl hown (mvT hZ (hwi hw 10 rfl)) (mvT hZ (hwi hw 11 rfl)) (mvT hZ (hwi hw 15 rfl)) (by decide) (backOf (W := 0) (Q := Qini Z a1 h0 n0) (own_asbi l Z a0 hw [] a1 gc u0 u1 h0 n0 Z0 Sc hgc E1 g1 U0 U1 U2) hZ (hwi hw 15 rfl) (hwi hw 14 rfl) (by decide) (by decide)) (g := (mkF m 3 #[.val (.ref a1)] [(.int (16 : Int32)), (.ref a1)])) rfl (by rw [hml]; rfl) (Steps.refl _) (a := a1) (argsL := [(.int (16 : Int32))]) (rest := []) (lenOf own_pd6 rfl) rfl (by show 2 * 0 + _ ≤ _; exact Nat.le_of_eq rfl) (hb hby d_jdk_67_method_1_3) (fun _ _ => ⟨rfl, e0, (by decide : 0 + 1 ≤ _), (by decide : 0 + 16 ≤ _)⟩)
  dsimp only [Pt.U, Pt.locs, Pt.cells, Pt.slots] at X101 l101 y101 z101 st101 hQ101
  subst l101 y101 z101
  obtain ⟨bb101, kb101, rfl, N101q, K101, lt101, E101, B101, C101, M101, EB101, V101⟩ := hQ101
  have N101 := Fr.app N0 N101q
  have ne102 : a1 ≠ bb101 := Nat.ne_of_lt (Nat.lt_of_lt_of_le E1.lt lt101)
  have ge103 : n0 ≤ bb101 := Nat.le_trans Z0 lt101
  have sz104 : h0.size ≤ bb101 := Nat.le_trans K0.1 lt101
  have KK101 := K0.trans K101 (allS (Or.inl (List.mem_of_getElem? (i := 0) rfl)) all0)
  have Z101 : n0 ≤ T101.heap.size := Nat.le_trans Z0 K101.1
  have F105 := own_sta_keep Sc K101 (allS (own_plain E1) all0)
  have F106 := E1.keep K101
  refine Go.step (T' := T101) (g' := (mkF m 6 #[.val (.ref a1)] [])) (fun _ k => st101.trans k) ?_
  exact Go.retV X101 hx hret hlk (hb hby d_jdk_67_method_1_6) (⟨bb101, _, rfl, N101, KK101, sz104, E101, B101, C101, M101, EB101, V101⟩) (by decide) (by decide)
def Qapi (Z : State) (a1 b1 : Addr) (k1 : ClassId) (M sg : Nat) (h0 : Heap) (n0 : Nat) (v : Option Value) (h : Heap) (L : List Loc) : Prop := ∃ vs : List Value, v = some (.ref a1) ∧ Fr n0 L ∧ Keep h0 h [a1, b1] ∧ Exa Z h a1 "java/lang/StringBuilder" ∧ Fld Z h a1 "java/lang/AbstractStringBuilder" "value" "[B" (.ref b1) ∧ Fld Z h a1 "java/lang/AbstractStringBuilder" "coder" "B" (.int (0 : Int32)) ∧ Fld Z h a1 "java/lang/AbstractStringBuilder" "count" "I" (.int (Int32.ofNat (own_nd M + sg))) ∧ Exa Z h b1 "[B" ∧ Arv Z h b1 k1 .byte (16 : Int32) vs (.int (0 : Int32)) ∧ vs.length = 16 ∧ Digs M sg vs
theorem own_ef_jdk_68_method_32_code_RI (m : MethodId) (x0 : Addr) (x1 : Int32) : entryFrame m #[(.ref x0), (.int x1)] 4 = mkF m 0 #[.val (.ref x0), .val (.int x1), .unset, .unset] [] := by first | (simp [entryFrame, mkF, argsToLocals, Value.category]; done) | rfl | (simp [entryFrame, mkF, argsToLocals, own_cI, own_cJ, own_cR, own_cN]; done)
theorem d_jdk_68_method_32_0 : decode jdk_68_method_32_code 0 = .ok (.aload_n 0, 1) := by decide +kernel
theorem d_jdk_68_method_32_1 : decode jdk_68_method_32_code 1 = .ok (.getfield 79, 3) := by decide +kernel
theorem d_jdk_68_method_32_4 : decode jdk_68_method_32_code 4 = .ok (.istore_n 2, 1) := by decide +kernel
theorem d_jdk_68_method_32_5 : decode jdk_68_method_32_code 5 = .ok (.iload_n 2, 1) := by decide +kernel
theorem d_jdk_68_method_32_6 : decode jdk_68_method_32_code 6 = .ok (.iload_n 1, 1) := by decide +kernel
theorem d_jdk_68_method_32_7 : decode jdk_68_method_32_code 7 = .ok (.invokestatic 245, 3) := by decide +kernel
theorem own_pd7 : parseMethodDescriptor "(I)I" = some ⟨[.int], some .int⟩ := by decide +kernel
theorem d_jdk_68_method_32_10 : decode jdk_68_method_32_code 10 = .ok (.iadd, 1) := by decide +kernel
theorem d_jdk_68_method_32_11 : decode jdk_68_method_32_code 11 = .ok (.istore_n 3, 1) := by decide +kernel
theorem d_jdk_68_method_32_12 : decode jdk_68_method_32_code 12 = .ok (.aload_n 0, 1) := by decide +kernel
theorem d_jdk_68_method_32_13 : decode jdk_68_method_32_code 13 = .ok (.iload_n 3, 1) := by decide +kernel
theorem d_jdk_68_method_32_14 : decode jdk_68_method_32_code 14 = .ok (.invokevirtual 100, 3) := by decide +kernel
theorem d_jdk_68_method_32_17 : decode jdk_68_method_32_code 17 = .ok (.aload_n 0, 1) := by decide +kernel
theorem d_jdk_68_method_32_18 : decode jdk_68_method_32_code 18 = .ok (.invokevirtual 83, 3) := by decide +kernel
theorem d_jdk_68_method_32_21 : decode jdk_68_method_32_code 21 = .ok (.ifCond .eq 16, 3) := by decide +kernel
theorem d_jdk_68_method_32_24 : decode jdk_68_method_32_code 24 = .ok (.iload_n 1, 1) := by decide +kernel
theorem d_jdk_68_method_32_25 : decode jdk_68_method_32_code 25 = .ok (.iload_n 3, 1) := by decide +kernel
theorem d_jdk_68_method_32_26 : decode jdk_68_method_32_code 26 = .ok (.aload_n 0, 1) := by decide +kernel
theorem d_jdk_68_method_32_27 : decode jdk_68_method_32_code 27 = .ok (.getfield 15, 3) := by decide +kernel
theorem d_jdk_68_method_32_30 : decode jdk_68_method_32_code 30 = .ok (.invokestatic 248, 3) := by decide +kernel
theorem own_pd8 : parseMethodDescriptor "(II[B)I" = some ⟨[.int, .int, (.array .byte)], some .int⟩ := by decide +kernel
theorem d_jdk_68_method_32_33 : decode jdk_68_method_32_code 33 = .ok (.pop, 1) := by decide +kernel
theorem d_jdk_68_method_32_34 : decode jdk_68_method_32_code 34 = .ok (.goto 14, 3) := by decide +kernel
theorem d_jdk_68_method_32_48 : decode jdk_68_method_32_code 48 = .ok (.aload_n 0, 1) := by decide +kernel
theorem d_jdk_68_method_32_49 : decode jdk_68_method_32_code 49 = .ok (.iload_n 3, 1) := by decide +kernel
theorem d_jdk_68_method_32_50 : decode jdk_68_method_32_code 50 = .ok (.putfield 79, 3) := by decide +kernel
theorem d_jdk_68_method_32_53 : decode jdk_68_method_32_code 53 = .ok (.aload_n 0, 1) := by decide +kernel
theorem d_jdk_68_method_32_54 : decode jdk_68_method_32_code 54 = .ok (.areturn, 1) := by decide +kernel
set_option maxRecDepth 65536 in
set_option maxHeartbeats 40000000 in
theorem own_api (l : Launch) (Z : State) (a0 : Array Value) (hw : ∀ d ∈ tables_1, d.before a0 Z = true) (ws : List Jvm.Cond) (a1 : Addr) (x0 : Int32) (gc : Int32) (b1 : Addr) (k1 : ClassId) (vs : List Value) (d1 d2 : Addr) (kd1 kd2 : ClassId) (h0 : Heap) (n0 : Nat) (Z0 : n0 ≤ h0.size) (Sc : Sta Z h0 "java/lang/String" "COMPACT_STRINGS" "Z" (.int gc)) (hgc : ¬ gc = (0 : Int32)) (E1 : Exa Z h0 a1 "java/lang/StringBuilder") (g1 : n0 ≤ a1) (B1 : Fld Z h0 a1 "java/lang/AbstractStringBuilder" "value" "[B" (.ref b1)) (C1 : Fld Z h0 a1 "java/lang/AbstractStringBuilder" "coder" "B" (.int (0 : Int32))) (M1 : Fld Z h0 a1 "java/lang/AbstractStringBuilder" "count" "I" (.int (0 : Int32))) (ab : a1 ≠ b1) (da1 : d1 ≠ a1) (da2 : d2 ≠ a1) (f0 : Sta Z h0 "java/lang/Integer" "DigitOnes" "[B" (.ref d1)) (f1 : Sta Z h0 "java/lang/Integer" "DigitTens" "[B" (.ref d2)) (f2 : Arv Z h0 d1 kd1 .byte (100 : Int32) own_ones (.int (0 : Int32))) (f3 : Arv Z h0 d2 kd2 .byte (100 : Int32) own_tens (.int (0 : Int32))) (f4 : Arv Z h0 b1 k1 .byte (16 : Int32) vs (.int (0 : Int32))) (f5 : Exa Z h0 b1 "[B") (f6 : d1 ≠ b1) (f7 : d2 ≠ b1) (f8 : n0 ≤ b1) (hl : vs.length = 16) :
    Con l Z (⟨"java/lang/AbstractStringBuilder", "append", "(I)Ljava/lang/AbstractStringBuilder;"⟩ : MethodName) jdk_68_method_32_code 4 (some (.object "java/lang/AbstractStringBuilder")) ({ frames := 1, cells := 0, slots := 0, locals := 18 } : Room) ws #[(.ref a1), (.int x0)] h0 (Qapi Z a1 b1 k1 (own_M x0) (own_sg x0) h0 n0) 0 0 := by
  refine Con.of (plainFor_of_name own_pn_AbstractStringBuilder) ?_
  intro pgm e s m below meth c s₁ X0 hx hZ hby hml hown hnm hret hlk e0 hs0
  have N0 := Fr.nil n0
  have hown : s.vm.findClass "java/lang/AbstractStringBuilder" = some m.cls := hown
  have hnm : meth.name = "append" := hnm
  refine Go.cast (own_ef_jdk_68_method_32_code_RI m a1 x0) ?_
  have K0 := Keep.refl h0 [a1, b1]
  have hn10 := own_nd_le (own_M x0)
  have hs1 := own_sg_le x0
  refine Go.step (T' := s₁) (g' := (mkF m 1 #[.val (.ref a1), .val (.int x0), .unset, .unset] [(.ref a1)])) (fun _ k => XS.aloadN X0.here hx rfl (hb hby d_jdk_68_method_32_0) rfl rfl k) ?_
  obtain ⟨T101, X101, e101, st101⟩ := getF X0 hx hZ hown (host := "") (Or.inl (hwi hw 36 rfl)) Via.refl e0 M1 (g := (mkF m 1 #[.val (.ref a1), .val (.int x0), .unset, .unset] [(.ref a1)])) rfl rfl (hb hby d_jdk_68_method_32_1)
  refine Go.step (T' := T101) (g' := (mkF m 4 #[.val (.ref a1), .val (.int x0), .unset, .unset] [(.int (0 : Int32))])) st101 ?_
  refine Go.step (T' := T101) (g' := (mkF m 5 #[.val (.ref a1), .val (.int x0), .val (.int (0 : Int32)), .unset] [])) (fun _ k => XS.istoreN X101.here hx rfl (hb hby d_jdk_68_method_32_4) rfl (l' := #[.val (.ref a1), .val (.int x0), .val (.int (0 : Int32)), .unset]) rfl k) ?_
  refine Go.step (T' := T101) (g' := (mkF m 6 #[.val (.ref a1), .val (.int x0), .val (.int (0 : Int32)), .unset] [(.int (0 : Int32))])) (fun _ k => XS.iloadN X101.here hx rfl (hb hby d_jdk_68_method_32_5) rfl  k) ?_
  refine Go.step (T' := T101) (g' := (mkF m 7 #[.val (.ref a1), .val (.int x0), .val (.int (0 : Int32)), .unset] [(.int x0), (.int (0 : Int32))])) (fun _ k => XS.iloadN X101.here hx rfl (hb hby d_jdk_68_method_32_6) rfl  k) ?_
  obtain ⟨_, _, ⟨T102, L102, k102, n102⟩, -, X102, ⟨Lc102, hQ102, l102, y102, z102⟩, st102⟩ := Jvm.LawKit.callS X101 hx (y := (⟨"java/lang/Integer", "stringSize", "(I)I"⟩ : MethodName)) hown (mvT hZ (hwi hw 38 rfl)) (mvT hZ (hwi hw 39 rfl)) (mvT hZ (hwi hw 40 rfl)) (mvT hZ (hwi hw 41 rfl)) (by decide) (backOf (W := 1) (Q := Qret (some (.int (Int32.ofNat (own_nd (own_M x0) + own_sg x0)))) h0 n0) (own_ssz l Z a0 hw [] x0 h0 n0 Z0) hZ (hwi hw 41 rfl) (hwi hw 40 rfl) (by decide) (by decide)) (g := (mkF m 7 #[.val (.ref a1), .val (.int x0), .val (.int (0 : Int32)), .unset] [(.int x0), (.int (0 : Int32))])) rfl (by rw [hml]; rfl) (argsL := [(.int x0)]) (rest := [(.int (0 : Int32))]) (lenOf own_pd7 rfl) rfl (by show 2 * 0 + _ ≤ _; exact Nat.le_of_eq rfl) (hb hby d_jdk_68_method_32_7) (fun _ _ => ⟨rfl, e101, (by decide : 0 + 0 ≤ _), (by decide : 0 + 0 ≤ _)⟩)
  dsimp only [Pt.U, Pt.locs, Pt.cells, Pt.slots] at X102 l102 y102 z102 st102 hQ102
  subst l102 y102 z102
  obtain ⟨rfl, N102q, eh102⟩ := hQ102
  have N102 := Fr.app N0 N102q
  refine Go.step (T' := T102) (g' := (mkF m 10 #[.val (.ref a1), .val (.int x0), .val (.int (0 : Int32)), .unset] [(.int (Int32.ofNat (own_nd (own_M x0) + own_sg x0))), (.int (0 : Int32))])) (st102) ?_
  refine Go.step (T' := T102) (g' := (mkF m 11 #[.val (.ref a1), .val (.int x0), .val (.int (0 : Int32)), .unset] [(.int ((0 : Int32) + (Int32.ofNat (own_nd (own_M x0) + own_sg x0))))])) (fun _ k => XS.iadd X102.here hx rfl (hb hby d_jdk_68_method_32_10) rfl k) ?_
  rw [own_0add]
  refine Go.step (T' := T102) (g' := (mkF m 12 #[.val (.ref a1), .val (.int x0), .val (.int (0 : Int32)), .val (.int (Int32.ofNat (own_nd (own_M x0) + own_sg x0)))] [])) (fun _ k => XS.istoreN X102.here hx rfl (hb hby d_jdk_68_method_32_11) rfl (l' := #[.val (.ref a1), .val (.int x0), .val (.int (0 : Int32)), .val (.int (Int32.ofNat (own_nd (own_M x0) + own_sg x0)))]) rfl k) ?_
  refine Go.step (T' := T102) (g' := (mkF m 13 #[.val (.ref a1), .val (.int x0), .val (.int (0 : Int32)), .val (.int (Int32.ofNat (own_nd (own_M x0) + own_sg x0)))] [(.ref a1)])) (fun _ k => XS.aloadN X102.here hx rfl (hb hby d_jdk_68_method_32_12) rfl rfl k) ?_
  refine Go.step (T' := T102) (g' := (mkF m 14 #[.val (.ref a1), .val (.int x0), .val (.int (0 : Int32)), .val (.int (Int32.ofNat (own_nd (own_M x0) + own_sg x0)))] [(.int (Int32.ofNat (own_nd (own_M x0) + own_sg x0))), (.ref a1)])) (fun _ k => XS.iloadN X102.here hx rfl (hb hby d_jdk_68_method_32_13) rfl  k) ?_
  obtain ⟨cq103, q103, q103'⟩ := E1.cell
  obtain ⟨_, _, ⟨T103, L103, k103, n103⟩, -, X103, ⟨Lc103, hQ103, l103, y103, z103⟩, st103⟩ := X102.privateBack hx (y := (⟨"java/lang/AbstractStringBuilder", "ensureCapacityInternal", "(I)V"⟩ : MethodName)) hown (mvT hZ (hwi hw 42 rfl)) (mvT hZ (hwi hw 43 rfl)) (mvT hZ (own_selP (hwi hw 45 rfl) (hwi hw 44 rfl) (hwi hw 43 rfl) (by decide))) (Cond.privateMethod_at (mvP hZ (hwi hw 44 rfl) (args := #[]))) (mvT hZ (hwi hw 46 rfl)) (by decide) (backOf (W := 0) (Q := Qret none h0 n0) (own_ens l Z a0 hw [] a1 (Int32.ofNat (own_nd (own_M x0) + own_sg x0)) b1 k1 vs h0 n0 Z0 C1 B1 f4 (own_fit (by omega))) hZ (hwi hw 46 rfl) (hwi hw 14 rfl) (by decide) (by decide)) (g := (mkF m 14 #[.val (.ref a1), .val (.int x0), .val (.int (0 : Int32)), .val (.int (Int32.ofNat (own_nd (own_M x0) + own_sg x0)))] [(.int (Int32.ofNat (own_nd (own_M x0) + own_sg x0))), (.ref a1)])) rfl (by rw [hml]; rfl) (Steps.refl _) (a := a1) (by rw [eh102]; exact q103) q103' (argsL := [(.int (Int32.ofNat (own_nd (own_M x0) + own_sg x0)))]) (rest := []) (lenOf own_pd6 rfl) rfl (by show 2 * 0 + _ ≤ _; exact Nat.le_of_eq rfl) (hb hby d_jdk_68_method_32_14) (fun _ _ => ⟨rfl, eh102, (by decide : 0 + 0 ≤ _), (by decide : 0 + 0 ≤ _)⟩)
  dsimp only [Pt.U, Pt.locs, Pt.cells, Pt.slots] at X103 l103 y103 z103 st103 hQ103
  subst l103 y103 z103
  obtain ⟨rfl, N103q, eh103⟩ := hQ103
  have N103 := Fr.app N102 N103q
  refine Go.step (T' := T103) (g' := (mkF m 17 #[.val (.ref a1), .val (.int x0), .val (.int (0 : Int32)), .val (.int (Int32.ofNat (own_nd (own_M x0) + own_sg x0)))] [])) (fun _ k => st103.trans k) ?_
  refine Go.step (T' := T103) (g' := (mkF m 18 #[.val (.ref a1), .val (.int x0), .val (.int (0 : Int32)), .val (.int (Int32.ofNat (own_nd (own_M x0) + own_sg x0)))] [(.ref a1)])) (fun _ k => XS.aloadN X103.here hx rfl (hb hby d_jdk_68_method_32_17) rfl rfl k) ?_
  obtain ⟨cq104, kq104, q104a, q104b, q104c⟩ := isOf hZ eh103 E1
  obtain ⟨_, _, ⟨T104, L104, k104, n104⟩, -, X104, ⟨Lc104, hQ104, l104, y104, z104⟩, st104⟩ := X103.virtualBack hx (y := (⟨"java/lang/AbstractStringBuilder", "isLatin1", "()Z"⟩ : MethodName)) (z := (⟨"java/lang/AbstractStringBuilder", "isLatin1", "()Z"⟩ : MethodName)) hown (mvT hZ (hwi hw 47 rfl)) (mvT hZ (hwi hw 48 rfl)) (notFace_of_selects (args := #[]) (mvT hZ (hwi hw 50 rfl))) (mvT hZ (hwi hw 50 rfl)) (mvT hZ (hwi hw 49 rfl)) (by decide) (backOf (W := 0) (Q := Qret (some (.int (1 : Int32))) h0 n0) (own_alat l Z a0 hw [] a1 gc h0 n0 Z0 Sc hgc C1) hZ (hwi hw 51 rfl) (hwi hw 14 rfl) (by decide) (by decide)) q104a q104c (g := (mkF m 18 #[.val (.ref a1), .val (.int x0), .val (.int (0 : Int32)), .val (.int (Int32.ofNat (own_nd (own_M x0) + own_sg x0)))] [(.ref a1)])) rfl (by rw [hml]; rfl) (Steps.refl _) (argsL := []) (rest := []) (lenOf own_pd3 rfl) rfl (by show 2 * 0 + _ ≤ _; exact Nat.le_of_eq rfl) (hb hby d_jdk_68_method_32_18) (fun _ _ => ⟨rfl, eh103, (by decide : 0 + 0 ≤ _), (by decide : 0 + 0 ≤ _)⟩)
  dsimp only [Pt.U, Pt.locs, Pt.cells, Pt.slots] at X104 l104 y104 z104 st104 hQ104
  subst l104 y104 z104
  obtain ⟨rfl, N104q, eh104⟩ := hQ104
  have N104 := Fr.app N103 N104q
  refine Go.step (T' := T104) (g' := (mkF m 21 #[.val (.ref a1), .val (.int x0), .val (.int (0 : Int32)), .val (.int (Int32.ofNat (own_nd (own_M x0) + own_sg x0)))] [(.int (1 : Int32))])) (fun _ k => st104.trans k) ?_
  refine Go.step (T' := T104) (g' := (mkF m 24 #[.val (.ref a1), .val (.int x0), .val (.int (0 : Int32)), .val (.int (Int32.ofNat (own_nd (own_M x0) + own_sg x0)))] [])) (fun _ k => XS.ifNo X104.here hx rfl (hb hby d_jdk_68_method_32_21) rfl ((if0 _ _).trans (feq (by decide : ¬ ((1 : Int32) = (0 : Int32)))).1) k) ?_
  refine Go.step (T' := T104) (g' := (mkF m 25 #[.val (.ref a1), .val (.int x0), .val (.int (0 : Int32)), .val (.int (Int32.ofNat (own_nd (own_M x0) + own_sg x0)))] [(.int x0)])) (fun _ k => XS.iloadN X104.here hx rfl (hb hby d_jdk_68_method_32_24) rfl  k) ?_
  refine Go.step (T' := T104) (g' := (mkF m 26 #[.val (.ref a1), .val (.int x0), .val (.int (0 : Int32)), .val (.int (Int32.ofNat (own_nd (own_M x0) + own_sg x0)))] [(.int (Int32.ofNat (own_nd (own_M x0) + own_sg x0))), (.int x0)])) (fun _ k => XS.iloadN X104.here hx rfl (hb hby d_jdk_68_method_32_25) rfl  k) ?_
  refine Go.step (T' := T104) (g' := (mkF m 27 #[.val (.ref a1), .val (.int x0), .val (.int (0 : Int32)), .val (.int (Int32.ofNat (own_nd (own_M x0) + own_sg x0)))] [(.ref a1), (.int (Int32.ofNat (own_nd (own_M x0) + own_sg x0))), (.int x0)])) (fun _ k => XS.aloadN X104.here hx rfl (hb hby d_jdk_68_method_32_26) rfl rfl k) ?_
  obtain ⟨T105, X105, e105, st105⟩ := getF X104 hx hZ hown (host := "") (Or.inl (hwi hw 22 rfl)) Via.refl eh104 B1 (g := (mkF m 27 #[.val (.ref a1), .val (.int x0), .val (.int (0 : Int32)), .val (.int (Int32.ofNat (own_nd (own_M x0) + own_sg x0)))] [(.ref a1), (.int (Int32.ofNat (own_nd (own_M x0) + own_sg x0))), (.int x0)])) rfl rfl (hb hby d_jdk_68_method_32_27)
  refine Go.step (T' := T105) (g' := (mkF m 30 #[.val (.ref a1), .val (.int x0), .val (.int (0 : Int32)), .val (.int (Int32.ofNat (own_nd (own_M x0) + own_sg x0)))] [(.ref b1), (.int (Int32.ofNat (own_nd (own_M x0) + own_sg x0))), (.int x0)])) st105 ?_
  obtain ⟨_, _, ⟨T106, L106, k106, n106⟩, -, X106, ⟨Lc106, hQ106, l106, y106, z106⟩, st106⟩ := Jvm.LawKit.callS X105 hx (y := (⟨"java/lang/Integer", "getChars", "(II[B)I"⟩ : MethodName)) hown (mvT hZ (hwi hw 52 rfl)) (mvT hZ (hwi hw 53 rfl)) (mvT hZ (hwi hw 40 rfl)) (mvT hZ (hwi hw 54 rfl)) (by decide) (backOf (W := 0) (Q := Qgc Z b1 k1 (own_M x0) (own_sg x0) h0 n0) (own_gc l Z a0 hw [] x0 b1 k1 d1 d2 kd1 kd2 vs h0 n0 Z0 f0 f1 f2 f3 f4 f5 f6 f7 f8 hl) hZ (hwi hw 54 rfl) (hwi hw 40 rfl) (by decide) (by decide)) (g := (mkF m 30 #[.val (.ref a1), .val (.int x0), .val (.int (0 : Int32)), .val (.int (Int32.ofNat (own_nd (own_M x0) + own_sg x0)))] [(.ref b1), (.int (Int32.ofNat (own_nd (own_M x0) + own_sg x0))), (.int x0)])) rfl (by rw [hml]; rfl) (argsL := [(.int x0), (.int (Int32.ofNat (own_nd (own_M x0) + own_sg x0))), (.ref b1)]) (rest := []) (lenOf own_pd8 rfl) rfl (by show 2 * 0 + _ ≤ _; exact Nat.le_of_eq rfl) (hb hby d_jdk_68_method_32_30) (fun _ _ => ⟨rfl, e105, (by decide : 0 + 0 ≤ _), (by decide : 0 + 0 ≤ _)⟩)
  dsimp only [Pt.U, Pt.locs, Pt.cells, Pt.slots] at X106 l106 y106 z106 st106 hQ106
  subst l106 y106 z106
  obtain ⟨rr106, vs106, rfl, N106q, K106, hl106, V106, dg106⟩ := hQ106
  have N106 := Fr.app N104 N106q
  have KK106 := K0.trans K106 (allS (Or.inl (List.mem_of_getElem? (i := 1) rfl)) all0)
  have Z106 : n0 ≤ T106.heap.size := Nat.le_trans Z0 K106.1
  have F107 := own_sta_keep f0 K106 (allS (own_plain f5) all0)
  have F108 := own_sta_keep f1 K106 (allS (own_plain f5) all0)
  have F109 := f2.keep K106 (ninS f6 nin0)
  have F110 := f3.keep K106 (ninS f7 nin0)
  have F111 := f5.keep K106
  have F112 := own_sta_keep Sc K106 (allS (own_plain f5) all0)
  have F113 := E1.keep K106
  have F114 := B1.keep K106 (ninS ab nin0)
  have F115 := C1.keep K106 (ninS ab nin0)
  have F116 := M1.keep K106 (ninS ab nin0)
  refine Go.step (T' := T106) (g' := (mkF m 33 #[.val (.ref a1), .val (.int x0), .val (.int (0 : Int32)), .val (.int (Int32.ofNat (own_nd (own_M x0) + own_sg x0)))] [(.int rr106)])) (st106) ?_
  refine Go.step (T' := T106) (g' := (mkF m 34 #[.val (.ref a1), .val (.int x0), .val (.int (0 : Int32)), .val (.int (Int32.ofNat (own_nd (own_M x0) + own_sg x0)))] [])) (fun _ k => XS.pop X106.here hx rfl (hb hby d_jdk_68_method_32_33) rfl rfl k) ?_
  refine Go.step (T' := T106) (g' := (mkF m 48 #[.val (.ref a1), .val (.int x0), .val (.int (0 : Int32)), .val (.int (Int32.ofNat (own_nd (own_M x0) + own_sg x0)))] [])) (fun _ k => XS.goto X106.here hx rfl (pc0 := 34) (pc' := 48) rfl (hb hby d_jdk_68_method_32_34) (by decide) (by decide) k) ?_
  refine Go.step (T' := T106) (g' := (mkF m 49 #[.val (.ref a1), .val (.int x0), .val (.int (0 : Int32)), .val (.int (Int32.ofNat (own_nd (own_M x0) + own_sg x0)))] [(.ref a1)])) (fun _ k => XS.aloadN X106.here hx rfl (hb hby d_jdk_68_method_32_48) rfl rfl k) ?_
  refine Go.step (T' := T106) (g' := (mkF m 50 #[.val (.ref a1), .val (.int x0), .val (.int (0 : Int32)), .val (.int (Int32.ofNat (own_nd (own_M x0) + own_sg x0)))] [(.int (Int32.ofNat (own_nd (own_M x0) + own_sg x0))), (.ref a1)])) (fun _ k => XS.iloadN X106.here hx rfl (hb hby d_jdk_68_method_32_49) rfl  k) ?_
  obtain ⟨T117, h117, X117, e117, W117, st117⟩ := putF X106 hx hZ hown (host := "") (Or.inl (hwi hw 36 rfl)) Via.refl rfl F116 F113 (Or.inl (hwi hw 37 rfl)) (hwi hw 5 rfl) (ty := .int) (by decide) rfl rfl (g := (mkF m 50 #[.val (.ref a1), .val (.int x0), .val (.int (0 : Int32)), .val (.int (Int32.ofNat (own_nd (own_M x0) + own_sg x0)))] [(.int (Int32.ofNat (own_nd (own_M x0) + own_sg x0))), (.ref a1)])) rfl rfl (hb hby d_jdk_68_method_32_50)
  have N117 := Fr.snoc X117 N106 g1
  have Z117 : n0 ≤ h117.size := Nat.le_trans Z106 (Keep.of_wr W117).1
  have K117 := KK106.wr W117 (Or.inl (List.mem_of_getElem? (i := 0) rfl))
  have F118 := F107.wr W117
  have F119 := F108.wr W117
  have F120 := F109.other W117 da1
  have F121 := F110.other W117 da2
  have F122 := F111.wr W117
  have F123 := F112.wr W117
  have F124 := F113.wr W117
  have F125 := F114.other W117 (Or.inr (slot_ne (Or.inl (hwi hw 23 rfl)) (Or.inl (hwi hw 37 rfl)) (by decide) (t := (.array .byte)) (t' := .int) (by decide) (by decide)))
  have F126 := F115.other W117 (Or.inr (slot_ne (Or.inl (hwi hw 25 rfl)) (Or.inl (hwi hw 37 rfl)) (by decide) (t := .byte) (t' := .int) (by decide) (by decide)))
  have F127 := V106.other W117 (Ne.symm ab)
  have F128 := F116.same W117
  refine Go.step (T' := T117) (g' := (mkF m 53 #[.val (.ref a1), .val (.int x0), .val (.int (0 : Int32)), .val (.int (Int32.ofNat (own_nd (own_M x0) + own_sg x0)))] [])) st117 ?_
  refine Go.step (T' := T117) (g' := (mkF m 54 #[.val (.ref a1), .val (.int x0), .val (.int (0 : Int32)), .val (.int (Int32.ofNat (own_nd (own_M x0) + own_sg x0)))] [(.ref a1)])) (fun _ k => XS.aloadN X117.here hx rfl (hb hby d_jdk_68_method_32_53) rfl rfl k) ?_
  exact Go.retA X117 hx (t := (.object "java/lang/AbstractStringBuilder")) hret rfl hlk rfl (hb hby d_jdk_68_method_32_54) (by rw [e117]; exact ⟨_, rfl, N117, K117, F124, F125, F126, F128, F122, F127, hl106, dg106⟩) (by decide) (by decide)
theorem own_ef_jdk_67_method_15_code_RI (m : MethodId) (x0 : Addr) (x1 : Int32) : entryFrame m #[(.ref x0), (.int x1)] 2 = mkF m 0 #[.val (.ref x0), .val (.int x1)] [] := by first | (simp [entryFrame, mkF, argsToLocals, Value.category]; done) | rfl | (simp [entryFrame, mkF, argsToLocals, own_cI, own_cJ, own_cR, own_cN]; done)
theorem d_jdk_67_method_15_0 : decode jdk_67_method_15_code 0 = .ok (.aload_n 0, 1) := by decide +kernel
theorem d_jdk_67_method_15_1 : decode jdk_67_method_15_code 1 = .ok (.iload_n 1, 1) := by decide +kernel
theorem d_jdk_67_method_15_2 : decode jdk_67_method_15_code 2 = .ok (.invokespecial 53, 3) := by decide +kernel
theorem own_pd9 : parseMethodDescriptor "(I)Ljava/lang/AbstractStringBuilder;" = some ⟨[.int], some (.object "java/lang/AbstractStringBuilder")⟩ := by decide +kernel
theorem d_jdk_67_method_15_5 : decode jdk_67_method_15_code 5 = .ok (.pop, 1) := by decide +kernel
theorem d_jdk_67_method_15_6 : decode jdk_67_method_15_code 6 = .ok (.aload_n 0, 1) := by decide +kernel
theorem d_jdk_67_method_15_7 : decode jdk_67_method_15_code 7 = .ok (.areturn, 1) := by decide +kernel
set_option maxRecDepth 65536 in
set_option maxHeartbeats 40000000 in
theorem own_sbapi (l : Launch) (Z : State) (a0 : Array Value) (hw : ∀ d ∈ tables_1, d.before a0 Z = true) (ws : List Jvm.Cond) (a1 : Addr) (x0 : Int32) (gc : Int32) (b1 : Addr) (k1 : ClassId) (vs : List Value) (d1 d2 : Addr) (kd1 kd2 : ClassId) (h0 : Heap) (n0 : Nat) (Z0 : n0 ≤ h0.size) (Sc : Sta Z h0 "java/lang/String" "COMPACT_STRINGS" "Z" (.int gc)) (hgc : ¬ gc = (0 : Int32)) (E1 : Exa Z h0 a1 "java/lang/StringBuilder") (g1 : n0 ≤ a1) (B1 : Fld Z h0 a1 "java/lang/AbstractStringBuilder" "value" "[B" (.ref b1)) (C1 : Fld Z h0 a1 "java/lang/AbstractStringBuilder" "coder" "B" (.int (0 : Int32))) (M1 : Fld Z h0 a1 "java/lang/AbstractStringBuilder" "count" "I" (.int (0 : Int32))) (ab : a1 ≠ b1) (da1 : d1 ≠ a1) (da2 : d2 ≠ a1) (f0 : Sta Z h0 "java/lang/Integer" "DigitOnes" "[B" (.ref d1)) (f1 : Sta Z h0 "java/lang/Integer" "DigitTens" "[B" (.ref d2)) (f2 : Arv Z h0 d1 kd1 .byte (100 : Int32) own_ones (.int (0 : Int32))) (f3 : Arv Z h0 d2 kd2 .byte (100 : Int32) own_tens (.int (0 : Int32))) (f4 : Arv Z h0 b1 k1 .byte (16 : Int32) vs (.int (0 : Int32))) (f5 : Exa Z h0 b1 "[B") (f6 : d1 ≠ b1) (f7 : d2 ≠ b1) (f8 : n0 ≤ b1) (hl : vs.length = 16) :
    Con l Z (⟨"java/lang/StringBuilder", "append", "(I)Ljava/lang/StringBuilder;"⟩ : MethodName) jdk_67_method_15_code 2 (some (.object "java/lang/StringBuilder")) ({ frames := 2, cells := 0, slots := 0, locals := 33 } : Room) ws #[(.ref a1), (.int x0)] h0 (Qapi Z a1 b1 k1 (own_M x0) (own_sg x0) h0 n0) 0 0 := by
  refine Con.of (plainFor_of_name own_pn_StringBuilder) ?_
  intro pgm e s m below meth c s₁ X0 hx hZ hby hml hown hnm hret hlk e0 hs0
  have N0 := Fr.nil n0
  have hown : s.vm.findClass "java/lang/StringBuilder" = some m.cls := hown
  have hnm : meth.name = "append" := hnm
  refine Go.cast (own_ef_jdk_67_method_15_code_RI m a1 x0) ?_
  have K0 := Keep.refl h0 [a1, b1]
  have hn10 := own_nd_le (own_M x0)
  have hs1 := own_sg_le x0
  refine Go.step (T' := s₁) (g' := (mkF m 1 #[.val (.ref a1), .val (.int x0)] [(.ref a1)])) (fun _ k => XS.aloadN X0.here hx rfl (hb hby d_jdk_67_method_15_0) rfl rfl k) ?_
  refine Go.step (T' := s₁) (g' := (mkF m 2 #[.val (.ref a1), .val (.int x0)] [(.int x0), (.ref a1)])) (fun _ k => XS.iloadN X0.here hx rfl (hb hby d_jdk_67_method_15_1) rfl  k) ?_
  obtain ⟨_, _, ⟨T101, L101, k101, n101⟩, -, X101, ⟨Lc101, hQ101, l101, y101, z101⟩, st101⟩ := superBack X0 hx hZ (y := (⟨"java/lang/AbstractStringBuilder", "append", "(I)Ljava/lang/AbstractStringBuilder;"⟩ : MethodName)) hown (hwi hw 31 rfl) (own_samem (hwi hw 34 rfl) (own_nf (y := (⟨"java/lang/AbstractStringBuilder", "append", "(I)Ljava/lang/AbstractStringBuilder;"⟩ : MethodName)) (hwi hw 45 rfl) rfl (hwi hw 43 rfl)) (by decide)) (hwi hw 32 rfl) (hwi hw 33 rfl) (by decide) (backOf (W := 0) (Q := Qapi Z a1 b1 k1 (own_M x0) (own_sg x0) h0 n0) (own_api l Z a0 hw [] a1 x0 gc b1 k1 vs d1 d2 kd1 kd2 h0 n0 Z0 Sc hgc E1 g1 B1 C1 M1 ab da1 da2 f0 f1 f2 f3 f4 f5 f6 f7 f8 hl) hZ (hwi hw 35 rfl) (hwi hw 14 rfl) (by decide) (by decide)) e0 (Ins.self E1) (g := (mkF m 2 #[.val (.ref a1), .val (.int x0)] [(.int x0), (.ref a1)])) rfl (by rw [hml]; rfl) (hwi hw 35 rfl) (argsL := [(.int x0)]) (rest := []) (lenOf own_pd9 rfl) rfl (by show 2 * 0 + _ ≤ _; exact Nat.le_of_eq rfl) (hb hby d_jdk_67_method_15_2) (fun _ _ => ⟨rfl, e0, (by decide : 0 + 0 ≤ _), (by decide : 0 + 0 ≤ _)⟩)
  dsimp only [Pt.U, Pt.locs, Pt.cells, Pt.slots] at X101 l101 y101 z101 st101 hQ101
  subst l101 y101 z101
  obtain ⟨vs101, rfl, N101q, K101, E101, B101, C101, M101, EB101, V101, hl101, dg101⟩ := hQ101
  have N101 := Fr.app N0 N101q
  have KK101 := K0.trans K101 (allS (Or.inl (List.mem_of_getElem? (i := 0) rfl)) (allS (Or.inl (List.mem_of_getElem? (i := 1) rfl)) all0))
  have Z101 : n0 ≤ T101.heap.size := Nat.le_trans Z0 K101.1
  have F102 := own_sta_keep f0 K101 (allS (own_plain E1) (allS (own_plain f5) all0))
  have F103 := own_sta_keep f1 K101 (allS (own_plain E1) (allS (own_plain f5) all0))
  have F104 := f2.keep K101 (ninS da1 (ninS f6 nin0))
  have F105 := f3.keep K101 (ninS da2 (ninS f7 nin0))
  have F106 := f5.keep K101
  have F107 := own_sta_keep Sc K101 (allS (own_plain E1) (allS (own_plain f5) all0))
  have F108 := E1.keep K101
  refine Go.step (T' := T101) (g' := (mkF m 5 #[.val (.ref a1), .val (.int x0)] [(.ref a1)])) (fun _ k => st101.trans k) ?_
  refine Go.step (T' := T101) (g' := (mkF m 6 #[.val (.ref a1), .val (.int x0)] [])) (fun _ k => XS.pop X101.here hx rfl (hb hby d_jdk_67_method_15_5) rfl rfl k) ?_
  refine Go.step (T' := T101) (g' := (mkF m 7 #[.val (.ref a1), .val (.int x0)] [(.ref a1)])) (fun _ k => XS.aloadN X101.here hx rfl (hb hby d_jdk_67_method_15_6) rfl rfl k) ?_
  exact Go.retA X101 hx (t := (.object "java/lang/StringBuilder")) hret rfl hlk rfl (hb hby d_jdk_67_method_15_7) (⟨_, rfl, N101, KK101, E101, B101, C101, M101, EB101, V101, hl101, dg101⟩) (by decide) (by decide)
def Sfx (c : Nat) (vs : List Value) : Prop := vs.getD c (.int (0 : Int32)) = .int (32 : Int32) ∧ vs.getD (c + 1) (.int (0 : Int32)) = .int (100 : Int32) ∧ vs.getD (c + 2) (.int (0 : Int32)) = .int (97 : Int32) ∧ vs.getD (c + 3) (.int (0 : Int32)) = .int (121 : Int32)
theorem own_cpL {c : Nat} {vs : List Value} (hc : c ≤ 11) (hl : vs.length = 16) : (vs.take (Int32.ofNat c).toNatClampNeg ++ ([(.int (32 : Int32)), (.int (100 : Int32)), (.int (97 : Int32)), (.int (121 : Int32)), (.int (115 : Int32))] : List Value) ++ vs.drop ((Int32.ofNat c).toNatClampNeg + ((5 : Int32)).toNatClampNeg)).length = 16 ∧ (∀ i, i < c → (vs.take (Int32.ofNat c).toNatClampNeg ++ ([(.int (32 : Int32)), (.int (100 : Int32)), (.int (97 : Int32)), (.int (121 : Int32)), (.int (115 : Int32))] : List Value) ++ vs.drop ((Int32.ofNat c).toNatClampNeg + ((5 : Int32)).toNatClampNeg)).getD i (.int (0 : Int32)) = vs.getD i (.int (0 : Int32))) ∧ ∀ i, i < 5 → (vs.take (Int32.ofNat c).toNatClampNeg ++ ([(.int (32 : Int32)), (.int (100 : Int32)), (.int (97 : Int32)), (.int (121 : Int32)), (.int (115 : Int32))] : List Value) ++ vs.drop ((Int32.ofNat c).toNatClampNeg + ((5 : Int32)).toNatClampNeg)).getD (c + i) (.int (0 : Int32)) = ([(.int (32 : Int32)), (.int (100 : Int32)), (.int (97 : Int32)), (.int (121 : Int32)), (.int (115 : Int32))] : List Value).getD i (.int (0 : Int32)) := by
  rw [own_clamp (by omega), show ((5 : Int32)).toNatClampNeg = 5 from rfl]
  have l1 : (vs.take c).length = c := by rw [List.length_take, hl]; omega
  refine ⟨?_, fun i hi => ?_, fun i hi => ?_⟩
  · simp [hl]; omega
  · simp only [List.getD_eq_getElem?_getD]
    rw [List.append_assoc, List.getElem?_append_left (by omega), List.getElem?_take_of_lt hi]
  · simp only [List.getD_eq_getElem?_getD]
    rw [List.append_assoc, List.getElem?_append_right (by omega), l1, Nat.add_sub_cancel_left, List.getElem?_append_left (by show i < 5; exact hi)]
def Qaps (Z : State) (a1 b1 : Addr) (k1 : ClassId) (c : Nat) (vs : List Value) (r : Option Value) (h0 : Heap) (n0 : Nat) (v : Option Value) (h : Heap) (L : List Loc) : Prop := ∃ vs' : List Value, v = r ∧ Fr n0 L ∧ Keep h0 h [a1, b1] ∧ Exa Z h a1 "java/lang/StringBuilder" ∧ Fld Z h a1 "java/lang/AbstractStringBuilder" "value" "[B" (.ref b1) ∧ Fld Z h a1 "java/lang/AbstractStringBuilder" "coder" "B" (.int (0 : Int32)) ∧ Fld Z h a1 "java/lang/AbstractStringBuilder" "count" "I" (.int (Int32.ofNat (c + 5))) ∧ Exa Z h b1 "[B" ∧ Arv Z h b1 k1 .byte (16 : Int32) vs' (.int (0 : Int32)) ∧ vs'.length = 16 ∧ (∀ i, i < c → vs'.getD i (.int (0 : Int32)) = vs.getD i (.int (0 : Int32))) ∧ ∀ i, i < 5 → vs'.getD (c + i) (.int (0 : Int32)) = ([(.int (32 : Int32)), (.int (100 : Int32)), (.int (97 : Int32)), (.int (121 : Int32)), (.int (115 : Int32))] : List Value).getD i (.int (0 : Int32))
def Qgby (Z : State) (b1 : Addr) (k1 : ClassId) (c : Nat) (vs : List Value) (h0 : Heap) (n0 : Nat) (v : Option Value) (h : Heap) (L : List Loc) : Prop := ∃ vs' : List Value, v = none ∧ Fr n0 L ∧ Keep h0 h [b1] ∧ Exa Z h b1 "[B" ∧ Arv Z h b1 k1 .byte (16 : Int32) vs' (.int (0 : Int32)) ∧ vs'.length = 16 ∧ (∀ i, i < c → vs'.getD i (.int (0 : Int32)) = vs.getD i (.int (0 : Int32))) ∧ ∀ i, i < 5 → vs'.getD (c + i) (.int (0 : Int32)) = ([(.int (32 : Int32)), (.int (100 : Int32)), (.int (97 : Int32)), (.int (121 : Int32)), (.int (115 : Int32))] : List Value).getD i (.int (0 : Int32))
theorem own_ef_jdk_42_method_147_code_RRII (m : MethodId) (x0 : Addr) (x1 : Addr) (x2 : Int32) (x3 : Int32) : entryFrame m #[(.ref x0), (.ref x1), (.int x2), (.int x3)] 4 = mkF m 0 #[.val (.ref x0), .val (.ref x1), .val (.int x2), .val (.int x3)] [] := by first | (simp [entryFrame, mkF, argsToLocals, Value.category]; done) | rfl | (simp [entryFrame, mkF, argsToLocals, own_cI, own_cJ, own_cR, own_cN]; done)
theorem d_jdk_42_method_147_0 : decode jdk_42_method_147_code 0 = .ok (.aload_n 0, 1) := by decide +kernel
theorem d_jdk_42_method_147_1 : decode jdk_42_method_147_code 1 = .ok (.invokevirtual 335, 3) := by decide +kernel
theorem d_jdk_42_method_147_4 : decode jdk_42_method_147_code 4 = .ok (.iload_n 3, 1) := by decide +kernel
theorem d_jdk_42_method_147_5 : decode jdk_42_method_147_code 5 = .ok (.if_icmp .ne 23, 3) := by decide +kernel
theorem d_jdk_42_method_147_8 : decode jdk_42_method_147_code 8 = .ok (.aload_n 0, 1) := by decide +kernel
theorem d_jdk_42_method_147_9 : decode jdk_42_method_147_code 9 = .ok (.getfield 9, 3) := by decide +kernel
theorem d_jdk_42_method_147_12 : decode jdk_42_method_147_code 12 = .ok (.iconst 0, 1) := by decide +kernel
theorem d_jdk_42_method_147_13 : decode jdk_42_method_147_code 13 = .ok (.aload_n 1, 1) := by decide +kernel
theorem d_jdk_42_method_147_14 : decode jdk_42_method_147_code 14 = .ok (.iload_n 2, 1) := by decide +kernel
theorem d_jdk_42_method_147_15 : decode jdk_42_method_147_code 15 = .ok (.iload_n 3, 1) := by decide +kernel
theorem d_jdk_42_method_147_16 : decode jdk_42_method_147_code 16 = .ok (.ishl, 1) := by decide +kernel
theorem d_jdk_42_method_147_17 : decode jdk_42_method_147_code 17 = .ok (.aload_n 0, 1) := by decide +kernel
theorem d_jdk_42_method_147_18 : decode jdk_42_method_147_code 18 = .ok (.getfield 9, 3) := by decide +kernel
theorem d_jdk_42_method_147_21 : decode jdk_42_method_147_code 21 = .ok (.arraylength, 1) := by decide +kernel
theorem d_jdk_42_method_147_22 : decode jdk_42_method_147_code 22 = .ok (.invokestatic 212, 3) := by decide +kernel
theorem d_jdk_42_method_147_25 : decode jdk_42_method_147_code 25 = .ok (.goto 18, 3) := by decide +kernel
theorem d_jdk_42_method_147_43 : decode jdk_42_method_147_code 43 = .ok (.return_, 1) := by decide +kernel
set_option maxRecDepth 65536 in
set_option maxHeartbeats 40000000 in
theorem own_gby (l : Launch) (Z : State) (a0 : Array Value) (hw : ∀ d ∈ tables_1, d.before a0 Z = true) (ws : List Jvm.Cond) (a2 b1 : Addr) (cn : Nat) (gc : Int32) (k1 : ClassId) (vs : List Value) (b2 : Addr) (k2 : ClassId) (h0 : Heap) (n0 : Nat) (Z0 : n0 ≤ h0.size) (Sc : Sta Z h0 "java/lang/String" "COMPACT_STRINGS" "Z" (.int gc)) (hgc : ¬ gc = (0 : Int32)) (E2 : Exa Z h0 a2 "java/lang/String") (C2 : Fld Z h0 a2 "java/lang/String" "coder" "B" (.int (0 : Int32))) (B2 : Fld Z h0 a2 "java/lang/String" "value" "[B" (.ref b2)) (V2 : Arv Z h0 b2 k2 .byte (5 : Int32) [(.int (32 : Int32)), (.int (100 : Int32)), (.int (97 : Int32)), (.int (121 : Int32)), (.int (115 : Int32))] (.int (0 : Int32))) (V1 : Arv Z h0 b1 k1 .byte (16 : Int32) vs (.int (0 : Int32))) (EB1 : Exa Z h0 b1 "[B") (gb1 : n0 ≤ b1) (bb : b2 ≠ b1) (a2b : a2 ≠ b1) (hc : cn ≤ 11) (hl : vs.length = 16) :
    Con l Z (⟨"java/lang/String", "getBytes", "([BIB)V"⟩ : MethodName) jdk_42_method_147_code 4 none ({ frames := 1, cells := 0, slots := 0, locals := 18 } : Room) ws #[(.ref a2), (.ref b1), (.int (Int32.ofNat cn)), (.int (0 : Int32))] h0 (Qgby Z b1 k1 cn vs h0 n0) 0 0 := by
  refine Con.of (plainFor_of_name own_pn_String) ?_
  intro pgm e s m below meth c s₁ X0 hx hZ hby hml hown hnm hret hlk e0 hs0
  have N0 := Fr.nil n0
  have hown : s.vm.findClass "java/lang/String" = some m.cls := hown
  have hnm : meth.name = "getBytes" := hnm
  refine Go.cast (own_ef_jdk_42_method_147_code_RRII m a2 b1 (Int32.ofNat cn) (0 : Int32)) ?_
  have K0 := Keep.refl h0 [b1]
  refine Go.step (T' := s₁) (g' := (mkF m 1 #[.val (.ref a2), .val (.ref b1), .val (.int (Int32.ofNat cn)), .val (.int (0 : Int32))] [(.ref a2)])) (fun _ k => XS.aloadN X0.here hx rfl (hb hby d_jdk_42_method_147_0) rfl rfl k) ?_
  obtain ⟨cq101, kq101, q101a, q101b, q101c⟩ := isOf hZ e0 E2
  obtain ⟨_, _, ⟨T101, L101, k101, n101⟩, -, X101, ⟨Lc101, hQ101, l101, y101, z101⟩, st101⟩ := X0.virtualBack hx (y := (⟨"java/lang/String", "coder", "()B"⟩ : MethodName)) (z := (⟨"java/lang/String", "coder", "()B"⟩ : MethodName)) hown (mvT hZ (hwi hw 77 rfl)) (mvT hZ (hwi hw 78 rfl)) (notFace_of_selects (args := #[]) (mvT hZ (hwi hw 80 rfl))) (mvT hZ (hwi hw 80 rfl)) (mvT hZ (hwi hw 79 rfl)) (by decide) (backOf (W := 0) (Q := Qret (some (.int (0 : Int32))) h0 n0) (own_cod l Z a0 hw [] a2 gc h0 n0 Z0 Sc hgc C2) hZ (hwi hw 81 rfl) (hwi hw 20 rfl) (by decide) (by decide)) q101a q101c (g := (mkF m 1 #[.val (.ref a2), .val (.ref b1), .val (.int (Int32.ofNat cn)), .val (.int (0 : Int32))] [(.ref a2)])) rfl (by rw [hml]; rfl) (Steps.refl _) (argsL := []) (rest := []) (lenOf own_pd0 rfl) rfl (by show 2 * 0 + _ ≤ _; exact Nat.le_of_eq rfl) (hb hby d_jdk_42_method_147_1) (fun _ _ => ⟨rfl, e0, (by decide : 0 + 0 ≤ _), (by decide : 0 + 0 ≤ _)⟩)
  dsimp only [Pt.U, Pt.locs, Pt.cells, Pt.slots] at X101 l101 y101 z101 st101 hQ101
  subst l101 y101 z101
  obtain ⟨rfl, N101q, eh101⟩ := hQ101
  have N101 := Fr.app N0 N101q
  refine Go.step (T' := T101) (g' := (mkF m 4 #[.val (.ref a2), .val (.ref b1), .val (.int (Int32.ofNat cn)), .val (.int (0 : Int32))] [(.int (0 : Int32))])) (fun _ k => st101.trans k) ?_
  refine Go.step (T' := T101) (g' := (mkF m 5 #[.val (.ref a2), .val (.ref b1), .val (.int (Int32.ofNat cn)), .val (.int (0 : Int32))] [(.int (0 : Int32)), (.int (0 : Int32))])) (fun _ k => XS.iloadN X101.here hx rfl (hb hby d_jdk_42_method_147_4) rfl  k) ?_
  refine Go.step (T' := T101) (g' := (mkF m 8 #[.val (.ref a2), .val (.ref b1), .val (.int (Int32.ofNat cn)), .val (.int (0 : Int32))] [])) (fun _ k => XS.icmpNo X101.here hx rfl (hb hby d_jdk_42_method_147_5) rfl (teq (by decide : (0 : Int32) = (0 : Int32))).2 k) ?_
  refine Go.step (T' := T101) (g' := (mkF m 9 #[.val (.ref a2), .val (.ref b1), .val (.int (Int32.ofNat cn)), .val (.int (0 : Int32))] [(.ref a2)])) (fun _ k => XS.aloadN X101.here hx rfl (hb hby d_jdk_42_method_147_8) rfl rfl k) ?_
  obtain ⟨T102, X102, e102, st102⟩ := getF X101 hx hZ hown (host := "") (Or.inl (hwi hw 76 rfl)) Via.refl eh101 B2 (g := (mkF m 9 #[.val (.ref a2), .val (.ref b1), .val (.int (Int32.ofNat cn)), .val (.int (0 : Int32))] [(.ref a2)])) rfl rfl (hb hby d_jdk_42_method_147_9)
  refine Go.step (T' := T102) (g' := (mkF m 12 #[.val (.ref a2), .val (.ref b1), .val (.int (Int32.ofNat cn)), .val (.int (0 : Int32))] [(.ref b2)])) st102 ?_
  refine Go.step (T' := T102) (g' := (mkF m 13 #[.val (.ref a2), .val (.ref b1), .val (.int (Int32.ofNat cn)), .val (.int (0 : Int32))] [(.int (0 : Int32)), (.ref b2)])) (fun _ k => XS.iconst X102.here hx rfl (hb hby d_jdk_42_method_147_12) k) ?_
  refine Go.step (T' := T102) (g' := (mkF m 14 #[.val (.ref a2), .val (.ref b1), .val (.int (Int32.ofNat cn)), .val (.int (0 : Int32))] [(.ref b1), (.int (0 : Int32)), (.ref b2)])) (fun _ k => XS.aloadN X102.here hx rfl (hb hby d_jdk_42_method_147_13) rfl rfl k) ?_
  refine Go.step (T' := T102) (g' := (mkF m 15 #[.val (.ref a2), .val (.ref b1), .val (.int (Int32.ofNat cn)), .val (.int (0 : Int32))] [(.int (Int32.ofNat cn)), (.ref b1), (.int (0 : Int32)), (.ref b2)])) (fun _ k => XS.iloadN X102.here hx rfl (hb hby d_jdk_42_method_147_14) rfl  k) ?_
  refine Go.step (T' := T102) (g' := (mkF m 16 #[.val (.ref a2), .val (.ref b1), .val (.int (Int32.ofNat cn)), .val (.int (0 : Int32))] [(.int (0 : Int32)), (.int (Int32.ofNat cn)), (.ref b1), (.int (0 : Int32)), (.ref b2)])) (fun _ k => XS.iloadN X102.here hx rfl (hb hby d_jdk_42_method_147_15) rfl  k) ?_
  refine Go.step (T' := T102) (g' := (mkF m 17 #[.val (.ref a2), .val (.ref b1), .val (.int (Int32.ofNat cn)), .val (.int (0 : Int32))] [(.int ((Int32.ofNat cn) <<< ((0 : Int32) &&& 31))), (.ref b1), (.int (0 : Int32)), (.ref b2)])) (fun _ k => XS.ishl X102.here hx rfl (hb hby d_jdk_42_method_147_16) rfl k) ?_
  rw [own_shl0]
  refine Go.step (T' := T102) (g' := (mkF m 18 #[.val (.ref a2), .val (.ref b1), .val (.int (Int32.ofNat cn)), .val (.int (0 : Int32))] [(.ref a2), (.int (Int32.ofNat cn)), (.ref b1), (.int (0 : Int32)), (.ref b2)])) (fun _ k => XS.aloadN X102.here hx rfl (hb hby d_jdk_42_method_147_17) rfl rfl k) ?_
  obtain ⟨T103, X103, e103, st103⟩ := getF X102 hx hZ hown (host := "") (Or.inl (hwi hw 76 rfl)) Via.refl e102 B2 (g := (mkF m 18 #[.val (.ref a2), .val (.ref b1), .val (.int (Int32.ofNat cn)), .val (.int (0 : Int32))] [(.ref a2), (.int (Int32.ofNat cn)), (.ref b1), (.int (0 : Int32)), (.ref b2)])) rfl rfl (hb hby d_jdk_42_method_147_18)
  refine Go.step (T' := T103) (g' := (mkF m 21 #[.val (.ref a2), .val (.ref b1), .val (.int (Int32.ofNat cn)), .val (.int (0 : Int32))] [(.ref b2), (.int (Int32.ofNat cn)), (.ref b1), (.int (0 : Int32)), (.ref b2)])) st103 ?_
  obtain ⟨cl104, Ar104, -, S104, M104, -, -⟩ := id V2
  refine Go.step (T' := T103) (g' := (mkF m 22 #[.val (.ref a2), .val (.ref b1), .val (.int (Int32.ofNat cn)), .val (.int (0 : Int32))] [(.int (5 : Int32)), (.int (Int32.ofNat cn)), (.ref b1), (.int (0 : Int32)), (.ref b2)])) (fun _ k => X103.arraylength hx (cell := cl104) (by rw [e103]; exact Ar104.1) (State.isArrayOf_alike hZ.alike Ar104.2.1) (g := (mkF m 21 #[.val (.ref a2), .val (.ref b1), .val (.int (Int32.ofNat cn)), .val (.int (0 : Int32))] [(.ref b2), (.int (Int32.ofNat cn)), (.ref b1), (.int (0 : Int32)), (.ref b2)])) rfl (rest := [(.int (Int32.ofNat cn)), (.ref b1), (.int (0 : Int32)), (.ref b2)]) rfl (hb hby d_jdk_42_method_147_21) _ (by rw [len_of S104 M104]; exact k)) ?_
  obtain ⟨T105, h105, L105, X105, e105, N105, KC105, A105, st105⟩ := cpA X103 hx hZ hown (hwi hw 100 rfl) (hwi hw 103 rfl) (hwi hw 101 rfl) (hwi hw 102 rfl) e103 (us := [(.int (32 : Int32)), (.int (100 : Int32)), (.int (97 : Int32)), (.int (121 : Int32)), (.int (115 : Int32))]) (sp := (0 : Int32)) (dp := (Int32.ofNat cn)) (nn := (5 : Int32)) V2 V1 (Or.inl ⟨rfl, rfl⟩) (by decide) (own_ge0 (by omega)) (by decide) (by decide) (by rw [own_clamp (by omega)]; show cn + 5 ≤ 16; omega) rfl (by rw [own_clamp (by omega), hl]; show cn + 5 ≤ 16; omega) N101 gb1 (g := (mkF m 22 #[.val (.ref a2), .val (.ref b1), .val (.int (Int32.ofNat cn)), .val (.int (0 : Int32))] [(.int (5 : Int32)), (.int (Int32.ofNat cn)), (.ref b1), (.int (0 : Int32)), (.ref b2)])) rfl (by rw [hml]; rfl) rfl (hb hby d_jdk_42_method_147_22) (by decide) (W := 0) (by show 2 * 0 + _ ≤ _; exact Nat.le_of_eq rfl) (by decide)
  have V105 : Arv Z h105 b1 k1 .byte (16 : Int32) (vs.take ((Int32.ofNat cn)).toNatClampNeg ++ [(.int (32 : Int32)), (.int (100 : Int32)), (.int (97 : Int32)), (.int (121 : Int32)), (.int (115 : Int32))] ++ vs.drop (((Int32.ofNat cn)).toNatClampNeg + ((5 : Int32)).toNatClampNeg)) (.int (0 : Int32)) := A105
  have KK105 := K0.trans KC105 (allS (Or.inl (List.mem_of_getElem? (i := 0) rfl)) all0)
  have Z105 : n0 ≤ h105.size := Nat.le_trans Z0 KC105.1
  have F106 := own_sta_keep Sc KC105 (allS (own_plain EB1) all0)
  have F107 := E2.keep KC105
  have F108 := C2.keep KC105 (ninS a2b nin0)
  have F109 := B2.keep KC105 (ninS a2b nin0)
  have F110 := V2.keep KC105 (ninS bb nin0)
  have F111 := EB1.keep KC105
  refine Go.step (T' := T105) (g' := (mkF m 25 #[.val (.ref a2), .val (.ref b1), .val (.int (Int32.ofNat cn)), .val (.int (0 : Int32))] [])) st105 ?_
  refine Go.step (T' := T105) (g' := (mkF m 43 #[.val (.ref a2), .val (.ref b1), .val (.int (Int32.ofNat cn)), .val (.int (0 : Int32))] [])) (fun _ k => XS.goto X105.here hx rfl (pc0 := 25) (pc' := 43) rfl (hb hby d_jdk_42_method_147_25) (by decide) (by decide) k) ?_
  exact Go.retV X105 hx hret hlk (hb hby d_jdk_42_method_147_43) (by rw [e105]; exact ⟨_, rfl, N105, KK105, F111, V105, own_cpL hc hl⟩) (by decide) (by decide)
theorem own_ef_jdk_68_method_71_code_RR (m : MethodId) (x0 : Addr) (x1 : Addr) : entryFrame m #[(.ref x0), (.ref x1)] 2 = mkF m 0 #[.val (.ref x0), .val (.ref x1)] [] := by first | (simp [entryFrame, mkF, argsToLocals, Value.category]; done) | rfl | (simp [entryFrame, mkF, argsToLocals, own_cI, own_cJ, own_cR, own_cN]; done)
theorem d_jdk_68_method_71_0 : decode jdk_68_method_71_code 0 = .ok (.getstatic 18, 3) := by decide +kernel
theorem d_jdk_68_method_71_3 : decode jdk_68_method_71_code 3 = .ok (.ifCond .eq 18, 3) := by decide +kernel
theorem d_jdk_68_method_71_6 : decode jdk_68_method_71_code 6 = .ok (.aload_n 0, 1) := by decide +kernel
theorem d_jdk_68_method_71_7 : decode jdk_68_method_71_code 7 = .ok (.getfield 22, 3) := by decide +kernel
theorem d_jdk_68_method_71_10 : decode jdk_68_method_71_code 10 = .ok (.aload_n 1, 1) := by decide +kernel
theorem d_jdk_68_method_71_11 : decode jdk_68_method_71_code 11 = .ok (.invokevirtual 40, 3) := by decide +kernel
theorem d_jdk_68_method_71_14 : decode jdk_68_method_71_code 14 = .ok (.if_icmp .eq 7, 3) := by decide +kernel
theorem d_jdk_68_method_71_21 : decode jdk_68_method_71_code 21 = .ok (.return_, 1) := by decide +kernel
set_option maxRecDepth 65536 in
set_option maxHeartbeats 40000000 in
theorem own_inf (l : Launch) (Z : State) (a0 : Array Value) (hw : ∀ d ∈ tables_1, d.before a0 Z = true) (ws : List Jvm.Cond) (a1 a2 : Addr) (gc : Int32) (h0 : Heap) (n0 : Nat) (Z0 : n0 ≤ h0.size) (Sc : Sta Z h0 "java/lang/String" "COMPACT_STRINGS" "Z" (.int gc)) (hgc : ¬ gc = (0 : Int32)) (C1 : Fld Z h0 a1 "java/lang/AbstractStringBuilder" "coder" "B" (.int (0 : Int32))) (E2 : Exa Z h0 a2 "java/lang/String") (C2 : Fld Z h0 a2 "java/lang/String" "coder" "B" (.int (0 : Int32))) :
    Con l Z (⟨"java/lang/AbstractStringBuilder", "inflateIfNeededFor", "(Ljava/lang/String;)V"⟩ : MethodName) jdk_68_method_71_code 2 none ({ frames := 1, cells := 0, slots := 0, locals := 13 } : Room) ws #[(.ref a1), (.ref a2)] h0 (Qret none h0 n0) 0 0 := by
  refine Con.of (plainFor_of_name own_pn_AbstractStringBuilder) ?_
  intro pgm e s m below meth c s₁ X0 hx hZ hby hml hown hnm hret hlk e0 hs0
  have N0 := Fr.nil n0
  have hown : s.vm.findClass "java/lang/AbstractStringBuilder" = some m.cls := hown
  have hnm : meth.name = "inflateIfNeededFor" := hnm
  refine Go.cast (own_ef_jdk_68_method_71_code_RR m a1 a2) ?_
  obtain ⟨T101, X101, e101, st101⟩ := getS2 X0 hx hZ hown (host := "") (Or.inl (hwi hw 19 rfl)) Via.refl e0 Sc (g := (mkF m 0 #[.val (.ref a1), .val (.ref a2)] [])) rfl (hb hby d_jdk_68_method_71_0)
  refine Go.step (T' := T101) (g' := (mkF m 3 #[.val (.ref a1), .val (.ref a2)] [(.int gc)])) st101 ?_
  refine Go.step (T' := T101) (g' := (mkF m 6 #[.val (.ref a1), .val (.ref a2)] [])) (fun _ k => XS.ifNo X101.here hx rfl (hb hby d_jdk_68_method_71_3) rfl ((if0 _ _).trans (feq hgc).1) k) ?_
  refine Go.step (T' := T101) (g' := (mkF m 7 #[.val (.ref a1), .val (.ref a2)] [(.ref a1)])) (fun _ k => XS.aloadN X101.here hx rfl (hb hby d_jdk_68_method_71_6) rfl rfl k) ?_
  obtain ⟨T102, X102, e102, st102⟩ := getF X101 hx hZ hown (host := "") (Or.inl (hwi hw 24 rfl)) Via.refl e101 C1 (g := (mkF m 7 #[.val (.ref a1), .val (.ref a2)] [(.ref a1)])) rfl rfl (hb hby d_jdk_68_method_71_7)
  refine Go.step (T' := T102) (g' := (mkF m 10 #[.val (.ref a1), .val (.ref a2)] [(.int (0 : Int32))])) st102 ?_
  refine Go.step (T' := T102) (g' := (mkF m 11 #[.val (.ref a1), .val (.ref a2)] [(.ref a2), (.int (0 : Int32))])) (fun _ k => XS.aloadN X102.here hx rfl (hb hby d_jdk_68_method_71_10) rfl rfl k) ?_
  obtain ⟨cq103, kq103, q103a, q103b, q103c⟩ := isOf hZ e102 E2
  obtain ⟨_, _, ⟨T103, L103, k103, n103⟩, -, X103, ⟨Lc103, hQ103, l103, y103, z103⟩, st103⟩ := X102.virtualBack hx (y := (⟨"java/lang/String", "coder", "()B"⟩ : MethodName)) (z := (⟨"java/lang/String", "coder", "()B"⟩ : MethodName)) hown (mvT hZ (hwi hw 94 rfl)) (mvT hZ (hwi hw 78 rfl)) (notFace_of_selects (args := #[]) (mvT hZ (hwi hw 80 rfl))) (mvT hZ (hwi hw 80 rfl)) (mvT hZ (hwi hw 79 rfl)) (by decide) (backOf (W := 1) (Q := Qret (some (.int (0 : Int32))) h0 n0) (own_cod l Z a0 hw [] a2 gc h0 n0 Z0 Sc hgc C2) hZ (hwi hw 81 rfl) (hwi hw 20 rfl) (by decide) (by decide)) q103a q103c (g := (mkF m 11 #[.val (.ref a1), .val (.ref a2)] [(.ref a2), (.int (0 : Int32))])) rfl (by rw [hml]; rfl) (Steps.refl _) (argsL := []) (rest := [(.int (0 : Int32))]) (lenOf own_pd0 rfl) rfl (by show 2 * 0 + _ ≤ _; exact Nat.le_of_eq rfl) (hb hby d_jdk_68_method_71_11) (fun _ _ => ⟨rfl, e102, (by decide : 0 + 0 ≤ _), (by decide : 0 + 0 ≤ _)⟩)
  dsimp only [Pt.U, Pt.locs, Pt.cells, Pt.slots] at X103 l103 y103 z103 st103 hQ103
  subst l103 y103 z103
  obtain ⟨rfl, N103q, eh103⟩ := hQ103
  have N103 := Fr.app N0 N103q
  refine Go.step (T' := T103) (g' := (mkF m 14 #[.val (.ref a1), .val (.ref a2)] [(.int (0 : Int32)), (.int (0 : Int32))])) (fun _ k => st103.trans k) ?_
  refine Go.step (T' := T103) (g' := (mkF m 21 #[.val (.ref a1), .val (.ref a2)] [])) (fun _ k => XS.icmpYes X103.here hx rfl (pc0 := 14) (pc' := 21) rfl (hb hby d_jdk_68_method_71_14) rfl (teq (by decide : (0 : Int32) = (0 : Int32))).1 (by decide) (by decide) k) ?_
  exact Go.retV X103 hx hret hlk (hb hby d_jdk_68_method_71_21) (⟨rfl, N103, eh103⟩) (by decide) (by decide)
theorem own_ef_jdk_68_method_73_code_RIR (m : MethodId) (x0 : Addr) (x1 : Int32) (x2 : Addr) : entryFrame m #[(.ref x0), (.int x1), (.ref x2)] 3 = mkF m 0 #[.val (.ref x0), .val (.int x1), .val (.ref x2)] [] := by first | (simp [entryFrame, mkF, argsToLocals, Value.category]; done) | rfl | (simp [entryFrame, mkF, argsToLocals, own_cI, own_cJ, own_cR, own_cN]; done)
theorem d_jdk_68_method_73_0 : decode jdk_68_method_73_code 0 = .ok (.aload_n 0, 1) := by decide +kernel
theorem d_jdk_68_method_73_1 : decode jdk_68_method_73_code 1 = .ok (.aload_n 2, 1) := by decide +kernel
theorem d_jdk_68_method_73_2 : decode jdk_68_method_73_code 2 = .ok (.invokevirtual 397, 3) := by decide +kernel
theorem own_pd10 : parseMethodDescriptor "(Ljava/lang/String;)V" = some ⟨[(.object "java/lang/String")], none⟩ := by decide +kernel
theorem d_jdk_68_method_73_5 : decode jdk_68_method_73_code 5 = .ok (.aload_n 2, 1) := by decide +kernel
theorem d_jdk_68_method_73_6 : decode jdk_68_method_73_code 6 = .ok (.aload_n 0, 1) := by decide +kernel
theorem d_jdk_68_method_73_7 : decode jdk_68_method_73_code 7 = .ok (.getfield 15, 3) := by decide +kernel
theorem d_jdk_68_method_73_10 : decode jdk_68_method_73_code 10 = .ok (.iload_n 1, 1) := by decide +kernel
theorem d_jdk_68_method_73_11 : decode jdk_68_method_73_code 11 = .ok (.aload_n 0, 1) := by decide +kernel
theorem d_jdk_68_method_73_12 : decode jdk_68_method_73_code 12 = .ok (.getfield 22, 3) := by decide +kernel
theorem d_jdk_68_method_73_15 : decode jdk_68_method_73_code 15 = .ok (.invokevirtual 399, 3) := by decide +kernel
theorem own_pd11 : parseMethodDescriptor "([BIB)V" = some ⟨[(.array .byte), .int, .byte], none⟩ := by decide +kernel
theorem d_jdk_68_method_73_18 : decode jdk_68_method_73_code 18 = .ok (.return_, 1) := by decide +kernel
set_option maxRecDepth 65536 in
set_option maxHeartbeats 40000000 in
theorem own_pst (l : Launch) (Z : State) (a0 : Array Value) (hw : ∀ d ∈ tables_1, d.before a0 Z = true) (ws : List Jvm.Cond) (a1 : Addr) (cn : Nat) (a2 : Addr) (gc : Int32) (b1 : Addr) (k1 : ClassId) (vs : List Value) (b2 : Addr) (k2 : ClassId) (h0 : Heap) (n0 : Nat) (Z0 : n0 ≤ h0.size) (Sc : Sta Z h0 "java/lang/String" "COMPACT_STRINGS" "Z" (.int gc)) (hgc : ¬ gc = (0 : Int32)) (E2 : Exa Z h0 a2 "java/lang/String") (C2 : Fld Z h0 a2 "java/lang/String" "coder" "B" (.int (0 : Int32))) (B2 : Fld Z h0 a2 "java/lang/String" "value" "[B" (.ref b2)) (V2 : Arv Z h0 b2 k2 .byte (5 : Int32) [(.int (32 : Int32)), (.int (100 : Int32)), (.int (97 : Int32)), (.int (121 : Int32)), (.int (115 : Int32))] (.int (0 : Int32))) (V1 : Arv Z h0 b1 k1 .byte (16 : Int32) vs (.int (0 : Int32))) (EB1 : Exa Z h0 b1 "[B") (gb1 : n0 ≤ b1) (bb : b2 ≠ b1) (a2b : a2 ≠ b1) (hc : cn ≤ 11) (hl : vs.length = 16) (E1 : Exa Z h0 a1 "java/lang/StringBuilder") (B1 : Fld Z h0 a1 "java/lang/AbstractStringBuilder" "value" "[B" (.ref b1)) (C1 : Fld Z h0 a1 "java/lang/AbstractStringBuilder" "coder" "B" (.int (0 : Int32))) (ab : a1 ≠ b1) :
    Con l Z (⟨"java/lang/AbstractStringBuilder", "putStringAt", "(ILjava/lang/String;)V"⟩ : MethodName) jdk_68_method_73_code 3 none ({ frames := 2, cells := 0, slots := 0, locals := 33 } : Room) ws #[(.ref a1), (.int (Int32.ofNat cn)), (.ref a2)] h0 (Qgby Z b1 k1 cn vs h0 n0) 0 0 := by
  refine Con.of (plainFor_of_name own_pn_AbstractStringBuilder) ?_
  intro pgm e s m below meth c s₁ X0 hx hZ hby hml hown hnm hret hlk e0 hs0
  have N0 := Fr.nil n0
  have hown : s.vm.findClass "java/lang/AbstractStringBuilder" = some m.cls := hown
  have hnm : meth.name = "putStringAt" := hnm
  refine Go.cast (own_ef_jdk_68_method_73_code_RIR m a1 (Int32.ofNat cn) a2) ?_
  have K0 := Keep.refl h0 [b1]
  refine Go.step (T' := s₁) (g' := (mkF m 1 #[.val (.ref a1), .val (.int (Int32.ofNat cn)), .val (.ref a2)] [(.ref a1)])) (fun _ k => XS.aloadN X0.here hx rfl (hb hby d_jdk_68_method_73_0) rfl rfl k) ?_
  refine Go.step (T' := s₁) (g' := (mkF m 2 #[.val (.ref a1), .val (.int (Int32.ofNat cn)), .val (.ref a2)] [(.ref a2), (.ref a1)])) (fun _ k => XS.aloadN X0.here hx rfl (hb hby d_jdk_68_method_73_1) rfl rfl k) ?_
  obtain ⟨cq101, q101, q101'⟩ := E1.cell
  obtain ⟨_, _, ⟨T101, L101, k101, n101⟩, -, X101, ⟨Lc101, hQ101, l101, y101, z101⟩, st101⟩ := X0.privateBack hx (y := (⟨"java/lang/AbstractStringBuilder", "inflateIfNeededFor", "(Ljava/lang/String;)V"⟩ : MethodName)) hown (mvT hZ (hwi hw 89 rfl)) (mvT hZ (hwi hw 90 rfl)) (mvT hZ (own_selP (hwi hw 92 rfl) (hwi hw 91 rfl) (hwi hw 90 rfl) (by decide))) (Cond.privateMethod_at (mvP hZ (hwi hw 91 rfl) (args := #[]))) (mvT hZ (hwi hw 93 rfl)) (by decide) (backOf (W := 0) (Q := Qret none h0 n0) (own_inf l Z a0 hw [] a1 a2 gc h0 n0 Z0 Sc hgc C1 E2 C2) hZ (hwi hw 93 rfl) (hwi hw 14 rfl) (by decide) (by decide)) (g := (mkF m 2 #[.val (.ref a1), .val (.int (Int32.ofNat cn)), .val (.ref a2)] [(.ref a2), (.ref a1)])) rfl (by rw [hml]; rfl) (Steps.refl _) (a := a1) (by rw [e0]; exact q101) q101' (argsL := [(.ref a2)]) (rest := []) (lenOf own_pd10 rfl) rfl (by show 2 * 0 + _ ≤ _; exact Nat.le_of_eq rfl) (hb hby d_jdk_68_method_73_2) (fun _ _ => ⟨rfl, e0, (by decide : 0 + 0 ≤ _), (by decide : 0 + 0 ≤ _)⟩)
  dsimp only [Pt.U, Pt.locs, Pt.cells, Pt.slots] at X101 l101 y101 z101 st101 hQ101
  subst l101 y101 z101
  obtain ⟨rfl, N101q, eh101⟩ := hQ101
  have N101 := Fr.app N0 N101q
  refine Go.step (T' := T101) (g' := (mkF m 5 #[.val (.ref a1), .val (.int (Int32.ofNat cn)), .val (.ref a2)] [])) (fun _ k => st101.trans k) ?_
  refine Go.step (T' := T101) (g' := (mkF m 6 #[.val (.ref a1), .val (.int (Int32.ofNat cn)), .val (.ref a2)] [(.ref a2)])) (fun _ k => XS.aloadN X101.here hx rfl (hb hby d_jdk_68_method_73_5) rfl rfl k) ?_
  refine Go.step (T' := T101) (g' := (mkF m 7 #[.val (.ref a1), .val (.int (Int32.ofNat cn)), .val (.ref a2)] [(.ref a1), (.ref a2)])) (fun _ k => XS.aloadN X101.here hx rfl (hb hby d_jdk_68_method_73_6) rfl rfl k) ?_
  obtain ⟨T102, X102, e102, st102⟩ := getF X101 hx hZ hown (host := "") (Or.inl (hwi hw 22 rfl)) Via.refl eh101 B1 (g := (mkF m 7 #[.val (.ref a1), .val (.int (Int32.ofNat cn)), .val (.ref a2)] [(.ref a1), (.ref a2)])) rfl rfl (hb hby d_jdk_68_method_73_7)
  refine Go.step (T' := T102) (g' := (mkF m 10 #[.val (.ref a1), .val (.int (Int32.ofNat cn)), .val (.ref a2)] [(.ref b1), (.ref a2)])) st102 ?_
  refine Go.step (T' := T102) (g' := (mkF m 11 #[.val (.ref a1), .val (.int (Int32.ofNat cn)), .val (.ref a2)] [(.int (Int32.ofNat cn)), (.ref b1), (.ref a2)])) (fun _ k => XS.iloadN X102.here hx rfl (hb hby d_jdk_68_method_73_10) rfl  k) ?_
  refine Go.step (T' := T102) (g' := (mkF m 12 #[.val (.ref a1), .val (.int (Int32.ofNat cn)), .val (.ref a2)] [(.ref a1), (.int (Int32.ofNat cn)), (.ref b1), (.ref a2)])) (fun _ k => XS.aloadN X102.here hx rfl (hb hby d_jdk_68_method_73_11) rfl rfl k) ?_
  obtain ⟨T103, X103, e103, st103⟩ := getF X102 hx hZ hown (host := "") (Or.inl (hwi hw 24 rfl)) Via.refl e102 C1 (g := (mkF m 12 #[.val (.ref a1), .val (.int (Int32.ofNat cn)), .val (.ref a2)] [(.ref a1), (.int (Int32.ofNat cn)), (.ref b1), (.ref a2)])) rfl rfl (hb hby d_jdk_68_method_73_12)
  refine Go.step (T' := T103) (g' := (mkF m 15 #[.val (.ref a1), .val (.int (Int32.ofNat cn)), .val (.ref a2)] [(.int (0 : Int32)), (.int (Int32.ofNat cn)), (.ref b1), (.ref a2)])) st103 ?_
  obtain ⟨cq104, kq104, q104a, q104b, q104c⟩ := isOf hZ e103 E2
  obtain ⟨_, _, ⟨T104, L104, k104, n104⟩, -, X104, ⟨Lc104, hQ104, l104, y104, z104⟩, st104⟩ := X103.virtualBack hx (y := (⟨"java/lang/String", "getBytes", "([BIB)V"⟩ : MethodName)) (z := (⟨"java/lang/String", "getBytes", "([BIB)V"⟩ : MethodName)) hown (mvT hZ (hwi hw 95 rfl)) (mvT hZ (hwi hw 96 rfl)) (notFace_of_selects (args := #[]) (mvT hZ (hwi hw 98 rfl))) (mvT hZ (hwi hw 98 rfl)) (mvT hZ (hwi hw 97 rfl)) (by decide) (backOf (W := 0) (Q := Qgby Z b1 k1 cn vs h0 n0) (own_gby l Z a0 hw [] a2 b1 cn gc k1 vs b2 k2 h0 n0 Z0 Sc hgc E2 C2 B2 V2 V1 EB1 gb1 bb a2b hc hl) hZ (hwi hw 99 rfl) (hwi hw 20 rfl) (by decide) (by decide)) q104a q104c (g := (mkF m 15 #[.val (.ref a1), .val (.int (Int32.ofNat cn)), .val (.ref a2)] [(.int (0 : Int32)), (.int (Int32.ofNat cn)), (.ref b1), (.ref a2)])) rfl (by rw [hml]; rfl) (Steps.refl _) (argsL := [(.ref b1), (.int (Int32.ofNat cn)), (.int (0 : Int32))]) (rest := []) (lenOf own_pd11 rfl) rfl (by show 2 * 0 + _ ≤ _; exact Nat.le_of_eq rfl) (hb hby d_jdk_68_method_73_15) (fun _ _ => ⟨rfl, e103, (by decide : 0 + 0 ≤ _), (by decide : 0 + 0 ≤ _)⟩)
  dsimp only [Pt.U, Pt.locs, Pt.cells, Pt.slots] at X104 l104 y104 z104 st104 hQ104
  subst l104 y104 z104
  obtain ⟨vs104, rfl, N104q, K104, EB104, V104, hl104, da104, db104⟩ := hQ104
  have N104 := Fr.app N101 N104q
  have KK104 := K0.trans K104 (allS (Or.inl (List.mem_of_getElem? (i := 0) rfl)) all0)
  have Z104 : n0 ≤ T104.heap.size := Nat.le_trans Z0 K104.1
  have F105 := own_sta_keep Sc K104 (allS (own_plain EB1) all0)
  have F106 := E2.keep K104
  have F107 := C2.keep K104 (ninS a2b nin0)
  have F108 := B2.keep K104 (ninS a2b nin0)
  have F109 := V2.keep K104 (ninS bb nin0)
  have F110 := EB1.keep K104
  have F111 := E1.keep K104
  have F112 := B1.keep K104 (ninS ab nin0)
  have F113 := C1.keep K104 (ninS ab nin0)
  refine Go.step (T' := T104) (g' := (mkF m 18 #[.val (.ref a1), .val (.int (Int32.ofNat cn)), .val (.ref a2)] [])) (fun _ k => st104.trans k) ?_
  exact Go.retV X104 hx hret hlk (hb hby d_jdk_68_method_73_18) (⟨_, rfl, N104, KK104, EB104, V104, hl104, da104, db104⟩) (by decide) (by decide)
theorem own_add5 (c : Nat) : Int32.ofNat c + (5 : Int32) = Int32.ofNat (c + 5) := own_addN c 5
theorem own_ef_jdk_68_method_22_code_RR (m : MethodId) (x0 : Addr) (x1 : Addr) : entryFrame m #[(.ref x0), (.ref x1)] 3 = mkF m 0 #[.val (.ref x0), .val (.ref x1), .unset] [] := by first | (simp [entryFrame, mkF, argsToLocals, Value.category]; done) | rfl | (simp [entryFrame, mkF, argsToLocals, own_cI, own_cJ, own_cR, own_cN]; done)
theorem d_jdk_68_method_22_0 : decode jdk_68_method_22_code 0 = .ok (.aload_n 1, 1) := by decide +kernel
theorem d_jdk_68_method_22_1 : decode jdk_68_method_22_code 1 = .ok (.ifnonnull 8, 3) := by decide +kernel
theorem d_jdk_68_method_22_9 : decode jdk_68_method_22_code 9 = .ok (.aload_n 1, 1) := by decide +kernel
theorem d_jdk_68_method_22_10 : decode jdk_68_method_22_code 10 = .ok (.invokevirtual 32, 3) := by decide +kernel
theorem d_jdk_68_method_22_13 : decode jdk_68_method_22_code 13 = .ok (.istore_n 2, 1) := by decide +kernel
theorem d_jdk_68_method_22_14 : decode jdk_68_method_22_code 14 = .ok (.aload_n 0, 1) := by decide +kernel
theorem d_jdk_68_method_22_15 : decode jdk_68_method_22_code 15 = .ok (.aload_n 0, 1) := by decide +kernel
theorem d_jdk_68_method_22_16 : decode jdk_68_method_22_code 16 = .ok (.getfield 79, 3) := by decide +kernel
theorem d_jdk_68_method_22_19 : decode jdk_68_method_22_code 19 = .ok (.iload_n 2, 1) := by decide +kernel
theorem d_jdk_68_method_22_20 : decode jdk_68_method_22_code 20 = .ok (.iadd, 1) := by decide +kernel
theorem d_jdk_68_method_22_21 : decode jdk_68_method_22_code 21 = .ok (.invokevirtual 100, 3) := by decide +kernel
theorem d_jdk_68_method_22_24 : decode jdk_68_method_22_code 24 = .ok (.aload_n 0, 1) := by decide +kernel
theorem d_jdk_68_method_22_25 : decode jdk_68_method_22_code 25 = .ok (.aload_n 0, 1) := by decide +kernel
theorem d_jdk_68_method_22_26 : decode jdk_68_method_22_code 26 = .ok (.getfield 79, 3) := by decide +kernel
theorem d_jdk_68_method_22_29 : decode jdk_68_method_22_code 29 = .ok (.aload_n 1, 1) := by decide +kernel
theorem d_jdk_68_method_22_30 : decode jdk_68_method_22_code 30 = .ok (.invokevirtual 208, 3) := by decide +kernel
theorem own_pd12 : parseMethodDescriptor "(ILjava/lang/String;)V" = some ⟨[.int, (.object "java/lang/String")], none⟩ := by decide +kernel
theorem d_jdk_68_method_22_33 : decode jdk_68_method_22_code 33 = .ok (.aload_n 0, 1) := by decide +kernel
theorem d_jdk_68_method_22_34 : decode jdk_68_method_22_code 34 = .ok (.dup, 1) := by decide +kernel
theorem d_jdk_68_method_22_35 : decode jdk_68_method_22_code 35 = .ok (.getfield 79, 3) := by decide +kernel
theorem d_jdk_68_method_22_38 : decode jdk_68_method_22_code 38 = .ok (.iload_n 2, 1) := by decide +kernel
theorem d_jdk_68_method_22_39 : decode jdk_68_method_22_code 39 = .ok (.iadd, 1) := by decide +kernel
theorem d_jdk_68_method_22_40 : decode jdk_68_method_22_code 40 = .ok (.putfield 79, 3) := by decide +kernel
theorem d_jdk_68_method_22_43 : decode jdk_68_method_22_code 43 = .ok (.aload_n 0, 1) := by decide +kernel
theorem d_jdk_68_method_22_44 : decode jdk_68_method_22_code 44 = .ok (.areturn, 1) := by decide +kernel
set_option maxRecDepth 65536 in
set_option maxHeartbeats 40000000 in
theorem own_aps (l : Launch) (Z : State) (a0 : Array Value) (hw : ∀ d ∈ tables_1, d.before a0 Z = true) (ws : List Jvm.Cond) (a1 a2 : Addr) (gc : Int32) (b1 : Addr) (k1 : ClassId) (cn : Nat) (vs : List Value) (b2 : Addr) (k2 : ClassId) (h0 : Heap) (n0 : Nat) (Z0 : n0 ≤ h0.size) (Sc : Sta Z h0 "java/lang/String" "COMPACT_STRINGS" "Z" (.int gc)) (hgc : ¬ gc = (0 : Int32)) (E2 : Exa Z h0 a2 "java/lang/String") (C2 : Fld Z h0 a2 "java/lang/String" "coder" "B" (.int (0 : Int32))) (B2 : Fld Z h0 a2 "java/lang/String" "value" "[B" (.ref b2)) (V2 : Arv Z h0 b2 k2 .byte (5 : Int32) [(.int (32 : Int32)), (.int (100 : Int32)), (.int (97 : Int32)), (.int (121 : Int32)), (.int (115 : Int32))] (.int (0 : Int32))) (V1 : Arv Z h0 b1 k1 .byte (16 : Int32) vs (.int (0 : Int32))) (EB1 : Exa Z h0 b1 "[B") (gb1 : n0 ≤ b1) (bb : b2 ≠ b1) (a2b : a2 ≠ b1) (hc : cn ≤ 11) (hl : vs.length = 16) (E1 : Exa Z h0 a1 "java/lang/StringBuilder") (B1 : Fld Z h0 a1 "java/lang/AbstractStringBuilder" "value" "[B" (.ref b1)) (C1 : Fld Z h0 a1 "java/lang/AbstractStringBuilder" "coder" "B" (.int (0 : Int32))) (ab : a1 ≠ b1) (M1 : Fld Z h0 a1 "java/lang/AbstractStringBuilder" "count" "I" (.int (Int32.ofNat cn))) (g1 : n0 ≤ a1) (a21 : a2 ≠ a1) (b21 : b2 ≠ a1) :
    Con l Z (⟨"java/lang/AbstractStringBuilder", "append", "(Ljava/lang/String;)Ljava/lang/AbstractStringBuilder;"⟩ : MethodName) jdk_68_method_22_code 3 (some (.object "java/lang/AbstractStringBuilder")) ({ frames := 3, cells := 0, slots := 0, locals := 47 } : Room) ws #[(.ref a1), (.ref a2)] h0 (Qaps Z a1 b1 k1 cn vs (some (.ref a1)) h0 n0) 0 0 := by
  refine Con.of (plainFor_of_name own_pn_AbstractStringBuilder) ?_
  intro pgm e s m below meth c s₁ X0 hx hZ hby hml hown hnm hret hlk e0 hs0
  have N0 := Fr.nil n0
  have hown : s.vm.findClass "java/lang/AbstractStringBuilder" = some m.cls := hown
  have hnm : meth.name = "append" := hnm
  refine Go.cast (own_ef_jdk_68_method_22_code_RR m a1 a2) ?_
  have K0 := Keep.refl h0 [a1, b1]
  refine Go.step (T' := s₁) (g' := (mkF m 1 #[.val (.ref a1), .val (.ref a2), .unset] [(.ref a2)])) (fun _ k => XS.aloadN X0.here hx rfl (hb hby d_jdk_68_method_22_0) rfl rfl k) ?_
  refine Go.step (T' := s₁) (g' := (mkF m 9 #[.val (.ref a1), .val (.ref a2), .unset] [])) (fun _ k => XS.ifnonnullYes X0.here hx rfl (pc0 := 1) (pc' := 9) rfl (hb hby d_jdk_68_method_22_1) rfl (by decide) (by decide) k) ?_
  refine Go.step (T' := s₁) (g' := (mkF m 10 #[.val (.ref a1), .val (.ref a2), .unset] [(.ref a2)])) (fun _ k => XS.aloadN X0.here hx rfl (hb hby d_jdk_68_method_22_9) rfl rfl k) ?_
  obtain ⟨cq101, kq101, q101a, q101b, q101c⟩ := isOf hZ e0 E2
  obtain ⟨_, _, ⟨T101, L101, k101, n101⟩, -, X101, ⟨Lc101, hQ101, l101, y101, z101⟩, st101⟩ := X0.virtualBack hx (y := (⟨"java/lang/String", "length", "()I"⟩ : MethodName)) (z := (⟨"java/lang/String", "length", "()I"⟩ : MethodName)) hown (mvT hZ (hwi hw 71 rfl)) (mvT hZ (hwi hw 72 rfl)) (notFace_of_selects (args := #[]) (mvT hZ (hwi hw 74 rfl))) (mvT hZ (hwi hw 74 rfl)) (mvT hZ (hwi hw 73 rfl)) (by decide) (backOf (W := 0) (Q := Qret (some (.int (5 : Int32))) h0 n0) (own_len_ l Z a0 hw [] a2 gc b2 k2 (5 : Int32) [(.int (32 : Int32)), (.int (100 : Int32)), (.int (97 : Int32)), (.int (121 : Int32)), (.int (115 : Int32))] h0 n0 Z0 Sc hgc E2 C2 B2 V2) hZ (hwi hw 75 rfl) (hwi hw 20 rfl) (by decide) (by decide)) q101a q101c (g := (mkF m 10 #[.val (.ref a1), .val (.ref a2), .unset] [(.ref a2)])) rfl (by rw [hml]; rfl) (Steps.refl _) (argsL := []) (rest := []) (lenOf own_pd5 rfl) rfl (by show 2 * 0 + _ ≤ _; exact Nat.le_of_eq rfl) (hb hby d_jdk_68_method_22_10) (fun _ _ => ⟨rfl, e0, (by decide : 0 + 0 ≤ _), (by decide : 0 + 0 ≤ _)⟩)
  dsimp only [Pt.U, Pt.locs, Pt.cells, Pt.slots] at X101 l101 y101 z101 st101 hQ101
  subst l101 y101 z101
  obtain ⟨rfl, N101q, eh101⟩ := hQ101
  have N101 := Fr.app N0 N101q
  refine Go.step (T' := T101) (g' := (mkF m 13 #[.val (.ref a1), .val (.ref a2), .unset] [(.int (5 : Int32))])) (fun _ k => st101.trans k) ?_
  refine Go.step (T' := T101) (g' := (mkF m 14 #[.val (.ref a1), .val (.ref a2), .val (.int (5 : Int32))] [])) (fun _ k => XS.istoreN X101.here hx rfl (hb hby d_jdk_68_method_22_13) rfl (l' := #[.val (.ref a1), .val (.ref a2), .val (.int (5 : Int32))]) rfl k) ?_
  refine Go.step (T' := T101) (g' := (mkF m 15 #[.val (.ref a1), .val (.ref a2), .val (.int (5 : Int32))] [(.ref a1)])) (fun _ k => XS.aloadN X101.here hx rfl (hb hby d_jdk_68_method_22_14) rfl rfl k) ?_
  refine Go.step (T' := T101) (g' := (mkF m 16 #[.val (.ref a1), .val (.ref a2), .val (.int (5 : Int32))] [(.ref a1), (.ref a1)])) (fun _ k => XS.aloadN X101.here hx rfl (hb hby d_jdk_68_method_22_15) rfl rfl k) ?_
  obtain ⟨T102, X102, e102, st102⟩ := getF X101 hx hZ hown (host := "") (Or.inl (hwi hw 36 rfl)) Via.refl eh101 M1 (g := (mkF m 16 #[.val (.ref a1), .val (.ref a2), .val (.int (5 : Int32))] [(.ref a1), (.ref a1)])) rfl rfl (hb hby d_jdk_68_method_22_16)
  refine Go.step (T' := T102) (g' := (mkF m 19 #[.val (.ref a1), .val (.ref a2), .val (.int (5 : Int32))] [(.int (Int32.ofNat cn)), (.ref a1)])) st102 ?_
  refine Go.step (T' := T102) (g' := (mkF m 20 #[.val (.ref a1), .val (.ref a2), .val (.int (5 : Int32))] [(.int (5 : Int32)), (.int (Int32.ofNat cn)), (.ref a1)])) (fun _ k => XS.iloadN X102.here hx rfl (hb hby d_jdk_68_method_22_19) rfl  k) ?_
  refine Go.step (T' := T102) (g' := (mkF m 21 #[.val (.ref a1), .val (.ref a2), .val (.int (5 : Int32))] [(.int ((Int32.ofNat cn) + (5 : Int32))), (.ref a1)])) (fun _ k => XS.iadd X102.here hx rfl (hb hby d_jdk_68_method_22_20) rfl k) ?_
  rw [own_add5]
  obtain ⟨cq103, q103, q103'⟩ := E1.cell
  obtain ⟨_, _, ⟨T103, L103, k103, n103⟩, -, X103, ⟨Lc103, hQ103, l103, y103, z103⟩, st103⟩ := X102.privateBack hx (y := (⟨"java/lang/AbstractStringBuilder", "ensureCapacityInternal", "(I)V"⟩ : MethodName)) hown (mvT hZ (hwi hw 42 rfl)) (mvT hZ (hwi hw 43 rfl)) (mvT hZ (own_selP (hwi hw 45 rfl) (hwi hw 44 rfl) (hwi hw 43 rfl) (by decide))) (Cond.privateMethod_at (mvP hZ (hwi hw 44 rfl) (args := #[]))) (mvT hZ (hwi hw 46 rfl)) (by decide) (backOf (W := 0) (Q := Qret none h0 n0) (own_ens l Z a0 hw [] a1 (Int32.ofNat (cn + 5)) b1 k1 vs h0 n0 Z0 C1 B1 V1 (own_fit (by omega))) hZ (hwi hw 46 rfl) (hwi hw 14 rfl) (by decide) (by decide)) (g := (mkF m 21 #[.val (.ref a1), .val (.ref a2), .val (.int (5 : Int32))] [(.int (Int32.ofNat (cn + 5))), (.ref a1)])) rfl (by rw [hml]; rfl) (Steps.refl _) (a := a1) (by rw [e102]; exact q103) q103' (argsL := [(.int (Int32.ofNat (cn + 5)))]) (rest := []) (lenOf own_pd6 rfl) rfl (by show 2 * 0 + _ ≤ _; exact Nat.le_of_eq rfl) (hb hby d_jdk_68_method_22_21) (fun _ _ => ⟨rfl, e102, (by decide : 0 + 0 ≤ _), (by decide : 0 + 0 ≤ _)⟩)
  dsimp only [Pt.U, Pt.locs, Pt.cells, Pt.slots] at X103 l103 y103 z103 st103 hQ103
  subst l103 y103 z103
  obtain ⟨rfl, N103q, eh103⟩ := hQ103
  have N103 := Fr.app N101 N103q
  refine Go.step (T' := T103) (g' := (mkF m 24 #[.val (.ref a1), .val (.ref a2), .val (.int (5 : Int32))] [])) (fun _ k => st103.trans k) ?_
  refine Go.step (T' := T103) (g' := (mkF m 25 #[.val (.ref a1), .val (.ref a2), .val (.int (5 : Int32))] [(.ref a1)])) (fun _ k => XS.aloadN X103.here hx rfl (hb hby d_jdk_68_method_22_24) rfl rfl k) ?_
  refine Go.step (T' := T103) (g' := (mkF m 26 #[.val (.ref a1), .val (.ref a2), .val (.int (5 : Int32))] [(.ref a1), (.ref a1)])) (fun _ k => XS.aloadN X103.here hx rfl (hb hby d_jdk_68_method_22_25) rfl rfl k) ?_
  obtain ⟨T104, X104, e104, st104⟩ := getF X103 hx hZ hown (host := "") (Or.inl (hwi hw 36 rfl)) Via.refl eh103 M1 (g := (mkF m 26 #[.val (.ref a1), .val (.ref a2), .val (.int (5 : Int32))] [(.ref a1), (.ref a1)])) rfl rfl (hb hby d_jdk_68_method_22_26)
  refine Go.step (T' := T104) (g' := (mkF m 29 #[.val (.ref a1), .val (.ref a2), .val (.int (5 : Int32))] [(.int (Int32.ofNat cn)), (.ref a1)])) st104 ?_
  refine Go.step (T' := T104) (g' := (mkF m 30 #[.val (.ref a1), .val (.ref a2), .val (.int (5 : Int32))] [(.ref a2), (.int (Int32.ofNat cn)), (.ref a1)])) (fun _ k => XS.aloadN X104.here hx rfl (hb hby d_jdk_68_method_22_29) rfl rfl k) ?_
  obtain ⟨cq105, q105, q105'⟩ := E1.cell
  obtain ⟨_, _, ⟨T105, L105, k105, n105⟩, -, X105, ⟨Lc105, hQ105, l105, y105, z105⟩, st105⟩ := X104.privateBack hx (y := (⟨"java/lang/AbstractStringBuilder", "putStringAt", "(ILjava/lang/String;)V"⟩ : MethodName)) hown (mvT hZ (hwi hw 84 rfl)) (mvT hZ (hwi hw 85 rfl)) (mvT hZ (own_selP (hwi hw 87 rfl) (hwi hw 86 rfl) (hwi hw 85 rfl) (by decide))) (Cond.privateMethod_at (mvP hZ (hwi hw 86 rfl) (args := #[]))) (mvT hZ (hwi hw 88 rfl)) (by decide) (backOf (W := 0) (Q := Qgby Z b1 k1 cn vs h0 n0) (own_pst l Z a0 hw [] a1 cn a2 gc b1 k1 vs b2 k2 h0 n0 Z0 Sc hgc E2 C2 B2 V2 V1 EB1 gb1 bb a2b hc hl E1 B1 C1 ab) hZ (hwi hw 88 rfl) (hwi hw 14 rfl) (by decide) (by decide)) (g := (mkF m 30 #[.val (.ref a1), .val (.ref a2), .val (.int (5 : Int32))] [(.ref a2), (.int (Int32.ofNat cn)), (.ref a1)])) rfl (by rw [hml]; rfl) (Steps.refl _) (a := a1) (by rw [e104]; exact q105) q105' (argsL := [(.int (Int32.ofNat cn)), (.ref a2)]) (rest := []) (lenOf own_pd12 rfl) rfl (by show 2 * 0 + _ ≤ _; exact Nat.le_of_eq rfl) (hb hby d_jdk_68_method_22_30) (fun _ _ => ⟨rfl, e104, (by decide : 0 + 0 ≤ _), (by decide : 0 + 0 ≤ _)⟩)
  dsimp only [Pt.U, Pt.locs, Pt.cells, Pt.slots] at X105 l105 y105 z105 st105 hQ105
  subst l105 y105 z105
  obtain ⟨vs105, rfl, N105q, K105, EB105, V105, hl105, da105, db105⟩ := hQ105
  have N105 := Fr.app N103 N105q
  have KK105 := K0.trans K105 (allS (Or.inl (List.mem_of_getElem? (i := 1) rfl)) all0)
  have Z105 : n0 ≤ T105.heap.size := Nat.le_trans Z0 K105.1
  have F106 := own_sta_keep Sc K105 (allS (own_plain EB1) all0)
  have F107 := E2.keep K105
  have F108 := C2.keep K105 (ninS a2b nin0)
  have F109 := B2.keep K105 (ninS a2b nin0)
  have F110 := V2.keep K105 (ninS bb nin0)
  have F111 := EB1.keep K105
  have F112 := E1.keep K105
  have F113 := B1.keep K105 (ninS ab nin0)
  have F114 := C1.keep K105 (ninS ab nin0)
  have F115 := M1.keep K105 (ninS ab nin0)
  refine Go.step (T' := T105) (g' := (mkF m 33 #[.val (.ref a1), .val (.ref a2), .val (.int (5 : Int32))] [])) (fun _ k => st105.trans k) ?_
  refine Go.step (T' := T105) (g' := (mkF m 34 #[.val (.ref a1), .val (.ref a2), .val (.int (5 : Int32))] [(.ref a1)])) (fun _ k => XS.aloadN X105.here hx rfl (hb hby d_jdk_68_method_22_33) rfl rfl k) ?_
  refine Go.step (T' := T105) (g' := (mkF m 35 #[.val (.ref a1), .val (.ref a2), .val (.int (5 : Int32))] [(.ref a1), (.ref a1)])) (fun _ k => XS.dup X105.here hx rfl (hb hby d_jdk_68_method_22_34) rfl rfl k) ?_
  obtain ⟨T116, X116, e116, st116⟩ := getF X105 hx hZ hown (host := "") (Or.inl (hwi hw 36 rfl)) Via.refl rfl F115 (g := (mkF m 35 #[.val (.ref a1), .val (.ref a2), .val (.int (5 : Int32))] [(.ref a1), (.ref a1)])) rfl rfl (hb hby d_jdk_68_method_22_35)
  refine Go.step (T' := T116) (g' := (mkF m 38 #[.val (.ref a1), .val (.ref a2), .val (.int (5 : Int32))] [(.int (Int32.ofNat cn)), (.ref a1)])) st116 ?_
  refine Go.step (T' := T116) (g' := (mkF m 39 #[.val (.ref a1), .val (.ref a2), .val (.int (5 : Int32))] [(.int (5 : Int32)), (.int (Int32.ofNat cn)), (.ref a1)])) (fun _ k => XS.iloadN X116.here hx rfl (hb hby d_jdk_68_method_22_38) rfl  k) ?_
  refine Go.step (T' := T116) (g' := (mkF m 40 #[.val (.ref a1), .val (.ref a2), .val (.int (5 : Int32))] [(.int ((Int32.ofNat cn) + (5 : Int32))), (.ref a1)])) (fun _ k => XS.iadd X116.here hx rfl (hb hby d_jdk_68_method_22_39) rfl k) ?_
  rw [own_add5]
  obtain ⟨T117, h117, X117, e117, W117, st117⟩ := putF X116 hx hZ hown (host := "") (Or.inl (hwi hw 36 rfl)) Via.refl e116 F115 F112 (Or.inl (hwi hw 37 rfl)) (hwi hw 5 rfl) (ty := .int) (by decide) rfl rfl (g := (mkF m 40 #[.val (.ref a1), .val (.ref a2), .val (.int (5 : Int32))] [(.int (Int32.ofNat (cn + 5))), (.ref a1)])) rfl rfl (hb hby d_jdk_68_method_22_40)
  have N117 := Fr.snoc X117 N105 g1
  have Z117 : n0 ≤ h117.size := Nat.le_trans Z105 (Keep.of_wr W117).1
  have K117 := KK105.wr W117 (Or.inl (List.mem_of_getElem? (i := 0) rfl))
  have F118 := F106.wr W117
  have F119 := F107.wr W117
  have F120 := F108.other W117 (Or.inl a21)
  have F121 := F109.other W117 (Or.inl a21)
  have F122 := F110.other W117 b21
  have F123 := EB105.wr W117
  have F124 := F112.wr W117
  have F125 := F113.other W117 (Or.inr (slot_ne (Or.inl (hwi hw 23 rfl)) (Or.inl (hwi hw 37 rfl)) (by decide) (t := (.array .byte)) (t' := .int) (by decide) (by decide)))
  have F126 := F114.other W117 (Or.inr (slot_ne (Or.inl (hwi hw 25 rfl)) (Or.inl (hwi hw 37 rfl)) (by decide) (t := .byte) (t' := .int) (by decide) (by decide)))
  have F127 := V105.other W117 (Ne.symm ab)
  have F128 := F115.same W117
  refine Go.step (T' := T117) (g' := (mkF m 43 #[.val (.ref a1), .val (.ref a2), .val (.int (5 : Int32))] [])) st117 ?_
  refine Go.step (T' := T117) (g' := (mkF m 44 #[.val (.ref a1), .val (.ref a2), .val (.int (5 : Int32))] [(.ref a1)])) (fun _ k => XS.aloadN X117.here hx rfl (hb hby d_jdk_68_method_22_43) rfl rfl k) ?_
  exact Go.retA X117 hx (t := (.object "java/lang/AbstractStringBuilder")) hret rfl hlk rfl (hb hby d_jdk_68_method_22_44) (by rw [e117]; exact ⟨_, rfl, N117, K117, F124, F125, F126, F128, F123, F127, hl105, da105, db105⟩) (by decide) (by decide)
theorem own_ef_jdk_67_method_7_code_RR (m : MethodId) (x0 : Addr) (x1 : Addr) : entryFrame m #[(.ref x0), (.ref x1)] 2 = mkF m 0 #[.val (.ref x0), .val (.ref x1)] [] := by first | (simp [entryFrame, mkF, argsToLocals, Value.category]; done) | rfl | (simp [entryFrame, mkF, argsToLocals, own_cI, own_cJ, own_cR, own_cN]; done)
theorem d_jdk_67_method_7_0 : decode jdk_67_method_7_code 0 = .ok (.aload_n 0, 1) := by decide +kernel
theorem d_jdk_67_method_7_1 : decode jdk_67_method_7_code 1 = .ok (.aload_n 1, 1) := by decide +kernel
theorem d_jdk_67_method_7_2 : decode jdk_67_method_7_code 2 = .ok (.invokespecial 29, 3) := by decide +kernel
theorem own_pd13 : parseMethodDescriptor "(Ljava/lang/String;)Ljava/lang/AbstractStringBuilder;" = some ⟨[(.object "java/lang/String")], some (.object "java/lang/AbstractStringBuilder")⟩ := by decide +kernel
theorem d_jdk_67_method_7_5 : decode jdk_67_method_7_code 5 = .ok (.pop, 1) := by decide +kernel
theorem d_jdk_67_method_7_6 : decode jdk_67_method_7_code 6 = .ok (.aload_n 0, 1) := by decide +kernel
theorem d_jdk_67_method_7_7 : decode jdk_67_method_7_code 7 = .ok (.areturn, 1) := by decide +kernel
set_option maxRecDepth 65536 in
set_option maxHeartbeats 40000000 in
theorem own_sbaps (l : Launch) (Z : State) (a0 : Array Value) (hw : ∀ d ∈ tables_1, d.before a0 Z = true) (ws : List Jvm.Cond) (a1 a2 : Addr) (gc : Int32) (b1 : Addr) (k1 : ClassId) (cn : Nat) (vs : List Value) (b2 : Addr) (k2 : ClassId) (h0 : Heap) (n0 : Nat) (Z0 : n0 ≤ h0.size) (Sc : Sta Z h0 "java/lang/String" "COMPACT_STRINGS" "Z" (.int gc)) (hgc : ¬ gc = (0 : Int32)) (E2 : Exa Z h0 a2 "java/lang/String") (C2 : Fld Z h0 a2 "java/lang/String" "coder" "B" (.int (0 : Int32))) (B2 : Fld Z h0 a2 "java/lang/String" "value" "[B" (.ref b2)) (V2 : Arv Z h0 b2 k2 .byte (5 : Int32) [(.int (32 : Int32)), (.int (100 : Int32)), (.int (97 : Int32)), (.int (121 : Int32)), (.int (115 : Int32))] (.int (0 : Int32))) (V1 : Arv Z h0 b1 k1 .byte (16 : Int32) vs (.int (0 : Int32))) (EB1 : Exa Z h0 b1 "[B") (gb1 : n0 ≤ b1) (bb : b2 ≠ b1) (a2b : a2 ≠ b1) (hc : cn ≤ 11) (hl : vs.length = 16) (E1 : Exa Z h0 a1 "java/lang/StringBuilder") (B1 : Fld Z h0 a1 "java/lang/AbstractStringBuilder" "value" "[B" (.ref b1)) (C1 : Fld Z h0 a1 "java/lang/AbstractStringBuilder" "coder" "B" (.int (0 : Int32))) (ab : a1 ≠ b1) (M1 : Fld Z h0 a1 "java/lang/AbstractStringBuilder" "count" "I" (.int (Int32.ofNat cn))) (g1 : n0 ≤ a1) (a21 : a2 ≠ a1) (b21 : b2 ≠ a1) :
    Con l Z (⟨"java/lang/StringBuilder", "append", "(Ljava/lang/String;)Ljava/lang/StringBuilder;"⟩ : MethodName) jdk_67_method_7_code 2 (some (.object "java/lang/StringBuilder")) ({ frames := 4, cells := 0, slots := 0, locals := 61 } : Room) ws #[(.ref a1), (.ref a2)] h0 (Qaps Z a1 b1 k1 cn vs (some (.ref a1)) h0 n0) 0 0 := by
  refine Con.of (plainFor_of_name own_pn_StringBuilder) ?_
  intro pgm e s m below meth c s₁ X0 hx hZ hby hml hown hnm hret hlk e0 hs0
  have N0 := Fr.nil n0
  have hown : s.vm.findClass "java/lang/StringBuilder" = some m.cls := hown
  have hnm : meth.name = "append" := hnm
  refine Go.cast (own_ef_jdk_67_method_7_code_RR m a1 a2) ?_
  have K0 := Keep.refl h0 [a1, b1]
  refine Go.step (T' := s₁) (g' := (mkF m 1 #[.val (.ref a1), .val (.ref a2)] [(.ref a1)])) (fun _ k => XS.aloadN X0.here hx rfl (hb hby d_jdk_67_method_7_0) rfl rfl k) ?_
  refine Go.step (T' := s₁) (g' := (mkF m 2 #[.val (.ref a1), .val (.ref a2)] [(.ref a2), (.ref a1)])) (fun _ k => XS.aloadN X0.here hx rfl (hb hby d_jdk_67_method_7_1) rfl rfl k) ?_
  obtain ⟨_, _, ⟨T101, L101, k101, n101⟩, -, X101, ⟨Lc101, hQ101, l101, y101, z101⟩, st101⟩ := superBack X0 hx hZ (y := (⟨"java/lang/AbstractStringBuilder", "append", "(Ljava/lang/String;)Ljava/lang/AbstractStringBuilder;"⟩ : MethodName)) hown (hwi hw 67 rfl) (own_samem (hwi hw 69 rfl) (own_nf (y := (⟨"java/lang/AbstractStringBuilder", "append", "(Ljava/lang/String;)Ljava/lang/AbstractStringBuilder;"⟩ : MethodName)) (hwi hw 45 rfl) rfl (hwi hw 43 rfl)) (by decide)) (hwi hw 68 rfl) (hwi hw 33 rfl) (by decide) (backOf (W := 0) (Q := Qaps Z a1 b1 k1 (cn) vs (some (.ref a1)) h0 n0) (own_aps l Z a0 hw [] a1 a2 gc b1 k1 (cn) vs b2 k2 h0 n0 Z0 Sc hgc E2 C2 B2 V2 V1 EB1 gb1 bb a2b hc hl E1 B1 C1 ab M1 g1 a21 b21) hZ (hwi hw 70 rfl) (hwi hw 14 rfl) (by decide) (by decide)) e0 (Ins.self E1) (g := (mkF m 2 #[.val (.ref a1), .val (.ref a2)] [(.ref a2), (.ref a1)])) rfl (by rw [hml]; rfl) (hwi hw 70 rfl) (argsL := [(.ref a2)]) (rest := []) (lenOf own_pd13 rfl) rfl (by show 2 * 0 + _ ≤ _; exact Nat.le_of_eq rfl) (hb hby d_jdk_67_method_7_2) (fun _ _ => ⟨rfl, e0, (by decide : 0 + 0 ≤ _), (by decide : 0 + 0 ≤ _)⟩)
  dsimp only [Pt.U, Pt.locs, Pt.cells, Pt.slots] at X101 l101 y101 z101 st101 hQ101
  subst l101 y101 z101
  obtain ⟨vs101, rfl, N101q, K101, E101, B101, C101, M101, EB101, V101, hl101, da101, db101⟩ := hQ101
  have N101 := Fr.app N0 N101q
  have KK101 := K0.trans K101 (allS (Or.inl (List.mem_of_getElem? (i := 0) rfl)) (allS (Or.inl (List.mem_of_getElem? (i := 1) rfl)) all0))
  have Z101 : n0 ≤ T101.heap.size := Nat.le_trans Z0 K101.1
  have F102 := own_sta_keep Sc K101 (allS (own_plain E1) (allS (own_plain EB1) all0))
  have F103 := E2.keep K101
  have F104 := C2.keep K101 (ninS a21 (ninS a2b nin0))
  have F105 := B2.keep K101 (ninS a21 (ninS a2b nin0))
  have F106 := V2.keep K101 (ninS b21 (ninS bb nin0))
  have F107 := EB1.keep K101
  have F108 := E1.keep K101
  refine Go.step (T' := T101) (g' := (mkF m 5 #[.val (.ref a1), .val (.ref a2)] [(.ref a1)])) (fun _ k => st101.trans k) ?_
  refine Go.step (T' := T101) (g' := (mkF m 6 #[.val (.ref a1), .val (.ref a2)] [])) (fun _ k => XS.pop X101.here hx rfl (hb hby d_jdk_67_method_7_5) rfl rfl k) ?_
  refine Go.step (T' := T101) (g' := (mkF m 7 #[.val (.ref a1), .val (.ref a2)] [(.ref a1)])) (fun _ k => XS.aloadN X101.here hx rfl (hb hby d_jdk_67_method_7_6) rfl rfl k) ?_
  exact Go.retA X101 hx (t := (.object "java/lang/StringBuilder")) hret rfl hlk rfl (hb hby d_jdk_67_method_7_7) (⟨_, rfl, N101, KK101, E101, B101, C101, M101, EB101, V101, hl101, da101, db101⟩) (by decide) (by decide)
theorem own_ef_jdk_29_method_69_code_II (m : MethodId) (x0 : Int32) (x1 : Int32) : entryFrame m #[(.int x0), (.int x1)] 2 = mkF m 0 #[.val (.int x0), .val (.int x1)] [] := by first | (simp [entryFrame, mkF, argsToLocals, Value.category]; done) | rfl | (simp [entryFrame, mkF, argsToLocals, own_cI, own_cJ, own_cR, own_cN]; done)
theorem d_jdk_29_method_69_0 : decode jdk_29_method_69_code 0 = .ok (.iload_n 0, 1) := by decide +kernel
theorem d_jdk_29_method_69_1 : decode jdk_29_method_69_code 1 = .ok (.iload_n 1, 1) := by decide +kernel
theorem d_jdk_29_method_69_2 : decode jdk_29_method_69_code 2 = .ok (.if_icmp .gt 7, 3) := by decide +kernel
theorem d_jdk_29_method_69_9 : decode jdk_29_method_69_code 9 = .ok (.iload_n 1, 1) := by decide +kernel
theorem d_jdk_29_method_69_10 : decode jdk_29_method_69_code 10 = .ok (.ireturn, 1) := by decide +kernel
set_option maxRecDepth 65536 in
set_option maxHeartbeats 40000000 in
theorem own_min (l : Launch) (Z : State) (a0 : Array Value) (hw : ∀ d ∈ tables_1, d.before a0 Z = true) (ws : List Jvm.Cond) (p0 p1 : Int32) (h0 : Heap) (n0 : Nat) (Z0 : n0 ≤ h0.size) (hlt : p1 < p0) :
    Con l Z (⟨"java/lang/Math", "min", "(II)I"⟩ : MethodName) jdk_29_method_69_code 2 (some .int) ({ frames := 0, cells := 0, slots := 0, locals := 0 } : Room) ws #[(.int p0), (.int p1)] h0 (Qret (some (.int p1)) h0 n0) 0 0 := by
  refine Con.of (Jvm.Free.JP.mathPlain rfl (by decide +kernel)) ?_
  intro pgm e s m below meth c s₁ X0 hx hZ hby hml hown hnm hret hlk e0 hs0
  have N0 := Fr.nil n0
  have hown : s.vm.findClass "java/lang/Math" = some m.cls := hown
  have hnm : meth.name = "min" := hnm
  refine Go.cast (own_ef_jdk_29_method_69_code_II m p0 p1) ?_
  refine Go.step (T' := s₁) (g' := (mkF m 1 #[.val (.int p0), .val (.int p1)] [(.int p0)])) (fun _ k => XS.iloadN X0.here hx rfl (hb hby d_jdk_29_method_69_0) rfl  k) ?_
  refine Go.step (T' := s₁) (g' := (mkF m 2 #[.val (.int p0), .val (.int p1)] [(.int p1), (.int p0)])) (fun _ k => XS.iloadN X0.here hx rfl (hb hby d_jdk_29_method_69_1) rfl  k) ?_
  refine Go.step (T' := s₁) (g' := (mkF m 9 #[.val (.int p0), .val (.int p1)] [])) (fun _ k => XS.icmpYes X0.here hx rfl (pc0 := 2) (pc' := 9) rfl (hb hby d_jdk_29_method_69_2) rfl (tlt hlt).2.2.1 (by decide) (by decide) k) ?_
  refine Go.step (T' := s₁) (g' := (mkF m 10 #[.val (.int p0), .val (.int p1)] [(.int p1)])) (fun _ k => XS.iloadN X0.here hx rfl (hb hby d_jdk_29_method_69_9) rfl  k) ?_
  exact Go.retI X0 hx hret hlk (hb hby d_jdk_29_method_69_10) (⟨rfl, N0, e0⟩) (by decide) (by decide)
def own_L (x : Int32) : Int64 := if x < 0 then -x.toInt64 else x.toInt64
theorem own_L_toInt (x : Int32) : (own_L x).toInt = (own_M x : Int) := by
  have e := c_i2l x
  have r := rng32 x
  have z : (0 : Int32).toInt = 0 := rfl
  simp only [own_L, own_M]
  split
  · rename_i h
    rw [Int32.lt_iff_toInt_lt, z] at h
    have c := c_lneg x.toInt64
    have r1 := (-x.toInt64).toInt_lt
    have r2 := (-x.toInt64).le_toInt
    omega
  · rename_i h
    rw [Int32.lt_iff_toInt_lt, z] at h
    omega
theorem own_lc {V K : Int64} : lcmpW V K < (0 : Int32) ↔ V.toInt < K.toInt := by
  have c := c_lcmp V K
  rw [Int32.lt_iff_toInt_lt, show (0 : Int32).toInt = 0 from rfl]
  rcases Int.lt_trichotomy V.toInt K.toInt with h | h | h
  · rw [c.1 h]; exact ⟨fun _ => h, fun _ => by decide⟩
  · rw [c.2.1 h]; exact ⟨fun q => by omega, fun q => by omega⟩
  · rw [c.2.2 h]; exact ⟨fun q => by omega, fun q => by omega⟩
theorem own_lt0L {x : Int32} : lcmpW x.toInt64 (0 : Int64) < (0 : Int32) ↔ x < 0 := by
  rw [own_lc, c_i2l, Int32.lt_iff_toInt_lt]; exact Iff.rfl
theorem own_ef_jdk_29_method_61_code_J (m : MethodId) (x0 : Int64) : entryFrame m #[(.long x0)] 2 = mkF m 0 #[.val (.long x0), .second] [] := by first | (simp [entryFrame, mkF, argsToLocals, Value.category]; done) | rfl | (simp [entryFrame, mkF, argsToLocals, own_cI, own_cJ, own_cR, own_cN]; done)
theorem d_jdk_29_method_61_0 : decode jdk_29_method_61_code 0 = .ok (.lload_n 0, 1) := by decide +kernel
theorem d_jdk_29_method_61_1 : decode jdk_29_method_61_code 1 = .ok (.lconst 0, 1) := by decide +kernel
theorem d_jdk_29_method_61_2 : decode jdk_29_method_61_code 2 = .ok (.lcmp, 1) := by decide +kernel
theorem d_jdk_29_method_61_3 : decode jdk_29_method_61_code 3 = .ok (.ifCond .ge 8, 3) := by decide +kernel
theorem d_jdk_29_method_61_6 : decode jdk_29_method_61_code 6 = .ok (.lload_n 0, 1) := by decide +kernel
theorem d_jdk_29_method_61_7 : decode jdk_29_method_61_code 7 = .ok (.lneg, 1) := by decide +kernel
theorem d_jdk_29_method_61_8 : decode jdk_29_method_61_code 8 = .ok (.goto 4, 3) := by decide +kernel
theorem d_jdk_29_method_61_12 : decode jdk_29_method_61_code 12 = .ok (.lreturn, 1) := by decide +kernel
theorem d_jdk_29_method_61_11 : decode jdk_29_method_61_code 11 = .ok (.lload_n 0, 1) := by decide +kernel
set_option maxRecDepth 65536 in
set_option maxHeartbeats 40000000 in
theorem own_abs (l : Launch) (Z : State) (a0 : Array Value) (hw : ∀ d ∈ tables_1, d.before a0 Z = true) (ws : List Jvm.Cond) (x0 : Int32) (h0 : Heap) (n0 : Nat) (Z0 : n0 ≤ h0.size)  :
    Con l Z (⟨"java/lang/Math", "abs", "(J)J"⟩ : MethodName) jdk_29_method_61_code 2 (some .long) ({ frames := 0, cells := 0, slots := 0, locals := 0 } : Room) ws #[(.long x0.toInt64)] h0 (Qret (some (.long (own_L x0))) h0 n0) 0 0 := by
  refine Con.of (Jvm.Free.JP.mathPlain rfl (by decide +kernel)) ?_
  intro pgm e s m below meth c s₁ X0 hx hZ hby hml hown hnm hret hlk e0 hs0
  have N0 := Fr.nil n0
  have hown : s.vm.findClass "java/lang/Math" = some m.cls := hown
  have hnm : meth.name = "abs" := hnm
  refine Go.cast (own_ef_jdk_29_method_61_code_J m x0.toInt64) ?_
  refine Go.step (T' := s₁) (g' := (mkF m 1 #[.val (.long x0.toInt64), .second] [(.long x0.toInt64)])) (fun _ k => XS.lloadN X0.here hx rfl (hb hby d_jdk_29_method_61_0) rfl  k) ?_
  refine Go.step (T' := s₁) (g' := (mkF m 2 #[.val (.long x0.toInt64), .second] [(.long (0 : Int64)), (.long x0.toInt64)])) (fun _ k => XS.lconst X0.here hx rfl (hb hby d_jdk_29_method_61_1) k) ?_
  refine Go.step (T' := s₁) (g' := (mkF m 3 #[.val (.long x0.toInt64), .second] [(.int (lcmpW x0.toInt64 (0 : Int64)))])) (fun _ k => XS.lcmp X0.here hx rfl (hb hby d_jdk_29_method_61_2) rfl k) ?_
  by_cases hc101 : (lcmpW x0.toInt64 (0 : Int64)) < (0 : Int32)
  · skip
    refine Go.step (T' := s₁) (g' := (mkF m 6 #[.val (.long x0.toInt64), .second] [])) (fun _ k => XS.ifNo X0.here hx rfl (hb hby d_jdk_29_method_61_3) rfl ((if0 _ _).trans (tlt hc101).2.1) k) ?_
    refine Go.step (T' := s₁) (g' := (mkF m 7 #[.val (.long x0.toInt64), .second] [(.long x0.toInt64)])) (fun _ k => XS.lloadN X0.here hx rfl (hb hby d_jdk_29_method_61_6) rfl  k) ?_
    refine Go.step (T' := s₁) (g' := (mkF m 8 #[.val (.long x0.toInt64), .second] [(.long (-x0.toInt64))])) (fun _ k => XS.lneg X0.here hx rfl (hb hby d_jdk_29_method_61_7) rfl k) ?_
    refine Go.step (T' := s₁) (g' := (mkF m 12 #[.val (.long x0.toInt64), .second] [(.long (-x0.toInt64))])) (fun _ k => XS.goto X0.here hx rfl (pc0 := 8) (pc' := 12) rfl (hb hby d_jdk_29_method_61_8) (by decide) (by decide) k) ?_
    exact Go.retJ X0 hx hret hlk (hb hby d_jdk_29_method_61_12) (⟨congrArg (fun z => some (Value.long z)) ((if_pos (own_lt0L.mp hc101)).symm : _ = own_L x0), N0, e0⟩) (by decide) (by decide)
  · skip
    refine Go.step (T' := s₁) (g' := (mkF m 11 #[.val (.long x0.toInt64), .second] [])) (fun _ k => XS.ifYes X0.here hx rfl (pc0 := 3) (pc' := 11) rfl (hb hby d_jdk_29_method_61_3) rfl ((if0 _ _).trans (flt hc101).2.1) (by decide) (by decide) k) ?_
    refine Go.step (T' := s₁) (g' := (mkF m 12 #[.val (.long x0.toInt64), .second] [(.long x0.toInt64)])) (fun _ k => XS.lloadN X0.here hx rfl (hb hby d_jdk_29_method_61_11) rfl  k) ?_
    exact Go.retJ X0 hx hret hlk (hb hby d_jdk_29_method_61_12) (⟨congrArg (fun z => some (Value.long z)) ((if_neg (fun q => hc101 (own_lt0L.mpr q))).symm : _ = own_L x0), N0, e0⟩) (by decide) (by decide)
theorem own_ef_method_3_code_J (m : MethodId) (x0 : Int64) : entryFrame m #[(.long x0)] 2 = mkF m 0 #[.val (.long x0), .second] [] := by first | (simp [entryFrame, mkF, argsToLocals, Value.category]; done) | rfl | (simp [entryFrame, mkF, argsToLocals, own_cI, own_cJ, own_cR, own_cN]; done)
theorem own_pn_FiguresDaysPinLaw : plainName "com/example/noteform/noteform/io/FiguresDaysPinLaw" = true := by first | (simp [plainName, overriddenIn]; done) | decide +kernel
theorem d_method_3_0 : decode method_3_code 0 = .ok (.lload_n 0, 1) := by decide +kernel
theorem d_method_3_1 : decode method_3_code 1 = .ok (.ldc2_w 39, 3) := by decide +kernel
theorem d_method_3_4 : decode method_3_code 4 = .ok (.lcmp, 1) := by decide +kernel
theorem d_method_3_5 : decode method_3_code 5 = .ok (.ifCond .ge 5, 3) := by decide +kernel
theorem d_method_3_8 : decode method_3_code 8 = .ok (.iconst 1, 1) := by decide +kernel
theorem d_method_3_9 : decode method_3_code 9 = .ok (.ireturn, 1) := by decide +kernel
theorem d_method_3_10 : decode method_3_code 10 = .ok (.lload_n 0, 1) := by decide +kernel
theorem d_method_3_11 : decode method_3_code 11 = .ok (.ldc2_w 41, 3) := by decide +kernel
theorem d_method_3_14 : decode method_3_code 14 = .ok (.lcmp, 1) := by decide +kernel
theorem d_method_3_15 : decode method_3_code 15 = .ok (.ifCond .ge 5, 3) := by decide +kernel
theorem d_method_3_18 : decode method_3_code 18 = .ok (.iconst 2, 1) := by decide +kernel
theorem d_method_3_19 : decode method_3_code 19 = .ok (.ireturn, 1) := by decide +kernel
theorem d_method_3_20 : decode method_3_code 20 = .ok (.lload_n 0, 1) := by decide +kernel
theorem d_method_3_21 : decode method_3_code 21 = .ok (.ldc2_w 43, 3) := by decide +kernel
theorem d_method_3_24 : decode method_3_code 24 = .ok (.lcmp, 1) := by decide +kernel
theorem d_method_3_25 : decode method_3_code 25 = .ok (.ifCond .ge 5, 3) := by decide +kernel
theorem d_method_3_28 : decode method_3_code 28 = .ok (.iconst 3, 1) := by decide +kernel
theorem d_method_3_29 : decode method_3_code 29 = .ok (.ireturn, 1) := by decide +kernel
theorem d_method_3_30 : decode method_3_code 30 = .ok (.lload_n 0, 1) := by decide +kernel
theorem d_method_3_31 : decode method_3_code 31 = .ok (.ldc2_w 45, 3) := by decide +kernel
theorem d_method_3_34 : decode method_3_code 34 = .ok (.lcmp, 1) := by decide +kernel
theorem d_method_3_35 : decode method_3_code 35 = .ok (.ifCond .ge 5, 3) := by decide +kernel
theorem d_method_3_38 : decode method_3_code 38 = .ok (.iconst 4, 1) := by decide +kernel
theorem d_method_3_39 : decode method_3_code 39 = .ok (.ireturn, 1) := by decide +kernel
theorem d_method_3_40 : decode method_3_code 40 = .ok (.lload_n 0, 1) := by decide +kernel
theorem d_method_3_41 : decode method_3_code 41 = .ok (.ldc2_w 47, 3) := by decide +kernel
theorem d_method_3_44 : decode method_3_code 44 = .ok (.lcmp, 1) := by decide +kernel
theorem d_method_3_45 : decode method_3_code 45 = .ok (.ifCond .ge 5, 3) := by decide +kernel
theorem d_method_3_48 : decode method_3_code 48 = .ok (.iconst 5, 1) := by decide +kernel
theorem d_method_3_49 : decode method_3_code 49 = .ok (.ireturn, 1) := by decide +kernel
theorem d_method_3_50 : decode method_3_code 50 = .ok (.lload_n 0, 1) := by decide +kernel
theorem d_method_3_51 : decode method_3_code 51 = .ok (.ldc2_w 49, 3) := by decide +kernel
theorem d_method_3_54 : decode method_3_code 54 = .ok (.lcmp, 1) := by decide +kernel
theorem d_method_3_55 : decode method_3_code 55 = .ok (.ifCond .ge 6, 3) := by decide +kernel
theorem d_method_3_58 : decode method_3_code 58 = .ok (.bipush 6, 2) := by decide +kernel
theorem d_method_3_60 : decode method_3_code 60 = .ok (.ireturn, 1) := by decide +kernel
theorem d_method_3_61 : decode method_3_code 61 = .ok (.lload_n 0, 1) := by decide +kernel
theorem d_method_3_62 : decode method_3_code 62 = .ok (.ldc2_w 51, 3) := by decide +kernel
theorem d_method_3_65 : decode method_3_code 65 = .ok (.lcmp, 1) := by decide +kernel
theorem d_method_3_66 : decode method_3_code 66 = .ok (.ifCond .ge 6, 3) := by decide +kernel
theorem d_method_3_69 : decode method_3_code 69 = .ok (.bipush 7, 2) := by decide +kernel
theorem d_method_3_71 : decode method_3_code 71 = .ok (.ireturn, 1) := by decide +kernel
theorem d_method_3_72 : decode method_3_code 72 = .ok (.lload_n 0, 1) := by decide +kernel
theorem d_method_3_73 : decode method_3_code 73 = .ok (.ldc2_w 53, 3) := by decide +kernel
theorem d_method_3_76 : decode method_3_code 76 = .ok (.lcmp, 1) := by decide +kernel
theorem d_method_3_77 : decode method_3_code 77 = .ok (.ifCond .ge 6, 3) := by decide +kernel
theorem d_method_3_80 : decode method_3_code 80 = .ok (.bipush 8, 2) := by decide +kernel
theorem d_method_3_82 : decode method_3_code 82 = .ok (.ireturn, 1) := by decide +kernel
theorem d_method_3_83 : decode method_3_code 83 = .ok (.lload_n 0, 1) := by decide +kernel
theorem d_method_3_84 : decode method_3_code 84 = .ok (.ldc2_w 55, 3) := by decide +kernel
theorem d_method_3_87 : decode method_3_code 87 = .ok (.lcmp, 1) := by decide +kernel
theorem d_method_3_88 : decode method_3_code 88 = .ok (.ifCond .ge 6, 3) := by decide +kernel
theorem d_method_3_91 : decode method_3_code 91 = .ok (.bipush 9, 2) := by decide +kernel
theorem d_method_3_93 : decode method_3_code 93 = .ok (.ireturn, 1) := by decide +kernel
theorem d_method_3_94 : decode method_3_code 94 = .ok (.bipush 10, 2) := by decide +kernel
theorem d_method_3_96 : decode method_3_code 96 = .ok (.ireturn, 1) := by decide +kernel
set_option maxRecDepth 65536 in
set_option maxHeartbeats 40000000 in
theorem own_dc (l : Launch) (Z : State) (a0 : Array Value) (hw : ∀ d ∈ tables_1, d.before a0 Z = true) (ws : List Jvm.Cond) (x0 : Int32) (h0 : Heap) (n0 : Nat) (Z0 : n0 ≤ h0.size)  :
    Con l Z (⟨"com/example/noteform/noteform/io/FiguresDaysPinLaw", "digitCount", "(J)I"⟩ : MethodName) method_3_code 2 (some .int) ({ frames := 0, cells := 0, slots := 0, locals := 0 } : Room) ws #[(.long (own_L x0))] h0 (Qret (some (.int (Int32.ofNat (own_nd (own_M x0))))) h0 n0) 0 0 := by
  refine Con.of (plainFor_of_name own_pn_FiguresDaysPinLaw) ?_
  intro pgm e s m below meth c s₁ X0 hx hZ hby hml hown hnm hret hlk e0 hs0
  have N0 := Fr.nil n0
  have hown : s.vm.findClass "com/example/noteform/noteform/io/FiguresDaysPinLaw" = some m.cls := hown
  have hnm : meth.name = "digitCount" := hnm
  refine Go.cast (own_ef_method_3_code_J m (own_L x0)) ?_
  refine Go.step (T' := s₁) (g' := (mkF m 1 #[.val (.long (own_L x0)), .second] [(.long (own_L x0))])) (fun _ k => XS.lloadN X0.here hx rfl (hb hby d_method_3_0) rfl  k) ?_
  refine Go.step (T' := s₁) (g' := (mkF m 4 #[.val (.long (own_L x0)), .second] [(.long (10 : Int64)), (.long (own_L x0))])) (fun _ k => Jvm.Stand.ldc2J (g := (mkF m 1 #[.val (.long (own_L x0)), .second] [(.long (own_L x0))])) X0 hx hown (mvT hZ (hwi hw 154 rfl)) rfl (hb hby d_method_3_1) k) ?_
  refine Go.step (T' := s₁) (g' := (mkF m 5 #[.val (.long (own_L x0)), .second] [(.int (lcmpW (own_L x0) (10 : Int64)))])) (fun _ k => XS.lcmp X0.here hx rfl (hb hby d_method_3_4) rfl k) ?_
  by_cases hc101 : (lcmpW (own_L x0) (10 : Int64)) < (0 : Int32)
  · skip
    refine Go.step (T' := s₁) (g' := (mkF m 8 #[.val (.long (own_L x0)), .second] [])) (fun _ k => XS.ifNo X0.here hx rfl (hb hby d_method_3_5) rfl ((if0 _ _).trans (tlt hc101).2.1) k) ?_
    refine Go.step (T' := s₁) (g' := (mkF m 9 #[.val (.long (own_L x0)), .second] [(.int (1 : Int32))])) (fun _ k => XS.iconst X0.here hx rfl (hb hby d_method_3_8) k) ?_
    exact Go.retI X0 hx hret hlk (hb hby d_method_3_9) (⟨congrArg (fun z => some (Value.int (Int32.ofNat z))) (own_nd1 trivial (by have q : (own_L x0).toInt < 10 := own_lc.mp hc101; have r := own_L_toInt x0; omega)).symm, N0, e0⟩) (by decide) (by decide)
  · skip
    refine Go.step (T' := s₁) (g' := (mkF m 10 #[.val (.long (own_L x0)), .second] [])) (fun _ k => XS.ifYes X0.here hx rfl (pc0 := 5) (pc' := 10) rfl (hb hby d_method_3_5) rfl ((if0 _ _).trans (flt hc101).2.1) (by decide) (by decide) k) ?_
    refine Go.step (T' := s₁) (g' := (mkF m 11 #[.val (.long (own_L x0)), .second] [(.long (own_L x0))])) (fun _ k => XS.lloadN X0.here hx rfl (hb hby d_method_3_10) rfl  k) ?_
    refine Go.step (T' := s₁) (g' := (mkF m 14 #[.val (.long (own_L x0)), .second] [(.long (100 : Int64)), (.long (own_L x0))])) (fun _ k => Jvm.Stand.ldc2J (g := (mkF m 11 #[.val (.long (own_L x0)), .second] [(.long (own_L x0))])) X0 hx hown (mvT hZ (hwi hw 181 rfl)) rfl (hb hby d_method_3_11) k) ?_
    refine Go.step (T' := s₁) (g' := (mkF m 15 #[.val (.long (own_L x0)), .second] [(.int (lcmpW (own_L x0) (100 : Int64)))])) (fun _ k => XS.lcmp X0.here hx rfl (hb hby d_method_3_14) rfl k) ?_
    by_cases hc102 : (lcmpW (own_L x0) (100 : Int64)) < (0 : Int32)
    · skip
      refine Go.step (T' := s₁) (g' := (mkF m 18 #[.val (.long (own_L x0)), .second] [])) (fun _ k => XS.ifNo X0.here hx rfl (hb hby d_method_3_15) rfl ((if0 _ _).trans (tlt hc102).2.1) k) ?_
      refine Go.step (T' := s₁) (g' := (mkF m 19 #[.val (.long (own_L x0)), .second] [(.int (2 : Int32))])) (fun _ k => XS.iconst X0.here hx rfl (hb hby d_method_3_18) k) ?_
      exact Go.retI X0 hx hret hlk (hb hby d_method_3_19) (⟨congrArg (fun z => some (Value.int (Int32.ofNat z))) (own_nd2 (by have q : ¬ (own_L x0).toInt < 10 := fun r => hc101 (own_lc.mpr r); have r := own_L_toInt x0; omega) (by have q : (own_L x0).toInt < 100 := own_lc.mp hc102; have r := own_L_toInt x0; omega)).symm, N0, e0⟩) (by decide) (by decide)
    · skip
      refine Go.step (T' := s₁) (g' := (mkF m 20 #[.val (.long (own_L x0)), .second] [])) (fun _ k => XS.ifYes X0.here hx rfl (pc0 := 15) (pc' := 20) rfl (hb hby d_method_3_15) rfl ((if0 _ _).trans (flt hc102).2.1) (by decide) (by decide) k) ?_
      refine Go.step (T' := s₁) (g' := (mkF m 21 #[.val (.long (own_L x0)), .second] [(.long (own_L x0))])) (fun _ k => XS.lloadN X0.here hx rfl (hb hby d_method_3_20) rfl  k) ?_
      refine Go.step (T' := s₁) (g' := (mkF m 24 #[.val (.long (own_L x0)), .second] [(.long (1000 : Int64)), (.long (own_L x0))])) (fun _ k => Jvm.Stand.ldc2J (g := (mkF m 21 #[.val (.long (own_L x0)), .second] [(.long (own_L x0))])) X0 hx hown (mvT hZ (hwi hw 182 rfl)) rfl (hb hby d_method_3_21) k) ?_
      refine Go.step (T' := s₁) (g' := (mkF m 25 #[.val (.long (own_L x0)), .second] [(.int (lcmpW (own_L x0) (1000 : Int64)))])) (fun _ k => XS.lcmp X0.here hx rfl (hb hby d_method_3_24) rfl k) ?_
      by_cases hc103 : (lcmpW (own_L x0) (1000 : Int64)) < (0 : Int32)
      · skip
        refine Go.step (T' := s₁) (g' := (mkF m 28 #[.val (.long (own_L x0)), .second] [])) (fun _ k => XS.ifNo X0.here hx rfl (hb hby d_method_3_25) rfl ((if0 _ _).trans (tlt hc103).2.1) k) ?_
        refine Go.step (T' := s₁) (g' := (mkF m 29 #[.val (.long (own_L x0)), .second] [(.int (3 : Int32))])) (fun _ k => XS.iconst X0.here hx rfl (hb hby d_method_3_28) k) ?_
        exact Go.retI X0 hx hret hlk (hb hby d_method_3_29) (⟨congrArg (fun z => some (Value.int (Int32.ofNat z))) (own_nd3 (by have q : ¬ (own_L x0).toInt < 100 := fun r => hc102 (own_lc.mpr r); have r := own_L_toInt x0; omega) (by have q : (own_L x0).toInt < 1000 := own_lc.mp hc103; have r := own_L_toInt x0; omega)).symm, N0, e0⟩) (by decide) (by decide)
      · skip
        refine Go.step (T' := s₁) (g' := (mkF m 30 #[.val (.long (own_L x0)), .second] [])) (fun _ k => XS.ifYes X0.here hx rfl (pc0 := 25) (pc' := 30) rfl (hb hby d_method_3_25) rfl ((if0 _ _).trans (flt hc103).2.1) (by decide) (by decide) k) ?_
        refine Go.step (T' := s₁) (g' := (mkF m 31 #[.val (.long (own_L x0)), .second] [(.long (own_L x0))])) (fun _ k => XS.lloadN X0.here hx rfl (hb hby d_method_3_30) rfl  k) ?_
        refine Go.step (T' := s₁) (g' := (mkF m 34 #[.val (.long (own_L x0)), .second] [(.long (10000 : Int64)), (.long (own_L x0))])) (fun _ k => Jvm.Stand.ldc2J (g := (mkF m 31 #[.val (.long (own_L x0)), .second] [(.long (own_L x0))])) X0 hx hown (mvT hZ (hwi hw 183 rfl)) rfl (hb hby d_method_3_31) k) ?_
        refine Go.step (T' := s₁) (g' := (mkF m 35 #[.val (.long (own_L x0)), .second] [(.int (lcmpW (own_L x0) (10000 : Int64)))])) (fun _ k => XS.lcmp X0.here hx rfl (hb hby d_method_3_34) rfl k) ?_
        by_cases hc104 : (lcmpW (own_L x0) (10000 : Int64)) < (0 : Int32)
        · skip
          refine Go.step (T' := s₁) (g' := (mkF m 38 #[.val (.long (own_L x0)), .second] [])) (fun _ k => XS.ifNo X0.here hx rfl (hb hby d_method_3_35) rfl ((if0 _ _).trans (tlt hc104).2.1) k) ?_
          refine Go.step (T' := s₁) (g' := (mkF m 39 #[.val (.long (own_L x0)), .second] [(.int (4 : Int32))])) (fun _ k => XS.iconst X0.here hx rfl (hb hby d_method_3_38) k) ?_
          exact Go.retI X0 hx hret hlk (hb hby d_method_3_39) (⟨congrArg (fun z => some (Value.int (Int32.ofNat z))) (own_nd4 (by have q : ¬ (own_L x0).toInt < 1000 := fun r => hc103 (own_lc.mpr r); have r := own_L_toInt x0; omega) (by have q : (own_L x0).toInt < 10000 := own_lc.mp hc104; have r := own_L_toInt x0; omega)).symm, N0, e0⟩) (by decide) (by decide)
        · skip
          refine Go.step (T' := s₁) (g' := (mkF m 40 #[.val (.long (own_L x0)), .second] [])) (fun _ k => XS.ifYes X0.here hx rfl (pc0 := 35) (pc' := 40) rfl (hb hby d_method_3_35) rfl ((if0 _ _).trans (flt hc104).2.1) (by decide) (by decide) k) ?_
          refine Go.step (T' := s₁) (g' := (mkF m 41 #[.val (.long (own_L x0)), .second] [(.long (own_L x0))])) (fun _ k => XS.lloadN X0.here hx rfl (hb hby d_method_3_40) rfl  k) ?_
          refine Go.step (T' := s₁) (g' := (mkF m 44 #[.val (.long (own_L x0)), .second] [(.long (100000 : Int64)), (.long (own_L x0))])) (fun _ k => Jvm.Stand.ldc2J (g := (mkF m 41 #[.val (.long (own_L x0)), .second] [(.long (own_L x0))])) X0 hx hown (mvT hZ (hwi hw 184 rfl)) rfl (hb hby d_method_3_41) k) ?_
          refine Go.step (T' := s₁) (g' := (mkF m 45 #[.val (.long (own_L x0)), .second] [(.int (lcmpW (own_L x0) (100000 : Int64)))])) (fun _ k => XS.lcmp X0.here hx rfl (hb hby d_method_3_44) rfl k) ?_
          by_cases hc105 : (lcmpW (own_L x0) (100000 : Int64)) < (0 : Int32)
          · skip
            refine Go.step (T' := s₁) (g' := (mkF m 48 #[.val (.long (own_L x0)), .second] [])) (fun _ k => XS.ifNo X0.here hx rfl (hb hby d_method_3_45) rfl ((if0 _ _).trans (tlt hc105).2.1) k) ?_
            refine Go.step (T' := s₁) (g' := (mkF m 49 #[.val (.long (own_L x0)), .second] [(.int (5 : Int32))])) (fun _ k => XS.iconst X0.here hx rfl (hb hby d_method_3_48) k) ?_
            exact Go.retI X0 hx hret hlk (hb hby d_method_3_49) (⟨congrArg (fun z => some (Value.int (Int32.ofNat z))) (own_nd5 (by have q : ¬ (own_L x0).toInt < 10000 := fun r => hc104 (own_lc.mpr r); have r := own_L_toInt x0; omega) (by have q : (own_L x0).toInt < 100000 := own_lc.mp hc105; have r := own_L_toInt x0; omega)).symm, N0, e0⟩) (by decide) (by decide)
          · skip
            refine Go.step (T' := s₁) (g' := (mkF m 50 #[.val (.long (own_L x0)), .second] [])) (fun _ k => XS.ifYes X0.here hx rfl (pc0 := 45) (pc' := 50) rfl (hb hby d_method_3_45) rfl ((if0 _ _).trans (flt hc105).2.1) (by decide) (by decide) k) ?_
            refine Go.step (T' := s₁) (g' := (mkF m 51 #[.val (.long (own_L x0)), .second] [(.long (own_L x0))])) (fun _ k => XS.lloadN X0.here hx rfl (hb hby d_method_3_50) rfl  k) ?_
            refine Go.step (T' := s₁) (g' := (mkF m 54 #[.val (.long (own_L x0)), .second] [(.long (1000000 : Int64)), (.long (own_L x0))])) (fun _ k => Jvm.Stand.ldc2J (g := (mkF m 51 #[.val (.long (own_L x0)), .second] [(.long (own_L x0))])) X0 hx hown (mvT hZ (hwi hw 185 rfl)) rfl (hb hby d_method_3_51) k) ?_
            refine Go.step (T' := s₁) (g' := (mkF m 55 #[.val (.long (own_L x0)), .second] [(.int (lcmpW (own_L x0) (1000000 : Int64)))])) (fun _ k => XS.lcmp X0.here hx rfl (hb hby d_method_3_54) rfl k) ?_
            by_cases hc106 : (lcmpW (own_L x0) (1000000 : Int64)) < (0 : Int32)
            · skip
              refine Go.step (T' := s₁) (g' := (mkF m 58 #[.val (.long (own_L x0)), .second] [])) (fun _ k => XS.ifNo X0.here hx rfl (hb hby d_method_3_55) rfl ((if0 _ _).trans (tlt hc106).2.1) k) ?_
              refine Go.step (T' := s₁) (g' := (mkF m 60 #[.val (.long (own_L x0)), .second] [(.int (6 : Int32))])) (fun _ k => XS.bipush X0.here hx rfl (hb hby d_method_3_58) k) ?_
              exact Go.retI X0 hx hret hlk (hb hby d_method_3_60) (⟨congrArg (fun z => some (Value.int (Int32.ofNat z))) (own_nd6 (by have q : ¬ (own_L x0).toInt < 100000 := fun r => hc105 (own_lc.mpr r); have r := own_L_toInt x0; omega) (by have q : (own_L x0).toInt < 1000000 := own_lc.mp hc106; have r := own_L_toInt x0; omega)).symm, N0, e0⟩) (by decide) (by decide)
            · skip
              refine Go.step (T' := s₁) (g' := (mkF m 61 #[.val (.long (own_L x0)), .second] [])) (fun _ k => XS.ifYes X0.here hx rfl (pc0 := 55) (pc' := 61) rfl (hb hby d_method_3_55) rfl ((if0 _ _).trans (flt hc106).2.1) (by decide) (by decide) k) ?_
              refine Go.step (T' := s₁) (g' := (mkF m 62 #[.val (.long (own_L x0)), .second] [(.long (own_L x0))])) (fun _ k => XS.lloadN X0.here hx rfl (hb hby d_method_3_61) rfl  k) ?_
              refine Go.step (T' := s₁) (g' := (mkF m 65 #[.val (.long (own_L x0)), .second] [(.long (10000000 : Int64)), (.long (own_L x0))])) (fun _ k => Jvm.Stand.ldc2J (g := (mkF m 62 #[.val (.long (own_L x0)), .second] [(.long (own_L x0))])) X0 hx hown (mvT hZ (hwi hw 186 rfl)) rfl (hb hby d_method_3_62) k) ?_
              refine Go.step (T' := s₁) (g' := (mkF m 66 #[.val (.long (own_L x0)), .second] [(.int (lcmpW (own_L x0) (10000000 : Int64)))])) (fun _ k => XS.lcmp X0.here hx rfl (hb hby d_method_3_65) rfl k) ?_
              by_cases hc107 : (lcmpW (own_L x0) (10000000 : Int64)) < (0 : Int32)
              · skip
                refine Go.step (T' := s₁) (g' := (mkF m 69 #[.val (.long (own_L x0)), .second] [])) (fun _ k => XS.ifNo X0.here hx rfl (hb hby d_method_3_66) rfl ((if0 _ _).trans (tlt hc107).2.1) k) ?_
                refine Go.step (T' := s₁) (g' := (mkF m 71 #[.val (.long (own_L x0)), .second] [(.int (7 : Int32))])) (fun _ k => XS.bipush X0.here hx rfl (hb hby d_method_3_69) k) ?_
                exact Go.retI X0 hx hret hlk (hb hby d_method_3_71) (⟨congrArg (fun z => some (Value.int (Int32.ofNat z))) (own_nd7 (by have q : ¬ (own_L x0).toInt < 1000000 := fun r => hc106 (own_lc.mpr r); have r := own_L_toInt x0; omega) (by have q : (own_L x0).toInt < 10000000 := own_lc.mp hc107; have r := own_L_toInt x0; omega)).symm, N0, e0⟩) (by decide) (by decide)
              · skip
                refine Go.step (T' := s₁) (g' := (mkF m 72 #[.val (.long (own_L x0)), .second] [])) (fun _ k => XS.ifYes X0.here hx rfl (pc0 := 66) (pc' := 72) rfl (hb hby d_method_3_66) rfl ((if0 _ _).trans (flt hc107).2.1) (by decide) (by decide) k) ?_
                refine Go.step (T' := s₁) (g' := (mkF m 73 #[.val (.long (own_L x0)), .second] [(.long (own_L x0))])) (fun _ k => XS.lloadN X0.here hx rfl (hb hby d_method_3_72) rfl  k) ?_
                refine Go.step (T' := s₁) (g' := (mkF m 76 #[.val (.long (own_L x0)), .second] [(.long (100000000 : Int64)), (.long (own_L x0))])) (fun _ k => Jvm.Stand.ldc2J (g := (mkF m 73 #[.val (.long (own_L x0)), .second] [(.long (own_L x0))])) X0 hx hown (mvT hZ (hwi hw 187 rfl)) rfl (hb hby d_method_3_73) k) ?_
                refine Go.step (T' := s₁) (g' := (mkF m 77 #[.val (.long (own_L x0)), .second] [(.int (lcmpW (own_L x0) (100000000 : Int64)))])) (fun _ k => XS.lcmp X0.here hx rfl (hb hby d_method_3_76) rfl k) ?_
                by_cases hc108 : (lcmpW (own_L x0) (100000000 : Int64)) < (0 : Int32)
                · skip
                  refine Go.step (T' := s₁) (g' := (mkF m 80 #[.val (.long (own_L x0)), .second] [])) (fun _ k => XS.ifNo X0.here hx rfl (hb hby d_method_3_77) rfl ((if0 _ _).trans (tlt hc108).2.1) k) ?_
                  refine Go.step (T' := s₁) (g' := (mkF m 82 #[.val (.long (own_L x0)), .second] [(.int (8 : Int32))])) (fun _ k => XS.bipush X0.here hx rfl (hb hby d_method_3_80) k) ?_
                  exact Go.retI X0 hx hret hlk (hb hby d_method_3_82) (⟨congrArg (fun z => some (Value.int (Int32.ofNat z))) (own_nd8 (by have q : ¬ (own_L x0).toInt < 10000000 := fun r => hc107 (own_lc.mpr r); have r := own_L_toInt x0; omega) (by have q : (own_L x0).toInt < 100000000 := own_lc.mp hc108; have r := own_L_toInt x0; omega)).symm, N0, e0⟩) (by decide) (by decide)
                · skip
                  refine Go.step (T' := s₁) (g' := (mkF m 83 #[.val (.long (own_L x0)), .second] [])) (fun _ k => XS.ifYes X0.here hx rfl (pc0 := 77) (pc' := 83) rfl (hb hby d_method_3_77) rfl ((if0 _ _).trans (flt hc108).2.1) (by decide) (by decide) k) ?_
                  refine Go.step (T' := s₁) (g' := (mkF m 84 #[.val (.long (own_L x0)), .second] [(.long (own_L x0))])) (fun _ k => XS.lloadN X0.here hx rfl (hb hby d_method_3_83) rfl  k) ?_
                  refine Go.step (T' := s₁) (g' := (mkF m 87 #[.val (.long (own_L x0)), .second] [(.long (1000000000 : Int64)), (.long (own_L x0))])) (fun _ k => Jvm.Stand.ldc2J (g := (mkF m 84 #[.val (.long (own_L x0)), .second] [(.long (own_L x0))])) X0 hx hown (mvT hZ (hwi hw 188 rfl)) rfl (hb hby d_method_3_84) k) ?_
                  refine Go.step (T' := s₁) (g' := (mkF m 88 #[.val (.long (own_L x0)), .second] [(.int (lcmpW (own_L x0) (1000000000 : Int64)))])) (fun _ k => XS.lcmp X0.here hx rfl (hb hby d_method_3_87) rfl k) ?_
                  by_cases hc109 : (lcmpW (own_L x0) (1000000000 : Int64)) < (0 : Int32)
                  · skip
                    refine Go.step (T' := s₁) (g' := (mkF m 91 #[.val (.long (own_L x0)), .second] [])) (fun _ k => XS.ifNo X0.here hx rfl (hb hby d_method_3_88) rfl ((if0 _ _).trans (tlt hc109).2.1) k) ?_
                    refine Go.step (T' := s₁) (g' := (mkF m 93 #[.val (.long (own_L x0)), .second] [(.int (9 : Int32))])) (fun _ k => XS.bipush X0.here hx rfl (hb hby d_method_3_91) k) ?_
                    exact Go.retI X0 hx hret hlk (hb hby d_method_3_93) (⟨congrArg (fun z => some (Value.int (Int32.ofNat z))) (own_nd9 (by have q : ¬ (own_L x0).toInt < 100000000 := fun r => hc108 (own_lc.mpr r); have r := own_L_toInt x0; omega) (by have q : (own_L x0).toInt < 1000000000 := own_lc.mp hc109; have r := own_L_toInt x0; omega)).symm, N0, e0⟩) (by decide) (by decide)
                  · skip
                    refine Go.step (T' := s₁) (g' := (mkF m 94 #[.val (.long (own_L x0)), .second] [])) (fun _ k => XS.ifYes X0.here hx rfl (pc0 := 88) (pc' := 94) rfl (hb hby d_method_3_88) rfl ((if0 _ _).trans (flt hc109).2.1) (by decide) (by decide) k) ?_
                    refine Go.step (T' := s₁) (g' := (mkF m 96 #[.val (.long (own_L x0)), .second] [(.int (10 : Int32))])) (fun _ k => XS.bipush X0.here hx rfl (hb hby d_method_3_94) k) ?_
                    exact Go.retI X0 hx hret hlk (hb hby d_method_3_96) (⟨congrArg (fun z => some (Value.int (Int32.ofNat z))) (own_nd10 (by have q : ¬ (own_L x0).toInt < 1000000000 := fun r => hc109 (own_lc.mpr r); have r := own_L_toInt x0; omega) trivial).symm, N0, e0⟩) (by decide) (by decide)
theorem own_ef_jdk_65_method_131_code_II (m : MethodId) (x0 : Int32) (x1 : Int32) : entryFrame m #[(.int x0), (.int x1)] 2 = mkF m 0 #[.val (.int x0), .val (.int x1)] [] := by first | (simp [entryFrame, mkF, argsToLocals, Value.category]; done) | rfl | (simp [entryFrame, mkF, argsToLocals, own_cI, own_cJ, own_cR, own_cN]; done)
theorem own_pn_Arrays : plainName "java/util/Arrays" = true := by first | (simp [plainName, overriddenIn]; done) | decide +kernel
theorem d_jdk_65_method_131_0 : decode jdk_65_method_131_code 0 = .ok (.iload_n 1, 1) := by decide +kernel
theorem d_jdk_65_method_131_1 : decode jdk_65_method_131_code 1 = .ok (.iload_n 0, 1) := by decide +kernel
theorem d_jdk_65_method_131_2 : decode jdk_65_method_131_code 2 = .ok (.if_icmp .ge 35, 3) := by decide +kernel
theorem d_jdk_65_method_131_37 : decode jdk_65_method_131_code 37 = .ok (.return_, 1) := by decide +kernel
set_option maxRecDepth 65536 in
set_option maxHeartbeats 40000000 in
theorem own_ckl (l : Launch) (Z : State) (a0 : Array Value) (hw : ∀ d ∈ tables_1, d.before a0 Z = true) (ws : List Jvm.Cond) (p1 : Int32) (h0 : Heap) (n0 : Nat) (Z0 : n0 ≤ h0.size) (hge : ¬ p1 < (0 : Int32)) :
    Con l Z (⟨"java/util/Arrays", "checkLength", "(II)V"⟩ : MethodName) jdk_65_method_131_code 2 none ({ frames := 0, cells := 0, slots := 0, locals := 0 } : Room) ws #[(.int (0 : Int32)), (.int p1)] h0 (Qret none h0 n0) 0 0 := by
  refine Con.of (plainFor_of_name own_pn_Arrays) ?_
  intro pgm e s m below meth c s₁ X0 hx hZ hby hml hown hnm hret hlk e0 hs0
  have N0 := Fr.nil n0
  have hown : s.vm.findClass "java/util/Arrays" = some m.cls := hown
  have hnm : meth.name = "checkLength" := hnm
  refine Go.cast (own_ef_jdk_65_method_131_code_II m (0 : Int32) p1) ?_
  refine Go.step (T' := s₁) (g' := (mkF m 1 #[.val (.int (0 : Int32)), .val (.int p1)] [(.int p1)])) (fun _ k => XS.iloadN X0.here hx rfl (hb hby d_jdk_65_method_131_0) rfl  k) ?_
  refine Go.step (T' := s₁) (g' := (mkF m 2 #[.val (.int (0 : Int32)), .val (.int p1)] [(.int (0 : Int32)), (.int p1)])) (fun _ k => XS.iloadN X0.here hx rfl (hb hby d_jdk_65_method_131_1) rfl  k) ?_
  refine Go.step (T' := s₁) (g' := (mkF m 37 #[.val (.int (0 : Int32)), .val (.int p1)] [])) (fun _ k => XS.icmpYes X0.here hx rfl (pc0 := 2) (pc' := 37) rfl (hb hby d_jdk_65_method_131_2) rfl (flt hge).2.1 (by decide) (by decide) k) ?_
  exact Go.retV X0 hx hret hlk (hb hby d_jdk_65_method_131_37) (⟨rfl, N0, e0⟩) (by decide) (by decide)
theorem own_sub0 (n : Int32) : n - (0 : Int32) = n := Int32.sub_zero n
theorem own_take {n : Nat} {vs : List Value} (h : n < 1000) (hl : n ≤ vs.length) : vs.take n = (List.range (Int32.ofNat n).toNatClampNeg).map fun i => vs.getD ((0 : Int32).toNatClampNeg + i) (.int (0 : Int32)) := by
  rw [own_clamp (by omega)]
  refine List.ext_getElem (by simp; omega) fun i h1 h2 => ?_
  simp only [List.length_take] at h1
  have : i < vs.length := by omega
  simp [List.getD_eq_getElem?_getD, this]
theorem own_cpT {n : Nat} {d : Value} {vs : List Value} (h : n < 1000) (hl : n ≤ vs.length) : ((List.replicate n d).take ((0 : Int32)).toNatClampNeg ++ vs.take n ++ (List.replicate n d).drop (((0 : Int32)).toNatClampNeg + ((Int32.ofNat n)).toNatClampNeg)) = vs.take n := by
  rw [own_clamp (by omega), show ((0 : Int32)).toNatClampNeg = 0 from rfl]
  simp
def Qcor (Z : State) (N : Nat) (vs : List Value) (h0 : Heap) (n0 : Nat) (v : Option Value) (h : Heap) (L : List Loc) : Prop := ∃ (b : Addr) (k : ClassId), v = some (.ref b) ∧ Fr n0 L ∧ Keep h0 h [] ∧ h0.size ≤ b ∧ Exa Z h b "[B" ∧ Arv Z h b k .byte (Int32.ofNat N) (vs.take N) (.int (0 : Int32))
theorem own_ef_jdk_65_method_133_code_RII (m : MethodId) (x0 : Addr) (x1 : Int32) (x2 : Int32) : entryFrame m #[(.ref x0), (.int x1), (.int x2)] 5 = mkF m 0 #[.val (.ref x0), .val (.int x1), .val (.int x2), .unset, .unset] [] := by first | (simp [entryFrame, mkF, argsToLocals, Value.category]; done) | rfl | (simp [entryFrame, mkF, argsToLocals, own_cI, own_cJ, own_cR, own_cN]; done)
theorem d_jdk_65_method_133_0 : decode jdk_65_method_133_code 0 = .ok (.iload_n 1, 1) := by decide +kernel
theorem d_jdk_65_method_133_1 : decode jdk_65_method_133_code 1 = .ok (.iload_n 2, 1) := by decide +kernel
theorem d_jdk_65_method_133_2 : decode jdk_65_method_133_code 2 = .ok (.invokestatic 343, 3) := by decide +kernel
theorem d_jdk_65_method_133_5 : decode jdk_65_method_133_code 5 = .ok (.iload_n 2, 1) := by decide +kernel
theorem d_jdk_65_method_133_6 : decode jdk_65_method_133_code 6 = .ok (.iload_n 1, 1) := by decide +kernel
theorem d_jdk_65_method_133_7 : decode jdk_65_method_133_code 7 = .ok (.isub, 1) := by decide +kernel
theorem d_jdk_65_method_133_8 : decode jdk_65_method_133_code 8 = .ok (.istore_n 3, 1) := by decide +kernel
theorem d_jdk_65_method_133_9 : decode jdk_65_method_133_code 9 = .ok (.iload_n 3, 1) := by decide +kernel
theorem d_jdk_65_method_133_10 : decode jdk_65_method_133_code 10 = .ok (.newarray .byte, 2) := by decide +kernel
theorem d_jdk_65_method_133_12 : decode jdk_65_method_133_code 12 = .ok (.astore 4, 2) := by decide +kernel
theorem d_jdk_65_method_133_14 : decode jdk_65_method_133_code 14 = .ok (.aload_n 0, 1) := by decide +kernel
theorem d_jdk_65_method_133_15 : decode jdk_65_method_133_code 15 = .ok (.iload_n 1, 1) := by decide +kernel
theorem d_jdk_65_method_133_16 : decode jdk_65_method_133_code 16 = .ok (.aload 4, 2) := by decide +kernel
theorem d_jdk_65_method_133_18 : decode jdk_65_method_133_code 18 = .ok (.iconst 0, 1) := by decide +kernel
theorem d_jdk_65_method_133_19 : decode jdk_65_method_133_code 19 = .ok (.aload_n 0, 1) := by decide +kernel
theorem d_jdk_65_method_133_20 : decode jdk_65_method_133_code 20 = .ok (.arraylength, 1) := by decide +kernel
theorem d_jdk_65_method_133_21 : decode jdk_65_method_133_code 21 = .ok (.iload_n 1, 1) := by decide +kernel
theorem d_jdk_65_method_133_22 : decode jdk_65_method_133_code 22 = .ok (.isub, 1) := by decide +kernel
theorem d_jdk_65_method_133_23 : decode jdk_65_method_133_code 23 = .ok (.iload_n 3, 1) := by decide +kernel
theorem d_jdk_65_method_133_24 : decode jdk_65_method_133_code 24 = .ok (.invokestatic 304, 3) := by decide +kernel
theorem own_pd14 : parseMethodDescriptor "(II)I" = some ⟨[.int, .int], some .int⟩ := by decide +kernel
theorem d_jdk_65_method_133_27 : decode jdk_65_method_133_code 27 = .ok (.invokestatic 150, 3) := by decide +kernel
theorem d_jdk_65_method_133_30 : decode jdk_65_method_133_code 30 = .ok (.aload 4, 2) := by decide +kernel
theorem d_jdk_65_method_133_32 : decode jdk_65_method_133_code 32 = .ok (.areturn, 1) := by decide +kernel
set_option maxRecDepth 65536 in
set_option maxHeartbeats 40000000 in
theorem own_corb (l : Launch) (Z : State) (a0 : Array Value) (hw : ∀ d ∈ tables_1, d.before a0 Z = true) (ws : List Jvm.Cond) (b1 : Addr) (N : Nat) (k1 : ClassId) (vs : List Value) (h0 : Heap) (n0 : Nat) (Z0 : n0 ≤ h0.size) (V1 : Arv Z h0 b1 k1 .byte (16 : Int32) vs (.int (0 : Int32))) (EB1 : Exa Z h0 b1 "[B") (hN : N ≤ 16) (hl : vs.length = 16) (hN' : N < 16) :
    Con l Z (⟨"java/util/Arrays", "copyOfRangeByte", "([BII)[B"⟩ : MethodName) jdk_65_method_133_code 5 (some (.array .byte)) ({ frames := 1, cells := 1, slots := 16, locals := 18 } : Room) ws #[(.ref b1), (.int (0 : Int32)), (.int (Int32.ofNat N))] h0 (Qcor Z N vs h0 n0) 1 16 := by
  refine Con.of (plainFor_of_name own_pn_Arrays) ?_
  intro pgm e s m below meth c s₁ X0 hx hZ hby hml hown hnm hret hlk e0 hs0
  have N0 := Fr.nil n0
  have hown : s.vm.findClass "java/util/Arrays" = some m.cls := hown
  have hnm : meth.name = "copyOfRangeByte" := hnm
  refine Go.cast (own_ef_jdk_65_method_133_code_RII m b1 (0 : Int32) (Int32.ofNat N)) ?_
  have K0 := Keep.refl h0 []
  refine Go.step (T' := s₁) (g' := (mkF m 1 #[.val (.ref b1), .val (.int (0 : Int32)), .val (.int (Int32.ofNat N)), .unset, .unset] [(.int (0 : Int32))])) (fun _ k => XS.iloadN X0.here hx rfl (hb hby d_jdk_65_method_133_0) rfl  k) ?_
  refine Go.step (T' := s₁) (g' := (mkF m 2 #[.val (.ref b1), .val (.int (0 : Int32)), .val (.int (Int32.ofNat N)), .unset, .unset] [(.int (Int32.ofNat N)), (.int (0 : Int32))])) (fun _ k => XS.iloadN X0.here hx rfl (hb hby d_jdk_65_method_133_1) rfl  k) ?_
  obtain ⟨_, _, ⟨T101, L101, k101, n101⟩, -, X101, ⟨Lc101, hQ101, l101, y101, z101⟩, st101⟩ := Jvm.LawKit.callS X0 hx (y := (⟨"java/util/Arrays", "checkLength", "(II)V"⟩ : MethodName)) hown (mvT hZ (hwi hw 139 rfl)) (mvT hZ (hwi hw 140 rfl)) (mvT hZ (hwi hw 134 rfl)) (mvT hZ (hwi hw 141 rfl)) (by decide) (backOf (W := 0) (Q := Qret none h0 n0) (own_ckl l Z a0 hw [] (Int32.ofNat N) h0 n0 Z0 (own_ge0 (by omega))) hZ (hwi hw 141 rfl) (hwi hw 134 rfl) (by decide) (by decide)) (g := (mkF m 2 #[.val (.ref b1), .val (.int (0 : Int32)), .val (.int (Int32.ofNat N)), .unset, .unset] [(.int (Int32.ofNat N)), (.int (0 : Int32))])) rfl (by rw [hml]; rfl) (argsL := [(.int (0 : Int32)), (.int (Int32.ofNat N))]) (rest := []) (lenOf own_pd2 rfl) rfl (by show 2 * 0 + _ ≤ _; exact Nat.le_of_eq rfl) (hb hby d_jdk_65_method_133_2) (fun _ _ => ⟨rfl, e0, (by decide : 0 + 0 ≤ _), (by decide : 0 + 0 ≤ _)⟩)
  dsimp only [Pt.U, Pt.locs, Pt.cells, Pt.slots] at X101 l101 y101 z101 st101 hQ101
  subst l101 y101 z101
  obtain ⟨rfl, N101q, eh101⟩ := hQ101
  have N101 := Fr.app N0 N101q
  refine Go.step (T' := T101) (g' := (mkF m 5 #[.val (.ref b1), .val (.int (0 : Int32)), .val (.int (Int32.ofNat N)), .unset, .unset] [])) (st101) ?_
  refine Go.step (T' := T101) (g' := (mkF m 6 #[.val (.ref b1), .val (.int (0 : Int32)), .val (.int (Int32.ofNat N)), .unset, .unset] [(.int (Int32.ofNat N))])) (fun _ k => XS.iloadN X101.here hx rfl (hb hby d_jdk_65_method_133_5) rfl  k) ?_
  refine Go.step (T' := T101) (g' := (mkF m 7 #[.val (.ref b1), .val (.int (0 : Int32)), .val (.int (Int32.ofNat N)), .unset, .unset] [(.int (0 : Int32)), (.int (Int32.ofNat N))])) (fun _ k => XS.iloadN X101.here hx rfl (hb hby d_jdk_65_method_133_6) rfl  k) ?_
  refine Go.step (T' := T101) (g' := (mkF m 8 #[.val (.ref b1), .val (.int (0 : Int32)), .val (.int (Int32.ofNat N)), .unset, .unset] [(.int ((Int32.ofNat N) - (0 : Int32)))])) (fun _ k => XS.isub X101.here hx rfl (hb hby d_jdk_65_method_133_7) rfl k) ?_
  rw [own_sub0]
  refine Go.step (T' := T101) (g' := (mkF m 9 #[.val (.ref b1), .val (.int (0 : Int32)), .val (.int (Int32.ofNat N)), .val (.int (Int32.ofNat N)), .unset] [])) (fun _ k => XS.istoreN X101.here hx rfl (hb hby d_jdk_65_method_133_8) rfl (l' := #[.val (.ref b1), .val (.int (0 : Int32)), .val (.int (Int32.ofNat N)), .val (.int (Int32.ofNat N)), .unset]) rfl k) ?_
  refine Go.step (T' := T101) (g' := (mkF m 10 #[.val (.ref b1), .val (.int (0 : Int32)), .val (.int (Int32.ofNat N)), .val (.int (Int32.ofNat N)), .unset] [(.int (Int32.ofNat N))])) (fun _ k => XS.iloadN X101.here hx rfl (hb hby d_jdk_65_method_133_9) rfl  k) ?_
  obtain ⟨T102, h102, k102, X102, e102, E102, A102, EA102, st102⟩ := newPE X101 hx hZ (hwi hw 21 rfl) eh101 (g := (mkF m 10 #[.val (.ref b1), .val (.int (0 : Int32)), .val (.int (Int32.ofNat N)), .val (.int (Int32.ofNat N)), .unset] [(.int (Int32.ofNat N))])) rfl (hb hby d_jdk_65_method_133_10) rfl (own_ge0 (by omega)) (cap := 16) (by rw [own_clamp (by omega)]; omega) (by decide) (by decide) (by decide) (ad := "[B") (by decide)
  obtain ⟨b102, g102⟩ : ∃ z, z = h0.size := ⟨_, rfl⟩
  rw [← g102] at A102 EA102 st102
  have ne103 : b1 ≠ b102 := by have q := V1.lt; intro r; rw [r, g102] at q; exact Nat.lt_irrefl _ q
  have ge102 : n0 ≤ b102 := Nat.le_trans Z0 (Nat.le_of_eq g102.symm)
  have Z102 : n0 ≤ h102.size := Nat.le_trans Z0 E102.1
  have sz102 : h0.size ≤ b102 := Nat.le_trans K0.1 (Nat.le_of_eq g102.symm)
  have K102 := K0.ext E102
  have F104 := V1.ext E102
  have F105 := EB1.ext E102
  have V102 : Arv Z h102 b102 k102 .byte (Int32.ofNat N) (List.replicate N (.int (0 : Int32))) (.int (0 : Int32)) := (Arv.new A102 (own_ge0 (by omega))).pad (own_padr N)
  refine Go.step (T' := T102) (g' := (mkF m 12 #[.val (.ref b1), .val (.int (0 : Int32)), .val (.int (Int32.ofNat N)), .val (.int (Int32.ofNat N)), .unset] [(.ref b102)])) st102 ?_
  refine Go.step (T' := T102) (g' := (mkF m 14 #[.val (.ref b1), .val (.int (0 : Int32)), .val (.int (Int32.ofNat N)), .val (.int (Int32.ofNat N)), .val (.ref b102)] [])) (fun _ k => XS.astore X102.here hx rfl (hb hby d_jdk_65_method_133_12) rfl rfl (l' := #[.val (.ref b1), .val (.int (0 : Int32)), .val (.int (Int32.ofNat N)), .val (.int (Int32.ofNat N)), .val (.ref b102)]) rfl k) ?_
  refine Go.step (T' := T102) (g' := (mkF m 15 #[.val (.ref b1), .val (.int (0 : Int32)), .val (.int (Int32.ofNat N)), .val (.int (Int32.ofNat N)), .val (.ref b102)] [(.ref b1)])) (fun _ k => XS.aloadN X102.here hx rfl (hb hby d_jdk_65_method_133_14) rfl rfl k) ?_
  refine Go.step (T' := T102) (g' := (mkF m 16 #[.val (.ref b1), .val (.int (0 : Int32)), .val (.int (Int32.ofNat N)), .val (.int (Int32.ofNat N)), .val (.ref b102)] [(.int (0 : Int32)), (.ref b1)])) (fun _ k => XS.iloadN X102.here hx rfl (hb hby d_jdk_65_method_133_15) rfl  k) ?_
  refine Go.step (T' := T102) (g' := (mkF m 18 #[.val (.ref b1), .val (.int (0 : Int32)), .val (.int (Int32.ofNat N)), .val (.int (Int32.ofNat N)), .val (.ref b102)] [(.ref b102), (.int (0 : Int32)), (.ref b1)])) (fun _ k => XS.aload X102.here hx rfl (hb hby d_jdk_65_method_133_16) rfl rfl k) ?_
  refine Go.step (T' := T102) (g' := (mkF m 19 #[.val (.ref b1), .val (.int (0 : Int32)), .val (.int (Int32.ofNat N)), .val (.int (Int32.ofNat N)), .val (.ref b102)] [(.int (0 : Int32)), (.ref b102), (.int (0 : Int32)), (.ref b1)])) (fun _ k => XS.iconst X102.here hx rfl (hb hby d_jdk_65_method_133_18) k) ?_
  refine Go.step (T' := T102) (g' := (mkF m 20 #[.val (.ref b1), .val (.int (0 : Int32)), .val (.int (Int32.ofNat N)), .val (.int (Int32.ofNat N)), .val (.ref b102)] [(.ref b1), (.int (0 : Int32)), (.ref b102), (.int (0 : Int32)), (.ref b1)])) (fun _ k => XS.aloadN X102.here hx rfl (hb hby d_jdk_65_method_133_19) rfl rfl k) ?_
  obtain ⟨cl106, Ar106, -, S106, M106, -, -⟩ := id F104
  refine Go.step (T' := T102) (g' := (mkF m 21 #[.val (.ref b1), .val (.int (0 : Int32)), .val (.int (Int32.ofNat N)), .val (.int (Int32.ofNat N)), .val (.ref b102)] [(.int (16 : Int32)), (.int (0 : Int32)), (.ref b102), (.int (0 : Int32)), (.ref b1)])) (fun _ k => X102.arraylength hx (cell := cl106) (by rw [e102]; exact Ar106.1) (State.isArrayOf_alike hZ.alike Ar106.2.1) (g := (mkF m 20 #[.val (.ref b1), .val (.int (0 : Int32)), .val (.int (Int32.ofNat N)), .val (.int (Int32.ofNat N)), .val (.ref b102)] [(.ref b1), (.int (0 : Int32)), (.ref b102), (.int (0 : Int32)), (.ref b1)])) rfl (rest := [(.int (0 : Int32)), (.ref b102), (.int (0 : Int32)), (.ref b1)]) rfl (hb hby d_jdk_65_method_133_20) _ (by rw [len_of S106 M106]; exact k)) ?_
  refine Go.step (T' := T102) (g' := (mkF m 22 #[.val (.ref b1), .val (.int (0 : Int32)), .val (.int (Int32.ofNat N)), .val (.int (Int32.ofNat N)), .val (.ref b102)] [(.int (0 : Int32)), (.int (16 : Int32)), (.int (0 : Int32)), (.ref b102), (.int (0 : Int32)), (.ref b1)])) (fun _ k => XS.iloadN X102.here hx rfl (hb hby d_jdk_65_method_133_21) rfl  k) ?_
  refine Go.step (T' := T102) (g' := (mkF m 23 #[.val (.ref b1), .val (.int (0 : Int32)), .val (.int (Int32.ofNat N)), .val (.int (Int32.ofNat N)), .val (.ref b102)] [(.int (16 : Int32)), (.int (0 : Int32)), (.ref b102), (.int (0 : Int32)), (.ref b1)])) (fun _ k => XS.isub X102.here hx rfl (hb hby d_jdk_65_method_133_22) rfl k) ?_
  refine Go.step (T' := T102) (g' := (mkF m 24 #[.val (.ref b1), .val (.int (0 : Int32)), .val (.int (Int32.ofNat N)), .val (.int (Int32.ofNat N)), .val (.ref b102)] [(.int (Int32.ofNat N)), (.int (16 : Int32)), (.int (0 : Int32)), (.ref b102), (.int (0 : Int32)), (.ref b1)])) (fun _ k => XS.iloadN X102.here hx rfl (hb hby d_jdk_65_method_133_23) rfl  k) ?_
  obtain ⟨_, _, ⟨T107, L107, k107, n107⟩, -, X107, ⟨Lc107, hQ107, l107, y107, z107⟩, st107⟩ := Jvm.LawKit.callS X102 hx (y := (⟨"java/lang/Math", "min", "(II)I"⟩ : MethodName)) hown (mvT hZ (hwi hw 142 rfl)) (mvT hZ (hwi hw 143 rfl)) (mvT hZ (hwi hw 144 rfl)) (mvT hZ (hwi hw 145 rfl)) (by decide) (backOf (W := 4) (Q := Qret (some (.int (Int32.ofNat N))) h102 n0) (own_min l Z a0 hw [] (16 : Int32) (Int32.ofNat N) h102 n0 Z102 (own_inb (n := 16) (by decide) hN').2) hZ (hwi hw 145 rfl) (hwi hw 144 rfl) (by decide) (by decide)) (g := (mkF m 24 #[.val (.ref b1), .val (.int (0 : Int32)), .val (.int (Int32.ofNat N)), .val (.int (Int32.ofNat N)), .val (.ref b102)] [(.int (Int32.ofNat N)), (.int (16 : Int32)), (.int (0 : Int32)), (.ref b102), (.int (0 : Int32)), (.ref b1)])) rfl (by rw [hml]; rfl) (argsL := [(.int (16 : Int32)), (.int (Int32.ofNat N))]) (rest := [(.int (0 : Int32)), (.ref b102), (.int (0 : Int32)), (.ref b1)]) (lenOf own_pd14 rfl) rfl (by show 2 * 0 + _ ≤ _; exact Nat.le_of_eq rfl) (hb hby d_jdk_65_method_133_24) (fun _ _ => ⟨rfl, e102, (by decide : 1 + 0 ≤ _), (by decide : 16 + 0 ≤ _)⟩)
  dsimp only [Pt.U, Pt.locs, Pt.cells, Pt.slots] at X107 l107 y107 z107 st107 hQ107
  subst l107 y107 z107
  obtain ⟨rfl, N107q, eh107⟩ := hQ107
  have N107 := Fr.app N101 N107q
  refine Go.step (T' := T107) (g' := (mkF m 27 #[.val (.ref b1), .val (.int (0 : Int32)), .val (.int (Int32.ofNat N)), .val (.int (Int32.ofNat N)), .val (.ref b102)] [(.int (Int32.ofNat N)), (.int (0 : Int32)), (.ref b102), (.int (0 : Int32)), (.ref b1)])) (st107) ?_
  obtain ⟨T108, h108, L108, X108, e108, N108, KC108, A108, st108⟩ := cpA X107 hx hZ hown (hwi hw 146 rfl) (hwi hw 103 rfl) (hwi hw 101 rfl) (hwi hw 102 rfl) eh107 (us := (vs.take N)) (sp := (0 : Int32)) (dp := (0 : Int32)) (nn := (Int32.ofNat N)) F104 V102 (Or.inl ⟨rfl, rfl⟩) (by decide) (by decide) (own_ge0 (by omega)) (by rw [own_clamp (by omega)]; show 0 + N ≤ 16; omega) (by rw [own_clamp (by omega)]; show 0 + N ≤ N; omega) (own_take (by omega) (by omega)) (by rw [own_clamp (by omega), List.length_replicate]; show 0 + N ≤ N; omega) N107 ge102 (g := (mkF m 27 #[.val (.ref b1), .val (.int (0 : Int32)), .val (.int (Int32.ofNat N)), .val (.int (Int32.ofNat N)), .val (.ref b102)] [(.int (Int32.ofNat N)), (.int (0 : Int32)), (.ref b102), (.int (0 : Int32)), (.ref b1)])) rfl (by rw [hml]; rfl) rfl (hb hby d_jdk_65_method_133_27) (by decide) (W := 0) (by show 2 * 0 + _ ≤ _; exact Nat.le_of_eq rfl) (by decide)
  have V108 : Arv Z h108 b102 k102 .byte (Int32.ofNat N) ((List.replicate N (.int (0 : Int32))).take ((0 : Int32)).toNatClampNeg ++ (vs.take N) ++ (List.replicate N (.int (0 : Int32))).drop (((0 : Int32)).toNatClampNeg + ((Int32.ofNat N)).toNatClampNeg)) (.int (0 : Int32)) := A108
  have KK108 := K102.trans KC108 (allS (Or.inr sz102) all0)
  have Z108 : n0 ≤ h108.size := Nat.le_trans Z102 KC108.1
  have F109 := F104.keep KC108 (ninS ne103 nin0)
  have F110 := F105.keep KC108
  have F111 := EA102.keep KC108
  refine Go.step (T' := T108) (g' := (mkF m 30 #[.val (.ref b1), .val (.int (0 : Int32)), .val (.int (Int32.ofNat N)), .val (.int (Int32.ofNat N)), .val (.ref b102)] [])) st108 ?_
  refine Go.step (T' := T108) (g' := (mkF m 32 #[.val (.ref b1), .val (.int (0 : Int32)), .val (.int (Int32.ofNat N)), .val (.int (Int32.ofNat N)), .val (.ref b102)] [(.ref b102)])) (fun _ k => XS.aload X108.here hx rfl (hb hby d_jdk_65_method_133_30) rfl rfl k) ?_
  have Vf := V108
  rw [own_cpT (by omega) (by omega)] at Vf
  exact Go.retA X108 hx (t := (.array .byte)) hret rfl hlk rfl (hb hby d_jdk_65_method_133_32) (by rw [e108]; exact ⟨b102, _, rfl, N108, KK108, sz102, F111, Vf⟩) (by decide) (by decide)
theorem own_ef_jdk_65_method_132_code_RII (m : MethodId) (x0 : Addr) (x1 : Int32) (x2 : Int32) : entryFrame m #[(.ref x0), (.int x1), (.int x2)] 3 = mkF m 0 #[.val (.ref x0), .val (.int x1), .val (.int x2)] [] := by first | (simp [entryFrame, mkF, argsToLocals, Value.category]; done) | rfl | (simp [entryFrame, mkF, argsToLocals, own_cI, own_cJ, own_cR, own_cN]; done)
theorem d_jdk_65_method_132_0 : decode jdk_65_method_132_code 0 = .ok (.iload_n 1, 1) := by decide +kernel
theorem d_jdk_65_method_132_1 : decode jdk_65_method_132_code 1 = .ok (.ifCond .ne 9, 3) := by decide +kernel
theorem d_jdk_65_method_132_4 : decode jdk_65_method_132_code 4 = .ok (.iload_n 2, 1) := by decide +kernel
theorem d_jdk_65_method_132_5 : decode jdk_65_method_132_code 5 = .ok (.aload_n 0, 1) := by decide +kernel
theorem d_jdk_65_method_132_6 : decode jdk_65_method_132_code 6 = .ok (.arraylength, 1) := by decide +kernel
theorem d_jdk_65_method_132_7 : decode jdk_65_method_132_code 7 = .ok (.if_icmp .eq 10, 3) := by decide +kernel
theorem d_jdk_65_method_132_17 : decode jdk_65_method_132_code 17 = .ok (.aload_n 0, 1) := by decide +kernel
theorem d_jdk_65_method_132_18 : decode jdk_65_method_132_code 18 = .ok (.invokevirtual 310, 3) := by decide +kernel
theorem d_jdk_65_method_132_21 : decode jdk_65_method_132_code 21 = .ok (.checkcast 311, 3) := by decide +kernel
theorem d_jdk_65_method_132_24 : decode jdk_65_method_132_code 24 = .ok (.areturn, 1) := by decide +kernel
theorem d_jdk_65_method_132_10 : decode jdk_65_method_132_code 10 = .ok (.aload_n 0, 1) := by decide +kernel
theorem d_jdk_65_method_132_11 : decode jdk_65_method_132_code 11 = .ok (.iload_n 1, 1) := by decide +kernel
theorem d_jdk_65_method_132_12 : decode jdk_65_method_132_code 12 = .ok (.iload_n 2, 1) := by decide +kernel
theorem d_jdk_65_method_132_13 : decode jdk_65_method_132_code 13 = .ok (.invokestatic 339, 3) := by decide +kernel
theorem own_pd15 : parseMethodDescriptor "([BII)[B" = some ⟨[(.array .byte), .int, .int], some (.array .byte)⟩ := by decide +kernel
theorem d_jdk_65_method_132_16 : decode jdk_65_method_132_code 16 = .ok (.areturn, 1) := by decide +kernel
set_option maxRecDepth 65536 in
set_option maxHeartbeats 40000000 in
theorem own_cor (l : Launch) (Z : State) (a0 : Array Value) (hw : ∀ d ∈ tables_1, d.before a0 Z = true) (ws : List Jvm.Cond) (b1 : Addr) (N : Nat) (k1 : ClassId) (vs : List Value) (h0 : Heap) (n0 : Nat) (Z0 : n0 ≤ h0.size) (V1 : Arv Z h0 b1 k1 .byte (16 : Int32) vs (.int (0 : Int32))) (EB1 : Exa Z h0 b1 "[B") (hN : N ≤ 16) (hl : vs.length = 16) :
    Con l Z (⟨"java/util/Arrays", "copyOfRange", "([BII)[B"⟩ : MethodName) jdk_65_method_132_code 3 (some (.array .byte)) ({ frames := 2, cells := 1, slots := 16, locals := 34 } : Room) ws #[(.ref b1), (.int (0 : Int32)), (.int (Int32.ofNat N))] h0 (Qcor Z N vs h0 n0) 1 16 := by
  refine Con.of (plainFor_of_name own_pn_Arrays) ?_
  intro pgm e s m below meth c s₁ X0 hx hZ hby hml hown hnm hret hlk e0 hs0
  have N0 := Fr.nil n0
  have hown : s.vm.findClass "java/util/Arrays" = some m.cls := hown
  have hnm : meth.name = "copyOfRange" := hnm
  refine Go.cast (own_ef_jdk_65_method_132_code_RII m b1 (0 : Int32) (Int32.ofNat N)) ?_
  have K0 := Keep.refl h0 []
  refine Go.step (T' := s₁) (g' := (mkF m 1 #[.val (.ref b1), .val (.int (0 : Int32)), .val (.int (Int32.ofNat N))] [(.int (0 : Int32))])) (fun _ k => XS.iloadN X0.here hx rfl (hb hby d_jdk_65_method_132_0) rfl  k) ?_
  refine Go.step (T' := s₁) (g' := (mkF m 4 #[.val (.ref b1), .val (.int (0 : Int32)), .val (.int (Int32.ofNat N))] [])) (fun _ k => XS.ifNo X0.here hx rfl (hb hby d_jdk_65_method_132_1) rfl ((if0 _ _).trans (teq (by decide : (0 : Int32) = (0 : Int32))).2) k) ?_
  refine Go.step (T' := s₁) (g' := (mkF m 5 #[.val (.ref b1), .val (.int (0 : Int32)), .val (.int (Int32.ofNat N))] [(.int (Int32.ofNat N))])) (fun _ k => XS.iloadN X0.here hx rfl (hb hby d_jdk_65_method_132_4) rfl  k) ?_
  refine Go.step (T' := s₁) (g' := (mkF m 6 #[.val (.ref b1), .val (.int (0 : Int32)), .val (.int (Int32.ofNat N))] [(.ref b1), (.int (Int32.ofNat N))])) (fun _ k => XS.aloadN X0.here hx rfl (hb hby d_jdk_65_method_132_5) rfl rfl k) ?_
  obtain ⟨cl101, Ar101, -, S101, M101, -, -⟩ := id V1
  refine Go.step (T' := s₁) (g' := (mkF m 7 #[.val (.ref b1), .val (.int (0 : Int32)), .val (.int (Int32.ofNat N))] [(.int (16 : Int32)), (.int (Int32.ofNat N))])) (fun _ k => X0.arraylength hx (cell := cl101) (by rw [e0]; exact Ar101.1) (State.isArrayOf_alike hZ.alike Ar101.2.1) (g := (mkF m 6 #[.val (.ref b1), .val (.int (0 : Int32)), .val (.int (Int32.ofNat N))] [(.ref b1), (.int (Int32.ofNat N))])) rfl (rest := [(.int (Int32.ofNat N))]) rfl (hb hby d_jdk_65_method_132_6) _ (by rw [len_of S101 M101]; exact k)) ?_
  by_cases hc102 : (Int32.ofNat N) = (16 : Int32)
  · skip
    refine Go.step (T' := s₁) (g' := (mkF m 17 #[.val (.ref b1), .val (.int (0 : Int32)), .val (.int (Int32.ofNat N))] [])) (fun _ k => XS.icmpYes X0.here hx rfl (pc0 := 7) (pc' := 17) rfl (hb hby d_jdk_65_method_132_7) rfl (teq hc102).1 (by decide) (by decide) k) ?_
    refine Go.step (T' := s₁) (g' := (mkF m 18 #[.val (.ref b1), .val (.int (0 : Int32)), .val (.int (Int32.ofNat N))] [(.ref b1)])) (fun _ k => XS.aloadN X0.here hx rfl (hb hby d_jdk_65_method_132_17) rfl rfl k) ?_
    obtain ⟨T103, h103, X103, e103, E103, A103, EA103, st103⟩ := cloneH X0 hx hZ hown (hwi hw 190 rfl) (hwi hw 191 rfl) (hwi hw 195 rfl) (hwi hw 193 rfl) (hwi hw 194 rfl) (hwi hw 196 rfl) e0 (hs := []) V1 EB1 (g := (mkF m 18 #[.val (.ref b1), .val (.int (0 : Int32)), .val (.int (Int32.ofNat N))] [(.ref b1)])) rfl (by rw [hml]; rfl) rfl (hb hby d_jdk_65_method_132_18) (by decide) (W := 0) (cap := 16) (by show 2 * 0 + _ ≤ _; exact Nat.le_of_eq rfl) (by decide) (by decide) (by decide) (by decide)
    obtain ⟨b103, g103⟩ : ∃ z, z = h0.size := ⟨_, rfl⟩
    rw [← g103] at A103 EA103 st103
    have ne104 : b1 ≠ b103 := by have q := V1.lt; intro r; rw [r, g103] at q; exact Nat.lt_irrefl _ q
    have ge103 : n0 ≤ b103 := Nat.le_trans Z0 (Nat.le_of_eq g103.symm)
    have Z103 : n0 ≤ h103.size := Nat.le_trans Z0 E103.1
    have sz103 : h0.size ≤ b103 := Nat.le_trans K0.1 (Nat.le_of_eq g103.symm)
    have K103 := K0.ext E103
    have F105 := V1.ext E103
    have F106 := EB1.ext E103
    have V103 : Arv Z h103 b103 k1 .byte (16 : Int32) vs (.int (0 : Int32)) := A103
    refine Go.step (T' := T103) (g' := (mkF m 21 #[.val (.ref b1), .val (.int (0 : Int32)), .val (.int (Int32.ofNat N))] [(.ref b103)])) st103 ?_
    obtain ⟨T107, X107, e107, st107⟩ := castY X103 hx hZ hown (hwi hw 197 rfl) e103 (Ins.self EA103) (g := (mkF m 21 #[.val (.ref b1), .val (.int (0 : Int32)), .val (.int (Int32.ofNat N))] [(.ref b103)])) rfl rfl (hb hby d_jdk_65_method_132_21)
    refine Go.step (T' := T107) (g' := (mkF m 24 #[.val (.ref b1), .val (.int (0 : Int32)), .val (.int (Int32.ofNat N))] [(.ref b103)])) st107 ?_
    have hN16 : N = 16 := by have r := congrArg Int32.toInt hc102; rw [own_ofNat (by omega)] at r; have r0 : (16 : Int32).toInt = 16 := rfl; omega
    have et : vs.take N = vs := List.take_of_length_le (by omega)
    have ec : Int32.ofNat N = (16 : Int32) := hc102
    exact Go.retA X107 hx (t := (.array .byte)) hret rfl hlk rfl (hb hby d_jdk_65_method_132_24) (by rw [e107]; exact ⟨b103, _, rfl, N0, K103, sz103, EA103, by rw [et, ec]; exact V103⟩) (by decide) (by decide)
  · skip
    refine Go.step (T' := s₁) (g' := (mkF m 10 #[.val (.ref b1), .val (.int (0 : Int32)), .val (.int (Int32.ofNat N))] [])) (fun _ k => XS.icmpNo X0.here hx rfl (hb hby d_jdk_65_method_132_7) rfl (feq hc102).1 k) ?_
    refine Go.step (T' := s₁) (g' := (mkF m 11 #[.val (.ref b1), .val (.int (0 : Int32)), .val (.int (Int32.ofNat N))] [(.ref b1)])) (fun _ k => XS.aloadN X0.here hx rfl (hb hby d_jdk_65_method_132_10) rfl rfl k) ?_
    refine Go.step (T' := s₁) (g' := (mkF m 12 #[.val (.ref b1), .val (.int (0 : Int32)), .val (.int (Int32.ofNat N))] [(.int (0 : Int32)), (.ref b1)])) (fun _ k => XS.iloadN X0.here hx rfl (hb hby d_jdk_65_method_132_11) rfl  k) ?_
    refine Go.step (T' := s₁) (g' := (mkF m 13 #[.val (.ref b1), .val (.int (0 : Int32)), .val (.int (Int32.ofNat N))] [(.int (Int32.ofNat N)), (.int (0 : Int32)), (.ref b1)])) (fun _ k => XS.iloadN X0.here hx rfl (hb hby d_jdk_65_method_132_12) rfl  k) ?_
    have hN' : N < 16 := by rcases Nat.lt_or_ge N 16 with q | q; exact q; exact absurd (by rw [show N = 16 by omega]; rfl) hc102
    obtain ⟨_, _, ⟨T108, L108, k108, n108⟩, -, X108, ⟨Lc108, hQ108, l108, y108, z108⟩, st108⟩ := Jvm.LawKit.callS X0 hx (y := (⟨"java/util/Arrays", "copyOfRangeByte", "([BII)[B"⟩ : MethodName)) hown (mvT hZ (hwi hw 136 rfl)) (mvT hZ (hwi hw 137 rfl)) (mvT hZ (hwi hw 134 rfl)) (mvT hZ (hwi hw 138 rfl)) (by decide) (backOf (W := 0) (Q := Qcor Z N vs h0 n0) (own_corb l Z a0 hw [] b1 N k1 vs h0 n0 Z0 V1 EB1 hN hl hN') hZ (hwi hw 138 rfl) (hwi hw 134 rfl) (by decide) (by decide)) (g := (mkF m 13 #[.val (.ref b1), .val (.int (0 : Int32)), .val (.int (Int32.ofNat N))] [(.int (Int32.ofNat N)), (.int (0 : Int32)), (.ref b1)])) rfl (by rw [hml]; rfl) (argsL := [(.ref b1), (.int (0 : Int32)), (.int (Int32.ofNat N))]) (rest := []) (lenOf own_pd15 rfl) rfl (by show 2 * 0 + _ ≤ _; exact Nat.le_of_eq rfl) (hb hby d_jdk_65_method_132_13) (fun _ _ => ⟨rfl, e0, (by decide : 0 + 1 ≤ _), (by decide : 0 + 16 ≤ _)⟩)
    dsimp only [Pt.U, Pt.locs, Pt.cells, Pt.slots] at X108 l108 y108 z108 st108 hQ108
    subst l108 y108 z108
    obtain ⟨cb108, kc108, rfl, N108q, K108, lt108, E108, V108⟩ := hQ108
    have N108 := Fr.app N0 N108q
    have ne109 : b1 ≠ cb108 := Nat.ne_of_lt (Nat.lt_of_lt_of_le V1.lt lt108)
    have ge110 : n0 ≤ cb108 := Nat.le_trans Z0 lt108
    have sz111 : h0.size ≤ cb108 := Nat.le_trans K0.1 lt108
    have KK108 := K0.trans K108 all0
    have Z108 : n0 ≤ T108.heap.size := Nat.le_trans Z0 K108.1
    have F112 := V1.keep K108 nin0
    have F113 := EB1.keep K108
    refine Go.step (T' := T108) (g' := (mkF m 16 #[.val (.ref b1), .val (.int (0 : Int32)), .val (.int (Int32.ofNat N))] [(.ref cb108)])) (st108) ?_
    have Vf := V108
    exact Go.retA X108 hx (t := (.array .byte)) hret rfl hlk rfl (hb hby d_jdk_65_method_132_16) (⟨cb108, _, rfl, N108, KK108, sz111, E108, Vf⟩) (by decide) (by decide)
def Qsin (Z : State) (a1 : Addr) (N : Nat) (vs : List Value) (h0 : Heap) (n0 : Nat) (v : Option Value) (h : Heap) (L : List Loc) : Prop := ∃ (b : Addr) (k : ClassId), v = none ∧ Fr n0 L ∧ Keep h0 h [a1] ∧ h0.size ≤ b ∧ Exa Z h a1 "java/lang/String" ∧ Fld Z h a1 "java/lang/String" "coder" "B" (.int (0 : Int32)) ∧ Fld Z h a1 "java/lang/String" "value" "[B" (.ref b) ∧ Arv Z h b k .byte (Int32.ofNat N) (vs.take N) (.int (0 : Int32))
def Qtos (Z : State) (N : Nat) (vs : List Value) (h0 : Heap) (n0 : Nat) (v : Option Value) (h : Heap) (L : List Loc) : Prop := ∃ (a b : Addr) (k : ClassId), v = some (.ref a) ∧ Fr n0 L ∧ Keep h0 h [] ∧ Exa Z h a "java/lang/String" ∧ Fld Z h a "java/lang/String" "coder" "B" (.int (0 : Int32)) ∧ Fld Z h a "java/lang/String" "value" "[B" (.ref b) ∧ Arv Z h b k .byte (Int32.ofNat N) (vs.take N) (.int (0 : Int32))
theorem own_ef_jdk_42_method_150_code_RRn (m : MethodId) (x0 : Addr) (x1 : Addr) : entryFrame m #[(.ref x0), (.ref x1), .null] 5 = mkF m 0 #[.val (.ref x0), .val (.ref x1), .val .null, .unset, .unset] [] := by first | (simp [entryFrame, mkF, argsToLocals, Value.category]; done) | rfl | (simp [entryFrame, mkF, argsToLocals, own_cI, own_cJ, own_cR, own_cN]; done)
theorem d_jdk_42_method_150_0 : decode jdk_42_method_150_code 0 = .ok (.aload_n 0, 1) := by decide +kernel
theorem d_jdk_42_method_150_1 : decode jdk_42_method_150_code 1 = .ok (.invokespecial 1, 3) := by decide +kernel
theorem d_jdk_42_method_150_4 : decode jdk_42_method_150_code 4 = .ok (.aload_n 1, 1) := by decide +kernel
theorem d_jdk_42_method_150_5 : decode jdk_42_method_150_code 5 = .ok (.invokevirtual 552, 3) := by decide +kernel
theorem own_pd16 : parseMethodDescriptor "()[B" = some ⟨[], some (.array .byte)⟩ := by decide +kernel
theorem d_jdk_42_method_150_8 : decode jdk_42_method_150_code 8 = .ok (.astore_n 3, 1) := by decide +kernel
theorem d_jdk_42_method_150_9 : decode jdk_42_method_150_code 9 = .ok (.aload_n 1, 1) := by decide +kernel
theorem d_jdk_42_method_150_10 : decode jdk_42_method_150_code 10 = .ok (.invokevirtual 549, 3) := by decide +kernel
theorem d_jdk_42_method_150_13 : decode jdk_42_method_150_code 13 = .ok (.istore 4, 2) := by decide +kernel
theorem d_jdk_42_method_150_15 : decode jdk_42_method_150_code 15 = .ok (.aload_n 1, 1) := by decide +kernel
theorem d_jdk_42_method_150_16 : decode jdk_42_method_150_code 16 = .ok (.invokevirtual 1047, 3) := by decide +kernel
theorem d_jdk_42_method_150_19 : decode jdk_42_method_150_code 19 = .ok (.ifCond .eq 22, 3) := by decide +kernel
theorem d_jdk_42_method_150_22 : decode jdk_42_method_150_code 22 = .ok (.aload_n 0, 1) := by decide +kernel
theorem d_jdk_42_method_150_23 : decode jdk_42_method_150_code 23 = .ok (.iconst 0, 1) := by decide +kernel
theorem d_jdk_42_method_150_24 : decode jdk_42_method_150_code 24 = .ok (.putfield 15, 3) := by decide +kernel
theorem d_jdk_42_method_150_27 : decode jdk_42_method_150_code 27 = .ok (.aload_n 0, 1) := by decide +kernel
theorem d_jdk_42_method_150_28 : decode jdk_42_method_150_code 28 = .ok (.aload_n 3, 1) := by decide +kernel
theorem d_jdk_42_method_150_29 : decode jdk_42_method_150_code 29 = .ok (.iconst 0, 1) := by decide +kernel
theorem d_jdk_42_method_150_30 : decode jdk_42_method_150_code 30 = .ok (.iload 4, 2) := by decide +kernel
theorem d_jdk_42_method_150_32 : decode jdk_42_method_150_code 32 = .ok (.invokestatic 54, 3) := by decide +kernel
theorem d_jdk_42_method_150_35 : decode jdk_42_method_150_code 35 = .ok (.putfield 9, 3) := by decide +kernel
theorem d_jdk_42_method_150_38 : decode jdk_42_method_150_code 38 = .ok (.goto 59, 3) := by decide +kernel
theorem d_jdk_42_method_150_97 : decode jdk_42_method_150_code 97 = .ok (.return_, 1) := by decide +kernel
set_option maxRecDepth 65536 in
set_option maxHeartbeats 40000000 in
theorem own_sini (l : Launch) (Z : State) (a0 : Array Value) (hw : ∀ d ∈ tables_1, d.before a0 Z = true) (ws : List Jvm.Cond) (a1 a2 : Addr) (gc : Int32) (u0 u1 : Value) (b1 : Addr) (N : Nat) (k1 : ClassId) (vs : List Value) (h0 : Heap) (n0 : Nat) (Z0 : n0 ≤ h0.size) (Sc : Sta Z h0 "java/lang/String" "COMPACT_STRINGS" "Z" (.int gc)) (hgc : ¬ gc = (0 : Int32)) (E1 : Exa Z h0 a1 "java/lang/String") (g1 : n0 ≤ a1) (U0 : Fld Z h0 a1 "java/lang/String" "value" "[B" u0) (U1 : Fld Z h0 a1 "java/lang/String" "coder" "B" u1) (aa : a2 ≠ a1) (ba : b1 ≠ a1) (E2 : Exa Z h0 a2 "java/lang/StringBuilder") (B2 : Fld Z h0 a2 "java/lang/AbstractStringBuilder" "value" "[B" (.ref b1)) (C2 : Fld Z h0 a2 "java/lang/AbstractStringBuilder" "coder" "B" (.int (0 : Int32))) (M2 : Fld Z h0 a2 "java/lang/AbstractStringBuilder" "count" "I" (.int (Int32.ofNat N))) (V1 : Arv Z h0 b1 k1 .byte (16 : Int32) vs (.int (0 : Int32))) (EB1 : Exa Z h0 b1 "[B") (hN : N ≤ 16) (hl : vs.length = 16) :
    Con l Z (⟨"java/lang/String", "<init>", "(Ljava/lang/AbstractStringBuilder;Ljava/lang/Void;)V"⟩ : MethodName) jdk_42_method_150_code 5 none ({ frames := 3, cells := 1, slots := 16, locals := 49 } : Room) ws #[(.ref a1), (.ref a2), .null] h0 (Qsin Z a1 N vs h0 n0) 1 16 := by
  refine Con.of (plainFor_of_name own_pn_String) ?_
  intro pgm e s m below meth c s₁ X0 hx hZ hby hml hown hnm hret hlk e0 hs0
  have N0 := Fr.nil n0
  have hown : s.vm.findClass "java/lang/String" = some m.cls := hown
  have hnm : meth.name = "<init>" := hnm
  refine Go.cast (own_ef_jdk_42_method_150_code_RRn m a1 a2) ?_
  have K0 := Keep.refl h0 [a1]
  refine Go.step (T' := s₁) (g' := (mkF m 1 #[.val (.ref a1), .val (.ref a2), .val .null, .unset, .unset] [(.ref a1)])) (fun _ k => XS.aloadN X0.here hx rfl (hb hby d_jdk_42_method_150_0) rfl rfl k) ?_
  obtain ⟨T101, X101, e101, st101⟩ := initO X0 hx hZ hown (hwi hw 117 rfl) (hwi hw 17 rfl) (hwi hw 18 rfl) e0 (g := (mkF m 1 #[.val (.ref a1), .val (.ref a2), .val .null, .unset, .unset] [(.ref a1)])) rfl (by rw [hml]; rfl) rfl (hb hby d_jdk_42_method_150_1) (by decide) (W := 0) (by show 2 * 0 + _ ≤ _; exact Nat.le_of_eq rfl) (by decide)
  refine Go.step (T' := T101) (g' := (mkF m 4 #[.val (.ref a1), .val (.ref a2), .val .null, .unset, .unset] [])) st101 ?_
  refine Go.step (T' := T101) (g' := (mkF m 5 #[.val (.ref a1), .val (.ref a2), .val .null, .unset, .unset] [(.ref a2)])) (fun _ k => XS.aloadN X101.here hx rfl (hb hby d_jdk_42_method_150_4) rfl rfl k) ?_
  obtain ⟨cq102, kq102, q102a, q102b, q102c⟩ := isOf hZ e101 E2
  obtain ⟨_, _, ⟨T102, L102, k102, n102⟩, -, X102, ⟨Lc102, hQ102, l102, y102, z102⟩, st102⟩ := X101.virtualBack hx (y := (⟨"java/lang/AbstractStringBuilder", "getValue", "()[B"⟩ : MethodName)) (z := (⟨"java/lang/AbstractStringBuilder", "getValue", "()[B"⟩ : MethodName)) hown (mvT hZ (hwi hw 118 rfl)) (mvT hZ (hwi hw 119 rfl)) (notFace_of_selects (args := #[]) (mvT hZ (hwi hw 121 rfl))) (mvT hZ (hwi hw 121 rfl)) (mvT hZ (hwi hw 120 rfl)) (by decide) (backOf (W := 0) (Q := Qret (some (.ref b1)) h0 n0) (own_gv l Z a0 hw [] a2 b1 h0 n0 Z0 B2) hZ (hwi hw 122 rfl) (hwi hw 14 rfl) (by decide) (by decide)) q102a q102c (g := (mkF m 5 #[.val (.ref a1), .val (.ref a2), .val .null, .unset, .unset] [(.ref a2)])) rfl (by rw [hml]; rfl) (Steps.refl _) (argsL := []) (rest := []) (lenOf own_pd16 rfl) rfl (by show 2 * 0 + _ ≤ _; exact Nat.le_of_eq rfl) (hb hby d_jdk_42_method_150_5) (fun _ _ => ⟨rfl, e101, (by decide : 0 + 0 ≤ _), (by decide : 0 + 0 ≤ _)⟩)
  dsimp only [Pt.U, Pt.locs, Pt.cells, Pt.slots] at X102 l102 y102 z102 st102 hQ102
  subst l102 y102 z102
  obtain ⟨rfl, N102q, eh102⟩ := hQ102
  have N102 := Fr.app N0 N102q
  refine Go.step (T' := T102) (g' := (mkF m 8 #[.val (.ref a1), .val (.ref a2), .val .null, .unset, .unset] [(.ref b1)])) (fun _ k => st102.trans k) ?_
  refine Go.step (T' := T102) (g' := (mkF m 9 #[.val (.ref a1), .val (.ref a2), .val .null, .val (.ref b1), .unset] [])) (fun _ k => XS.astoreN X102.here hx rfl (hb hby d_jdk_42_method_150_8) rfl rfl (l' := #[.val (.ref a1), .val (.ref a2), .val .null, .val (.ref b1), .unset]) rfl k) ?_
  refine Go.step (T' := T102) (g' := (mkF m 10 #[.val (.ref a1), .val (.ref a2), .val .null, .val (.ref b1), .unset] [(.ref a2)])) (fun _ k => XS.aloadN X102.here hx rfl (hb hby d_jdk_42_method_150_9) rfl rfl k) ?_
  obtain ⟨cq103, kq103, q103a, q103b, q103c⟩ := isOf hZ eh102 E2
  obtain ⟨_, _, ⟨T103, L103, k103, n103⟩, -, X103, ⟨Lc103, hQ103, l103, y103, z103⟩, st103⟩ := X102.virtualBack hx (y := (⟨"java/lang/AbstractStringBuilder", "length", "()I"⟩ : MethodName)) (z := (⟨"java/lang/StringBuilder", "length", "()I"⟩ : MethodName)) hown (mvT hZ (hwi hw 123 rfl)) (mvT hZ (hwi hw 124 rfl)) (own_nfs hZ (own_nf (y := (⟨"java/lang/AbstractStringBuilder", "length", "()I"⟩ : MethodName)) (hwi hw 45 rfl) rfl (hwi hw 43 rfl))) (mvT hZ (hwi hw 126 rfl)) (mvT hZ (hwi hw 127 rfl)) (by decide) (backOf (W := 0) (Q := Qret (some (.int (Int32.ofNat N))) h0 n0) (own_slen l Z a0 hw [] a2 (Int32.ofNat N) h0 n0 Z0 E2 M2) hZ (hwi hw 128 rfl) (hwi hw 6 rfl) (by decide) (by decide)) q103a q103c (g := (mkF m 10 #[.val (.ref a1), .val (.ref a2), .val .null, .val (.ref b1), .unset] [(.ref a2)])) rfl (by rw [hml]; rfl) (Steps.refl _) (argsL := []) (rest := []) (lenOf own_pd5 rfl) rfl (by show 2 * 0 + _ ≤ _; exact Nat.le_of_eq rfl) (hb hby d_jdk_42_method_150_10) (fun _ _ => ⟨rfl, eh102, (by decide : 0 + 0 ≤ _), (by decide : 0 + 0 ≤ _)⟩)
  dsimp only [Pt.U, Pt.locs, Pt.cells, Pt.slots] at X103 l103 y103 z103 st103 hQ103
  subst l103 y103 z103
  obtain ⟨rfl, N103q, eh103⟩ := hQ103
  have N103 := Fr.app N102 N103q
  refine Go.step (T' := T103) (g' := (mkF m 13 #[.val (.ref a1), .val (.ref a2), .val .null, .val (.ref b1), .unset] [(.int (Int32.ofNat N))])) (fun _ k => st103.trans k) ?_
  refine Go.step (T' := T103) (g' := (mkF m 15 #[.val (.ref a1), .val (.ref a2), .val .null, .val (.ref b1), .val (.int (Int32.ofNat N))] [])) (fun _ k => XS.istore X103.here hx rfl (hb hby d_jdk_42_method_150_13) rfl (l' := #[.val (.ref a1), .val (.ref a2), .val .null, .val (.ref b1), .val (.int (Int32.ofNat N))]) rfl k) ?_
  refine Go.step (T' := T103) (g' := (mkF m 16 #[.val (.ref a1), .val (.ref a2), .val .null, .val (.ref b1), .val (.int (Int32.ofNat N))] [(.ref a2)])) (fun _ k => XS.aloadN X103.here hx rfl (hb hby d_jdk_42_method_150_15) rfl rfl k) ?_
  obtain ⟨cq104, kq104, q104a, q104b, q104c⟩ := isOf hZ eh103 E2
  obtain ⟨_, _, ⟨T104, L104, k104, n104⟩, -, X104, ⟨Lc104, hQ104, l104, y104, z104⟩, st104⟩ := X103.virtualBack hx (y := (⟨"java/lang/AbstractStringBuilder", "isLatin1", "()Z"⟩ : MethodName)) (z := (⟨"java/lang/AbstractStringBuilder", "isLatin1", "()Z"⟩ : MethodName)) hown (mvT hZ (hwi hw 131 rfl)) (mvT hZ (hwi hw 48 rfl)) (notFace_of_selects (args := #[]) (mvT hZ (hwi hw 50 rfl))) (mvT hZ (hwi hw 50 rfl)) (mvT hZ (hwi hw 49 rfl)) (by decide) (backOf (W := 0) (Q := Qret (some (.int (1 : Int32))) h0 n0) (own_alat l Z a0 hw [] a2 gc h0 n0 Z0 Sc hgc C2) hZ (hwi hw 51 rfl) (hwi hw 14 rfl) (by decide) (by decide)) q104a q104c (g := (mkF m 16 #[.val (.ref a1), .val (.ref a2), .val .null, .val (.ref b1), .val (.int (Int32.ofNat N))] [(.ref a2)])) rfl (by rw [hml]; rfl) (Steps.refl _) (argsL := []) (rest := []) (lenOf own_pd3 rfl) rfl (by show 2 * 0 + _ ≤ _; exact Nat.le_of_eq rfl) (hb hby d_jdk_42_method_150_16) (fun _ _ => ⟨rfl, eh103, (by decide : 0 + 0 ≤ _), (by decide : 0 + 0 ≤ _)⟩)
  dsimp only [Pt.U, Pt.locs, Pt.cells, Pt.slots] at X104 l104 y104 z104 st104 hQ104
  subst l104 y104 z104
  obtain ⟨rfl, N104q, eh104⟩ := hQ104
  have N104 := Fr.app N103 N104q
  refine Go.step (T' := T104) (g' := (mkF m 19 #[.val (.ref a1), .val (.ref a2), .val .null, .val (.ref b1), .val (.int (Int32.ofNat N))] [(.int (1 : Int32))])) (fun _ k => st104.trans k) ?_
  refine Go.step (T' := T104) (g' := (mkF m 22 #[.val (.ref a1), .val (.ref a2), .val .null, .val (.ref b1), .val (.int (Int32.ofNat N))] [])) (fun _ k => XS.ifNo X104.here hx rfl (hb hby d_jdk_42_method_150_19) rfl ((if0 _ _).trans (feq (by decide : ¬ ((1 : Int32) = (0 : Int32)))).1) k) ?_
  refine Go.step (T' := T104) (g' := (mkF m 23 #[.val (.ref a1), .val (.ref a2), .val .null, .val (.ref b1), .val (.int (Int32.ofNat N))] [(.ref a1)])) (fun _ k => XS.aloadN X104.here hx rfl (hb hby d_jdk_42_method_150_22) rfl rfl k) ?_
  refine Go.step (T' := T104) (g' := (mkF m 24 #[.val (.ref a1), .val (.ref a2), .val .null, .val (.ref b1), .val (.int (Int32.ofNat N))] [(.int (0 : Int32)), (.ref a1)])) (fun _ k => XS.iconst X104.here hx rfl (hb hby d_jdk_42_method_150_23) k) ?_
  obtain ⟨T105, h105, X105, e105, W105, st105⟩ := putFN X104 hx hZ hown (hwi hw 83 rfl) Via.refl eh104 U1 E1 (Or.inr ⟨(hwi hw 59 rfl), rfl, hnm⟩) (hwi hw 57 rfl) (ty := .byte) (v' := (.int (0 : Int32))) (by decide) (rfl) (by decide) (g := (mkF m 24 #[.val (.ref a1), .val (.ref a2), .val .null, .val (.ref b1), .val (.int (Int32.ofNat N))] [(.int (0 : Int32)), (.ref a1)])) rfl rfl (hb hby d_jdk_42_method_150_24)
  have N105 := Fr.snoc X105 N104 g1
  have Z105 : n0 ≤ h105.size := Nat.le_trans Z0 (Keep.of_wr W105).1
  have K105 := K0.wr W105 (Or.inl (List.mem_of_getElem? (i := 0) rfl))
  have F106 := Sc.wr W105
  have F107 := V1.other W105 ba
  have F108 := EB1.wr W105
  have F109 := E2.wr W105
  have F110 := B2.other W105 (Or.inl aa)
  have F111 := C2.other W105 (Or.inl aa)
  have F112 := M2.other W105 (Or.inl aa)
  have F113 := E1.wr W105
  have F114 := U0.other W105 (Or.inr (slot_ne (Or.inr (hwi hw 58 rfl)) (Or.inr (hwi hw 59 rfl)) (by decide) (t := (.array .byte)) (t' := .byte) (by decide) (by decide)))
  have F115 := U1.same W105
  refine Go.step (T' := T105) (g' := (mkF m 27 #[.val (.ref a1), .val (.ref a2), .val .null, .val (.ref b1), .val (.int (Int32.ofNat N))] [])) st105 ?_
  refine Go.step (T' := T105) (g' := (mkF m 28 #[.val (.ref a1), .val (.ref a2), .val .null, .val (.ref b1), .val (.int (Int32.ofNat N))] [(.ref a1)])) (fun _ k => XS.aloadN X105.here hx rfl (hb hby d_jdk_42_method_150_27) rfl rfl k) ?_
  refine Go.step (T' := T105) (g' := (mkF m 29 #[.val (.ref a1), .val (.ref a2), .val .null, .val (.ref b1), .val (.int (Int32.ofNat N))] [(.ref b1), (.ref a1)])) (fun _ k => XS.aloadN X105.here hx rfl (hb hby d_jdk_42_method_150_28) rfl rfl k) ?_
  refine Go.step (T' := T105) (g' := (mkF m 30 #[.val (.ref a1), .val (.ref a2), .val .null, .val (.ref b1), .val (.int (Int32.ofNat N))] [(.int (0 : Int32)), (.ref b1), (.ref a1)])) (fun _ k => XS.iconst X105.here hx rfl (hb hby d_jdk_42_method_150_29) k) ?_
  refine Go.step (T' := T105) (g' := (mkF m 32 #[.val (.ref a1), .val (.ref a2), .val .null, .val (.ref b1), .val (.int (Int32.ofNat N))] [(.int (Int32.ofNat N)), (.int (0 : Int32)), (.ref b1), (.ref a1)])) (fun _ k => XS.iload X105.here hx rfl (hb hby d_jdk_42_method_150_30) rfl  k) ?_
  obtain ⟨_, _, ⟨T116, L116, k116, n116⟩, -, X116, ⟨Lc116, hQ116, l116, y116, z116⟩, st116⟩ := Jvm.LawKit.callS X105 hx (y := (⟨"java/util/Arrays", "copyOfRange", "([BII)[B"⟩ : MethodName)) hown (mvT hZ (hwi hw 132 rfl)) (mvT hZ (hwi hw 133 rfl)) (mvT hZ (hwi hw 134 rfl)) (mvT hZ (hwi hw 135 rfl)) (by decide) (backOf (W := 1) (Q := Qcor Z N vs h105 n0) (own_cor l Z a0 hw [] b1 N k1 vs h105 n0 Z105 F107 F108 hN hl) hZ (hwi hw 135 rfl) (hwi hw 134 rfl) (by decide) (by decide)) (g := (mkF m 32 #[.val (.ref a1), .val (.ref a2), .val .null, .val (.ref b1), .val (.int (Int32.ofNat N))] [(.int (Int32.ofNat N)), (.int (0 : Int32)), (.ref b1), (.ref a1)])) rfl (by rw [hml]; rfl) (argsL := [(.ref b1), (.int (0 : Int32)), (.int (Int32.ofNat N))]) (rest := [(.ref a1)]) (lenOf own_pd15 rfl) rfl (by show 2 * 0 + _ ≤ _; exact Nat.le_of_eq rfl) (hb hby d_jdk_42_method_150_32) (fun _ _ => ⟨rfl, e105, (by decide : 0 + 1 ≤ _), (by decide : 0 + 16 ≤ _)⟩)
  dsimp only [Pt.U, Pt.locs, Pt.cells, Pt.slots] at X116 l116 y116 z116 st116 hQ116
  subst l116 y116 z116
  obtain ⟨cb116, kc116, rfl, N116q, K116, lt116, E116, V116⟩ := hQ116
  have N116 := Fr.app N105 N116q
  have ne117 : b1 ≠ cb116 := Nat.ne_of_lt (Nat.lt_of_lt_of_le F107.lt lt116)
  have ne118 : a2 ≠ cb116 := Nat.ne_of_lt (Nat.lt_of_lt_of_le F109.lt lt116)
  have ne119 : a1 ≠ cb116 := Nat.ne_of_lt (Nat.lt_of_lt_of_le F113.lt lt116)
  have ge120 : n0 ≤ cb116 := Nat.le_trans Z105 lt116
  have sz121 : h0.size ≤ cb116 := Nat.le_trans K105.1 lt116
  have KK116 := K105.trans K116 all0
  have Z116 : n0 ≤ T116.heap.size := Nat.le_trans Z105 K116.1
  have F122 := own_sta_keep F106 K116 all0
  have F123 := F107.keep K116 nin0
  have F124 := F108.keep K116
  have F125 := F109.keep K116
  have F126 := F110.keep K116 nin0
  have F127 := F111.keep K116 nin0
  have F128 := F112.keep K116 nin0
  have F129 := F113.keep K116
  have F130 := F114.keep K116 nin0
  have F131 := F115.keep K116 nin0
  refine Go.step (T' := T116) (g' := (mkF m 35 #[.val (.ref a1), .val (.ref a2), .val .null, .val (.ref b1), .val (.int (Int32.ofNat N))] [(.ref cb116), (.ref a1)])) (st116) ?_
  obtain ⟨T132, h132, X132, e132, W132, st132⟩ := putF X116 hx hZ hown (host := "") (Or.inl (hwi hw 76 rfl)) Via.refl rfl F130 F129 (Or.inr ⟨(hwi hw 58 rfl), rfl, hnm⟩) (hwi hw 57 rfl) (ty := (.array .byte)) (by decide) rfl rfl (g := (mkF m 35 #[.val (.ref a1), .val (.ref a2), .val .null, .val (.ref b1), .val (.int (Int32.ofNat N))] [(.ref cb116), (.ref a1)])) rfl rfl (hb hby d_jdk_42_method_150_35)
  have N132 := Fr.snoc X132 N116 g1
  have Z132 : n0 ≤ h132.size := Nat.le_trans Z116 (Keep.of_wr W132).1
  have K132 := KK116.wr W132 (Or.inl (List.mem_of_getElem? (i := 0) rfl))
  have F133 := F122.wr W132
  have F134 := F123.other W132 ba
  have F135 := F124.wr W132
  have F136 := F125.wr W132
  have F137 := F126.other W132 (Or.inl aa)
  have F138 := F127.other W132 (Or.inl aa)
  have F139 := F128.other W132 (Or.inl aa)
  have F140 := F129.wr W132
  have F141 := F131.other W132 (Or.inr (slot_ne (Or.inr (hwi hw 59 rfl)) (Or.inr (hwi hw 58 rfl)) (by decide) (t := .byte) (t' := (.array .byte)) (by decide) (by decide)))
  have F142 := E116.wr W132
  have F143 := V116.other W132 (Ne.symm ne119)
  have F144 := F130.same W132
  refine Go.step (T' := T132) (g' := (mkF m 38 #[.val (.ref a1), .val (.ref a2), .val .null, .val (.ref b1), .val (.int (Int32.ofNat N))] [])) st132 ?_
  refine Go.step (T' := T132) (g' := (mkF m 97 #[.val (.ref a1), .val (.ref a2), .val .null, .val (.ref b1), .val (.int (Int32.ofNat N))] [])) (fun _ k => XS.goto X132.here hx rfl (pc0 := 38) (pc' := 97) rfl (hb hby d_jdk_42_method_150_38) (by decide) (by decide) k) ?_
  exact Go.retV X132 hx hret hlk (hb hby d_jdk_42_method_150_97) (by rw [e132]; exact ⟨cb116, _, rfl, N132, K132, sz121, F140, F141, F144, F143⟩) (by decide) (by decide)
theorem own_ef_jdk_42_method_53_code_RR (m : MethodId) (x0 : Addr) (x1 : Addr) : entryFrame m #[(.ref x0), (.ref x1)] 2 = mkF m 0 #[.val (.ref x0), .val (.ref x1)] [] := by first | (simp [entryFrame, mkF, argsToLocals, Value.category]; done) | rfl | (simp [entryFrame, mkF, argsToLocals, own_cI, own_cJ, own_cR, own_cN]; done)
theorem d_jdk_42_method_53_0 : decode jdk_42_method_53_code 0 = .ok (.aload_n 0, 1) := by decide +kernel
theorem d_jdk_42_method_53_1 : decode jdk_42_method_53_code 1 = .ok (.aload_n 1, 1) := by decide +kernel
theorem d_jdk_42_method_53_2 : decode jdk_42_method_53_code 2 = .ok (.aconst_null, 1) := by decide +kernel
theorem d_jdk_42_method_53_3 : decode jdk_42_method_53_code 3 = .ok (.invokespecial 489, 3) := by decide +kernel
theorem own_pd17 : parseMethodDescriptor "(Ljava/lang/AbstractStringBuilder;Ljava/lang/Void;)V" = some ⟨[(.object "java/lang/AbstractStringBuilder"), (.object "java/lang/Void")], none⟩ := by decide +kernel
theorem d_jdk_42_method_53_6 : decode jdk_42_method_53_code 6 = .ok (.return_, 1) := by decide +kernel
set_option maxRecDepth 65536 in
set_option maxHeartbeats 40000000 in
theorem own_sini0 (l : Launch) (Z : State) (a0 : Array Value) (hw : ∀ d ∈ tables_1, d.before a0 Z = true) (ws : List Jvm.Cond) (a1 a2 : Addr) (gc : Int32) (u0 u1 : Value) (b1 : Addr) (N : Nat) (k1 : ClassId) (vs : List Value) (h0 : Heap) (n0 : Nat) (Z0 : n0 ≤ h0.size) (Sc : Sta Z h0 "java/lang/String" "COMPACT_STRINGS" "Z" (.int gc)) (hgc : ¬ gc = (0 : Int32)) (E1 : Exa Z h0 a1 "java/lang/String") (g1 : n0 ≤ a1) (U0 : Fld Z h0 a1 "java/lang/String" "value" "[B" u0) (U1 : Fld Z h0 a1 "java/lang/String" "coder" "B" u1) (aa : a2 ≠ a1) (ba : b1 ≠ a1) (E2 : Exa Z h0 a2 "java/lang/StringBuilder") (B2 : Fld Z h0 a2 "java/lang/AbstractStringBuilder" "value" "[B" (.ref b1)) (C2 : Fld Z h0 a2 "java/lang/AbstractStringBuilder" "coder" "B" (.int (0 : Int32))) (M2 : Fld Z h0 a2 "java/lang/AbstractStringBuilder" "count" "I" (.int (Int32.ofNat N))) (V1 : Arv Z h0 b1 k1 .byte (16 : Int32) vs (.int (0 : Int32))) (EB1 : Exa Z h0 b1 "[B") (hN : N ≤ 16) (hl : vs.length = 16) :
    Con l Z (⟨"java/lang/String", "<init>", "(Ljava/lang/StringBuilder;)V"⟩ : MethodName) jdk_42_method_53_code 2 none ({ frames := 4, cells := 1, slots := 16, locals := 65 } : Room) ws #[(.ref a1), (.ref a2)] h0 (Qsin Z a1 N vs h0 n0) 1 16 := by
  refine Con.of (plainFor_of_name own_pn_String) ?_
  intro pgm e s m below meth c s₁ X0 hx hZ hby hml hown hnm hret hlk e0 hs0
  have N0 := Fr.nil n0
  have hown : s.vm.findClass "java/lang/String" = some m.cls := hown
  have hnm : meth.name = "<init>" := hnm
  refine Go.cast (own_ef_jdk_42_method_53_code_RR m a1 a2) ?_
  have K0 := Keep.refl h0 [a1]
  refine Go.step (T' := s₁) (g' := (mkF m 1 #[.val (.ref a1), .val (.ref a2)] [(.ref a1)])) (fun _ k => XS.aloadN X0.here hx rfl (hb hby d_jdk_42_method_53_0) rfl rfl k) ?_
  refine Go.step (T' := s₁) (g' := (mkF m 2 #[.val (.ref a1), .val (.ref a2)] [(.ref a2), (.ref a1)])) (fun _ k => XS.aloadN X0.here hx rfl (hb hby d_jdk_42_method_53_1) rfl rfl k) ?_
  refine Go.step (T' := s₁) (g' := (mkF m 3 #[.val (.ref a1), .val (.ref a2)] [.null, (.ref a2), (.ref a1)])) (fun _ k => XS.aconstNull X0.here hx rfl (hb hby d_jdk_42_method_53_2) k) ?_
  obtain ⟨_, _, ⟨T101, L101, k101, n101⟩, -, X101, ⟨Lc101, hQ101, l101, y101, z101⟩, st101⟩ := X0.specialBack hx (y := (⟨"java/lang/String", "<init>", "(Ljava/lang/AbstractStringBuilder;Ljava/lang/Void;)V"⟩ : MethodName)) rfl hown (mvT hZ (hwi hw 114 rfl)) (mvT hZ (hwi hw 115 rfl)) (mvT hZ (hwi hw 116 rfl)) (by decide) (backOf (W := 0) (Q := Qsin Z a1 (N) vs h0 n0) (own_sini l Z a0 hw [] a1 a2 gc u0 u1 b1 (N) k1 vs h0 n0 Z0 Sc hgc E1 g1 U0 U1 aa ba E2 B2 C2 M2 V1 EB1 hN hl) hZ (hwi hw 116 rfl) (hwi hw 20 rfl) (by decide) (by decide)) (g := (mkF m 3 #[.val (.ref a1), .val (.ref a2)] [.null, (.ref a2), (.ref a1)])) rfl (by rw [hml]; rfl) (Steps.refl _) (a := a1) (argsL := [(.ref a2), .null]) (rest := []) (lenOf own_pd17 rfl) rfl (by show 2 * 0 + _ ≤ _; exact Nat.le_of_eq rfl) (hb hby d_jdk_42_method_53_3) (fun _ _ => ⟨rfl, e0, (by decide : 0 + 1 ≤ _), (by decide : 0 + 16 ≤ _)⟩)
  dsimp only [Pt.U, Pt.locs, Pt.cells, Pt.slots] at X101 l101 y101 z101 st101 hQ101
  subst l101 y101 z101
  obtain ⟨sb101, kc101, rfl, N101q, K101, lt101, E101, C101, B101, V101⟩ := hQ101
  have N101 := Fr.app N0 N101q
  have ne102 : b1 ≠ sb101 := Nat.ne_of_lt (Nat.lt_of_lt_of_le V1.lt lt101)
  have ne103 : a2 ≠ sb101 := Nat.ne_of_lt (Nat.lt_of_lt_of_le E2.lt lt101)
  have ne104 : a1 ≠ sb101 := Nat.ne_of_lt (Nat.lt_of_lt_of_le E1.lt lt101)
  have ge105 : n0 ≤ sb101 := Nat.le_trans Z0 lt101
  have sz106 : h0.size ≤ sb101 := Nat.le_trans K0.1 lt101
  have KK101 := K0.trans K101 (allS (Or.inl (List.mem_of_getElem? (i := 0) rfl)) all0)
  have Z101 : n0 ≤ T101.heap.size := Nat.le_trans Z0 K101.1
  have F107 := own_sta_keep Sc K101 (allS (own_plain E1) all0)
  have F108 := V1.keep K101 (ninS ba nin0)
  have F109 := EB1.keep K101
  have F110 := E2.keep K101
  have F111 := B2.keep K101 (ninS aa nin0)
  have F112 := C2.keep K101 (ninS aa nin0)
  have F113 := M2.keep K101 (ninS aa nin0)
  have F114 := E1.keep K101
  refine Go.step (T' := T101) (g' := (mkF m 6 #[.val (.ref a1), .val (.ref a2)] [])) (fun _ k => st101.trans k) ?_
  exact Go.retV X101 hx hret hlk (hb hby d_jdk_42_method_53_6) (⟨sb101, _, rfl, N101, KK101, sz106, E101, C101, B101, V101⟩) (by decide) (by decide)
theorem own_ef_jdk_67_method_42_code_R (m : MethodId) (x0 : Addr) : entryFrame m #[(.ref x0)] 1 = mkF m 0 #[.val (.ref x0)] [] := by first | (simp [entryFrame, mkF, argsToLocals, Value.category]; done) | rfl | (simp [entryFrame, mkF, argsToLocals, own_cI, own_cJ, own_cR, own_cN]; done)
theorem d_jdk_67_method_42_0 : decode jdk_67_method_42_code 0 = .ok (.new 18, 3) := by decide +kernel
theorem d_jdk_67_method_42_3 : decode jdk_67_method_42_code 3 = .ok (.dup, 1) := by decide +kernel
theorem d_jdk_67_method_42_4 : decode jdk_67_method_42_code 4 = .ok (.aload_n 0, 1) := by decide +kernel
theorem d_jdk_67_method_42_5 : decode jdk_67_method_42_code 5 = .ok (.invokespecial 137, 3) := by decide +kernel
theorem own_pd18 : parseMethodDescriptor "(Ljava/lang/StringBuilder;)V" = some ⟨[(.object "java/lang/StringBuilder")], none⟩ := by decide +kernel
theorem d_jdk_67_method_42_8 : decode jdk_67_method_42_code 8 = .ok (.areturn, 1) := by decide +kernel
set_option maxRecDepth 65536 in
set_option maxHeartbeats 40000000 in
theorem own_tos (l : Launch) (Z : State) (a0 : Array Value) (hw : ∀ d ∈ tables_1, d.before a0 Z = true) (ws : List Jvm.Cond) (a2 : Addr) (gc : Int32) (b1 : Addr) (N : Nat) (k1 : ClassId) (vs : List Value) (h0 : Heap) (n0 : Nat) (Z0 : n0 ≤ h0.size) (Sc : Sta Z h0 "java/lang/String" "COMPACT_STRINGS" "Z" (.int gc)) (hgc : ¬ gc = (0 : Int32)) (E2 : Exa Z h0 a2 "java/lang/StringBuilder") (B2 : Fld Z h0 a2 "java/lang/AbstractStringBuilder" "value" "[B" (.ref b1)) (C2 : Fld Z h0 a2 "java/lang/AbstractStringBuilder" "coder" "B" (.int (0 : Int32))) (M2 : Fld Z h0 a2 "java/lang/AbstractStringBuilder" "count" "I" (.int (Int32.ofNat N))) (V1 : Arv Z h0 b1 k1 .byte (16 : Int32) vs (.int (0 : Int32))) (EB1 : Exa Z h0 b1 "[B") (hN : N ≤ 16) (hl : vs.length = 16) :
    Con l Z (⟨"java/lang/StringBuilder", "toString", "()Ljava/lang/String;"⟩ : MethodName) jdk_67_method_42_code 1 (some (.object "java/lang/String")) ({ frames := 5, cells := 2, slots := 20, locals := 79 } : Room) ws #[(.ref a2)] h0 (Qtos Z N vs h0 n0) 2 20 := by
  refine Con.of (plainFor_of_name own_pn_StringBuilder) ?_
  intro pgm e s m below meth c s₁ X0 hx hZ hby hml hown hnm hret hlk e0 hs0
  have N0 := Fr.nil n0
  have hown : s.vm.findClass "java/lang/StringBuilder" = some m.cls := hown
  have hnm : meth.name = "toString" := hnm
  refine Go.cast (own_ef_jdk_67_method_42_code_R m a2) ?_
  have K0 := Keep.refl h0 []
  obtain ⟨T101, h101, X101, e101, E101, A101, D101, -, st101⟩ := newO X0 hx hZ hown (hwi hw 109 rfl) (hwi hw 57 rfl) (hwi hw 20 rfl) e0 (g := (mkF m 0 #[.val (.ref a2)] [])) rfl (hb hby d_jdk_67_method_42_0) (by decide) (by decide)
  obtain ⟨b101, g101⟩ : ∃ z, z = h0.size := ⟨_, rfl⟩
  rw [← g101] at A101 D101 st101
  have ne102 : b1 ≠ b101 := by have q := V1.lt; intro r; rw [r, g101] at q; exact Nat.lt_irrefl _ q
  have ne103 : a2 ≠ b101 := by have q := E2.lt; intro r; rw [r, g101] at q; exact Nat.lt_irrefl _ q
  have ge101 : n0 ≤ b101 := Nat.le_trans Z0 (Nat.le_of_eq g101.symm)
  have Z101 : n0 ≤ h101.size := Nat.le_trans Z0 E101.1
  have sz101 : h0.size ≤ b101 := Nat.le_trans K0.1 (Nat.le_of_eq g101.symm)
  have K101 := K0.ext E101
  have F104 := Sc.ext E101
  have F105 := V1.ext E101
  have F106 := EB1.ext E101
  have F107 := E2.ext E101
  have F108 := B2.ext E101
  have F109 := C2.ext E101
  have F110 := M2.ext E101
  have F111 : Fld Z h101 b101 "java/lang/String" "value" "[B" .null := D101 (Or.inr (hwi hw 58 rfl)) (ty := (.array .byte)) (by decide)
  have F112 : Fld Z h101 b101 "java/lang/String" "coder" "B" (.int (0 : Int32)) := D101 (Or.inr (hwi hw 59 rfl)) (ty := .byte) (by decide)
  refine Go.step (T' := T101) (g' := (mkF m 3 #[.val (.ref a2)] [(.ref b101)])) st101 ?_
  refine Go.step (T' := T101) (g' := (mkF m 4 #[.val (.ref a2)] [(.ref b101), (.ref b101)])) (fun _ k => XS.dup X101.here hx rfl (hb hby d_jdk_67_method_42_3) rfl rfl k) ?_
  refine Go.step (T' := T101) (g' := (mkF m 5 #[.val (.ref a2)] [(.ref a2), (.ref b101), (.ref b101)])) (fun _ k => XS.aloadN X101.here hx rfl (hb hby d_jdk_67_method_42_4) rfl rfl k) ?_
  obtain ⟨_, _, ⟨T113, L113, k113, n113⟩, -, X113, ⟨Lc113, hQ113, l113, y113, z113⟩, st113⟩ := X101.specialBack hx (y := (⟨"java/lang/String", "<init>", "(Ljava/lang/StringBuilder;)V"⟩ : MethodName)) rfl hown (mvT hZ (hwi hw 110 rfl)) (mvT hZ (hwi hw 111 rfl)) (mvT hZ (hwi hw 113 rfl)) (by decide) (backOf (W := 1) (Q := Qsin Z b101 (N) vs h101 n0) (own_sini0 l Z a0 hw [] b101 a2 gc .null (.int (0 : Int32)) b1 (N) k1 vs h101 n0 Z101 F104 hgc A101 ge101 F111 F112 ne103 ne102 F107 F108 F109 F110 F105 F106 hN hl) hZ (hwi hw 113 rfl) (hwi hw 20 rfl) (by decide) (by decide)) (g := (mkF m 5 #[.val (.ref a2)] [(.ref a2), (.ref b101), (.ref b101)])) rfl (by rw [hml]; rfl) (Steps.refl _) (a := b101) (argsL := [(.ref a2)]) (rest := [(.ref b101)]) (lenOf own_pd18 rfl) rfl (by show 2 * 0 + _ ≤ _; exact Nat.le_of_eq rfl) (hb hby d_jdk_67_method_42_5) (fun _ _ => ⟨rfl, e101, (by decide : 1 + 1 ≤ _), (by decide : 4 + 16 ≤ _)⟩)
  dsimp only [Pt.U, Pt.locs, Pt.cells, Pt.slots] at X113 l113 y113 z113 st113 hQ113
  subst l113 y113 z113
  obtain ⟨sb113, kc113, rfl, N113q, K113, lt113, E113, C113, B113, V113⟩ := hQ113
  have N113 := Fr.app N0 N113q
  have ne114 : b1 ≠ sb113 := Nat.ne_of_lt (Nat.lt_of_lt_of_le F105.lt lt113)
  have ne115 : a2 ≠ sb113 := Nat.ne_of_lt (Nat.lt_of_lt_of_le F107.lt lt113)
  have ne116 : b101 ≠ sb113 := Nat.ne_of_lt (Nat.lt_of_lt_of_le A101.lt lt113)
  have ge117 : n0 ≤ sb113 := Nat.le_trans Z101 lt113
  have sz118 : h0.size ≤ sb113 := Nat.le_trans K101.1 lt113
  have KK113 := K101.trans K113 (allS (Or.inr sz101) all0)
  have Z113 : n0 ≤ T113.heap.size := Nat.le_trans Z101 K113.1
  have F119 := own_sta_keep F104 K113 (allS (own_plain A101) all0)
  have F120 := F105.keep K113 (ninS ne102 nin0)
  have F121 := F106.keep K113
  have F122 := F107.keep K113
  have F123 := F108.keep K113 (ninS ne103 nin0)
  have F124 := F109.keep K113 (ninS ne103 nin0)
  have F125 := F110.keep K113 (ninS ne103 nin0)
  have F126 := A101.keep K113
  refine Go.step (T' := T113) (g' := (mkF m 8 #[.val (.ref a2)] [(.ref b101)])) (fun _ k => st113.trans k) ?_
  exact Go.retA X113 hx (t := (.object "java/lang/String")) hret rfl hlk rfl (hb hby d_jdk_67_method_42_8) (⟨b101, sb113, _, rfl, N113, KK113, E113, C113, B113, V113⟩) (by decide) (by decide)
def own_EL : List (String × Nat) := consts_1
theorem own_wS {Z : State} {a0 : Array Value} (hw : ∀ d ∈ tables_1, d.before a0 Z = true) : ∀ a ∈ Bundle.stringAtoms, a.before a0 Z = true := fun d hd => by
  simp only [Bundle.stringAtoms, List.mem_cons, List.not_mem_nil, or_false] at hd
  rcases hd with rfl | rfl | rfl | rfl | rfl | rfl | rfl
  · exact (hwi hw 20 rfl)
  · exact (hwi hw 57 rfl)
  · exact (hwi hw 21 rfl)
  · exact (hwi hw 58 rfl)
  · exact (hwi hw 59 rfl)
  · exact (hwi hw 60 rfl)
  · exact (hwi hw 61 rfl)
def Txt (x : Int32) (N : Nat) (vs : List Value) : Prop := N = own_nd (own_M x) + own_sg x + (if x = 1 then 4 else 5) ∧ Digs (own_M x) (own_sg x) vs ∧ Sfx (own_nd (own_M x) + own_sg x) vs ∧ (x ≠ 1 → vs.getD (own_nd (own_M x) + own_sg x + 4) (.int (0 : Int32)) = .int (115 : Int32))
def Qday (Z : State) (x : Int32) (h0 : Heap) (n0 : Nat) (v : Option Value) (h : Heap) (L : List Loc) : Prop := ∃ (a b : Addr) (k : ClassId) (N : Nat) (vs : List Value), v = some (.ref a) ∧ Fr n0 L ∧ Keep h0 h [] ∧ Exa Z h a "java/lang/String" ∧ Fld Z h a "java/lang/String" "coder" "B" (.int (0 : Int32)) ∧ Fld Z h a "java/lang/String" "value" "[B" (.ref b) ∧ Arv Z h b k .byte (Int32.ofNat N) vs (.int (0 : Int32)) ∧ Txt x N vs
theorem own_gtake {vs : List Value} {n i : Nat} {d : Value} (h : i < n) : (vs.take n).getD i d = vs.getD i d := by
  simp only [List.getD_eq_getElem?_getD, List.getElem?_take_of_lt h]
theorem own_txt {x : Int32} {vi vs : List Value} (hx : ¬ x = 1) (dg : Digs (own_M x) (own_sg x) vi) (da : ∀ i, i < own_nd (own_M x) + own_sg x → vs.getD i (.int (0 : Int32)) = vi.getD i (.int (0 : Int32))) (db : ∀ i, i < 5 → vs.getD (own_nd (own_M x) + own_sg x + i) (.int (0 : Int32)) = ([(.int (32 : Int32)), (.int (100 : Int32)), (.int (97 : Int32)), (.int (121 : Int32)), (.int (115 : Int32))] : List Value).getD i (.int (0 : Int32))) : Txt x (own_nd (own_M x) + own_sg x + 5) (vs.take (own_nd (own_M x) + own_sg x + 5)) := by
  have hn := own_nd_le (own_M x)
  refine ⟨by rw [if_neg hx], ⟨fun j hj => ?_, fun h1 => ?_⟩, ⟨?_, ?_, ?_, ?_⟩, fun _ => ?_⟩
  · rw [own_gtake (by omega), da _ (by omega)]; exact dg.1 j hj
  · rw [own_gtake (by omega), da _ (by omega)]; exact dg.2 h1
  · rw [own_gtake (by omega)]; exact db 0 (by decide)
  · rw [own_gtake (by omega)]; exact db 1 (by decide)
  · rw [own_gtake (by omega)]; exact db 2 (by decide)
  · rw [own_gtake (by omega)]; exact db 3 (by decide)
  · rw [own_gtake (by omega)]; exact db 4 (by decide)
theorem own_txt1 : Txt 1 5 [(.int (49 : Int32)), (.int (32 : Int32)), (.int (100 : Int32)), (.int (97 : Int32)), (.int (121 : Int32))] := by
  refine ⟨by decide, ⟨fun j hj => ?_, fun h1 => absurd h1 (by decide)⟩, ⟨rfl, rfl, rfl, rfl⟩, fun h => absurd rfl h⟩
  have e : own_nd (own_M 1) = 1 := by decide
  have : j = 0 := by omega
  subst this
  rfl
theorem own_ef_prog_39_method_3_code_I (m : MethodId) (x0 : Int32) : entryFrame m #[(.int x0)] 1 = mkF m 0 #[.val (.int x0)] [] := by first | (simp [entryFrame, mkF, argsToLocals, Value.category]; done) | rfl | (simp [entryFrame, mkF, argsToLocals, own_cI, own_cJ, own_cR, own_cN]; done)
theorem own_pn_Figures : plainName "com/example/noteform/noteform/io/Figures" = true := by first | (simp [plainName, overriddenIn]; done) | decide +kernel
theorem d_prog_39_method_3_0 : decode prog_39_method_3_code 0 = .ok (.iload_n 0, 1) := by decide +kernel
theorem d_prog_39_method_3_1 : decode prog_39_method_3_code 1 = .ok (.iconst 1, 1) := by decide +kernel
theorem d_prog_39_method_3_2 : decode prog_39_method_3_code 2 = .ok (.if_icmp .ne 8, 3) := by decide +kernel
theorem d_prog_39_method_3_5 : decode prog_39_method_3_code 5 = .ok (.ldc 22, 2) := by decide +kernel
theorem d_prog_39_method_3_7 : decode prog_39_method_3_code 7 = .ok (.goto 22, 3) := by decide +kernel
theorem d_prog_39_method_3_29 : decode prog_39_method_3_code 29 = .ok (.areturn, 1) := by decide +kernel
theorem d_prog_39_method_3_10 : decode prog_39_method_3_code 10 = .ok (.new 7, 3) := by decide +kernel
theorem d_prog_39_method_3_13 : decode prog_39_method_3_code 13 = .ok (.dup, 1) := by decide +kernel
theorem d_prog_39_method_3_14 : decode prog_39_method_3_code 14 = .ok (.invokespecial 9, 3) := by decide +kernel
theorem own_pd19 : parseMethodDescriptor "()V" = some ⟨[], none⟩ := by decide +kernel
theorem d_prog_39_method_3_17 : decode prog_39_method_3_code 17 = .ok (.iload_n 0, 1) := by decide +kernel
theorem d_prog_39_method_3_18 : decode prog_39_method_3_code 18 = .ok (.invokevirtual 24, 3) := by decide +kernel
theorem own_pd20 : parseMethodDescriptor "(I)Ljava/lang/StringBuilder;" = some ⟨[.int], some (.object "java/lang/StringBuilder")⟩ := by decide +kernel
theorem d_prog_39_method_3_21 : decode prog_39_method_3_code 21 = .ok (.ldc 27, 2) := by decide +kernel
theorem d_prog_39_method_3_23 : decode prog_39_method_3_code 23 = .ok (.invokevirtual 10, 3) := by decide +kernel
theorem own_pd21 : parseMethodDescriptor "(Ljava/lang/String;)Ljava/lang/StringBuilder;" = some ⟨[(.object "java/lang/String")], some (.object "java/lang/StringBuilder")⟩ := by decide +kernel
theorem d_prog_39_method_3_26 : decode prog_39_method_3_code 26 = .ok (.invokevirtual 18, 3) := by decide +kernel
theorem own_pd22 : parseMethodDescriptor "()Ljava/lang/String;" = some ⟨[], some (.object "java/lang/String")⟩ := by decide +kernel
set_option maxRecDepth 65536 in
set_option maxHeartbeats 40000000 in
theorem own_days (l : Launch) (Z : State) (a0 : Array Value) (hw : ∀ d ∈ tables_1, d.before a0 Z = true) (ws : List Jvm.Cond) (x0 : Int32) (gc : Int32) (d1 d2 : Addr) (kd1 kd2 : ClassId) (hEL : EW Z a0 own_EL) (h0 : Heap) (n0 : Nat) (Z0 : n0 ≤ h0.size) (Sc : Sta Z h0 "java/lang/String" "COMPACT_STRINGS" "Z" (.int gc)) (hgc : ¬ gc = (0 : Int32)) (t0 : Sta Z h0 "java/lang/Integer" "DigitOnes" "[B" (.ref d1)) (t1 : Sta Z h0 "java/lang/Integer" "DigitTens" "[B" (.ref d2)) (t2 : Arv Z h0 d1 kd1 .byte (100 : Int32) own_ones (.int (0 : Int32))) (t3 : Arv Z h0 d2 kd2 .byte (100 : Int32) own_tens (.int (0 : Int32))) :
    ConW l Z own_EL (⟨"com/example/noteform/noteform/io/Figures", "days", "(I)Ljava/lang/String;"⟩ : MethodName) prog_39_method_3_code 1 (some (.object "java/lang/String")) ({ frames := 6, cells := 6, slots := 64, locals := 91 } : Room) ws #[(.int x0)] h0 (Qday Z x0 h0 n0) 6 64 := by
  refine ConW.of (plainFor_of_name own_pn_Figures) ?_
  intro pgm e s m below meth c s₁ k0 X0 hx hZ hby hml hown hnm hret hlk e0 hs0 hS hk CR
  have N0 := Fr.nil n0
  have hnm : meth.name = "days" := hnm
  refine GoW.cast (own_ef_prog_39_method_3_code_I m x0) ?_
  have K0 := Keep.refl h0 []
  have hn10 := own_nd_le (own_M x0)
  have hs1 := own_sg_le x0
  refine GoW.step (T' := s₁) (g' := (mkF m 1 #[.val (.int x0)] [(.int x0)])) (fun _ k => XS.iloadN X0.here hx rfl (hb hby d_prog_39_method_3_0) rfl  k) ?_
  refine GoW.step (T' := s₁) (g' := (mkF m 2 #[.val (.int x0)] [(.int (1 : Int32)), (.int x0)])) (fun _ k => XS.iconst X0.here hx rfl (hb hby d_prog_39_method_3_1) k) ?_
  by_cases hc101 : x0 = (1 : Int32)
  · skip
    refine GoW.step (T' := s₁) (g' := (mkF m 5 #[.val (.int x0)] [])) (fun _ k => XS.icmpNo X0.here hx rfl (hb hby d_prog_39_method_3_2) rfl (teq hc101).2 k) ?_
    obtain ⟨sa102, T102, h102, kk102, sb102, kb102, X102, e102, E102, hS, hk, hZ, hown, A102, FC102, FV102, V102, lta102, ltb102, CR102, Lt102, sf102, st102⟩ := ldcCH X0 hx hZ hown (hwi hw 199 rfl) (own_wS hw) e0 hS hk hEL (by decide) CR.1 (vs := [(.int (49 : Int32)), (.int (32 : Int32)), (.int (100 : Int32)), (.int (97 : Int32)), (.int (121 : Int32))]) (z := (5 : Int32)) ⟨by decide, rfl⟩ (by decide) (by decide) (g := (mkF m 5 #[.val (.int x0)] [])) rfl (hb hby d_prog_39_method_3_5) (n := 20) (by decide) (by decide) (by decide) (by decide)
    have CR := CR.trans CR102
    have Z102 : n0 ≤ h102.size := Nat.le_trans Z0 E102.1
    have K102 := K0.ext E102
    have F103 := Sc.ext E102
    have F104 := t0.ext E102
    have F105 := t1.ext E102
    have F106 := t2.ext E102
    have F107 := t3.ext E102
    refine GoW.step (T' := T102) (g' := (mkF m 7 #[.val (.int x0)] [(.ref sa102)])) st102 ?_
    refine GoW.step (T' := T102) (g' := (mkF m 29 #[.val (.int x0)] [(.ref sa102)])) (fun _ k => XS.goto X102.here hx rfl (pc0 := 7) (pc' := 29) rfl (hb hby d_prog_39_method_3_7) (by decide) (by decide) k) ?_
    exact GoW.retA X102 hx hS hk hZ hEL CR e102 (t := (.object "java/lang/String")) hret rfl hlk rfl (hb hby d_prog_39_method_3_29) (by rw [e102]; exact ⟨sa102, sb102, _, 5, _, rfl, N0, K102, A102, FC102, FV102, V102, (by rw [hc101]; exact own_txt1)⟩) (by decide) (by decide)
  · skip
    refine GoW.step (T' := s₁) (g' := (mkF m 10 #[.val (.int x0)] [])) (fun _ k => XS.icmpYes X0.here hx rfl (pc0 := 2) (pc' := 10) rfl (hb hby d_prog_39_method_3_2) rfl (feq hc101).2 (by decide) (by decide) k) ?_
    obtain ⟨T108, h108, X108, e108, E108, A108, D108, -, st108⟩ := newO X0 hx hZ hown (hwi hw 4 rfl) (hwi hw 5 rfl) (hwi hw 6 rfl) e0 (g := (mkF m 10 #[.val (.int x0)] [])) rfl (hb hby d_prog_39_method_3_10) (by decide) (by decide)
    obtain ⟨b108, g108⟩ : ∃ z, z = h0.size := ⟨_, rfl⟩
    rw [← g108] at A108 D108 st108
    have ne109 : d1 ≠ b108 := by have q := t2.lt; intro r; rw [r, g108] at q; exact Nat.lt_irrefl _ q
    have ne110 : d2 ≠ b108 := by have q := t3.lt; intro r; rw [r, g108] at q; exact Nat.lt_irrefl _ q
    have ge108 : n0 ≤ b108 := Nat.le_trans Z0 (Nat.le_of_eq g108.symm)
    have Z108 : n0 ≤ h108.size := Nat.le_trans Z0 E108.1
    have sz108 : h0.size ≤ b108 := Nat.le_trans K0.1 (Nat.le_of_eq g108.symm)
    have K108 := K0.ext E108
    have hk := Nat.le_trans hk E108.1
    have CR := CR.trans (CHr.ext E108 CR.1)
    have F111 := Sc.ext E108
    have F112 := t0.ext E108
    have F113 := t1.ext E108
    have F114 := t2.ext E108
    have F115 := t3.ext E108
    have F116 : Fld Z h108 b108 "java/lang/AbstractStringBuilder" "value" "[B" .null := D108 (Or.inl (hwi hw 23 rfl)) (ty := (.array .byte)) (by decide)
    have F117 : Fld Z h108 b108 "java/lang/AbstractStringBuilder" "coder" "B" (.int (0 : Int32)) := D108 (Or.inl (hwi hw 25 rfl)) (ty := .byte) (by decide)
    have F118 : Fld Z h108 b108 "java/lang/AbstractStringBuilder" "count" "I" (.int (0 : Int32)) := D108 (Or.inl (hwi hw 37 rfl)) (ty := .int) (by decide)
    refine GoW.step (T' := T108) (g' := (mkF m 13 #[.val (.int x0)] [(.ref b108)])) st108 ?_
    refine GoW.step (T' := T108) (g' := (mkF m 14 #[.val (.int x0)] [(.ref b108), (.ref b108)])) (fun _ k => XS.dup X108.here hx rfl (hb hby d_prog_39_method_3_13) rfl rfl k) ?_
    obtain ⟨_, _, ⟨T119, L119, k119, n119⟩, -, X119, ⟨Lc119, hQ119, l119, y119, z119⟩, st119⟩ := X108.specialBack hx (y := (⟨"java/lang/StringBuilder", "<init>", "()V"⟩ : MethodName)) rfl hown (mvT hZ (hwi hw 7 rfl)) (mvT hZ (hwi hw 8 rfl)) (mvT hZ (hwi hw 9 rfl)) (by decide) (backOf (W := 1) (Q := Qini Z b108 h108 n0) (own_sbi l Z a0 hw [] b108 gc .null (.int (0 : Int32)) h108 n0 Z108 F111 hgc A108 ge108 F116 F117 F118) hZ (hwi hw 9 rfl) (hwi hw 6 rfl) (by decide) (by decide)) (g := (mkF m 14 #[.val (.int x0)] [(.ref b108), (.ref b108)])) rfl (by rw [hml]; rfl) (Steps.refl _) (a := b108) (argsL := []) (rest := [(.ref b108)]) (lenOf own_pd19 rfl) rfl (by show 2 * 0 + _ ≤ _; exact Nat.le_of_eq rfl) (hb hby d_prog_39_method_3_14) (fun _ _ => ⟨rfl, e108, (by decide : 1 + 1 ≤ _), (by decide : 4 + 16 ≤ _)⟩)
    dsimp only [Pt.U, Pt.locs, Pt.cells, Pt.slots] at X119 l119 y119 z119 st119 hQ119
    subst l119 y119 z119
    obtain ⟨bb119, kb119, rfl, N119q, K119, lt119, E119, B119, C119, M119, EB119, V119⟩ := hQ119
    have N119 := Fr.app N0 N119q
    have ne120 : d1 ≠ bb119 := Nat.ne_of_lt (Nat.lt_of_lt_of_le F114.lt lt119)
    have ne121 : d2 ≠ bb119 := Nat.ne_of_lt (Nat.lt_of_lt_of_le F115.lt lt119)
    have ne122 : b108 ≠ bb119 := Nat.ne_of_lt (Nat.lt_of_lt_of_le A108.lt lt119)
    have ge123 : n0 ≤ bb119 := Nat.le_trans Z108 lt119
    have sz124 : h0.size ≤ bb119 := Nat.le_trans K108.1 lt119
    have KK119 := K108.trans K119 (allS (Or.inr sz108) all0)
    have Z119 : n0 ≤ T119.heap.size := Nat.le_trans Z108 K119.1
    have sfx125 := Safe.keep K119 (sfS (Safe.exa hZ.alike A108 (by decide) (by decide)) sf0) CR.1 (Safe.new lt119)
    have hk := Nat.le_trans hk K119.1
    have CR := CR.trans (CHr.keep K119 (sfS (Safe.exa hZ.alike A108 (by decide) (by decide)) sf0) CR.1)
    have F126 := own_sta_keep F111 K119 (allS (own_plain A108) all0)
    have F127 := own_sta_keep F112 K119 (allS (own_plain A108) all0)
    have F128 := own_sta_keep F113 K119 (allS (own_plain A108) all0)
    have F129 := F114.keep K119 (ninS ne109 nin0)
    have F130 := F115.keep K119 (ninS ne110 nin0)
    have F131 := A108.keep K119
    refine GoW.step (T' := T119) (g' := (mkF m 17 #[.val (.int x0)] [(.ref b108)])) (fun _ k => st119.trans k) ?_
    refine GoW.step (T' := T119) (g' := (mkF m 18 #[.val (.int x0)] [(.int x0), (.ref b108)])) (fun _ k => XS.iloadN X119.here hx rfl (hb hby d_prog_39_method_3_17) rfl  k) ?_
    obtain ⟨cq132, kq132, q132a, q132b, q132c⟩ := isOf hZ rfl E119
    obtain ⟨_, _, ⟨T132, L132, k132, n132⟩, -, X132, ⟨Lc132, hQ132, l132, y132, z132⟩, st132⟩ := X119.virtualBack hx (y := (⟨"java/lang/StringBuilder", "append", "(I)Ljava/lang/StringBuilder;"⟩ : MethodName)) (z := (⟨"java/lang/StringBuilder", "append", "(I)Ljava/lang/StringBuilder;"⟩ : MethodName)) hown (mvT hZ (hwi hw 26 rfl)) (mvT hZ (hwi hw 27 rfl)) (notFace_of_selects (args := #[]) (mvT hZ (hwi hw 29 rfl))) (mvT hZ (hwi hw 29 rfl)) (mvT hZ (hwi hw 28 rfl)) (by decide) (backOf (W := 0) (Q := Qapi Z b108 bb119 kb119 (own_M x0) (own_sg x0) T119.heap n0) (own_sbapi l Z a0 hw [] b108 x0 gc bb119 kb119 own_z16 d1 d2 kd1 kd2 T119.heap n0 Z119 F126 hgc E119 ge108 B119 C119 M119 ne122 ne109 ne110 F127 F128 F129 F130 V119 EB119 ne120 ne121 ge123 (rfl : own_z16.length = 16)) hZ (hwi hw 30 rfl) (hwi hw 6 rfl) (by decide) (by decide)) q132a q132c (g := (mkF m 18 #[.val (.int x0)] [(.int x0), (.ref b108)])) rfl (by rw [hml]; rfl) (Steps.refl _) (argsL := [(.int x0)]) (rest := []) (lenOf own_pd20 rfl) rfl (by show 2 * 0 + _ ≤ _; exact Nat.le_of_eq rfl) (hb hby d_prog_39_method_3_18) (fun _ _ => ⟨rfl, rfl, (by decide : 2 + 0 ≤ _), (by decide : 20 + 0 ≤ _)⟩)
    dsimp only [Pt.U, Pt.locs, Pt.cells, Pt.slots] at X132 l132 y132 z132 st132 hQ132
    subst l132 y132 z132
    obtain ⟨vs132, rfl, N132q, K132, E132, B132, C132, M132, EB132, V132, hl132, dg132⟩ := hQ132
    have N132 := Fr.app N119 N132q
    have KK132 := KK119.trans K132 (allS (Or.inr sz108) (allS (Or.inr sz124) all0))
    have Z132 : n0 ≤ T132.heap.size := Nat.le_trans Z119 K132.1
    have sfx133 := Safe.keep K132 (sfS (Safe.exa hZ.alike E119 (by decide) (by decide)) (sfS sfx125 sf0)) CR.1 sfx125
    have hk := Nat.le_trans hk K132.1
    have CR := CR.trans (CHr.keep K132 (sfS (Safe.exa hZ.alike E119 (by decide) (by decide)) (sfS sfx125 sf0)) CR.1)
    have F134 := own_sta_keep F126 K132 (allS (own_plain E119) (allS (own_plain EB119) all0))
    have F135 := own_sta_keep F127 K132 (allS (own_plain E119) (allS (own_plain EB119) all0))
    have F136 := own_sta_keep F128 K132 (allS (own_plain E119) (allS (own_plain EB119) all0))
    have F137 := F129.keep K132 (ninS ne109 (ninS ne120 nin0))
    have F138 := F130.keep K132 (ninS ne110 (ninS ne121 nin0))
    have F139 := E119.keep K132
    have F140 := EB119.keep K132
    refine GoW.step (T' := T132) (g' := (mkF m 21 #[.val (.int x0)] [(.ref b108)])) (fun _ k => st132.trans k) ?_
    have sfa := Safe.exa (EL := own_EL) hZ.alike E132 (by decide) (by decide)
    obtain ⟨sa141, T141, h141, kk141, sb141, kb141, X141, e141, E141, hS, hk, hZ, hown, A141, FC141, FV141, V141, lta141, ltb141, CR141, Lt141, sf141, st141⟩ := ldcCH X132 hx hZ hown (hwi hw 56 rfl) (own_wS hw) rfl hS hk hEL (by decide) CR.1 (vs := [(.int (32 : Int32)), (.int (100 : Int32)), (.int (97 : Int32)), (.int (121 : Int32)), (.int (115 : Int32))]) (z := (5 : Int32)) ⟨by decide, rfl⟩ (by decide) (by decide) (g := (mkF m 21 #[.val (.int x0)] [(.ref b108)])) rfl (hb hby d_prog_39_method_3_21) (n := 20) (by decide) (by decide) (by decide) (by decide)
    have sfx142 := CHr.safe CR141 EB132.lt sfx133
    have sfx143 := CHr.safe CR141 E132.lt sfa
    have CR := CR.trans CR141
    have Z141 : n0 ≤ h141.size := Nat.le_trans Z132 E141.1
    have K141 := KK132.ext E141
    have F144 := F134.ext E141
    have F145 := F135.ext E141
    have F146 := F136.ext E141
    have F147 := F137.ext E141
    have F148 := F138.ext E141
    have F149 := E132.ext E141
    have F150 := EB132.ext E141
    have F151 := B132.ext E141
    have F152 := C132.ext E141
    have F153 := M132.ext E141
    have F154 := V132.ext E141
    refine GoW.step (T' := T141) (g' := (mkF m 23 #[.val (.int x0)] [(.ref sa141), (.ref b108)])) st141 ?_
    obtain ⟨cq155, kq155, q155a, q155b, q155c⟩ := isOf hZ e141 F149
    obtain ⟨_, _, ⟨T155, L155, k155, n155⟩, -, X155, ⟨Lc155, hQ155, l155, y155, z155⟩, st155⟩ := X141.virtualBack hx (y := (⟨"java/lang/StringBuilder", "append", "(Ljava/lang/String;)Ljava/lang/StringBuilder;"⟩ : MethodName)) (z := (⟨"java/lang/StringBuilder", "append", "(Ljava/lang/String;)Ljava/lang/StringBuilder;"⟩ : MethodName)) hown (mvT hZ (hwi hw 62 rfl)) (mvT hZ (hwi hw 63 rfl)) (notFace_of_selects (args := #[]) (mvT hZ (hwi hw 65 rfl))) (mvT hZ (hwi hw 65 rfl)) (mvT hZ (hwi hw 64 rfl)) (by decide) (backOf (W := 0) (Q := Qaps Z b108 bb119 kb119 (own_nd (own_M x0) + own_sg x0) vs132 (some (.ref b108)) h141 n0) (own_sbaps l Z a0 hw [] b108 sa141 gc bb119 kb119 (own_nd (own_M x0) + own_sg x0) vs132 sb141 kb141 h141 n0 Z141 F144 hgc A141 FC141 FV141 V141 F154 F150 ge123 (Ne.symm (sf141 _ sfx142).2) (Ne.symm (sf141 _ sfx142).1) (by omega) hl132 F149 F151 F152 ne122 F153 ge108 (Ne.symm (sf141 _ sfx143).1) (Ne.symm (sf141 _ sfx143).2)) hZ (hwi hw 66 rfl) (hwi hw 6 rfl) (by decide) (by decide)) q155a q155c (g := (mkF m 23 #[.val (.int x0)] [(.ref sa141), (.ref b108)])) rfl (by rw [hml]; rfl) (Steps.refl _) (argsL := [(.ref sa141)]) (rest := []) (lenOf own_pd21 rfl) rfl (by show 2 * 0 + _ ≤ _; exact Nat.le_of_eq rfl) (hb hby d_prog_39_method_3_23) (fun _ _ => ⟨rfl, e141, (by decide : 4 + 0 ≤ _), (by decide : 44 + 0 ≤ _)⟩)
    dsimp only [Pt.U, Pt.locs, Pt.cells, Pt.slots] at X155 l155 y155 z155 st155 hQ155
    subst l155 y155 z155
    obtain ⟨vs155, rfl, N155q, K155, E155, B155, C155, M155, EB155, V155, hl155, da155, db155⟩ := hQ155
    have N155 := Fr.app N132 N155q
    have KK155 := K141.trans K155 (allS (Or.inr sz108) (allS (Or.inr sz124) all0))
    have Z155 : n0 ≤ T155.heap.size := Nat.le_trans Z141 K155.1
    have sfx156 := Safe.keep K155 (sfS sfx143 (sfS sfx142 sf0)) CR.1 sfx142
    have sfx157 := Safe.keep K155 (sfS sfx143 (sfS sfx142 sf0)) CR.1 sfx143
    have hk := Nat.le_trans hk K155.1
    have CR := CR.trans (CHr.keep K155 (sfS sfx143 (sfS sfx142 sf0)) CR.1)
    have F158 := own_sta_keep F144 K155 (allS (own_plain F149) (allS (own_plain F150) all0))
    have F159 := own_sta_keep F145 K155 (allS (own_plain F149) (allS (own_plain F150) all0))
    have F160 := own_sta_keep F146 K155 (allS (own_plain F149) (allS (own_plain F150) all0))
    have F161 := F147.keep K155 (ninS ne109 (ninS ne120 nin0))
    have F162 := F148.keep K155 (ninS ne110 (ninS ne121 nin0))
    have F163 := F149.keep K155
    have F164 := F150.keep K155
    have F165 := A141.keep K155
    have F166 := FC141.keep K155 (ninS (Ne.symm (sf141 _ sfx143).1) (ninS (Ne.symm (sf141 _ sfx142).1) nin0))
    have F167 := FV141.keep K155 (ninS (Ne.symm (sf141 _ sfx143).1) (ninS (Ne.symm (sf141 _ sfx142).1) nin0))
    have F168 := V141.keep K155 (ninS (Ne.symm (sf141 _ sfx143).2) (ninS (Ne.symm (sf141 _ sfx142).2) nin0))
    refine GoW.step (T' := T155) (g' := (mkF m 26 #[.val (.int x0)] [(.ref b108)])) (fun _ k => st155.trans k) ?_
    obtain ⟨cq169, kq169, q169a, q169b, q169c⟩ := isOf hZ rfl E155
    obtain ⟨_, _, ⟨T169, L169, k169, n169⟩, -, X169, ⟨Lc169, hQ169, l169, y169, z169⟩, st169⟩ := X155.virtualBack hx (y := (⟨"java/lang/StringBuilder", "toString", "()Ljava/lang/String;"⟩ : MethodName)) (z := (⟨"java/lang/StringBuilder", "toString", "()Ljava/lang/String;"⟩ : MethodName)) hown (mvT hZ (hwi hw 104 rfl)) (mvT hZ (hwi hw 105 rfl)) (notFace_of_selects (args := #[]) (mvT hZ (hwi hw 107 rfl))) (mvT hZ (hwi hw 107 rfl)) (mvT hZ (hwi hw 106 rfl)) (by decide) (backOf (W := 0) (Q := Qtos Z (own_nd (own_M x0) + own_sg x0 + 5) vs155 T155.heap n0) (own_tos l Z a0 hw [] b108 gc bb119 (own_nd (own_M x0) + own_sg x0 + 5) kb119 vs155 T155.heap n0 Z155 F158 hgc E155 B155 C155 M155 V155 EB155 (by omega) hl155) hZ (hwi hw 108 rfl) (hwi hw 6 rfl) (by decide) (by decide)) q169a q169c (g := (mkF m 26 #[.val (.int x0)] [(.ref b108)])) rfl (by rw [hml]; rfl) (Steps.refl _) (argsL := []) (rest := []) (lenOf own_pd22 rfl) rfl (by show 2 * 0 + _ ≤ _; exact Nat.le_of_eq rfl) (hb hby d_prog_39_method_3_26) (fun _ _ => ⟨rfl, rfl, (by decide : 4 + 2 ≤ _), (by decide : 44 + 20 ≤ _)⟩)
    dsimp only [Pt.U, Pt.locs, Pt.cells, Pt.slots] at X169 l169 y169 z169 st169 hQ169
    subst l169 y169 z169
    obtain ⟨ra169, rb169, kc169, rfl, N169q, K169, E169, C169, B169, V169⟩ := hQ169
    have N169 := Fr.app N155 N169q
    have KK169 := KK155.trans K169 all0
    have Z169 : n0 ≤ T169.heap.size := Nat.le_trans Z155 K169.1
    have sfx170 := Safe.keep K169 sf0 CR.1 sfx156
    have sfx171 := Safe.keep K169 sf0 CR.1 sfx157
    have hk := Nat.le_trans hk K169.1
    have CR := CR.trans (CHr.keep K169 sf0 CR.1)
    have F172 := own_sta_keep F158 K169 all0
    have F173 := own_sta_keep F159 K169 all0
    have F174 := own_sta_keep F160 K169 all0
    have F175 := F161.keep K169 nin0
    have F176 := F162.keep K169 nin0
    have F177 := E155.keep K169
    have F178 := EB155.keep K169
    have F179 := F165.keep K169
    have F180 := F166.keep K169 nin0
    have F181 := F167.keep K169 nin0
    have F182 := F168.keep K169 nin0
    have F183 := B155.keep K169 nin0
    have F184 := C155.keep K169 nin0
    have F185 := M155.keep K169 nin0
    have F186 := V155.keep K169 nin0
    refine GoW.step (T' := T169) (g' := (mkF m 29 #[.val (.int x0)] [(.ref ra169)])) (fun _ k => st169.trans k) ?_
    exact GoW.retA X169 hx hS hk hZ hEL CR rfl (t := (.object "java/lang/String")) hret rfl hlk rfl (hb hby d_prog_39_method_3_29) (⟨ra169, rb169, _, own_nd (own_M x0) + own_sg x0 + 5, _, rfl, N169, KK169, E169, C169, B169, V169, (own_txt hc101 dg132 da155 db155)⟩) (by decide) (by decide)
theorem own_pos {d s j : Nat} {s0 jj : Int32} (e1 : s0 = Int32.ofNat s) (e2 : jj = Int32.ofNat j) (h : j < d) (hd : d ≤ 10) (hs : s ≤ 1) : ((s0 + (Int32.ofNat d)) - (1 : Int32)) - jj = Int32.ofNat (d + s - 1 - j) := by
  subst e1 e2
  rw [own_addN, show (1 : Int32) = Int32.ofNat 1 from rfl, own_subN (by omega) (by omega), own_subN (by omega) (by omega)]
  congr 1; omega
theorem own_pz {pp : Int64} {j : Nat} (h : pp.toInt = ((10 ^ j : Nat) : Int)) : pp ≠ 0 := fun q => by
  rw [q, show (0 : Int64).toInt = 0 from rfl] at h
  have : 0 < 10 ^ j := Nat.pow_pos (by decide)
  omega
theorem own_jn {jj : Int32} {j d : Nat} (e : jj = Int32.ofNat j) (hj : j < 10) (hd : d ≤ 10) (h : jj < Int32.ofNat d) : j < d := by
  subst e
  rw [Int32.lt_iff_toInt_lt, own_ofNat (by omega), own_ofNat (by omega)] at h
  omega
theorem own_ef_method_4_code_RIIJIJ (m : MethodId) (x0 : Addr) (x1 : Int32) (x2 : Int32) (x3 : Int64) (x4 : Int32) (x5 : Int64) : entryFrame m #[(.ref x0), (.int x1), (.int x2), (.long x3), (.int x4), (.long x5)] 10 = mkF m 0 #[.val (.ref x0), .val (.int x1), .val (.int x2), .val (.long x3), .second, .val (.int x4), .val (.long x5), .second, .unset, .unset] [] := by first | (simp [entryFrame, mkF, argsToLocals, Value.category]; done) | rfl | (simp [entryFrame, mkF, argsToLocals, own_cI, own_cJ, own_cR, own_cN]; done)
theorem d_method_4_0 : decode method_4_code 0 = .ok (.iload 5, 2) := by decide +kernel
theorem d_method_4_2 : decode method_4_code 2 = .ok (.iload_n 2, 1) := by decide +kernel
theorem d_method_4_3 : decode method_4_code 3 = .ok (.if_icmp .lt 5, 3) := by decide +kernel
theorem d_method_4_8 : decode method_4_code 8 = .ok (.iload_n 1, 1) := by decide +kernel
theorem d_method_4_9 : decode method_4_code 9 = .ok (.iload_n 2, 1) := by decide +kernel
theorem d_method_4_10 : decode method_4_code 10 = .ok (.iadd, 1) := by decide +kernel
theorem d_method_4_11 : decode method_4_code 11 = .ok (.iconst 1, 1) := by decide +kernel
theorem d_method_4_12 : decode method_4_code 12 = .ok (.isub, 1) := by decide +kernel
theorem d_method_4_13 : decode method_4_code 13 = .ok (.iload 5, 2) := by decide +kernel
theorem d_method_4_15 : decode method_4_code 15 = .ok (.isub, 1) := by decide +kernel
theorem d_method_4_16 : decode method_4_code 16 = .ok (.istore 8, 2) := by decide +kernel
theorem d_method_4_18 : decode method_4_code 18 = .ok (.bipush 48, 2) := by decide +kernel
theorem d_method_4_20 : decode method_4_code 20 = .ok (.lload_n 3, 1) := by decide +kernel
theorem d_method_4_21 : decode method_4_code 21 = .ok (.lload 6, 2) := by decide +kernel
theorem d_method_4_23 : decode method_4_code 23 = .ok (.ldiv, 1) := by decide +kernel
theorem d_method_4_24 : decode method_4_code 24 = .ok (.ldc2_w 39, 3) := by decide +kernel
theorem d_method_4_27 : decode method_4_code 27 = .ok (.lrem, 1) := by decide +kernel
theorem d_method_4_28 : decode method_4_code 28 = .ok (.l2i, 1) := by decide +kernel
theorem d_method_4_29 : decode method_4_code 29 = .ok (.iadd, 1) := by decide +kernel
theorem d_method_4_30 : decode method_4_code 30 = .ok (.i2c, 1) := by decide +kernel
theorem d_method_4_31 : decode method_4_code 31 = .ok (.istore 9, 2) := by decide +kernel
theorem d_method_4_33 : decode method_4_code 33 = .ok (.aload_n 0, 1) := by decide +kernel
theorem d_method_4_34 : decode method_4_code 34 = .ok (.iload 8, 2) := by decide +kernel
theorem d_method_4_36 : decode method_4_code 36 = .ok (.invokevirtual 31, 3) := by decide +kernel
theorem own_pd23 : parseMethodDescriptor "(I)C" = some ⟨[.int], some .char⟩ := by decide +kernel
theorem d_method_4_39 : decode method_4_code 39 = .ok (.iload 9, 2) := by decide +kernel
theorem d_method_4_41 : decode method_4_code 41 = .ok (.if_icmp .ne 7, 3) := by decide +kernel
theorem d_method_4_44 : decode method_4_code 44 = .ok (.iconst 1, 1) := by decide +kernel
theorem d_method_4_45 : decode method_4_code 45 = .ok (.goto 4, 3) := by decide +kernel
theorem d_method_4_49 : decode method_4_code 49 = .ok (.ireturn, 1) := by decide +kernel
theorem d_method_4_6 : decode method_4_code 6 = .ok (.iconst 1, 1) := by decide +kernel
theorem d_method_4_7 : decode method_4_code 7 = .ok (.ireturn, 1) := by decide +kernel
set_option maxRecDepth 65536 in
set_option maxHeartbeats 40000000 in
theorem own_da (l : Launch) (Z : State) (a0 : Array Value) (hw : ∀ d ∈ tables_1, d.before a0 Z = true) (ws : List Jvm.Cond) (a1 : Addr) (x0 s0 jj : Int32) (pp : Int64) (sg j NN : Nat) (gc : Int32) (b1 : Addr) (k1 : ClassId) (vs : List Value) (gf : Value) (h0 : Heap) (n0 : Nat) (Z0 : n0 ≤ h0.size) (Sc : Sta Z h0 "java/lang/String" "COMPACT_STRINGS" "Z" (.int gc)) (hgc : ¬ gc = (0 : Int32)) (E1 : Exa Z h0 a1 "java/lang/String") (C1 : Fld Z h0 a1 "java/lang/String" "coder" "B" (.int (0 : Int32))) (B1 : Fld Z h0 a1 "java/lang/String" "value" "[B" (.ref b1)) (V1 : Arv Z h0 b1 k1 .byte (Int32.ofNat NN) vs (.int (0 : Int32))) (Sf : Sta Z h0 "jdk/internal/util/Preconditions" "SIOOBE_FORMATTER" "Ljava/util/function/BiFunction;" gf) (cgf : gf.category = 1) (hst0 : s0 = Int32.ofNat sg) (hjj : jj = Int32.ofNat j) (hpp : pp.toInt = ((10 ^ j : Nat) : Int)) (hj : j < 10) (hsg : sg ≤ 1) (dg : Digs (own_M x0) sg vs) (hNN : own_nd (own_M x0) + sg ≤ NN) (hN2 : NN < 1000) :
    Con l Z (⟨"com/example/noteform/noteform/io/FiguresDaysPinLaw", "digitAt", "(Ljava/lang/String;IIJIJ)Z"⟩ : MethodName) method_4_code 10 (some .boolean) ({ frames := 4, cells := 0, slots := 0, locals := 53 } : Room) ws #[(.ref a1), (.int s0), (.int (Int32.ofNat (own_nd (own_M x0)))), (.long (own_L x0)), (.int jj), (.long pp)] h0 (Qret (some (.int (1 : Int32))) h0 n0) 0 0 := by
  refine Con.of (plainFor_of_name own_pn_FiguresDaysPinLaw) ?_
  intro pgm e s m below meth c s₁ X0 hx hZ hby hml hown hnm hret hlk e0 hs0
  have N0 := Fr.nil n0
  have hown : s.vm.findClass "com/example/noteform/noteform/io/FiguresDaysPinLaw" = some m.cls := hown
  have hnm : meth.name = "digitAt" := hnm
  refine Go.cast (own_ef_method_4_code_RIIJIJ m a1 s0 (Int32.ofNat (own_nd (own_M x0))) (own_L x0) jj pp) ?_
  have hn10 := own_nd_le (own_M x0)
  refine Go.step (T' := s₁) (g' := (mkF m 2 #[.val (.ref a1), .val (.int s0), .val (.int (Int32.ofNat (own_nd (own_M x0)))), .val (.long (own_L x0)), .second, .val (.int jj), .val (.long pp), .second, .unset, .unset] [(.int jj)])) (fun _ k => XS.iload X0.here hx rfl (hb hby d_method_4_0) rfl  k) ?_
  refine Go.step (T' := s₁) (g' := (mkF m 3 #[.val (.ref a1), .val (.int s0), .val (.int (Int32.ofNat (own_nd (own_M x0)))), .val (.long (own_L x0)), .second, .val (.int jj), .val (.long pp), .second, .unset, .unset] [(.int (Int32.ofNat (own_nd (own_M x0)))), (.int jj)])) (fun _ k => XS.iloadN X0.here hx rfl (hb hby d_method_4_2) rfl  k) ?_
  by_cases hc101 : jj < (Int32.ofNat (own_nd (own_M x0)))
  · skip
    refine Go.step (T' := s₁) (g' := (mkF m 8 #[.val (.ref a1), .val (.int s0), .val (.int (Int32.ofNat (own_nd (own_M x0)))), .val (.long (own_L x0)), .second, .val (.int jj), .val (.long pp), .second, .unset, .unset] [])) (fun _ k => XS.icmpYes X0.here hx rfl (pc0 := 3) (pc' := 8) rfl (hb hby d_method_4_3) rfl (tlt hc101).1 (by decide) (by decide) k) ?_
    refine Go.step (T' := s₁) (g' := (mkF m 9 #[.val (.ref a1), .val (.int s0), .val (.int (Int32.ofNat (own_nd (own_M x0)))), .val (.long (own_L x0)), .second, .val (.int jj), .val (.long pp), .second, .unset, .unset] [(.int s0)])) (fun _ k => XS.iloadN X0.here hx rfl (hb hby d_method_4_8) rfl  k) ?_
    refine Go.step (T' := s₁) (g' := (mkF m 10 #[.val (.ref a1), .val (.int s0), .val (.int (Int32.ofNat (own_nd (own_M x0)))), .val (.long (own_L x0)), .second, .val (.int jj), .val (.long pp), .second, .unset, .unset] [(.int (Int32.ofNat (own_nd (own_M x0)))), (.int s0)])) (fun _ k => XS.iloadN X0.here hx rfl (hb hby d_method_4_9) rfl  k) ?_
    refine Go.step (T' := s₁) (g' := (mkF m 11 #[.val (.ref a1), .val (.int s0), .val (.int (Int32.ofNat (own_nd (own_M x0)))), .val (.long (own_L x0)), .second, .val (.int jj), .val (.long pp), .second, .unset, .unset] [(.int (s0 + (Int32.ofNat (own_nd (own_M x0)))))])) (fun _ k => XS.iadd X0.here hx rfl (hb hby d_method_4_10) rfl k) ?_
    refine Go.step (T' := s₁) (g' := (mkF m 12 #[.val (.ref a1), .val (.int s0), .val (.int (Int32.ofNat (own_nd (own_M x0)))), .val (.long (own_L x0)), .second, .val (.int jj), .val (.long pp), .second, .unset, .unset] [(.int (1 : Int32)), (.int (s0 + (Int32.ofNat (own_nd (own_M x0)))))])) (fun _ k => XS.iconst X0.here hx rfl (hb hby d_method_4_11) k) ?_
    refine Go.step (T' := s₁) (g' := (mkF m 13 #[.val (.ref a1), .val (.int s0), .val (.int (Int32.ofNat (own_nd (own_M x0)))), .val (.long (own_L x0)), .second, .val (.int jj), .val (.long pp), .second, .unset, .unset] [(.int ((s0 + (Int32.ofNat (own_nd (own_M x0)))) - (1 : Int32)))])) (fun _ k => XS.isub X0.here hx rfl (hb hby d_method_4_12) rfl k) ?_
    refine Go.step (T' := s₁) (g' := (mkF m 15 #[.val (.ref a1), .val (.int s0), .val (.int (Int32.ofNat (own_nd (own_M x0)))), .val (.long (own_L x0)), .second, .val (.int jj), .val (.long pp), .second, .unset, .unset] [(.int jj), (.int ((s0 + (Int32.ofNat (own_nd (own_M x0)))) - (1 : Int32)))])) (fun _ k => XS.iload X0.here hx rfl (hb hby d_method_4_13) rfl  k) ?_
    refine Go.step (T' := s₁) (g' := (mkF m 16 #[.val (.ref a1), .val (.int s0), .val (.int (Int32.ofNat (own_nd (own_M x0)))), .val (.long (own_L x0)), .second, .val (.int jj), .val (.long pp), .second, .unset, .unset] [(.int (((s0 + (Int32.ofNat (own_nd (own_M x0)))) - (1 : Int32)) - jj))])) (fun _ k => XS.isub X0.here hx rfl (hb hby d_method_4_15) rfl k) ?_
    have hjn := own_jn hjj hj hn10.2 hc101
    rw [own_pos hst0 hjj hjn hn10.2 hsg]
    refine Go.step (T' := s₁) (g' := (mkF m 18 #[.val (.ref a1), .val (.int s0), .val (.int (Int32.ofNat (own_nd (own_M x0)))), .val (.long (own_L x0)), .second, .val (.int jj), .val (.long pp), .second, .val (.int (Int32.ofNat (own_nd (own_M x0) + sg - 1 - j))), .unset] [])) (fun _ k => XS.istore X0.here hx rfl (hb hby d_method_4_16) rfl (l' := #[.val (.ref a1), .val (.int s0), .val (.int (Int32.ofNat (own_nd (own_M x0)))), .val (.long (own_L x0)), .second, .val (.int jj), .val (.long pp), .second, .val (.int (Int32.ofNat (own_nd (own_M x0) + sg - 1 - j))), .unset]) rfl k) ?_
    refine Go.step (T' := s₁) (g' := (mkF m 20 #[.val (.ref a1), .val (.int s0), .val (.int (Int32.ofNat (own_nd (own_M x0)))), .val (.long (own_L x0)), .second, .val (.int jj), .val (.long pp), .second, .val (.int (Int32.ofNat (own_nd (own_M x0) + sg - 1 - j))), .unset] [(.int (48 : Int32))])) (fun _ k => XS.bipush X0.here hx rfl (hb hby d_method_4_18) k) ?_
    refine Go.step (T' := s₁) (g' := (mkF m 21 #[.val (.ref a1), .val (.int s0), .val (.int (Int32.ofNat (own_nd (own_M x0)))), .val (.long (own_L x0)), .second, .val (.int jj), .val (.long pp), .second, .val (.int (Int32.ofNat (own_nd (own_M x0) + sg - 1 - j))), .unset] [(.long (own_L x0)), (.int (48 : Int32))])) (fun _ k => XS.lloadN X0.here hx rfl (hb hby d_method_4_20) rfl  k) ?_
    refine Go.step (T' := s₁) (g' := (mkF m 23 #[.val (.ref a1), .val (.int s0), .val (.int (Int32.ofNat (own_nd (own_M x0)))), .val (.long (own_L x0)), .second, .val (.int jj), .val (.long pp), .second, .val (.int (Int32.ofNat (own_nd (own_M x0) + sg - 1 - j))), .unset] [(.long pp), (.long (own_L x0)), (.int (48 : Int32))])) (fun _ k => XS.lload X0.here hx rfl (hb hby d_method_4_21) rfl  k) ?_
    refine Go.step (T' := s₁) (g' := (mkF m 24 #[.val (.ref a1), .val (.int s0), .val (.int (Int32.ofNat (own_nd (own_M x0)))), .val (.long (own_L x0)), .second, .val (.int jj), .val (.long pp), .second, .val (.int (Int32.ofNat (own_nd (own_M x0) + sg - 1 - j))), .unset] [(.long ((own_L x0) / pp)), (.int (48 : Int32))])) (fun _ k => XS.ldiv X0.here hx rfl (hb hby d_method_4_23) rfl (own_pz hpp) k) ?_
    refine Go.step (T' := s₁) (g' := (mkF m 27 #[.val (.ref a1), .val (.int s0), .val (.int (Int32.ofNat (own_nd (own_M x0)))), .val (.long (own_L x0)), .second, .val (.int jj), .val (.long pp), .second, .val (.int (Int32.ofNat (own_nd (own_M x0) + sg - 1 - j))), .unset] [(.long (10 : Int64)), (.long ((own_L x0) / pp)), (.int (48 : Int32))])) (fun _ k => Jvm.Stand.ldc2J (g := (mkF m 24 #[.val (.ref a1), .val (.int s0), .val (.int (Int32.ofNat (own_nd (own_M x0)))), .val (.long (own_L x0)), .second, .val (.int jj), .val (.long pp), .second, .val (.int (Int32.ofNat (own_nd (own_M x0) + sg - 1 - j))), .unset] [(.long ((own_L x0) / pp)), (.int (48 : Int32))])) X0 hx hown (mvT hZ (hwi hw 154 rfl)) rfl (hb hby d_method_4_24) k) ?_
    refine Go.step (T' := s₁) (g' := (mkF m 28 #[.val (.ref a1), .val (.int s0), .val (.int (Int32.ofNat (own_nd (own_M x0)))), .val (.long (own_L x0)), .second, .val (.int jj), .val (.long pp), .second, .val (.int (Int32.ofNat (own_nd (own_M x0) + sg - 1 - j))), .unset] [(.long (((own_L x0) / pp) - (((own_L x0) / pp) / (10 : Int64)) * (10 : Int64))), (.int (48 : Int32))])) (fun _ k => XS.lrem X0.here hx rfl (hb hby d_method_4_27) rfl (by decide) k) ?_
    refine Go.step (T' := s₁) (g' := (mkF m 29 #[.val (.ref a1), .val (.int s0), .val (.int (Int32.ofNat (own_nd (own_M x0)))), .val (.long (own_L x0)), .second, .val (.int jj), .val (.long pp), .second, .val (.int (Int32.ofNat (own_nd (own_M x0) + sg - 1 - j))), .unset] [(.int ((((own_L x0) / pp) - (((own_L x0) / pp) / (10 : Int64)) * (10 : Int64)).toInt32)), (.int (48 : Int32))])) (fun _ k => XS.l2i X0.here hx rfl (hb hby d_method_4_28) rfl k) ?_
    refine Go.step (T' := s₁) (g' := (mkF m 30 #[.val (.ref a1), .val (.int s0), .val (.int (Int32.ofNat (own_nd (own_M x0)))), .val (.long (own_L x0)), .second, .val (.int jj), .val (.long pp), .second, .val (.int (Int32.ofNat (own_nd (own_M x0) + sg - 1 - j))), .unset] [(.int ((48 : Int32) + ((((own_L x0) / pp) - (((own_L x0) / pp) / (10 : Int64)) * (10 : Int64)).toInt32)))])) (fun _ k => XS.iadd X0.here hx rfl (hb hby d_method_4_29) rfl k) ?_
    refine Go.step (T' := s₁) (g' := (mkF m 31 #[.val (.ref a1), .val (.int s0), .val (.int (Int32.ofNat (own_nd (own_M x0)))), .val (.long (own_L x0)), .second, .val (.int jj), .val (.long pp), .second, .val (.int (Int32.ofNat (own_nd (own_M x0) + sg - 1 - j))), .unset] [(.int (((48 : Int32) + ((((own_L x0) / pp) - (((own_L x0) / pp) / (10 : Int64)) * (10 : Int64)).toInt32)).toUInt32.toUInt16.toUInt32.toInt32))])) (fun _ k => XS.i2c X0.here hx rfl (hb hby d_method_4_30) rfl k) ?_
    rw [own_dgL (own_M_le x0) (own_L_toInt x0) hpp hj]
    refine Go.step (T' := s₁) (g' := (mkF m 33 #[.val (.ref a1), .val (.int s0), .val (.int (Int32.ofNat (own_nd (own_M x0)))), .val (.long (own_L x0)), .second, .val (.int jj), .val (.long pp), .second, .val (.int (Int32.ofNat (own_nd (own_M x0) + sg - 1 - j))), .val (.int (own_dg (own_M x0) j))] [])) (fun _ k => XS.istore X0.here hx rfl (hb hby d_method_4_31) rfl (l' := #[.val (.ref a1), .val (.int s0), .val (.int (Int32.ofNat (own_nd (own_M x0)))), .val (.long (own_L x0)), .second, .val (.int jj), .val (.long pp), .second, .val (.int (Int32.ofNat (own_nd (own_M x0) + sg - 1 - j))), .val (.int (own_dg (own_M x0) j))]) rfl k) ?_
    refine Go.step (T' := s₁) (g' := (mkF m 34 #[.val (.ref a1), .val (.int s0), .val (.int (Int32.ofNat (own_nd (own_M x0)))), .val (.long (own_L x0)), .second, .val (.int jj), .val (.long pp), .second, .val (.int (Int32.ofNat (own_nd (own_M x0) + sg - 1 - j))), .val (.int (own_dg (own_M x0) j))] [(.ref a1)])) (fun _ k => XS.aloadN X0.here hx rfl (hb hby d_method_4_33) rfl rfl k) ?_
    refine Go.step (T' := s₁) (g' := (mkF m 36 #[.val (.ref a1), .val (.int s0), .val (.int (Int32.ofNat (own_nd (own_M x0)))), .val (.long (own_L x0)), .second, .val (.int jj), .val (.long pp), .second, .val (.int (Int32.ofNat (own_nd (own_M x0) + sg - 1 - j))), .val (.int (own_dg (own_M x0) j))] [(.int (Int32.ofNat (own_nd (own_M x0) + sg - 1 - j))), (.ref a1)])) (fun _ k => XS.iload X0.here hx rfl (hb hby d_method_4_34) rfl  k) ?_
    obtain ⟨cq102, kq102, q102a, q102b, q102c⟩ := isOf hZ e0 E1
    obtain ⟨_, _, ⟨T102, L102, k102, n102⟩, -, X102, ⟨Lc102, hQ102, l102, y102, z102⟩, st102⟩ := X0.virtualBack hx (y := (⟨"java/lang/String", "charAt", "(I)C"⟩ : MethodName)) (z := (⟨"java/lang/String", "charAt", "(I)C"⟩ : MethodName)) hown (mvT hZ (hwi hw 159 rfl)) (mvT hZ (hwi hw 160 rfl)) (notFace_of_selects (args := #[]) (mvT hZ (hwi hw 162 rfl))) (mvT hZ (hwi hw 162 rfl)) (mvT hZ (hwi hw 161 rfl)) (by decide) (backOf (W := 0) (Q := Qret (some (.int (own_dg (own_M x0) j))) h0 n0) (own_ch_ l Z a0 hw [] a1 (Int32.ofNat (own_nd (own_M x0) + sg - 1 - j)) gc b1 k1 (Int32.ofNat NN) vs gf (own_dg (own_M x0) j) (own_dg (own_M x0) j) h0 n0 Z0 Sc hgc E1 C1 B1 V1 Sf cgf (own_ge0 (by omega)) (own_inb hN2 (by omega)).2 (by rw [own_clamp (by omega)]; exact dg.1 j hjn) (own_dg_char _ _).1 (own_dg_char _ _).2) hZ (hwi hw 163 rfl) (hwi hw 20 rfl) (by decide) (by decide)) q102a q102c (g := (mkF m 36 #[.val (.ref a1), .val (.int s0), .val (.int (Int32.ofNat (own_nd (own_M x0)))), .val (.long (own_L x0)), .second, .val (.int jj), .val (.long pp), .second, .val (.int (Int32.ofNat (own_nd (own_M x0) + sg - 1 - j))), .val (.int (own_dg (own_M x0) j))] [(.int (Int32.ofNat (own_nd (own_M x0) + sg - 1 - j))), (.ref a1)])) rfl (by rw [hml]; rfl) (Steps.refl _) (argsL := [(.int (Int32.ofNat (own_nd (own_M x0) + sg - 1 - j)))]) (rest := []) (lenOf own_pd23 rfl) rfl (by show 2 * 0 + _ ≤ _; exact Nat.le_of_eq rfl) (hb hby d_method_4_36) (fun _ _ => ⟨rfl, e0, (by decide : 0 + 0 ≤ _), (by decide : 0 + 0 ≤ _)⟩)
    dsimp only [Pt.U, Pt.locs, Pt.cells, Pt.slots] at X102 l102 y102 z102 st102 hQ102
    subst l102 y102 z102
    obtain ⟨rfl, N102q, eh102⟩ := hQ102
    have N102 := Fr.app N0 N102q
    refine Go.step (T' := T102) (g' := (mkF m 39 #[.val (.ref a1), .val (.int s0), .val (.int (Int32.ofNat (own_nd (own_M x0)))), .val (.long (own_L x0)), .second, .val (.int jj), .val (.long pp), .second, .val (.int (Int32.ofNat (own_nd (own_M x0) + sg - 1 - j))), .val (.int (own_dg (own_M x0) j))] [(.int (own_dg (own_M x0) j))])) (fun _ k => st102.trans k) ?_
    refine Go.step (T' := T102) (g' := (mkF m 41 #[.val (.ref a1), .val (.int s0), .val (.int (Int32.ofNat (own_nd (own_M x0)))), .val (.long (own_L x0)), .second, .val (.int jj), .val (.long pp), .second, .val (.int (Int32.ofNat (own_nd (own_M x0) + sg - 1 - j))), .val (.int (own_dg (own_M x0) j))] [(.int (own_dg (own_M x0) j)), (.int (own_dg (own_M x0) j))])) (fun _ k => XS.iload X102.here hx rfl (hb hby d_method_4_39) rfl  k) ?_
    refine Go.step (T' := T102) (g' := (mkF m 44 #[.val (.ref a1), .val (.int s0), .val (.int (Int32.ofNat (own_nd (own_M x0)))), .val (.long (own_L x0)), .second, .val (.int jj), .val (.long pp), .second, .val (.int (Int32.ofNat (own_nd (own_M x0) + sg - 1 - j))), .val (.int (own_dg (own_M x0) j))] [])) (fun _ k => XS.icmpNo X102.here hx rfl (hb hby d_method_4_41) rfl (teq (rfl : (own_dg (own_M x0) j) = (own_dg (own_M x0) j))).2 k) ?_
    refine Go.step (T' := T102) (g' := (mkF m 45 #[.val (.ref a1), .val (.int s0), .val (.int (Int32.ofNat (own_nd (own_M x0)))), .val (.long (own_L x0)), .second, .val (.int jj), .val (.long pp), .second, .val (.int (Int32.ofNat (own_nd (own_M x0) + sg - 1 - j))), .val (.int (own_dg (own_M x0) j))] [(.int (1 : Int32))])) (fun _ k => XS.iconst X102.here hx rfl (hb hby d_method_4_44) k) ?_
    refine Go.step (T' := T102) (g' := (mkF m 49 #[.val (.ref a1), .val (.int s0), .val (.int (Int32.ofNat (own_nd (own_M x0)))), .val (.long (own_L x0)), .second, .val (.int jj), .val (.long pp), .second, .val (.int (Int32.ofNat (own_nd (own_M x0) + sg - 1 - j))), .val (.int (own_dg (own_M x0) j))] [(.int (1 : Int32))])) (fun _ k => XS.goto X102.here hx rfl (pc0 := 45) (pc' := 49) rfl (hb hby d_method_4_45) (by decide) (by decide) k) ?_
    exact Go.retN X102 hx (t := .boolean) hret hlk (by simp) (hb hby d_method_4_49) (⟨rfl, N102, eh102⟩) (by decide) (by decide)
  · skip
    refine Go.step (T' := s₁) (g' := (mkF m 6 #[.val (.ref a1), .val (.int s0), .val (.int (Int32.ofNat (own_nd (own_M x0)))), .val (.long (own_L x0)), .second, .val (.int jj), .val (.long pp), .second, .unset, .unset] [])) (fun _ k => XS.icmpNo X0.here hx rfl (hb hby d_method_4_3) rfl (flt hc101).1 k) ?_
    refine Go.step (T' := s₁) (g' := (mkF m 7 #[.val (.ref a1), .val (.int s0), .val (.int (Int32.ofNat (own_nd (own_M x0)))), .val (.long (own_L x0)), .second, .val (.int jj), .val (.long pp), .second, .unset, .unset] [(.int (1 : Int32))])) (fun _ k => XS.iconst X0.here hx rfl (hb hby d_method_4_6) k) ?_
    exact Go.retN X0 hx (t := .boolean) hret hlk (by simp) (hb hby d_method_4_7) (⟨rfl, N0, e0⟩) (by decide) (by decide)
theorem own_len3 {d s e N : Nat} (h : N = d + s + e) : (Int32.ofNat s + Int32.ofNat d) + Int32.ofNat e = Int32.ofNat N := by
  rw [own_addN, own_addN, h]; congr 1; omega
theorem own_len2 {d s : Nat} : Int32.ofNat s + Int32.ofNat d = Int32.ofNat (d + s) := by
  rw [own_addN]; congr 1; omega
theorem own_tS {x : Int32} {N s e : Nat} {vs : List Value} (t : Txt x N vs) (hs : own_sg x = s) (he : (if x = 1 then 4 else 5) = e) : N = own_nd (own_M x) + s + e ∧ Digs (own_M x) s vs ∧ Sfx (own_nd (own_M x) + s) vs ∧ (x ≠ 1 → vs.getD (own_nd (own_M x) + s + 4) (.int (0 : Int32)) = .int (115 : Int32)) := by
  subst hs he; exact t
theorem own_pd24 : parseMethodDescriptor "(I)Ljava/lang/String;" = some ⟨[.int], some (.object "java/lang/String")⟩ := by decide +kernel
theorem own_pd25 : parseMethodDescriptor "(J)J" = some ⟨[.long], some .long⟩ := by decide +kernel
theorem own_pd26 : parseMethodDescriptor "(J)I" = some ⟨[.long], some .int⟩ := by decide +kernel
theorem own_pd27 : parseMethodDescriptor "(Ljava/lang/String;IIJIJ)Z" = some ⟨[(.object "java/lang/String"), .int, .int, .long, .int, .long], some .boolean⟩ := by decide +kernel
set_option maxRecDepth 65536 in
set_option maxHeartbeats 40000000 in
theorem own_law {pgm : Program} {l : Launch} {e : Env} {s : State} {m : MethodId} {args : Array Value} {below : List Frame} {meth : Method} {c : Code} {T0 : State} {vm0 : Vm} {k00 : Nat} {locs : List Loc} {cells slots : Nat} {Z : State} {a0 : Array Value} {h0 : Heap} {n0 : Nat} (p0 : Int32) (p1 : Int32) (n : Int32) (gc : Int32) (gf : Value) (d1 : Addr) (d2 : Addr) (kd1 : ClassId) (kd2 : ClassId)
    (X0 : Stand pgm l e room_1 (s.setVm vm0) m args below meth c T0 locs cells slots) (hx : pgm.tables.exec = Jvm.exec) (hZ : Z.Warmed39 (s.setVm vm0).vm) (hw : ∀ d ∈ tables_1, d.before a0 Z = true) (hby : c.code = code) (hml : c.maxLocals = maxLocals) (hown : (s.setVm vm0).vm.findClass "com/example/noteform/noteform/io/FiguresDaysPinLaw" = some m.cls) (hret : meth.sig.returnType = ret) (hlk : meth.locks = false) (e0 : T0.heap = h0) (N0 : Fr n0 locs) (Z0 : n0 ≤ h0.size) (hcells : cells ≤ 0) (hslots : slots ≤ 0) (hS : s.Since vm0 k00) (hk : k00 ≤ h0.size) (hEL : EW Z a0 own_EL) (CR : CHr Z own_EL s.vm s.heap vm0 h0) (f0 : Sta Z h0 "java/lang/String" "COMPACT_STRINGS" "Z" (.int gc)) (f1 : Sta Z h0 "java/lang/Integer" "DigitOnes" "[B" (.ref d1)) (f2 : Sta Z h0 "java/lang/Integer" "DigitTens" "[B" (.ref d2)) (f3 : Arv Z h0 d1 kd1 .byte (100 : Int32) own_ones (.int (0 : Int32))) (f4 : Arv Z h0 d2 kd2 .byte (100 : Int32) own_tens (.int (0 : Int32))) (f5 : Sta Z h0 "jdk/internal/util/Preconditions" "SIOOBE_FORMATTER" "Ljava/util/function/BiFunction;" gf) (hgc : ¬ gc = (0 : Int32)) (cgf : gf.category = 1) :
    GoW pgm e below s Z own_EL (Q0 n0) 24 2240 T0 (mkF m 18 #[.val (.int p0), .val (.int p1), .val (.int n), .unset, .unset, .unset, .unset, .unset, .unset, .unset, .unset, .unset, .unset] []) := by
  refine GoW.step (T' := T0) (g' := (mkF m 19 #[.val (.int p0), .val (.int p1), .val (.int n), .unset, .unset, .unset, .unset, .unset, .unset, .unset, .unset, .unset, .unset] [(.int n)])) (fun _ k => XS.iloadN X0.here hx rfl (hb hby at_18) rfl  k) ?_
  obtain ⟨_, _, ⟨T101, L101, k101, n101⟩, -, X101, hS2, hg2, ⟨Lc101, hQ101, l101, y101, z101, CR101⟩, st101⟩ := callSS X0 hx (y := (⟨"com/example/noteform/noteform/io/Figures", "days", "(I)Ljava/lang/String;"⟩ : MethodName)) hown (mvT hZ (hwi hw 0 rfl)) (mvT hZ (hwi hw 1 rfl)) (mvT hZ (hwi hw 2 rfl)) (mvT hZ (hwi hw 3 rfl)) (by decide) (backOfSH (s := s) (W := 0) (Q := Qday Z n h0 n0) (own_days l Z a0 hw [] n gc d1 d2 kd1 kd2 hEL h0 n0 Z0 f0 hgc f1 f2 f3 f4) hZ (hwi hw 3 rfl) (hwi hw 2 rfl) (by decide) (by decide) hEL CR.1) (g := (mkF m 19 #[.val (.int p0), .val (.int p1), .val (.int n), .unset, .unset, .unset, .unset, .unset, .unset, .unset, .unset, .unset, .unset] [(.int n)])) rfl (by rw [hml]; rfl) (argsL := [(.int n)]) (rest := []) (lenOf own_pd24 rfl) rfl (by show 2 * 0 + _ ≤ _; exact Nat.le_of_eq rfl) (hb hby at_19) (fun _ _ => ⟨rfl, e0, (by dsimp only [Pt.cells, Pt.slots, room_1]; omega), (by dsimp only [Pt.cells, Pt.slots, room_1]; omega)⟩)
  dsimp only [Pt.U, Pt.locs, Pt.cells, Pt.slots] at X101 l101 y101 z101 st101 hQ101 hS2 hg2 CR101
  subst l101 y101 z101
  obtain ⟨X101, hS, hZ, hown⟩ := rebS hS (n1 := T0.heap.size) (by rw [e0]; exact hk) X101 hS2 hg2 hZ hown
  have hk := Nat.le_refl T101.heap.size
  have CR := CR.trans CR101
  obtain ⟨ra, rb, rk, NN, tv, rfl, N101q, K101, E101, C101, B101, V101, tx⟩ := hQ101
  have N101 := Fr.app N0 N101q
  have Z101 : n0 ≤ T101.heap.size := Nat.le_trans Z0 K101.1
  have F102 := own_sta_keep f0 K101 all0
  have F103 := own_sta_keep f1 K101 all0
  have F104 := own_sta_keep f2 K101 all0
  have F105 := f3.keep K101 nin0
  have F106 := f4.keep K101 nin0
  have F107 := own_sta_keep f5 K101 all0
  refine GoW.step (T' := T101) (g' := (mkF m 22 #[.val (.int p0), .val (.int p1), .val (.int n), .unset, .unset, .unset, .unset, .unset, .unset, .unset, .unset, .unset, .unset] [(.ref ra)])) (fun _ k => st101.trans k) ?_
  refine GoW.step (T' := T101) (g' := (mkF m 23 #[.val (.int p0), .val (.int p1), .val (.int n), .val (.ref ra), .unset, .unset, .unset, .unset, .unset, .unset, .unset, .unset, .unset] [])) (fun _ k => XS.astoreN X101.here hx rfl (hb hby at_22) rfl rfl (l' := #[.val (.int p0), .val (.int p1), .val (.int n), .val (.ref ra), .unset, .unset, .unset, .unset, .unset, .unset, .unset, .unset, .unset]) rfl k) ?_
  refine GoW.step (T' := T101) (g' := (mkF m 24 #[.val (.int p0), .val (.int p1), .val (.int n), .val (.ref ra), .unset, .unset, .unset, .unset, .unset, .unset, .unset, .unset, .unset] [(.int n)])) (fun _ k => XS.iloadN X101.here hx rfl (hb hby at_23) rfl  k) ?_
  by_cases hc108 : n < (0 : Int32)
  · skip
    refine GoW.step (T' := T101) (g' := (mkF m 27 #[.val (.int p0), .val (.int p1), .val (.int n), .val (.ref ra), .unset, .unset, .unset, .unset, .unset, .unset, .unset, .unset, .unset] [])) (fun _ k => XS.ifNo X101.here hx rfl (hb hby at_24) rfl ((if0 _ _).trans (tlt hc108).2.1) k) ?_
    refine GoW.step (T' := T101) (g' := (mkF m 28 #[.val (.int p0), .val (.int p1), .val (.int n), .val (.ref ra), .unset, .unset, .unset, .unset, .unset, .unset, .unset, .unset, .unset] [(.int (1 : Int32))])) (fun _ k => XS.iconst X101.here hx rfl (hb hby at_27) k) ?_
    refine GoW.step (T' := T101) (g' := (mkF m 32 #[.val (.int p0), .val (.int p1), .val (.int n), .val (.ref ra), .unset, .unset, .unset, .unset, .unset, .unset, .unset, .unset, .unset] [(.int (1 : Int32))])) (fun _ k => XS.goto X101.here hx rfl (pc0 := 28) (pc' := 32) rfl (hb hby at_28) (by decide) (by decide) k) ?_
    refine GoW.step (T' := T101) (g' := (mkF m 34 #[.val (.int p0), .val (.int p1), .val (.int n), .val (.ref ra), .val (.int (1 : Int32)), .unset, .unset, .unset, .unset, .unset, .unset, .unset, .unset] [])) (fun _ k => XS.istore X101.here hx rfl (hb hby at_32) rfl (l' := #[.val (.int p0), .val (.int p1), .val (.int n), .val (.ref ra), .val (.int (1 : Int32)), .unset, .unset, .unset, .unset, .unset, .unset, .unset, .unset]) rfl k) ?_
    refine GoW.step (T' := T101) (g' := (mkF m 35 #[.val (.int p0), .val (.int p1), .val (.int n), .val (.ref ra), .val (.int (1 : Int32)), .unset, .unset, .unset, .unset, .unset, .unset, .unset, .unset] [(.int n)])) (fun _ k => XS.iloadN X101.here hx rfl (hb hby at_34) rfl  k) ?_
    refine GoW.step (T' := T101) (g' := (mkF m 36 #[.val (.int p0), .val (.int p1), .val (.int n), .val (.ref ra), .val (.int (1 : Int32)), .unset, .unset, .unset, .unset, .unset, .unset, .unset, .unset] [(.long (n.toInt64))])) (fun _ k => XS.i2l X101.here hx rfl (hb hby at_35) rfl k) ?_
    obtain ⟨_, _, ⟨T109, L109, k109, n109⟩, -, X109, ⟨Lc109, hQ109, l109, y109, z109⟩, st109⟩ := Jvm.LawKit.callS X101 hx (y := (⟨"java/lang/Math", "abs", "(J)J"⟩ : MethodName)) hown (mvT hZ (hwi hw 147 rfl)) (mvT hZ (hwi hw 148 rfl)) (mvT hZ (hwi hw 144 rfl)) (mvT hZ (hwi hw 149 rfl)) (by decide) (backOf (W := 0) (Q := Qret (some (.long (own_L n))) T101.heap n0) (own_abs l Z a0 hw [] n T101.heap n0 Z101) hZ (hwi hw 149 rfl) (hwi hw 144 rfl) (by decide) (by decide)) (g := (mkF m 36 #[.val (.int p0), .val (.int p1), .val (.int n), .val (.ref ra), .val (.int (1 : Int32)), .unset, .unset, .unset, .unset, .unset, .unset, .unset, .unset] [(.long (n.toInt64))])) rfl (by rw [hml]; rfl) (argsL := [(.long (n.toInt64))]) (rest := []) (lenOf own_pd25 rfl) rfl (by show 2 * 0 + _ ≤ _; exact Nat.le_of_eq rfl) (hb hby at_36) (fun _ _ => ⟨rfl, rfl, (by dsimp only [Pt.cells, Pt.slots, room_1]; omega), (by dsimp only [Pt.cells, Pt.slots, room_1]; omega)⟩)
    dsimp only [Pt.U, Pt.locs, Pt.cells, Pt.slots] at X109 l109 y109 z109 st109 hQ109
    subst l109 y109 z109
    obtain ⟨rfl, N109q, eh109⟩ := hQ109
    have N109 := Fr.app N101 N109q
    refine GoW.step (T' := T109) (g' := (mkF m 39 #[.val (.int p0), .val (.int p1), .val (.int n), .val (.ref ra), .val (.int (1 : Int32)), .unset, .unset, .unset, .unset, .unset, .unset, .unset, .unset] [(.long (own_L n))])) (st109) ?_
    refine GoW.step (T' := T109) (g' := (mkF m 41 #[.val (.int p0), .val (.int p1), .val (.int n), .val (.ref ra), .val (.int (1 : Int32)), .val (.long (own_L n)), .second, .unset, .unset, .unset, .unset, .unset, .unset] [])) (fun _ k => XS.lstore X109.here hx rfl (hb hby at_39) rfl (l' := #[.val (.int p0), .val (.int p1), .val (.int n), .val (.ref ra), .val (.int (1 : Int32)), .val (.long (own_L n)), .second, .unset, .unset, .unset, .unset, .unset, .unset]) rfl k) ?_
    refine GoW.step (T' := T109) (g' := (mkF m 43 #[.val (.int p0), .val (.int p1), .val (.int n), .val (.ref ra), .val (.int (1 : Int32)), .val (.long (own_L n)), .second, .unset, .unset, .unset, .unset, .unset, .unset] [(.long (own_L n))])) (fun _ k => XS.lload X109.here hx rfl (hb hby at_41) rfl  k) ?_
    obtain ⟨_, _, ⟨T110, L110, k110, n110⟩, -, X110, ⟨Lc110, hQ110, l110, y110, z110⟩, st110⟩ := Jvm.LawKit.callS X109 hx (y := (⟨"com/example/noteform/noteform/io/FiguresDaysPinLaw", "digitCount", "(J)I"⟩ : MethodName)) hown (mvT hZ (hwi hw 150 rfl)) (mvT hZ (hwi hw 151 rfl)) (mvT hZ (hwi hw 152 rfl)) (mvT hZ (hwi hw 153 rfl)) (by decide) (backOf (W := 0) (Q := Qret (some (.int (Int32.ofNat (own_nd (own_M n))))) T101.heap n0) (own_dc l Z a0 hw [] n T101.heap n0 Z101) hZ (hwi hw 153 rfl) (hwi hw 152 rfl) (by decide) (by decide)) (g := (mkF m 43 #[.val (.int p0), .val (.int p1), .val (.int n), .val (.ref ra), .val (.int (1 : Int32)), .val (.long (own_L n)), .second, .unset, .unset, .unset, .unset, .unset, .unset] [(.long (own_L n))])) rfl (by rw [hml]; rfl) (argsL := [(.long (own_L n))]) (rest := []) (lenOf own_pd26 rfl) rfl (by show 2 * 0 + _ ≤ _; exact Nat.le_of_eq rfl) (hb hby at_43) (fun _ _ => ⟨rfl, eh109, (by dsimp only [Pt.cells, Pt.slots, room_1]; omega), (by dsimp only [Pt.cells, Pt.slots, room_1]; omega)⟩)
    dsimp only [Pt.U, Pt.locs, Pt.cells, Pt.slots] at X110 l110 y110 z110 st110 hQ110
    subst l110 y110 z110
    obtain ⟨rfl, N110q, eh110⟩ := hQ110
    have N110 := Fr.app N109 N110q
    refine GoW.step (T' := T110) (g' := (mkF m 46 #[.val (.int p0), .val (.int p1), .val (.int n), .val (.ref ra), .val (.int (1 : Int32)), .val (.long (own_L n)), .second, .unset, .unset, .unset, .unset, .unset, .unset] [(.int (Int32.ofNat (own_nd (own_M n))))])) (st110) ?_
    refine GoW.step (T' := T110) (g' := (mkF m 48 #[.val (.int p0), .val (.int p1), .val (.int n), .val (.ref ra), .val (.int (1 : Int32)), .val (.long (own_L n)), .second, .val (.int (Int32.ofNat (own_nd (own_M n)))), .unset, .unset, .unset, .unset, .unset] [])) (fun _ k => XS.istore X110.here hx rfl (hb hby at_46) rfl (l' := #[.val (.int p0), .val (.int p1), .val (.int n), .val (.ref ra), .val (.int (1 : Int32)), .val (.long (own_L n)), .second, .val (.int (Int32.ofNat (own_nd (own_M n)))), .unset, .unset, .unset, .unset, .unset]) rfl k) ?_
    refine GoW.step (T' := T110) (g' := (mkF m 50 #[.val (.int p0), .val (.int p1), .val (.int n), .val (.ref ra), .val (.int (1 : Int32)), .val (.long (own_L n)), .second, .val (.int (Int32.ofNat (own_nd (own_M n)))), .unset, .unset, .unset, .unset, .unset] [(.int (1 : Int32))])) (fun _ k => XS.iload X110.here hx rfl (hb hby at_48) rfl  k) ?_
    refine GoW.step (T' := T110) (g' := (mkF m 53 #[.val (.int p0), .val (.int p1), .val (.int n), .val (.ref ra), .val (.int (1 : Int32)), .val (.long (own_L n)), .second, .val (.int (Int32.ofNat (own_nd (own_M n)))), .unset, .unset, .unset, .unset, .unset] [])) (fun _ k => XS.ifNo X110.here hx rfl (hb hby at_50) rfl ((if0 _ _).trans (feq (by decide : ¬ ((1 : Int32) = (0 : Int32)))).1) k) ?_
    refine GoW.step (T' := T110) (g' := (mkF m 54 #[.val (.int p0), .val (.int p1), .val (.int n), .val (.ref ra), .val (.int (1 : Int32)), .val (.long (own_L n)), .second, .val (.int (Int32.ofNat (own_nd (own_M n)))), .unset, .unset, .unset, .unset, .unset] [(.int (1 : Int32))])) (fun _ k => XS.iconst X110.here hx rfl (hb hby at_53) k) ?_
    refine GoW.step (T' := T110) (g' := (mkF m 58 #[.val (.int p0), .val (.int p1), .val (.int n), .val (.ref ra), .val (.int (1 : Int32)), .val (.long (own_L n)), .second, .val (.int (Int32.ofNat (own_nd (own_M n)))), .unset, .unset, .unset, .unset, .unset] [(.int (1 : Int32))])) (fun _ k => XS.goto X110.here hx rfl (pc0 := 54) (pc' := 58) rfl (hb hby at_54) (by decide) (by decide) k) ?_
    refine GoW.step (T' := T110) (g' := (mkF m 60 #[.val (.int p0), .val (.int p1), .val (.int n), .val (.ref ra), .val (.int (1 : Int32)), .val (.long (own_L n)), .second, .val (.int (Int32.ofNat (own_nd (own_M n)))), .val (.int (1 : Int32)), .unset, .unset, .unset, .unset] [])) (fun _ k => XS.istore X110.here hx rfl (hb hby at_58) rfl (l' := #[.val (.int p0), .val (.int p1), .val (.int n), .val (.ref ra), .val (.int (1 : Int32)), .val (.long (own_L n)), .second, .val (.int (Int32.ofNat (own_nd (own_M n)))), .val (.int (1 : Int32)), .unset, .unset, .unset, .unset]) rfl k) ?_
    have hn1 : ¬ n = (1 : Int32) := fun q => absurd (q ▸ hc108 : (1 : Int32) < 0) (by decide)
    refine GoW.step (T' := T110) (g' := (mkF m 61 #[.val (.int p0), .val (.int p1), .val (.int n), .val (.ref ra), .val (.int (1 : Int32)), .val (.long (own_L n)), .second, .val (.int (Int32.ofNat (own_nd (own_M n)))), .val (.int (1 : Int32)), .unset, .unset, .unset, .unset] [(.int n)])) (fun _ k => XS.iloadN X110.here hx rfl (hb hby at_60) rfl  k) ?_
    refine GoW.step (T' := T110) (g' := (mkF m 62 #[.val (.int p0), .val (.int p1), .val (.int n), .val (.ref ra), .val (.int (1 : Int32)), .val (.long (own_L n)), .second, .val (.int (Int32.ofNat (own_nd (own_M n)))), .val (.int (1 : Int32)), .unset, .unset, .unset, .unset] [(.int (1 : Int32)), (.int n)])) (fun _ k => XS.iconst X110.here hx rfl (hb hby at_61) k) ?_
    refine GoW.step (T' := T110) (g' := (mkF m 69 #[.val (.int p0), .val (.int p1), .val (.int n), .val (.ref ra), .val (.int (1 : Int32)), .val (.long (own_L n)), .second, .val (.int (Int32.ofNat (own_nd (own_M n)))), .val (.int (1 : Int32)), .unset, .unset, .unset, .unset] [])) (fun _ k => XS.icmpYes X110.here hx rfl (pc0 := 62) (pc' := 69) rfl (hb hby at_62) rfl (feq hn1).2 (by decide) (by decide) k) ?_
    refine GoW.step (T' := T110) (g' := (mkF m 70 #[.val (.int p0), .val (.int p1), .val (.int n), .val (.ref ra), .val (.int (1 : Int32)), .val (.long (own_L n)), .second, .val (.int (Int32.ofNat (own_nd (own_M n)))), .val (.int (1 : Int32)), .unset, .unset, .unset, .unset] [(.int (0 : Int32))])) (fun _ k => XS.iconst X110.here hx rfl (hb hby at_69) k) ?_
    refine GoW.step (T' := T110) (g' := (mkF m 72 #[.val (.int p0), .val (.int p1), .val (.int n), .val (.ref ra), .val (.int (1 : Int32)), .val (.long (own_L n)), .second, .val (.int (Int32.ofNat (own_nd (own_M n)))), .val (.int (1 : Int32)), .val (.int (0 : Int32)), .unset, .unset, .unset] [])) (fun _ k => XS.istore X110.here hx rfl (hb hby at_70) rfl (l' := #[.val (.int p0), .val (.int p1), .val (.int n), .val (.ref ra), .val (.int (1 : Int32)), .val (.long (own_L n)), .second, .val (.int (Int32.ofNat (own_nd (own_M n)))), .val (.int (1 : Int32)), .val (.int (0 : Int32)), .unset, .unset, .unset]) rfl k) ?_
    refine GoW.step (T' := T110) (g' := (mkF m 74 #[.val (.int p0), .val (.int p1), .val (.int n), .val (.ref ra), .val (.int (1 : Int32)), .val (.long (own_L n)), .second, .val (.int (Int32.ofNat (own_nd (own_M n)))), .val (.int (1 : Int32)), .val (.int (0 : Int32)), .unset, .unset, .unset] [(.int (1 : Int32))])) (fun _ k => XS.iload X110.here hx rfl (hb hby at_72) rfl  k) ?_
    refine GoW.step (T' := T110) (g' := (mkF m 76 #[.val (.int p0), .val (.int p1), .val (.int n), .val (.ref ra), .val (.int (1 : Int32)), .val (.long (own_L n)), .second, .val (.int (Int32.ofNat (own_nd (own_M n)))), .val (.int (1 : Int32)), .val (.int (0 : Int32)), .unset, .unset, .unset] [(.int (Int32.ofNat (own_nd (own_M n)))), (.int (1 : Int32))])) (fun _ k => XS.iload X110.here hx rfl (hb hby at_74) rfl  k) ?_
    refine GoW.step (T' := T110) (g' := (mkF m 77 #[.val (.int p0), .val (.int p1), .val (.int n), .val (.ref ra), .val (.int (1 : Int32)), .val (.long (own_L n)), .second, .val (.int (Int32.ofNat (own_nd (own_M n)))), .val (.int (1 : Int32)), .val (.int (0 : Int32)), .unset, .unset, .unset] [(.int ((1 : Int32) + (Int32.ofNat (own_nd (own_M n)))))])) (fun _ k => XS.iadd X110.here hx rfl (hb hby at_76) rfl k) ?_
    refine GoW.step (T' := T110) (g' := (mkF m 79 #[.val (.int p0), .val (.int p1), .val (.int n), .val (.ref ra), .val (.int (1 : Int32)), .val (.long (own_L n)), .second, .val (.int (Int32.ofNat (own_nd (own_M n)))), .val (.int (1 : Int32)), .val (.int (0 : Int32)), .unset, .unset, .unset] [(.int (0 : Int32)), (.int ((1 : Int32) + (Int32.ofNat (own_nd (own_M n)))))])) (fun _ k => XS.iload X110.here hx rfl (hb hby at_77) rfl  k) ?_
    refine GoW.step (T' := T110) (g' := (mkF m 86 #[.val (.int p0), .val (.int p1), .val (.int n), .val (.ref ra), .val (.int (1 : Int32)), .val (.long (own_L n)), .second, .val (.int (Int32.ofNat (own_nd (own_M n)))), .val (.int (1 : Int32)), .val (.int (0 : Int32)), .unset, .unset, .unset] [(.int ((1 : Int32) + (Int32.ofNat (own_nd (own_M n)))))])) (fun _ k => XS.ifYes X110.here hx rfl (pc0 := 79) (pc' := 86) rfl (hb hby at_79) rfl ((if0 _ _).trans (teq (by decide : (0 : Int32) = (0 : Int32))).1) (by decide) (by decide) k) ?_
    refine GoW.step (T' := T110) (g' := (mkF m 87 #[.val (.int p0), .val (.int p1), .val (.int n), .val (.ref ra), .val (.int (1 : Int32)), .val (.long (own_L n)), .second, .val (.int (Int32.ofNat (own_nd (own_M n)))), .val (.int (1 : Int32)), .val (.int (0 : Int32)), .unset, .unset, .unset] [(.int (5 : Int32)), (.int ((1 : Int32) + (Int32.ofNat (own_nd (own_M n)))))])) (fun _ k => XS.iconst X110.here hx rfl (hb hby at_86) k) ?_
    refine GoW.step (T' := T110) (g' := (mkF m 88 #[.val (.int p0), .val (.int p1), .val (.int n), .val (.ref ra), .val (.int (1 : Int32)), .val (.long (own_L n)), .second, .val (.int (Int32.ofNat (own_nd (own_M n)))), .val (.int (1 : Int32)), .val (.int (0 : Int32)), .unset, .unset, .unset] [(.int (((1 : Int32) + (Int32.ofNat (own_nd (own_M n)))) + (5 : Int32)))])) (fun _ k => XS.iadd X110.here hx rfl (hb hby at_87) rfl k) ?_
    obtain ⟨hNN, dg, sx, s5⟩ := own_tS (s := 1) (e := 5) tx (own_sgT hc108) (if_neg hn1)
    have hn10 := own_nd_le (own_M n)
    have hlen : (((1 : Int32) + (Int32.ofNat (own_nd (own_M n)))) + (5 : Int32)) = Int32.ofNat NN := own_len3 (d := own_nd (own_M n)) (s := 1) (e := 5) hNN
    rw [hlen]
    refine GoW.step (T' := T110) (g' := (mkF m 90 #[.val (.int p0), .val (.int p1), .val (.int n), .val (.ref ra), .val (.int (1 : Int32)), .val (.long (own_L n)), .second, .val (.int (Int32.ofNat (own_nd (own_M n)))), .val (.int (1 : Int32)), .val (.int (0 : Int32)), .val (.int (Int32.ofNat NN)), .unset, .unset] [])) (fun _ k => XS.istore X110.here hx rfl (hb hby at_88) rfl (l' := #[.val (.int p0), .val (.int p1), .val (.int n), .val (.ref ra), .val (.int (1 : Int32)), .val (.long (own_L n)), .second, .val (.int (Int32.ofNat (own_nd (own_M n)))), .val (.int (1 : Int32)), .val (.int (0 : Int32)), .val (.int (Int32.ofNat NN)), .unset, .unset]) rfl k) ?_
    refine GoW.step (T' := T110) (g' := (mkF m 91 #[.val (.int p0), .val (.int p1), .val (.int n), .val (.ref ra), .val (.int (1 : Int32)), .val (.long (own_L n)), .second, .val (.int (Int32.ofNat (own_nd (own_M n)))), .val (.int (1 : Int32)), .val (.int (0 : Int32)), .val (.int (Int32.ofNat NN)), .unset, .unset] [(.ref ra)])) (fun _ k => XS.aloadN X110.here hx rfl (hb hby at_90) rfl rfl k) ?_
    refine GoW.step (T' := T110) (g' := (mkF m 94 #[.val (.int p0), .val (.int p1), .val (.int n), .val (.ref ra), .val (.int (1 : Int32)), .val (.long (own_L n)), .second, .val (.int (Int32.ofNat (own_nd (own_M n)))), .val (.int (1 : Int32)), .val (.int (0 : Int32)), .val (.int (Int32.ofNat NN)), .unset, .unset] [])) (fun _ k => XS.ifnullNo X110.here hx rfl (hb hby at_91) rfl k) ?_
    refine GoW.step (T' := T110) (g' := (mkF m 95 #[.val (.int p0), .val (.int p1), .val (.int n), .val (.ref ra), .val (.int (1 : Int32)), .val (.long (own_L n)), .second, .val (.int (Int32.ofNat (own_nd (own_M n)))), .val (.int (1 : Int32)), .val (.int (0 : Int32)), .val (.int (Int32.ofNat NN)), .unset, .unset] [(.ref ra)])) (fun _ k => XS.aloadN X110.here hx rfl (hb hby at_94) rfl rfl k) ?_
    obtain ⟨cq111, kq111, q111a, q111b, q111c⟩ := isOf hZ eh110 E101
    obtain ⟨_, _, ⟨T111, L111, k111, n111⟩, -, X111, ⟨Lc111, hQ111, l111, y111, z111⟩, st111⟩ := X110.virtualBack hx (y := (⟨"java/lang/String", "length", "()I"⟩ : MethodName)) (z := (⟨"java/lang/String", "length", "()I"⟩ : MethodName)) hown (mvT hZ (hwi hw 155 rfl)) (mvT hZ (hwi hw 72 rfl)) (notFace_of_selects (args := #[]) (mvT hZ (hwi hw 74 rfl))) (mvT hZ (hwi hw 74 rfl)) (mvT hZ (hwi hw 73 rfl)) (by decide) (backOf (W := 0) (Q := Qret (some (.int (Int32.ofNat NN))) T101.heap n0) (own_len_ l Z a0 hw [] ra gc rb rk (Int32.ofNat NN) tv T101.heap n0 Z101 F102 hgc E101 C101 B101 V101) hZ (hwi hw 75 rfl) (hwi hw 20 rfl) (by decide) (by decide)) q111a q111c (g := (mkF m 95 #[.val (.int p0), .val (.int p1), .val (.int n), .val (.ref ra), .val (.int (1 : Int32)), .val (.long (own_L n)), .second, .val (.int (Int32.ofNat (own_nd (own_M n)))), .val (.int (1 : Int32)), .val (.int (0 : Int32)), .val (.int (Int32.ofNat NN)), .unset, .unset] [(.ref ra)])) rfl (by rw [hml]; rfl) (Steps.refl _) (argsL := []) (rest := []) (lenOf own_pd5 rfl) rfl (by show 2 * 0 + _ ≤ _; exact Nat.le_of_eq rfl) (hb hby at_95) (fun _ _ => ⟨rfl, eh110, (by dsimp only [Pt.cells, Pt.slots, room_1]; omega), (by dsimp only [Pt.cells, Pt.slots, room_1]; omega)⟩)
    dsimp only [Pt.U, Pt.locs, Pt.cells, Pt.slots] at X111 l111 y111 z111 st111 hQ111
    subst l111 y111 z111
    obtain ⟨rfl, N111q, eh111⟩ := hQ111
    have N111 := Fr.app N110 N111q
    refine GoW.step (T' := T111) (g' := (mkF m 98 #[.val (.int p0), .val (.int p1), .val (.int n), .val (.ref ra), .val (.int (1 : Int32)), .val (.long (own_L n)), .second, .val (.int (Int32.ofNat (own_nd (own_M n)))), .val (.int (1 : Int32)), .val (.int (0 : Int32)), .val (.int (Int32.ofNat NN)), .unset, .unset] [(.int (Int32.ofNat NN))])) (fun _ k => st111.trans k) ?_
    refine GoW.step (T' := T111) (g' := (mkF m 100 #[.val (.int p0), .val (.int p1), .val (.int n), .val (.ref ra), .val (.int (1 : Int32)), .val (.long (own_L n)), .second, .val (.int (Int32.ofNat (own_nd (own_M n)))), .val (.int (1 : Int32)), .val (.int (0 : Int32)), .val (.int (Int32.ofNat NN)), .unset, .unset] [(.int (Int32.ofNat NN)), (.int (Int32.ofNat NN))])) (fun _ k => XS.iload X111.here hx rfl (hb hby at_98) rfl  k) ?_
    refine GoW.step (T' := T111) (g' := (mkF m 105 #[.val (.int p0), .val (.int p1), .val (.int n), .val (.ref ra), .val (.int (1 : Int32)), .val (.long (own_L n)), .second, .val (.int (Int32.ofNat (own_nd (own_M n)))), .val (.int (1 : Int32)), .val (.int (0 : Int32)), .val (.int (Int32.ofNat NN)), .unset, .unset] [])) (fun _ k => XS.icmpYes X111.here hx rfl (pc0 := 100) (pc' := 105) rfl (hb hby at_100) rfl (teq (rfl : (Int32.ofNat NN) = (Int32.ofNat NN))).1 (by decide) (by decide) k) ?_
    refine GoW.step (T' := T111) (g' := (mkF m 107 #[.val (.int p0), .val (.int p1), .val (.int n), .val (.ref ra), .val (.int (1 : Int32)), .val (.long (own_L n)), .second, .val (.int (Int32.ofNat (own_nd (own_M n)))), .val (.int (1 : Int32)), .val (.int (0 : Int32)), .val (.int (Int32.ofNat NN)), .unset, .unset] [(.int (1 : Int32))])) (fun _ k => XS.iload X111.here hx rfl (hb hby at_105) rfl  k) ?_
    refine GoW.step (T' := T111) (g' := (mkF m 110 #[.val (.int p0), .val (.int p1), .val (.int n), .val (.ref ra), .val (.int (1 : Int32)), .val (.long (own_L n)), .second, .val (.int (Int32.ofNat (own_nd (own_M n)))), .val (.int (1 : Int32)), .val (.int (0 : Int32)), .val (.int (Int32.ofNat NN)), .unset, .unset] [])) (fun _ k => XS.ifNo X111.here hx rfl (hb hby at_107) rfl ((if0 _ _).trans (feq (by decide : ¬ ((1 : Int32) = (0 : Int32)))).1) k) ?_
    refine GoW.step (T' := T111) (g' := (mkF m 111 #[.val (.int p0), .val (.int p1), .val (.int n), .val (.ref ra), .val (.int (1 : Int32)), .val (.long (own_L n)), .second, .val (.int (Int32.ofNat (own_nd (own_M n)))), .val (.int (1 : Int32)), .val (.int (0 : Int32)), .val (.int (Int32.ofNat NN)), .unset, .unset] [(.ref ra)])) (fun _ k => XS.aloadN X111.here hx rfl (hb hby at_110) rfl rfl k) ?_
    refine GoW.step (T' := T111) (g' := (mkF m 112 #[.val (.int p0), .val (.int p1), .val (.int n), .val (.ref ra), .val (.int (1 : Int32)), .val (.long (own_L n)), .second, .val (.int (Int32.ofNat (own_nd (own_M n)))), .val (.int (1 : Int32)), .val (.int (0 : Int32)), .val (.int (Int32.ofNat NN)), .unset, .unset] [(.int (0 : Int32)), (.ref ra)])) (fun _ k => XS.iconst X111.here hx rfl (hb hby at_111) k) ?_
    obtain ⟨cq112, kq112, q112a, q112b, q112c⟩ := isOf hZ eh111 E101
    obtain ⟨_, _, ⟨T112, L112, k112, n112⟩, -, X112, ⟨Lc112, hQ112, l112, y112, z112⟩, st112⟩ := X111.virtualBack hx (y := (⟨"java/lang/String", "charAt", "(I)C"⟩ : MethodName)) (z := (⟨"java/lang/String", "charAt", "(I)C"⟩ : MethodName)) hown (mvT hZ (hwi hw 159 rfl)) (mvT hZ (hwi hw 160 rfl)) (notFace_of_selects (args := #[]) (mvT hZ (hwi hw 162 rfl))) (mvT hZ (hwi hw 162 rfl)) (mvT hZ (hwi hw 161 rfl)) (by decide) (backOf (W := 0) (Q := Qret (some (.int (45 : Int32))) T101.heap n0) (own_ch_ l Z a0 hw [] ra (0 : Int32) gc rb rk (Int32.ofNat NN) tv gf (45 : Int32) (45 : Int32) T101.heap n0 Z101 F102 hgc E101 C101 B101 V101 F107 cgf (by decide) (own_inb (i := 0) (n := NN) (by omega) (by omega)).2 (dg.2 rfl) (by decide) (by decide)) hZ (hwi hw 163 rfl) (hwi hw 20 rfl) (by decide) (by decide)) q112a q112c (g := (mkF m 112 #[.val (.int p0), .val (.int p1), .val (.int n), .val (.ref ra), .val (.int (1 : Int32)), .val (.long (own_L n)), .second, .val (.int (Int32.ofNat (own_nd (own_M n)))), .val (.int (1 : Int32)), .val (.int (0 : Int32)), .val (.int (Int32.ofNat NN)), .unset, .unset] [(.int (0 : Int32)), (.ref ra)])) rfl (by rw [hml]; rfl) (Steps.refl _) (argsL := [(.int (0 : Int32))]) (rest := []) (lenOf own_pd23 rfl) rfl (by show 2 * 0 + _ ≤ _; exact Nat.le_of_eq rfl) (hb hby at_112) (fun _ _ => ⟨rfl, eh111, (by dsimp only [Pt.cells, Pt.slots, room_1]; omega), (by dsimp only [Pt.cells, Pt.slots, room_1]; omega)⟩)
    dsimp only [Pt.U, Pt.locs, Pt.cells, Pt.slots] at X112 l112 y112 z112 st112 hQ112
    subst l112 y112 z112
    obtain ⟨rfl, N112q, eh112⟩ := hQ112
    have N112 := Fr.app N111 N112q
    refine GoW.step (T' := T112) (g' := (mkF m 115 #[.val (.int p0), .val (.int p1), .val (.int n), .val (.ref ra), .val (.int (1 : Int32)), .val (.long (own_L n)), .second, .val (.int (Int32.ofNat (own_nd (own_M n)))), .val (.int (1 : Int32)), .val (.int (0 : Int32)), .val (.int (Int32.ofNat NN)), .unset, .unset] [(.int (45 : Int32))])) (fun _ k => st112.trans k) ?_
    refine GoW.step (T' := T112) (g' := (mkF m 117 #[.val (.int p0), .val (.int p1), .val (.int n), .val (.ref ra), .val (.int (1 : Int32)), .val (.long (own_L n)), .second, .val (.int (Int32.ofNat (own_nd (own_M n)))), .val (.int (1 : Int32)), .val (.int (0 : Int32)), .val (.int (Int32.ofNat NN)), .unset, .unset] [(.int (45 : Int32)), (.int (45 : Int32))])) (fun _ k => XS.bipush X112.here hx rfl (hb hby at_115) k) ?_
    refine GoW.step (T' := T112) (g' := (mkF m 122 #[.val (.int p0), .val (.int p1), .val (.int n), .val (.ref ra), .val (.int (1 : Int32)), .val (.long (own_L n)), .second, .val (.int (Int32.ofNat (own_nd (own_M n)))), .val (.int (1 : Int32)), .val (.int (0 : Int32)), .val (.int (Int32.ofNat NN)), .unset, .unset] [])) (fun _ k => XS.icmpYes X112.here hx rfl (pc0 := 117) (pc' := 122) rfl (hb hby at_117) rfl (teq (by decide : (45 : Int32) = (45 : Int32))).1 (by decide) (by decide) k) ?_
    refine GoW.step (T' := T112) (g' := (mkF m 123 #[.val (.int p0), .val (.int p1), .val (.int n), .val (.ref ra), .val (.int (1 : Int32)), .val (.long (own_L n)), .second, .val (.int (Int32.ofNat (own_nd (own_M n)))), .val (.int (1 : Int32)), .val (.int (0 : Int32)), .val (.int (Int32.ofNat NN)), .unset, .unset] [(.ref ra)])) (fun _ k => XS.aloadN X112.here hx rfl (hb hby at_122) rfl rfl k) ?_
    refine GoW.step (T' := T112) (g' := (mkF m 125 #[.val (.int p0), .val (.int p1), .val (.int n), .val (.ref ra), .val (.int (1 : Int32)), .val (.long (own_L n)), .second, .val (.int (Int32.ofNat (own_nd (own_M n)))), .val (.int (1 : Int32)), .val (.int (0 : Int32)), .val (.int (Int32.ofNat NN)), .unset, .unset] [(.int (1 : Int32)), (.ref ra)])) (fun _ k => XS.iload X112.here hx rfl (hb hby at_123) rfl  k) ?_
    refine GoW.step (T' := T112) (g' := (mkF m 127 #[.val (.int p0), .val (.int p1), .val (.int n), .val (.ref ra), .val (.int (1 : Int32)), .val (.long (own_L n)), .second, .val (.int (Int32.ofNat (own_nd (own_M n)))), .val (.int (1 : Int32)), .val (.int (0 : Int32)), .val (.int (Int32.ofNat NN)), .unset, .unset] [(.int (Int32.ofNat (own_nd (own_M n)))), (.int (1 : Int32)), (.ref ra)])) (fun _ k => XS.iload X112.here hx rfl (hb hby at_125) rfl  k) ?_
    refine GoW.step (T' := T112) (g' := (mkF m 129 #[.val (.int p0), .val (.int p1), .val (.int n), .val (.ref ra), .val (.int (1 : Int32)), .val (.long (own_L n)), .second, .val (.int (Int32.ofNat (own_nd (own_M n)))), .val (.int (1 : Int32)), .val (.int (0 : Int32)), .val (.int (Int32.ofNat NN)), .unset, .unset] [(.long (own_L n)), (.int (Int32.ofNat (own_nd (own_M n)))), (.int (1 : Int32)), (.ref ra)])) (fun _ k => XS.lload X112.here hx rfl (hb hby at_127) rfl  k) ?_
    refine GoW.step (T' := T112) (g' := (mkF m 130 #[.val (.int p0), .val (.int p1), .val (.int n), .val (.ref ra), .val (.int (1 : Int32)), .val (.long (own_L n)), .second, .val (.int (Int32.ofNat (own_nd (own_M n)))), .val (.int (1 : Int32)), .val (.int (0 : Int32)), .val (.int (Int32.ofNat NN)), .unset, .unset] [(.int (0 : Int32)), (.long (own_L n)), (.int (Int32.ofNat (own_nd (own_M n)))), (.int (1 : Int32)), (.ref ra)])) (fun _ k => XS.iconst X112.here hx rfl (hb hby at_129) k) ?_
    refine GoW.step (T' := T112) (g' := (mkF m 131 #[.val (.int p0), .val (.int p1), .val (.int n), .val (.ref ra), .val (.int (1 : Int32)), .val (.long (own_L n)), .second, .val (.int (Int32.ofNat (own_nd (own_M n)))), .val (.int (1 : Int32)), .val (.int (0 : Int32)), .val (.int (Int32.ofNat NN)), .unset, .unset] [(.long (1 : Int64)), (.int (0 : Int32)), (.long (own_L n)), (.int (Int32.ofNat (own_nd (own_M n)))), (.int (1 : Int32)), (.ref ra)])) (fun _ k => XS.lconst X112.here hx rfl (hb hby at_130) k) ?_
    obtain ⟨_, _, ⟨T113, L113, k113, n113⟩, -, X113, ⟨Lc113, hQ113, l113, y113, z113⟩, st113⟩ := Jvm.LawKit.callS X112 hx (y := (⟨"com/example/noteform/noteform/io/FiguresDaysPinLaw", "digitAt", "(Ljava/lang/String;IIJIJ)Z"⟩ : MethodName)) hown (mvT hZ (hwi hw 156 rfl)) (mvT hZ (hwi hw 157 rfl)) (mvT hZ (hwi hw 152 rfl)) (mvT hZ (hwi hw 158 rfl)) (by decide) (backOf (W := 0) (Q := Qret (some (.int (1 : Int32))) T101.heap n0) (own_da l Z a0 hw [] ra n (1 : Int32) (0 : Int32) (1 : Int64) 1 0 NN gc rb rk tv gf T101.heap n0 Z101 F102 hgc E101 C101 B101 V101 F107 cgf rfl rfl (by decide) (by decide) (by decide) dg (by omega) (by omega)) hZ (hwi hw 158 rfl) (hwi hw 152 rfl) (by decide) (by decide)) (g := (mkF m 131 #[.val (.int p0), .val (.int p1), .val (.int n), .val (.ref ra), .val (.int (1 : Int32)), .val (.long (own_L n)), .second, .val (.int (Int32.ofNat (own_nd (own_M n)))), .val (.int (1 : Int32)), .val (.int (0 : Int32)), .val (.int (Int32.ofNat NN)), .unset, .unset] [(.long (1 : Int64)), (.int (0 : Int32)), (.long (own_L n)), (.int (Int32.ofNat (own_nd (own_M n)))), (.int (1 : Int32)), (.ref ra)])) rfl (by rw [hml]; rfl) (argsL := [(.ref ra), (.int (1 : Int32)), (.int (Int32.ofNat (own_nd (own_M n)))), (.long (own_L n)), (.int (0 : Int32)), (.long (1 : Int64))]) (rest := []) (lenOf own_pd27 rfl) rfl (by show 2 * 0 + _ ≤ _; exact Nat.le_of_eq rfl) (hb hby at_131) (fun _ _ => ⟨rfl, eh112, (by dsimp only [Pt.cells, Pt.slots, room_1]; omega), (by dsimp only [Pt.cells, Pt.slots, room_1]; omega)⟩)
    dsimp only [Pt.U, Pt.locs, Pt.cells, Pt.slots] at X113 l113 y113 z113 st113 hQ113
    subst l113 y113 z113
    obtain ⟨rfl, N113q, eh113⟩ := hQ113
    have N113 := Fr.app N112 N113q
    refine GoW.step (T' := T113) (g' := (mkF m 134 #[.val (.int p0), .val (.int p1), .val (.int n), .val (.ref ra), .val (.int (1 : Int32)), .val (.long (own_L n)), .second, .val (.int (Int32.ofNat (own_nd (own_M n)))), .val (.int (1 : Int32)), .val (.int (0 : Int32)), .val (.int (Int32.ofNat NN)), .unset, .unset] [(.int (1 : Int32))])) (st113) ?_
    refine GoW.step (T' := T113) (g' := (mkF m 137 #[.val (.int p0), .val (.int p1), .val (.int n), .val (.ref ra), .val (.int (1 : Int32)), .val (.long (own_L n)), .second, .val (.int (Int32.ofNat (own_nd (own_M n)))), .val (.int (1 : Int32)), .val (.int (0 : Int32)), .val (.int (Int32.ofNat NN)), .unset, .unset] [])) (fun _ k => XS.ifNo X113.here hx rfl (hb hby at_134) rfl ((if0 _ _).trans (feq (by decide : ¬ ((1 : Int32) = (0 : Int32)))).1) k) ?_
    refine GoW.step (T' := T113) (g' := (mkF m 138 #[.val (.int p0), .val (.int p1), .val (.int n), .val (.ref ra), .val (.int (1 : Int32)), .val (.long (own_L n)), .second, .val (.int (Int32.ofNat (own_nd (own_M n)))), .val (.int (1 : Int32)), .val (.int (0 : Int32)), .val (.int (Int32.ofNat NN)), .unset, .unset] [(.ref ra)])) (fun _ k => XS.aloadN X113.here hx rfl (hb hby at_137) rfl rfl k) ?_
    refine GoW.step (T' := T113) (g' := (mkF m 140 #[.val (.int p0), .val (.int p1), .val (.int n), .val (.ref ra), .val (.int (1 : Int32)), .val (.long (own_L n)), .second, .val (.int (Int32.ofNat (own_nd (own_M n)))), .val (.int (1 : Int32)), .val (.int (0 : Int32)), .val (.int (Int32.ofNat NN)), .unset, .unset] [(.int (1 : Int32)), (.ref ra)])) (fun _ k => XS.iload X113.here hx rfl (hb hby at_138) rfl  k) ?_
    refine GoW.step (T' := T113) (g' := (mkF m 142 #[.val (.int p0), .val (.int p1), .val (.int n), .val (.ref ra), .val (.int (1 : Int32)), .val (.long (own_L n)), .second, .val (.int (Int32.ofNat (own_nd (own_M n)))), .val (.int (1 : Int32)), .val (.int (0 : Int32)), .val (.int (Int32.ofNat NN)), .unset, .unset] [(.int (Int32.ofNat (own_nd (own_M n)))), (.int (1 : Int32)), (.ref ra)])) (fun _ k => XS.iload X113.here hx rfl (hb hby at_140) rfl  k) ?_
    refine GoW.step (T' := T113) (g' := (mkF m 144 #[.val (.int p0), .val (.int p1), .val (.int n), .val (.ref ra), .val (.int (1 : Int32)), .val (.long (own_L n)), .second, .val (.int (Int32.ofNat (own_nd (own_M n)))), .val (.int (1 : Int32)), .val (.int (0 : Int32)), .val (.int (Int32.ofNat NN)), .unset, .unset] [(.long (own_L n)), (.int (Int32.ofNat (own_nd (own_M n)))), (.int (1 : Int32)), (.ref ra)])) (fun _ k => XS.lload X113.here hx rfl (hb hby at_142) rfl  k) ?_
    refine GoW.step (T' := T113) (g' := (mkF m 145 #[.val (.int p0), .val (.int p1), .val (.int n), .val (.ref ra), .val (.int (1 : Int32)), .val (.long (own_L n)), .second, .val (.int (Int32.ofNat (own_nd (own_M n)))), .val (.int (1 : Int32)), .val (.int (0 : Int32)), .val (.int (Int32.ofNat NN)), .unset, .unset] [(.int (1 : Int32)), (.long (own_L n)), (.int (Int32.ofNat (own_nd (own_M n)))), (.int (1 : Int32)), (.ref ra)])) (fun _ k => XS.iconst X113.here hx rfl (hb hby at_144) k) ?_
    refine GoW.step (T' := T113) (g' := (mkF m 148 #[.val (.int p0), .val (.int p1), .val (.int n), .val (.ref ra), .val (.int (1 : Int32)), .val (.long (own_L n)), .second, .val (.int (Int32.ofNat (own_nd (own_M n)))), .val (.int (1 : Int32)), .val (.int (0 : Int32)), .val (.int (Int32.ofNat NN)), .unset, .unset] [(.long (10 : Int64)), (.int (1 : Int32)), (.long (own_L n)), (.int (Int32.ofNat (own_nd (own_M n)))), (.int (1 : Int32)), (.ref ra)])) (fun _ k => Jvm.Stand.ldc2J (g := (mkF m 145 #[.val (.int p0), .val (.int p1), .val (.int n), .val (.ref ra), .val (.int (1 : Int32)), .val (.long (own_L n)), .second, .val (.int (Int32.ofNat (own_nd (own_M n)))), .val (.int (1 : Int32)), .val (.int (0 : Int32)), .val (.int (Int32.ofNat NN)), .unset, .unset] [(.int (1 : Int32)), (.long (own_L n)), (.int (Int32.ofNat (own_nd (own_M n)))), (.int (1 : Int32)), (.ref ra)])) X113 hx hown (mvT hZ (hwi hw 154 rfl)) rfl (hb hby at_145) k) ?_
    obtain ⟨_, _, ⟨T114, L114, k114, n114⟩, -, X114, ⟨Lc114, hQ114, l114, y114, z114⟩, st114⟩ := Jvm.LawKit.callS X113 hx (y := (⟨"com/example/noteform/noteform/io/FiguresDaysPinLaw", "digitAt", "(Ljava/lang/String;IIJIJ)Z"⟩ : MethodName)) hown (mvT hZ (hwi hw 156 rfl)) (mvT hZ (hwi hw 157 rfl)) (mvT hZ (hwi hw 152 rfl)) (mvT hZ (hwi hw 158 rfl)) (by decide) (backOf (W := 0) (Q := Qret (some (.int (1 : Int32))) T101.heap n0) (own_da l Z a0 hw [] ra n (1 : Int32) (1 : Int32) (10 : Int64) 1 1 NN gc rb rk tv gf T101.heap n0 Z101 F102 hgc E101 C101 B101 V101 F107 cgf rfl rfl (by decide) (by decide) (by decide) dg (by omega) (by omega)) hZ (hwi hw 158 rfl) (hwi hw 152 rfl) (by decide) (by decide)) (g := (mkF m 148 #[.val (.int p0), .val (.int p1), .val (.int n), .val (.ref ra), .val (.int (1 : Int32)), .val (.long (own_L n)), .second, .val (.int (Int32.ofNat (own_nd (own_M n)))), .val (.int (1 : Int32)), .val (.int (0 : Int32)), .val (.int (Int32.ofNat NN)), .unset, .unset] [(.long (10 : Int64)), (.int (1 : Int32)), (.long (own_L n)), (.int (Int32.ofNat (own_nd (own_M n)))), (.int (1 : Int32)), (.ref ra)])) rfl (by rw [hml]; rfl) (argsL := [(.ref ra), (.int (1 : Int32)), (.int (Int32.ofNat (own_nd (own_M n)))), (.long (own_L n)), (.int (1 : Int32)), (.long (10 : Int64))]) (rest := []) (lenOf own_pd27 rfl) rfl (by show 2 * 0 + _ ≤ _; exact Nat.le_of_eq rfl) (hb hby at_148) (fun _ _ => ⟨rfl, eh113, (by dsimp only [Pt.cells, Pt.slots, room_1]; omega), (by dsimp only [Pt.cells, Pt.slots, room_1]; omega)⟩)
    dsimp only [Pt.U, Pt.locs, Pt.cells, Pt.slots] at X114 l114 y114 z114 st114 hQ114
    subst l114 y114 z114
    obtain ⟨rfl, N114q, eh114⟩ := hQ114
    have N114 := Fr.app N113 N114q
    refine GoW.step (T' := T114) (g' := (mkF m 151 #[.val (.int p0), .val (.int p1), .val (.int n), .val (.ref ra), .val (.int (1 : Int32)), .val (.long (own_L n)), .second, .val (.int (Int32.ofNat (own_nd (own_M n)))), .val (.int (1 : Int32)), .val (.int (0 : Int32)), .val (.int (Int32.ofNat NN)), .unset, .unset] [(.int (1 : Int32))])) (st114) ?_
    refine GoW.step (T' := T114) (g' := (mkF m 154 #[.val (.int p0), .val (.int p1), .val (.int n), .val (.ref ra), .val (.int (1 : Int32)), .val (.long (own_L n)), .second, .val (.int (Int32.ofNat (own_nd (own_M n)))), .val (.int (1 : Int32)), .val (.int (0 : Int32)), .val (.int (Int32.ofNat NN)), .unset, .unset] [])) (fun _ k => XS.ifNo X114.here hx rfl (hb hby at_151) rfl ((if0 _ _).trans (feq (by decide : ¬ ((1 : Int32) = (0 : Int32)))).1) k) ?_
    refine GoW.step (T' := T114) (g' := (mkF m 155 #[.val (.int p0), .val (.int p1), .val (.int n), .val (.ref ra), .val (.int (1 : Int32)), .val (.long (own_L n)), .second, .val (.int (Int32.ofNat (own_nd (own_M n)))), .val (.int (1 : Int32)), .val (.int (0 : Int32)), .val (.int (Int32.ofNat NN)), .unset, .unset] [(.ref ra)])) (fun _ k => XS.aloadN X114.here hx rfl (hb hby at_154) rfl rfl k) ?_
    refine GoW.step (T' := T114) (g' := (mkF m 157 #[.val (.int p0), .val (.int p1), .val (.int n), .val (.ref ra), .val (.int (1 : Int32)), .val (.long (own_L n)), .second, .val (.int (Int32.ofNat (own_nd (own_M n)))), .val (.int (1 : Int32)), .val (.int (0 : Int32)), .val (.int (Int32.ofNat NN)), .unset, .unset] [(.int (1 : Int32)), (.ref ra)])) (fun _ k => XS.iload X114.here hx rfl (hb hby at_155) rfl  k) ?_
    refine GoW.step (T' := T114) (g' := (mkF m 159 #[.val (.int p0), .val (.int p1), .val (.int n), .val (.ref ra), .val (.int (1 : Int32)), .val (.long (own_L n)), .second, .val (.int (Int32.ofNat (own_nd (own_M n)))), .val (.int (1 : Int32)), .val (.int (0 : Int32)), .val (.int (Int32.ofNat NN)), .unset, .unset] [(.int (Int32.ofNat (own_nd (own_M n)))), (.int (1 : Int32)), (.ref ra)])) (fun _ k => XS.iload X114.here hx rfl (hb hby at_157) rfl  k) ?_
    refine GoW.step (T' := T114) (g' := (mkF m 161 #[.val (.int p0), .val (.int p1), .val (.int n), .val (.ref ra), .val (.int (1 : Int32)), .val (.long (own_L n)), .second, .val (.int (Int32.ofNat (own_nd (own_M n)))), .val (.int (1 : Int32)), .val (.int (0 : Int32)), .val (.int (Int32.ofNat NN)), .unset, .unset] [(.long (own_L n)), (.int (Int32.ofNat (own_nd (own_M n)))), (.int (1 : Int32)), (.ref ra)])) (fun _ k => XS.lload X114.here hx rfl (hb hby at_159) rfl  k) ?_
    refine GoW.step (T' := T114) (g' := (mkF m 162 #[.val (.int p0), .val (.int p1), .val (.int n), .val (.ref ra), .val (.int (1 : Int32)), .val (.long (own_L n)), .second, .val (.int (Int32.ofNat (own_nd (own_M n)))), .val (.int (1 : Int32)), .val (.int (0 : Int32)), .val (.int (Int32.ofNat NN)), .unset, .unset] [(.int (2 : Int32)), (.long (own_L n)), (.int (Int32.ofNat (own_nd (own_M n)))), (.int (1 : Int32)), (.ref ra)])) (fun _ k => XS.iconst X114.here hx rfl (hb hby at_161) k) ?_
    refine GoW.step (T' := T114) (g' := (mkF m 165 #[.val (.int p0), .val (.int p1), .val (.int n), .val (.ref ra), .val (.int (1 : Int32)), .val (.long (own_L n)), .second, .val (.int (Int32.ofNat (own_nd (own_M n)))), .val (.int (1 : Int32)), .val (.int (0 : Int32)), .val (.int (Int32.ofNat NN)), .unset, .unset] [(.long (100 : Int64)), (.int (2 : Int32)), (.long (own_L n)), (.int (Int32.ofNat (own_nd (own_M n)))), (.int (1 : Int32)), (.ref ra)])) (fun _ k => Jvm.Stand.ldc2J (g := (mkF m 162 #[.val (.int p0), .val (.int p1), .val (.int n), .val (.ref ra), .val (.int (1 : Int32)), .val (.long (own_L n)), .second, .val (.int (Int32.ofNat (own_nd (own_M n)))), .val (.int (1 : Int32)), .val (.int (0 : Int32)), .val (.int (Int32.ofNat NN)), .unset, .unset] [(.int (2 : Int32)), (.long (own_L n)), (.int (Int32.ofNat (own_nd (own_M n)))), (.int (1 : Int32)), (.ref ra)])) X114 hx hown (mvT hZ (hwi hw 181 rfl)) rfl (hb hby at_162) k) ?_
    obtain ⟨_, _, ⟨T115, L115, k115, n115⟩, -, X115, ⟨Lc115, hQ115, l115, y115, z115⟩, st115⟩ := Jvm.LawKit.callS X114 hx (y := (⟨"com/example/noteform/noteform/io/FiguresDaysPinLaw", "digitAt", "(Ljava/lang/String;IIJIJ)Z"⟩ : MethodName)) hown (mvT hZ (hwi hw 156 rfl)) (mvT hZ (hwi hw 157 rfl)) (mvT hZ (hwi hw 152 rfl)) (mvT hZ (hwi hw 158 rfl)) (by decide) (backOf (W := 0) (Q := Qret (some (.int (1 : Int32))) T101.heap n0) (own_da l Z a0 hw [] ra n (1 : Int32) (2 : Int32) (100 : Int64) 1 2 NN gc rb rk tv gf T101.heap n0 Z101 F102 hgc E101 C101 B101 V101 F107 cgf rfl rfl (by decide) (by decide) (by decide) dg (by omega) (by omega)) hZ (hwi hw 158 rfl) (hwi hw 152 rfl) (by decide) (by decide)) (g := (mkF m 165 #[.val (.int p0), .val (.int p1), .val (.int n), .val (.ref ra), .val (.int (1 : Int32)), .val (.long (own_L n)), .second, .val (.int (Int32.ofNat (own_nd (own_M n)))), .val (.int (1 : Int32)), .val (.int (0 : Int32)), .val (.int (Int32.ofNat NN)), .unset, .unset] [(.long (100 : Int64)), (.int (2 : Int32)), (.long (own_L n)), (.int (Int32.ofNat (own_nd (own_M n)))), (.int (1 : Int32)), (.ref ra)])) rfl (by rw [hml]; rfl) (argsL := [(.ref ra), (.int (1 : Int32)), (.int (Int32.ofNat (own_nd (own_M n)))), (.long (own_L n)), (.int (2 : Int32)), (.long (100 : Int64))]) (rest := []) (lenOf own_pd27 rfl) rfl (by show 2 * 0 + _ ≤ _; exact Nat.le_of_eq rfl) (hb hby at_165) (fun _ _ => ⟨rfl, eh114, (by dsimp only [Pt.cells, Pt.slots, room_1]; omega), (by dsimp only [Pt.cells, Pt.slots, room_1]; omega)⟩)
    dsimp only [Pt.U, Pt.locs, Pt.cells, Pt.slots] at X115 l115 y115 z115 st115 hQ115
    subst l115 y115 z115
    obtain ⟨rfl, N115q, eh115⟩ := hQ115
    have N115 := Fr.app N114 N115q
    refine GoW.step (T' := T115) (g' := (mkF m 168 #[.val (.int p0), .val (.int p1), .val (.int n), .val (.ref ra), .val (.int (1 : Int32)), .val (.long (own_L n)), .second, .val (.int (Int32.ofNat (own_nd (own_M n)))), .val (.int (1 : Int32)), .val (.int (0 : Int32)), .val (.int (Int32.ofNat NN)), .unset, .unset] [(.int (1 : Int32))])) (st115) ?_
    refine GoW.step (T' := T115) (g' := (mkF m 171 #[.val (.int p0), .val (.int p1), .val (.int n), .val (.ref ra), .val (.int (1 : Int32)), .val (.long (own_L n)), .second, .val (.int (Int32.ofNat (own_nd (own_M n)))), .val (.int (1 : Int32)), .val (.int (0 : Int32)), .val (.int (Int32.ofNat NN)), .unset, .unset] [])) (fun _ k => XS.ifNo X115.here hx rfl (hb hby at_168) rfl ((if0 _ _).trans (feq (by decide : ¬ ((1 : Int32) = (0 : Int32)))).1) k) ?_
    refine GoW.step (T' := T115) (g' := (mkF m 172 #[.val (.int p0), .val (.int p1), .val (.int n), .val (.ref ra), .val (.int (1 : Int32)), .val (.long (own_L n)), .second, .val (.int (Int32.ofNat (own_nd (own_M n)))), .val (.int (1 : Int32)), .val (.int (0 : Int32)), .val (.int (Int32.ofNat NN)), .unset, .unset] [(.ref ra)])) (fun _ k => XS.aloadN X115.here hx rfl (hb hby at_171) rfl rfl k) ?_
    refine GoW.step (T' := T115) (g' := (mkF m 174 #[.val (.int p0), .val (.int p1), .val (.int n), .val (.ref ra), .val (.int (1 : Int32)), .val (.long (own_L n)), .second, .val (.int (Int32.ofNat (own_nd (own_M n)))), .val (.int (1 : Int32)), .val (.int (0 : Int32)), .val (.int (Int32.ofNat NN)), .unset, .unset] [(.int (1 : Int32)), (.ref ra)])) (fun _ k => XS.iload X115.here hx rfl (hb hby at_172) rfl  k) ?_
    refine GoW.step (T' := T115) (g' := (mkF m 176 #[.val (.int p0), .val (.int p1), .val (.int n), .val (.ref ra), .val (.int (1 : Int32)), .val (.long (own_L n)), .second, .val (.int (Int32.ofNat (own_nd (own_M n)))), .val (.int (1 : Int32)), .val (.int (0 : Int32)), .val (.int (Int32.ofNat NN)), .unset, .unset] [(.int (Int32.ofNat (own_nd (own_M n)))), (.int (1 : Int32)), (.ref ra)])) (fun _ k => XS.iload X115.here hx rfl (hb hby at_174) rfl  k) ?_
    refine GoW.step (T' := T115) (g' := (mkF m 178 #[.val (.int p0), .val (.int p1), .val (.int n), .val (.ref ra), .val (.int (1 : Int32)), .val (.long (own_L n)), .second, .val (.int (Int32.ofNat (own_nd (own_M n)))), .val (.int (1 : Int32)), .val (.int (0 : Int32)), .val (.int (Int32.ofNat NN)), .unset, .unset] [(.long (own_L n)), (.int (Int32.ofNat (own_nd (own_M n)))), (.int (1 : Int32)), (.ref ra)])) (fun _ k => XS.lload X115.here hx rfl (hb hby at_176) rfl  k) ?_
    refine GoW.step (T' := T115) (g' := (mkF m 179 #[.val (.int p0), .val (.int p1), .val (.int n), .val (.ref ra), .val (.int (1 : Int32)), .val (.long (own_L n)), .second, .val (.int (Int32.ofNat (own_nd (own_M n)))), .val (.int (1 : Int32)), .val (.int (0 : Int32)), .val (.int (Int32.ofNat NN)), .unset, .unset] [(.int (3 : Int32)), (.long (own_L n)), (.int (Int32.ofNat (own_nd (own_M n)))), (.int (1 : Int32)), (.ref ra)])) (fun _ k => XS.iconst X115.here hx rfl (hb hby at_178) k) ?_
    refine GoW.step (T' := T115) (g' := (mkF m 182 #[.val (.int p0), .val (.int p1), .val (.int n), .val (.ref ra), .val (.int (1 : Int32)), .val (.long (own_L n)), .second, .val (.int (Int32.ofNat (own_nd (own_M n)))), .val (.int (1 : Int32)), .val (.int (0 : Int32)), .val (.int (Int32.ofNat NN)), .unset, .unset] [(.long (1000 : Int64)), (.int (3 : Int32)), (.long (own_L n)), (.int (Int32.ofNat (own_nd (own_M n)))), (.int (1 : Int32)), (.ref ra)])) (fun _ k => Jvm.Stand.ldc2J (g := (mkF m 179 #[.val (.int p0), .val (.int p1), .val (.int n), .val (.ref ra), .val (.int (1 : Int32)), .val (.long (own_L n)), .second, .val (.int (Int32.ofNat (own_nd (own_M n)))), .val (.int (1 : Int32)), .val (.int (0 : Int32)), .val (.int (Int32.ofNat NN)), .unset, .unset] [(.int (3 : Int32)), (.long (own_L n)), (.int (Int32.ofNat (own_nd (own_M n)))), (.int (1 : Int32)), (.ref ra)])) X115 hx hown (mvT hZ (hwi hw 182 rfl)) rfl (hb hby at_179) k) ?_
    obtain ⟨_, _, ⟨T116, L116, k116, n116⟩, -, X116, ⟨Lc116, hQ116, l116, y116, z116⟩, st116⟩ := Jvm.LawKit.callS X115 hx (y := (⟨"com/example/noteform/noteform/io/FiguresDaysPinLaw", "digitAt", "(Ljava/lang/String;IIJIJ)Z"⟩ : MethodName)) hown (mvT hZ (hwi hw 156 rfl)) (mvT hZ (hwi hw 157 rfl)) (mvT hZ (hwi hw 152 rfl)) (mvT hZ (hwi hw 158 rfl)) (by decide) (backOf (W := 0) (Q := Qret (some (.int (1 : Int32))) T101.heap n0) (own_da l Z a0 hw [] ra n (1 : Int32) (3 : Int32) (1000 : Int64) 1 3 NN gc rb rk tv gf T101.heap n0 Z101 F102 hgc E101 C101 B101 V101 F107 cgf rfl rfl (by decide) (by decide) (by decide) dg (by omega) (by omega)) hZ (hwi hw 158 rfl) (hwi hw 152 rfl) (by decide) (by decide)) (g := (mkF m 182 #[.val (.int p0), .val (.int p1), .val (.int n), .val (.ref ra), .val (.int (1 : Int32)), .val (.long (own_L n)), .second, .val (.int (Int32.ofNat (own_nd (own_M n)))), .val (.int (1 : Int32)), .val (.int (0 : Int32)), .val (.int (Int32.ofNat NN)), .unset, .unset] [(.long (1000 : Int64)), (.int (3 : Int32)), (.long (own_L n)), (.int (Int32.ofNat (own_nd (own_M n)))), (.int (1 : Int32)), (.ref ra)])) rfl (by rw [hml]; rfl) (argsL := [(.ref ra), (.int (1 : Int32)), (.int (Int32.ofNat (own_nd (own_M n)))), (.long (own_L n)), (.int (3 : Int32)), (.long (1000 : Int64))]) (rest := []) (lenOf own_pd27 rfl) rfl (by show 2 * 0 + _ ≤ _; exact Nat.le_of_eq rfl) (hb hby at_182) (fun _ _ => ⟨rfl, eh115, (by dsimp only [Pt.cells, Pt.slots, room_1]; omega), (by dsimp only [Pt.cells, Pt.slots, room_1]; omega)⟩)
    dsimp only [Pt.U, Pt.locs, Pt.cells, Pt.slots] at X116 l116 y116 z116 st116 hQ116
    subst l116 y116 z116
    obtain ⟨rfl, N116q, eh116⟩ := hQ116
    have N116 := Fr.app N115 N116q
    refine GoW.step (T' := T116) (g' := (mkF m 185 #[.val (.int p0), .val (.int p1), .val (.int n), .val (.ref ra), .val (.int (1 : Int32)), .val (.long (own_L n)), .second, .val (.int (Int32.ofNat (own_nd (own_M n)))), .val (.int (1 : Int32)), .val (.int (0 : Int32)), .val (.int (Int32.ofNat NN)), .unset, .unset] [(.int (1 : Int32))])) (st116) ?_
    refine GoW.step (T' := T116) (g' := (mkF m 188 #[.val (.int p0), .val (.int p1), .val (.int n), .val (.ref ra), .val (.int (1 : Int32)), .val (.long (own_L n)), .second, .val (.int (Int32.ofNat (own_nd (own_M n)))), .val (.int (1 : Int32)), .val (.int (0 : Int32)), .val (.int (Int32.ofNat NN)), .unset, .unset] [])) (fun _ k => XS.ifNo X116.here hx rfl (hb hby at_185) rfl ((if0 _ _).trans (feq (by decide : ¬ ((1 : Int32) = (0 : Int32)))).1) k) ?_
    refine GoW.step (T' := T116) (g' := (mkF m 189 #[.val (.int p0), .val (.int p1), .val (.int n), .val (.ref ra), .val (.int (1 : Int32)), .val (.long (own_L n)), .second, .val (.int (Int32.ofNat (own_nd (own_M n)))), .val (.int (1 : Int32)), .val (.int (0 : Int32)), .val (.int (Int32.ofNat NN)), .unset, .unset] [(.ref ra)])) (fun _ k => XS.aloadN X116.here hx rfl (hb hby at_188) rfl rfl k) ?_
    refine GoW.step (T' := T116) (g' := (mkF m 191 #[.val (.int p0), .val (.int p1), .val (.int n), .val (.ref ra), .val (.int (1 : Int32)), .val (.long (own_L n)), .second, .val (.int (Int32.ofNat (own_nd (own_M n)))), .val (.int (1 : Int32)), .val (.int (0 : Int32)), .val (.int (Int32.ofNat NN)), .unset, .unset] [(.int (1 : Int32)), (.ref ra)])) (fun _ k => XS.iload X116.here hx rfl (hb hby at_189) rfl  k) ?_
    refine GoW.step (T' := T116) (g' := (mkF m 193 #[.val (.int p0), .val (.int p1), .val (.int n), .val (.ref ra), .val (.int (1 : Int32)), .val (.long (own_L n)), .second, .val (.int (Int32.ofNat (own_nd (own_M n)))), .val (.int (1 : Int32)), .val (.int (0 : Int32)), .val (.int (Int32.ofNat NN)), .unset, .unset] [(.int (Int32.ofNat (own_nd (own_M n)))), (.int (1 : Int32)), (.ref ra)])) (fun _ k => XS.iload X116.here hx rfl (hb hby at_191) rfl  k) ?_
    refine GoW.step (T' := T116) (g' := (mkF m 195 #[.val (.int p0), .val (.int p1), .val (.int n), .val (.ref ra), .val (.int (1 : Int32)), .val (.long (own_L n)), .second, .val (.int (Int32.ofNat (own_nd (own_M n)))), .val (.int (1 : Int32)), .val (.int (0 : Int32)), .val (.int (Int32.ofNat NN)), .unset, .unset] [(.long (own_L n)), (.int (Int32.ofNat (own_nd (own_M n)))), (.int (1 : Int32)), (.ref ra)])) (fun _ k => XS.lload X116.here hx rfl (hb hby at_193) rfl  k) ?_
    refine GoW.step (T' := T116) (g' := (mkF m 196 #[.val (.int p0), .val (.int p1), .val (.int n), .val (.ref ra), .val (.int (1 : Int32)), .val (.long (own_L n)), .second, .val (.int (Int32.ofNat (own_nd (own_M n)))), .val (.int (1 : Int32)), .val (.int (0 : Int32)), .val (.int (Int32.ofNat NN)), .unset, .unset] [(.int (4 : Int32)), (.long (own_L n)), (.int (Int32.ofNat (own_nd (own_M n)))), (.int (1 : Int32)), (.ref ra)])) (fun _ k => XS.iconst X116.here hx rfl (hb hby at_195) k) ?_
    refine GoW.step (T' := T116) (g' := (mkF m 199 #[.val (.int p0), .val (.int p1), .val (.int n), .val (.ref ra), .val (.int (1 : Int32)), .val (.long (own_L n)), .second, .val (.int (Int32.ofNat (own_nd (own_M n)))), .val (.int (1 : Int32)), .val (.int (0 : Int32)), .val (.int (Int32.ofNat NN)), .unset, .unset] [(.long (10000 : Int64)), (.int (4 : Int32)), (.long (own_L n)), (.int (Int32.ofNat (own_nd (own_M n)))), (.int (1 : Int32)), (.ref ra)])) (fun _ k => Jvm.Stand.ldc2J (g := (mkF m 196 #[.val (.int p0), .val (.int p1), .val (.int n), .val (.ref ra), .val (.int (1 : Int32)), .val (.long (own_L n)), .second, .val (.int (Int32.ofNat (own_nd (own_M n)))), .val (.int (1 : Int32)), .val (.int (0 : Int32)), .val (.int (Int32.ofNat NN)), .unset, .unset] [(.int (4 : Int32)), (.long (own_L n)), (.int (Int32.ofNat (own_nd (own_M n)))), (.int (1 : Int32)), (.ref ra)])) X116 hx hown (mvT hZ (hwi hw 183 rfl)) rfl (hb hby at_196) k) ?_
    obtain ⟨_, _, ⟨T117, L117, k117, n117⟩, -, X117, ⟨Lc117, hQ117, l117, y117, z117⟩, st117⟩ := Jvm.LawKit.callS X116 hx (y := (⟨"com/example/noteform/noteform/io/FiguresDaysPinLaw", "digitAt", "(Ljava/lang/String;IIJIJ)Z"⟩ : MethodName)) hown (mvT hZ (hwi hw 156 rfl)) (mvT hZ (hwi hw 157 rfl)) (mvT hZ (hwi hw 152 rfl)) (mvT hZ (hwi hw 158 rfl)) (by decide) (backOf (W := 0) (Q := Qret (some (.int (1 : Int32))) T101.heap n0) (own_da l Z a0 hw [] ra n (1 : Int32) (4 : Int32) (10000 : Int64) 1 4 NN gc rb rk tv gf T101.heap n0 Z101 F102 hgc E101 C101 B101 V101 F107 cgf rfl rfl (by decide) (by decide) (by decide) dg (by omega) (by omega)) hZ (hwi hw 158 rfl) (hwi hw 152 rfl) (by decide) (by decide)) (g := (mkF m 199 #[.val (.int p0), .val (.int p1), .val (.int n), .val (.ref ra), .val (.int (1 : Int32)), .val (.long (own_L n)), .second, .val (.int (Int32.ofNat (own_nd (own_M n)))), .val (.int (1 : Int32)), .val (.int (0 : Int32)), .val (.int (Int32.ofNat NN)), .unset, .unset] [(.long (10000 : Int64)), (.int (4 : Int32)), (.long (own_L n)), (.int (Int32.ofNat (own_nd (own_M n)))), (.int (1 : Int32)), (.ref ra)])) rfl (by rw [hml]; rfl) (argsL := [(.ref ra), (.int (1 : Int32)), (.int (Int32.ofNat (own_nd (own_M n)))), (.long (own_L n)), (.int (4 : Int32)), (.long (10000 : Int64))]) (rest := []) (lenOf own_pd27 rfl) rfl (by show 2 * 0 + _ ≤ _; exact Nat.le_of_eq rfl) (hb hby at_199) (fun _ _ => ⟨rfl, eh116, (by dsimp only [Pt.cells, Pt.slots, room_1]; omega), (by dsimp only [Pt.cells, Pt.slots, room_1]; omega)⟩)
    dsimp only [Pt.U, Pt.locs, Pt.cells, Pt.slots] at X117 l117 y117 z117 st117 hQ117
    subst l117 y117 z117
    obtain ⟨rfl, N117q, eh117⟩ := hQ117
    have N117 := Fr.app N116 N117q
    refine GoW.step (T' := T117) (g' := (mkF m 202 #[.val (.int p0), .val (.int p1), .val (.int n), .val (.ref ra), .val (.int (1 : Int32)), .val (.long (own_L n)), .second, .val (.int (Int32.ofNat (own_nd (own_M n)))), .val (.int (1 : Int32)), .val (.int (0 : Int32)), .val (.int (Int32.ofNat NN)), .unset, .unset] [(.int (1 : Int32))])) (st117) ?_
    refine GoW.step (T' := T117) (g' := (mkF m 205 #[.val (.int p0), .val (.int p1), .val (.int n), .val (.ref ra), .val (.int (1 : Int32)), .val (.long (own_L n)), .second, .val (.int (Int32.ofNat (own_nd (own_M n)))), .val (.int (1 : Int32)), .val (.int (0 : Int32)), .val (.int (Int32.ofNat NN)), .unset, .unset] [])) (fun _ k => XS.ifNo X117.here hx rfl (hb hby at_202) rfl ((if0 _ _).trans (feq (by decide : ¬ ((1 : Int32) = (0 : Int32)))).1) k) ?_
    refine GoW.step (T' := T117) (g' := (mkF m 206 #[.val (.int p0), .val (.int p1), .val (.int n), .val (.ref ra), .val (.int (1 : Int32)), .val (.long (own_L n)), .second, .val (.int (Int32.ofNat (own_nd (own_M n)))), .val (.int (1 : Int32)), .val (.int (0 : Int32)), .val (.int (Int32.ofNat NN)), .unset, .unset] [(.ref ra)])) (fun _ k => XS.aloadN X117.here hx rfl (hb hby at_205) rfl rfl k) ?_
    refine GoW.step (T' := T117) (g' := (mkF m 208 #[.val (.int p0), .val (.int p1), .val (.int n), .val (.ref ra), .val (.int (1 : Int32)), .val (.long (own_L n)), .second, .val (.int (Int32.ofNat (own_nd (own_M n)))), .val (.int (1 : Int32)), .val (.int (0 : Int32)), .val (.int (Int32.ofNat NN)), .unset, .unset] [(.int (1 : Int32)), (.ref ra)])) (fun _ k => XS.iload X117.here hx rfl (hb hby at_206) rfl  k) ?_
    refine GoW.step (T' := T117) (g' := (mkF m 210 #[.val (.int p0), .val (.int p1), .val (.int n), .val (.ref ra), .val (.int (1 : Int32)), .val (.long (own_L n)), .second, .val (.int (Int32.ofNat (own_nd (own_M n)))), .val (.int (1 : Int32)), .val (.int (0 : Int32)), .val (.int (Int32.ofNat NN)), .unset, .unset] [(.int (Int32.ofNat (own_nd (own_M n)))), (.int (1 : Int32)), (.ref ra)])) (fun _ k => XS.iload X117.here hx rfl (hb hby at_208) rfl  k) ?_
    refine GoW.step (T' := T117) (g' := (mkF m 212 #[.val (.int p0), .val (.int p1), .val (.int n), .val (.ref ra), .val (.int (1 : Int32)), .val (.long (own_L n)), .second, .val (.int (Int32.ofNat (own_nd (own_M n)))), .val (.int (1 : Int32)), .val (.int (0 : Int32)), .val (.int (Int32.ofNat NN)), .unset, .unset] [(.long (own_L n)), (.int (Int32.ofNat (own_nd (own_M n)))), (.int (1 : Int32)), (.ref ra)])) (fun _ k => XS.lload X117.here hx rfl (hb hby at_210) rfl  k) ?_
    refine GoW.step (T' := T117) (g' := (mkF m 213 #[.val (.int p0), .val (.int p1), .val (.int n), .val (.ref ra), .val (.int (1 : Int32)), .val (.long (own_L n)), .second, .val (.int (Int32.ofNat (own_nd (own_M n)))), .val (.int (1 : Int32)), .val (.int (0 : Int32)), .val (.int (Int32.ofNat NN)), .unset, .unset] [(.int (5 : Int32)), (.long (own_L n)), (.int (Int32.ofNat (own_nd (own_M n)))), (.int (1 : Int32)), (.ref ra)])) (fun _ k => XS.iconst X117.here hx rfl (hb hby at_212) k) ?_
    refine GoW.step (T' := T117) (g' := (mkF m 216 #[.val (.int p0), .val (.int p1), .val (.int n), .val (.ref ra), .val (.int (1 : Int32)), .val (.long (own_L n)), .second, .val (.int (Int32.ofNat (own_nd (own_M n)))), .val (.int (1 : Int32)), .val (.int (0 : Int32)), .val (.int (Int32.ofNat NN)), .unset, .unset] [(.long (100000 : Int64)), (.int (5 : Int32)), (.long (own_L n)), (.int (Int32.ofNat (own_nd (own_M n)))), (.int (1 : Int32)), (.ref ra)])) (fun _ k => Jvm.Stand.ldc2J (g := (mkF m 213 #[.val (.int p0), .val (.int p1), .val (.int n), .val (.ref ra), .val (.int (1 : Int32)), .val (.long (own_L n)), .second, .val (.int (Int32.ofNat (own_nd (own_M n)))), .val (.int (1 : Int32)), .val (.int (0 : Int32)), .val (.int (Int32.ofNat NN)), .unset, .unset] [(.int (5 : Int32)), (.long (own_L n)), (.int (Int32.ofNat (own_nd (own_M n)))), (.int (1 : Int32)), (.ref ra)])) X117 hx hown (mvT hZ (hwi hw 184 rfl)) rfl (hb hby at_213) k) ?_
    obtain ⟨_, _, ⟨T118, L118, k118, n118⟩, -, X118, ⟨Lc118, hQ118, l118, y118, z118⟩, st118⟩ := Jvm.LawKit.callS X117 hx (y := (⟨"com/example/noteform/noteform/io/FiguresDaysPinLaw", "digitAt", "(Ljava/lang/String;IIJIJ)Z"⟩ : MethodName)) hown (mvT hZ (hwi hw 156 rfl)) (mvT hZ (hwi hw 157 rfl)) (mvT hZ (hwi hw 152 rfl)) (mvT hZ (hwi hw 158 rfl)) (by decide) (backOf (W := 0) (Q := Qret (some (.int (1 : Int32))) T101.heap n0) (own_da l Z a0 hw [] ra n (1 : Int32) (5 : Int32) (100000 : Int64) 1 5 NN gc rb rk tv gf T101.heap n0 Z101 F102 hgc E101 C101 B101 V101 F107 cgf rfl rfl (by decide) (by decide) (by decide) dg (by omega) (by omega)) hZ (hwi hw 158 rfl) (hwi hw 152 rfl) (by decide) (by decide)) (g := (mkF m 216 #[.val (.int p0), .val (.int p1), .val (.int n), .val (.ref ra), .val (.int (1 : Int32)), .val (.long (own_L n)), .second, .val (.int (Int32.ofNat (own_nd (own_M n)))), .val (.int (1 : Int32)), .val (.int (0 : Int32)), .val (.int (Int32.ofNat NN)), .unset, .unset] [(.long (100000 : Int64)), (.int (5 : Int32)), (.long (own_L n)), (.int (Int32.ofNat (own_nd (own_M n)))), (.int (1 : Int32)), (.ref ra)])) rfl (by rw [hml]; rfl) (argsL := [(.ref ra), (.int (1 : Int32)), (.int (Int32.ofNat (own_nd (own_M n)))), (.long (own_L n)), (.int (5 : Int32)), (.long (100000 : Int64))]) (rest := []) (lenOf own_pd27 rfl) rfl (by show 2 * 0 + _ ≤ _; exact Nat.le_of_eq rfl) (hb hby at_216) (fun _ _ => ⟨rfl, eh117, (by dsimp only [Pt.cells, Pt.slots, room_1]; omega), (by dsimp only [Pt.cells, Pt.slots, room_1]; omega)⟩)
    dsimp only [Pt.U, Pt.locs, Pt.cells, Pt.slots] at X118 l118 y118 z118 st118 hQ118
    subst l118 y118 z118
    obtain ⟨rfl, N118q, eh118⟩ := hQ118
    have N118 := Fr.app N117 N118q
    refine GoW.step (T' := T118) (g' := (mkF m 219 #[.val (.int p0), .val (.int p1), .val (.int n), .val (.ref ra), .val (.int (1 : Int32)), .val (.long (own_L n)), .second, .val (.int (Int32.ofNat (own_nd (own_M n)))), .val (.int (1 : Int32)), .val (.int (0 : Int32)), .val (.int (Int32.ofNat NN)), .unset, .unset] [(.int (1 : Int32))])) (st118) ?_
    refine GoW.step (T' := T118) (g' := (mkF m 222 #[.val (.int p0), .val (.int p1), .val (.int n), .val (.ref ra), .val (.int (1 : Int32)), .val (.long (own_L n)), .second, .val (.int (Int32.ofNat (own_nd (own_M n)))), .val (.int (1 : Int32)), .val (.int (0 : Int32)), .val (.int (Int32.ofNat NN)), .unset, .unset] [])) (fun _ k => XS.ifNo X118.here hx rfl (hb hby at_219) rfl ((if0 _ _).trans (feq (by decide : ¬ ((1 : Int32) = (0 : Int32)))).1) k) ?_
    refine GoW.step (T' := T118) (g' := (mkF m 223 #[.val (.int p0), .val (.int p1), .val (.int n), .val (.ref ra), .val (.int (1 : Int32)), .val (.long (own_L n)), .second, .val (.int (Int32.ofNat (own_nd (own_M n)))), .val (.int (1 : Int32)), .val (.int (0 : Int32)), .val (.int (Int32.ofNat NN)), .unset, .unset] [(.ref ra)])) (fun _ k => XS.aloadN X118.here hx rfl (hb hby at_222) rfl rfl k) ?_
    refine GoW.step (T' := T118) (g' := (mkF m 225 #[.val (.int p0), .val (.int p1), .val (.int n), .val (.ref ra), .val (.int (1 : Int32)), .val (.long (own_L n)), .second, .val (.int (Int32.ofNat (own_nd (own_M n)))), .val (.int (1 : Int32)), .val (.int (0 : Int32)), .val (.int (Int32.ofNat NN)), .unset, .unset] [(.int (1 : Int32)), (.ref ra)])) (fun _ k => XS.iload X118.here hx rfl (hb hby at_223) rfl  k) ?_
    refine GoW.step (T' := T118) (g' := (mkF m 227 #[.val (.int p0), .val (.int p1), .val (.int n), .val (.ref ra), .val (.int (1 : Int32)), .val (.long (own_L n)), .second, .val (.int (Int32.ofNat (own_nd (own_M n)))), .val (.int (1 : Int32)), .val (.int (0 : Int32)), .val (.int (Int32.ofNat NN)), .unset, .unset] [(.int (Int32.ofNat (own_nd (own_M n)))), (.int (1 : Int32)), (.ref ra)])) (fun _ k => XS.iload X118.here hx rfl (hb hby at_225) rfl  k) ?_
    refine GoW.step (T' := T118) (g' := (mkF m 229 #[.val (.int p0), .val (.int p1), .val (.int n), .val (.ref ra), .val (.int (1 : Int32)), .val (.long (own_L n)), .second, .val (.int (Int32.ofNat (own_nd (own_M n)))), .val (.int (1 : Int32)), .val (.int (0 : Int32)), .val (.int (Int32.ofNat NN)), .unset, .unset] [(.long (own_L n)), (.int (Int32.ofNat (own_nd (own_M n)))), (.int (1 : Int32)), (.ref ra)])) (fun _ k => XS.lload X118.here hx rfl (hb hby at_227) rfl  k) ?_
    refine GoW.step (T' := T118) (g' := (mkF m 231 #[.val (.int p0), .val (.int p1), .val (.int n), .val (.ref ra), .val (.int (1 : Int32)), .val (.long (own_L n)), .second, .val (.int (Int32.ofNat (own_nd (own_M n)))), .val (.int (1 : Int32)), .val (.int (0 : Int32)), .val (.int (Int32.ofNat NN)), .unset, .unset] [(.int (6 : Int32)), (.long (own_L n)), (.int (Int32.ofNat (own_nd (own_M n)))), (.int (1 : Int32)), (.ref ra)])) (fun _ k => XS.bipush X118.here hx rfl (hb hby at_229) k) ?_
    refine GoW.step (T' := T118) (g' := (mkF m 234 #[.val (.int p0), .val (.int p1), .val (.int n), .val (.ref ra), .val (.int (1 : Int32)), .val (.long (own_L n)), .second, .val (.int (Int32.ofNat (own_nd (own_M n)))), .val (.int (1 : Int32)), .val (.int (0 : Int32)), .val (.int (Int32.ofNat NN)), .unset, .unset] [(.long (1000000 : Int64)), (.int (6 : Int32)), (.long (own_L n)), (.int (Int32.ofNat (own_nd (own_M n)))), (.int (1 : Int32)), (.ref ra)])) (fun _ k => Jvm.Stand.ldc2J (g := (mkF m 231 #[.val (.int p0), .val (.int p1), .val (.int n), .val (.ref ra), .val (.int (1 : Int32)), .val (.long (own_L n)), .second, .val (.int (Int32.ofNat (own_nd (own_M n)))), .val (.int (1 : Int32)), .val (.int (0 : Int32)), .val (.int (Int32.ofNat NN)), .unset, .unset] [(.int (6 : Int32)), (.long (own_L n)), (.int (Int32.ofNat (own_nd (own_M n)))), (.int (1 : Int32)), (.ref ra)])) X118 hx hown (mvT hZ (hwi hw 185 rfl)) rfl (hb hby at_231) k) ?_
    obtain ⟨_, _, ⟨T119, L119, k119, n119⟩, -, X119, ⟨Lc119, hQ119, l119, y119, z119⟩, st119⟩ := Jvm.LawKit.callS X118 hx (y := (⟨"com/example/noteform/noteform/io/FiguresDaysPinLaw", "digitAt", "(Ljava/lang/String;IIJIJ)Z"⟩ : MethodName)) hown (mvT hZ (hwi hw 156 rfl)) (mvT hZ (hwi hw 157 rfl)) (mvT hZ (hwi hw 152 rfl)) (mvT hZ (hwi hw 158 rfl)) (by decide) (backOf (W := 0) (Q := Qret (some (.int (1 : Int32))) T101.heap n0) (own_da l Z a0 hw [] ra n (1 : Int32) (6 : Int32) (1000000 : Int64) 1 6 NN gc rb rk tv gf T101.heap n0 Z101 F102 hgc E101 C101 B101 V101 F107 cgf rfl rfl (by decide) (by decide) (by decide) dg (by omega) (by omega)) hZ (hwi hw 158 rfl) (hwi hw 152 rfl) (by decide) (by decide)) (g := (mkF m 234 #[.val (.int p0), .val (.int p1), .val (.int n), .val (.ref ra), .val (.int (1 : Int32)), .val (.long (own_L n)), .second, .val (.int (Int32.ofNat (own_nd (own_M n)))), .val (.int (1 : Int32)), .val (.int (0 : Int32)), .val (.int (Int32.ofNat NN)), .unset, .unset] [(.long (1000000 : Int64)), (.int (6 : Int32)), (.long (own_L n)), (.int (Int32.ofNat (own_nd (own_M n)))), (.int (1 : Int32)), (.ref ra)])) rfl (by rw [hml]; rfl) (argsL := [(.ref ra), (.int (1 : Int32)), (.int (Int32.ofNat (own_nd (own_M n)))), (.long (own_L n)), (.int (6 : Int32)), (.long (1000000 : Int64))]) (rest := []) (lenOf own_pd27 rfl) rfl (by show 2 * 0 + _ ≤ _; exact Nat.le_of_eq rfl) (hb hby at_234) (fun _ _ => ⟨rfl, eh118, (by dsimp only [Pt.cells, Pt.slots, room_1]; omega), (by dsimp only [Pt.cells, Pt.slots, room_1]; omega)⟩)
    dsimp only [Pt.U, Pt.locs, Pt.cells, Pt.slots] at X119 l119 y119 z119 st119 hQ119
    subst l119 y119 z119
    obtain ⟨rfl, N119q, eh119⟩ := hQ119
    have N119 := Fr.app N118 N119q
    refine GoW.step (T' := T119) (g' := (mkF m 237 #[.val (.int p0), .val (.int p1), .val (.int n), .val (.ref ra), .val (.int (1 : Int32)), .val (.long (own_L n)), .second, .val (.int (Int32.ofNat (own_nd (own_M n)))), .val (.int (1 : Int32)), .val (.int (0 : Int32)), .val (.int (Int32.ofNat NN)), .unset, .unset] [(.int (1 : Int32))])) (st119) ?_
    refine GoW.step (T' := T119) (g' := (mkF m 240 #[.val (.int p0), .val (.int p1), .val (.int n), .val (.ref ra), .val (.int (1 : Int32)), .val (.long (own_L n)), .second, .val (.int (Int32.ofNat (own_nd (own_M n)))), .val (.int (1 : Int32)), .val (.int (0 : Int32)), .val (.int (Int32.ofNat NN)), .unset, .unset] [])) (fun _ k => XS.ifNo X119.here hx rfl (hb hby at_237) rfl ((if0 _ _).trans (feq (by decide : ¬ ((1 : Int32) = (0 : Int32)))).1) k) ?_
    refine GoW.step (T' := T119) (g' := (mkF m 241 #[.val (.int p0), .val (.int p1), .val (.int n), .val (.ref ra), .val (.int (1 : Int32)), .val (.long (own_L n)), .second, .val (.int (Int32.ofNat (own_nd (own_M n)))), .val (.int (1 : Int32)), .val (.int (0 : Int32)), .val (.int (Int32.ofNat NN)), .unset, .unset] [(.ref ra)])) (fun _ k => XS.aloadN X119.here hx rfl (hb hby at_240) rfl rfl k) ?_
    refine GoW.step (T' := T119) (g' := (mkF m 243 #[.val (.int p0), .val (.int p1), .val (.int n), .val (.ref ra), .val (.int (1 : Int32)), .val (.long (own_L n)), .second, .val (.int (Int32.ofNat (own_nd (own_M n)))), .val (.int (1 : Int32)), .val (.int (0 : Int32)), .val (.int (Int32.ofNat NN)), .unset, .unset] [(.int (1 : Int32)), (.ref ra)])) (fun _ k => XS.iload X119.here hx rfl (hb hby at_241) rfl  k) ?_
    refine GoW.step (T' := T119) (g' := (mkF m 245 #[.val (.int p0), .val (.int p1), .val (.int n), .val (.ref ra), .val (.int (1 : Int32)), .val (.long (own_L n)), .second, .val (.int (Int32.ofNat (own_nd (own_M n)))), .val (.int (1 : Int32)), .val (.int (0 : Int32)), .val (.int (Int32.ofNat NN)), .unset, .unset] [(.int (Int32.ofNat (own_nd (own_M n)))), (.int (1 : Int32)), (.ref ra)])) (fun _ k => XS.iload X119.here hx rfl (hb hby at_243) rfl  k) ?_
    refine GoW.step (T' := T119) (g' := (mkF m 247 #[.val (.int p0), .val (.int p1), .val (.int n), .val (.ref ra), .val (.int (1 : Int32)), .val (.long (own_L n)), .second, .val (.int (Int32.ofNat (own_nd (own_M n)))), .val (.int (1 : Int32)), .val (.int (0 : Int32)), .val (.int (Int32.ofNat NN)), .unset, .unset] [(.long (own_L n)), (.int (Int32.ofNat (own_nd (own_M n)))), (.int (1 : Int32)), (.ref ra)])) (fun _ k => XS.lload X119.here hx rfl (hb hby at_245) rfl  k) ?_
    refine GoW.step (T' := T119) (g' := (mkF m 249 #[.val (.int p0), .val (.int p1), .val (.int n), .val (.ref ra), .val (.int (1 : Int32)), .val (.long (own_L n)), .second, .val (.int (Int32.ofNat (own_nd (own_M n)))), .val (.int (1 : Int32)), .val (.int (0 : Int32)), .val (.int (Int32.ofNat NN)), .unset, .unset] [(.int (7 : Int32)), (.long (own_L n)), (.int (Int32.ofNat (own_nd (own_M n)))), (.int (1 : Int32)), (.ref ra)])) (fun _ k => XS.bipush X119.here hx rfl (hb hby at_247) k) ?_
    refine GoW.step (T' := T119) (g' := (mkF m 252 #[.val (.int p0), .val (.int p1), .val (.int n), .val (.ref ra), .val (.int (1 : Int32)), .val (.long (own_L n)), .second, .val (.int (Int32.ofNat (own_nd (own_M n)))), .val (.int (1 : Int32)), .val (.int (0 : Int32)), .val (.int (Int32.ofNat NN)), .unset, .unset] [(.long (10000000 : Int64)), (.int (7 : Int32)), (.long (own_L n)), (.int (Int32.ofNat (own_nd (own_M n)))), (.int (1 : Int32)), (.ref ra)])) (fun _ k => Jvm.Stand.ldc2J (g := (mkF m 249 #[.val (.int p0), .val (.int p1), .val (.int n), .val (.ref ra), .val (.int (1 : Int32)), .val (.long (own_L n)), .second, .val (.int (Int32.ofNat (own_nd (own_M n)))), .val (.int (1 : Int32)), .val (.int (0 : Int32)), .val (.int (Int32.ofNat NN)), .unset, .unset] [(.int (7 : Int32)), (.long (own_L n)), (.int (Int32.ofNat (own_nd (own_M n)))), (.int (1 : Int32)), (.ref ra)])) X119 hx hown (mvT hZ (hwi hw 186 rfl)) rfl (hb hby at_249) k) ?_
    obtain ⟨_, _, ⟨T120, L120, k120, n120⟩, -, X120, ⟨Lc120, hQ120, l120, y120, z120⟩, st120⟩ := Jvm.LawKit.callS X119 hx (y := (⟨"com/example/noteform/noteform/io/FiguresDaysPinLaw", "digitAt", "(Ljava/lang/String;IIJIJ)Z"⟩ : MethodName)) hown (mvT hZ (hwi hw 156 rfl)) (mvT hZ (hwi hw 157 rfl)) (mvT hZ (hwi hw 152 rfl)) (mvT hZ (hwi hw 158 rfl)) (by decide) (backOf (W := 0) (Q := Qret (some (.int (1 : Int32))) T101.heap n0) (own_da l Z a0 hw [] ra n (1 : Int32) (7 : Int32) (10000000 : Int64) 1 7 NN gc rb rk tv gf T101.heap n0 Z101 F102 hgc E101 C101 B101 V101 F107 cgf rfl rfl (by decide) (by decide) (by decide) dg (by omega) (by omega)) hZ (hwi hw 158 rfl) (hwi hw 152 rfl) (by decide) (by decide)) (g := (mkF m 252 #[.val (.int p0), .val (.int p1), .val (.int n), .val (.ref ra), .val (.int (1 : Int32)), .val (.long (own_L n)), .second, .val (.int (Int32.ofNat (own_nd (own_M n)))), .val (.int (1 : Int32)), .val (.int (0 : Int32)), .val (.int (Int32.ofNat NN)), .unset, .unset] [(.long (10000000 : Int64)), (.int (7 : Int32)), (.long (own_L n)), (.int (Int32.ofNat (own_nd (own_M n)))), (.int (1 : Int32)), (.ref ra)])) rfl (by rw [hml]; rfl) (argsL := [(.ref ra), (.int (1 : Int32)), (.int (Int32.ofNat (own_nd (own_M n)))), (.long (own_L n)), (.int (7 : Int32)), (.long (10000000 : Int64))]) (rest := []) (lenOf own_pd27 rfl) rfl (by show 2 * 0 + _ ≤ _; exact Nat.le_of_eq rfl) (hb hby at_252) (fun _ _ => ⟨rfl, eh119, (by dsimp only [Pt.cells, Pt.slots, room_1]; omega), (by dsimp only [Pt.cells, Pt.slots, room_1]; omega)⟩)
    dsimp only [Pt.U, Pt.locs, Pt.cells, Pt.slots] at X120 l120 y120 z120 st120 hQ120
    subst l120 y120 z120
    obtain ⟨rfl, N120q, eh120⟩ := hQ120
    have N120 := Fr.app N119 N120q
    refine GoW.step (T' := T120) (g' := (mkF m 255 #[.val (.int p0), .val (.int p1), .val (.int n), .val (.ref ra), .val (.int (1 : Int32)), .val (.long (own_L n)), .second, .val (.int (Int32.ofNat (own_nd (own_M n)))), .val (.int (1 : Int32)), .val (.int (0 : Int32)), .val (.int (Int32.ofNat NN)), .unset, .unset] [(.int (1 : Int32))])) (st120) ?_
    refine GoW.step (T' := T120) (g' := (mkF m 258 #[.val (.int p0), .val (.int p1), .val (.int n), .val (.ref ra), .val (.int (1 : Int32)), .val (.long (own_L n)), .second, .val (.int (Int32.ofNat (own_nd (own_M n)))), .val (.int (1 : Int32)), .val (.int (0 : Int32)), .val (.int (Int32.ofNat NN)), .unset, .unset] [])) (fun _ k => XS.ifNo X120.here hx rfl (hb hby at_255) rfl ((if0 _ _).trans (feq (by decide : ¬ ((1 : Int32) = (0 : Int32)))).1) k) ?_
    refine GoW.step (T' := T120) (g' := (mkF m 259 #[.val (.int p0), .val (.int p1), .val (.int n), .val (.ref ra), .val (.int (1 : Int32)), .val (.long (own_L n)), .second, .val (.int (Int32.ofNat (own_nd (own_M n)))), .val (.int (1 : Int32)), .val (.int (0 : Int32)), .val (.int (Int32.ofNat NN)), .unset, .unset] [(.ref ra)])) (fun _ k => XS.aloadN X120.here hx rfl (hb hby at_258) rfl rfl k) ?_
    refine GoW.step (T' := T120) (g' := (mkF m 261 #[.val (.int p0), .val (.int p1), .val (.int n), .val (.ref ra), .val (.int (1 : Int32)), .val (.long (own_L n)), .second, .val (.int (Int32.ofNat (own_nd (own_M n)))), .val (.int (1 : Int32)), .val (.int (0 : Int32)), .val (.int (Int32.ofNat NN)), .unset, .unset] [(.int (1 : Int32)), (.ref ra)])) (fun _ k => XS.iload X120.here hx rfl (hb hby at_259) rfl  k) ?_
    refine GoW.step (T' := T120) (g' := (mkF m 263 #[.val (.int p0), .val (.int p1), .val (.int n), .val (.ref ra), .val (.int (1 : Int32)), .val (.long (own_L n)), .second, .val (.int (Int32.ofNat (own_nd (own_M n)))), .val (.int (1 : Int32)), .val (.int (0 : Int32)), .val (.int (Int32.ofNat NN)), .unset, .unset] [(.int (Int32.ofNat (own_nd (own_M n)))), (.int (1 : Int32)), (.ref ra)])) (fun _ k => XS.iload X120.here hx rfl (hb hby at_261) rfl  k) ?_
    refine GoW.step (T' := T120) (g' := (mkF m 265 #[.val (.int p0), .val (.int p1), .val (.int n), .val (.ref ra), .val (.int (1 : Int32)), .val (.long (own_L n)), .second, .val (.int (Int32.ofNat (own_nd (own_M n)))), .val (.int (1 : Int32)), .val (.int (0 : Int32)), .val (.int (Int32.ofNat NN)), .unset, .unset] [(.long (own_L n)), (.int (Int32.ofNat (own_nd (own_M n)))), (.int (1 : Int32)), (.ref ra)])) (fun _ k => XS.lload X120.here hx rfl (hb hby at_263) rfl  k) ?_
    refine GoW.step (T' := T120) (g' := (mkF m 267 #[.val (.int p0), .val (.int p1), .val (.int n), .val (.ref ra), .val (.int (1 : Int32)), .val (.long (own_L n)), .second, .val (.int (Int32.ofNat (own_nd (own_M n)))), .val (.int (1 : Int32)), .val (.int (0 : Int32)), .val (.int (Int32.ofNat NN)), .unset, .unset] [(.int (8 : Int32)), (.long (own_L n)), (.int (Int32.ofNat (own_nd (own_M n)))), (.int (1 : Int32)), (.ref ra)])) (fun _ k => XS.bipush X120.here hx rfl (hb hby at_265) k) ?_
    refine GoW.step (T' := T120) (g' := (mkF m 270 #[.val (.int p0), .val (.int p1), .val (.int n), .val (.ref ra), .val (.int (1 : Int32)), .val (.long (own_L n)), .second, .val (.int (Int32.ofNat (own_nd (own_M n)))), .val (.int (1 : Int32)), .val (.int (0 : Int32)), .val (.int (Int32.ofNat NN)), .unset, .unset] [(.long (100000000 : Int64)), (.int (8 : Int32)), (.long (own_L n)), (.int (Int32.ofNat (own_nd (own_M n)))), (.int (1 : Int32)), (.ref ra)])) (fun _ k => Jvm.Stand.ldc2J (g := (mkF m 267 #[.val (.int p0), .val (.int p1), .val (.int n), .val (.ref ra), .val (.int (1 : Int32)), .val (.long (own_L n)), .second, .val (.int (Int32.ofNat (own_nd (own_M n)))), .val (.int (1 : Int32)), .val (.int (0 : Int32)), .val (.int (Int32.ofNat NN)), .unset, .unset] [(.int (8 : Int32)), (.long (own_L n)), (.int (Int32.ofNat (own_nd (own_M n)))), (.int (1 : Int32)), (.ref ra)])) X120 hx hown (mvT hZ (hwi hw 187 rfl)) rfl (hb hby at_267) k) ?_
    obtain ⟨_, _, ⟨T121, L121, k121, n121⟩, -, X121, ⟨Lc121, hQ121, l121, y121, z121⟩, st121⟩ := Jvm.LawKit.callS X120 hx (y := (⟨"com/example/noteform/noteform/io/FiguresDaysPinLaw", "digitAt", "(Ljava/lang/String;IIJIJ)Z"⟩ : MethodName)) hown (mvT hZ (hwi hw 156 rfl)) (mvT hZ (hwi hw 157 rfl)) (mvT hZ (hwi hw 152 rfl)) (mvT hZ (hwi hw 158 rfl)) (by decide) (backOf (W := 0) (Q := Qret (some (.int (1 : Int32))) T101.heap n0) (own_da l Z a0 hw [] ra n (1 : Int32) (8 : Int32) (100000000 : Int64) 1 8 NN gc rb rk tv gf T101.heap n0 Z101 F102 hgc E101 C101 B101 V101 F107 cgf rfl rfl (by decide) (by decide) (by decide) dg (by omega) (by omega)) hZ (hwi hw 158 rfl) (hwi hw 152 rfl) (by decide) (by decide)) (g := (mkF m 270 #[.val (.int p0), .val (.int p1), .val (.int n), .val (.ref ra), .val (.int (1 : Int32)), .val (.long (own_L n)), .second, .val (.int (Int32.ofNat (own_nd (own_M n)))), .val (.int (1 : Int32)), .val (.int (0 : Int32)), .val (.int (Int32.ofNat NN)), .unset, .unset] [(.long (100000000 : Int64)), (.int (8 : Int32)), (.long (own_L n)), (.int (Int32.ofNat (own_nd (own_M n)))), (.int (1 : Int32)), (.ref ra)])) rfl (by rw [hml]; rfl) (argsL := [(.ref ra), (.int (1 : Int32)), (.int (Int32.ofNat (own_nd (own_M n)))), (.long (own_L n)), (.int (8 : Int32)), (.long (100000000 : Int64))]) (rest := []) (lenOf own_pd27 rfl) rfl (by show 2 * 0 + _ ≤ _; exact Nat.le_of_eq rfl) (hb hby at_270) (fun _ _ => ⟨rfl, eh120, (by dsimp only [Pt.cells, Pt.slots, room_1]; omega), (by dsimp only [Pt.cells, Pt.slots, room_1]; omega)⟩)
    dsimp only [Pt.U, Pt.locs, Pt.cells, Pt.slots] at X121 l121 y121 z121 st121 hQ121
    subst l121 y121 z121
    obtain ⟨rfl, N121q, eh121⟩ := hQ121
    have N121 := Fr.app N120 N121q
    refine GoW.step (T' := T121) (g' := (mkF m 273 #[.val (.int p0), .val (.int p1), .val (.int n), .val (.ref ra), .val (.int (1 : Int32)), .val (.long (own_L n)), .second, .val (.int (Int32.ofNat (own_nd (own_M n)))), .val (.int (1 : Int32)), .val (.int (0 : Int32)), .val (.int (Int32.ofNat NN)), .unset, .unset] [(.int (1 : Int32))])) (st121) ?_
    refine GoW.step (T' := T121) (g' := (mkF m 276 #[.val (.int p0), .val (.int p1), .val (.int n), .val (.ref ra), .val (.int (1 : Int32)), .val (.long (own_L n)), .second, .val (.int (Int32.ofNat (own_nd (own_M n)))), .val (.int (1 : Int32)), .val (.int (0 : Int32)), .val (.int (Int32.ofNat NN)), .unset, .unset] [])) (fun _ k => XS.ifNo X121.here hx rfl (hb hby at_273) rfl ((if0 _ _).trans (feq (by decide : ¬ ((1 : Int32) = (0 : Int32)))).1) k) ?_
    refine GoW.step (T' := T121) (g' := (mkF m 277 #[.val (.int p0), .val (.int p1), .val (.int n), .val (.ref ra), .val (.int (1 : Int32)), .val (.long (own_L n)), .second, .val (.int (Int32.ofNat (own_nd (own_M n)))), .val (.int (1 : Int32)), .val (.int (0 : Int32)), .val (.int (Int32.ofNat NN)), .unset, .unset] [(.ref ra)])) (fun _ k => XS.aloadN X121.here hx rfl (hb hby at_276) rfl rfl k) ?_
    refine GoW.step (T' := T121) (g' := (mkF m 279 #[.val (.int p0), .val (.int p1), .val (.int n), .val (.ref ra), .val (.int (1 : Int32)), .val (.long (own_L n)), .second, .val (.int (Int32.ofNat (own_nd (own_M n)))), .val (.int (1 : Int32)), .val (.int (0 : Int32)), .val (.int (Int32.ofNat NN)), .unset, .unset] [(.int (1 : Int32)), (.ref ra)])) (fun _ k => XS.iload X121.here hx rfl (hb hby at_277) rfl  k) ?_
    refine GoW.step (T' := T121) (g' := (mkF m 281 #[.val (.int p0), .val (.int p1), .val (.int n), .val (.ref ra), .val (.int (1 : Int32)), .val (.long (own_L n)), .second, .val (.int (Int32.ofNat (own_nd (own_M n)))), .val (.int (1 : Int32)), .val (.int (0 : Int32)), .val (.int (Int32.ofNat NN)), .unset, .unset] [(.int (Int32.ofNat (own_nd (own_M n)))), (.int (1 : Int32)), (.ref ra)])) (fun _ k => XS.iload X121.here hx rfl (hb hby at_279) rfl  k) ?_
    refine GoW.step (T' := T121) (g' := (mkF m 283 #[.val (.int p0), .val (.int p1), .val (.int n), .val (.ref ra), .val (.int (1 : Int32)), .val (.long (own_L n)), .second, .val (.int (Int32.ofNat (own_nd (own_M n)))), .val (.int (1 : Int32)), .val (.int (0 : Int32)), .val (.int (Int32.ofNat NN)), .unset, .unset] [(.long (own_L n)), (.int (Int32.ofNat (own_nd (own_M n)))), (.int (1 : Int32)), (.ref ra)])) (fun _ k => XS.lload X121.here hx rfl (hb hby at_281) rfl  k) ?_
    refine GoW.step (T' := T121) (g' := (mkF m 285 #[.val (.int p0), .val (.int p1), .val (.int n), .val (.ref ra), .val (.int (1 : Int32)), .val (.long (own_L n)), .second, .val (.int (Int32.ofNat (own_nd (own_M n)))), .val (.int (1 : Int32)), .val (.int (0 : Int32)), .val (.int (Int32.ofNat NN)), .unset, .unset] [(.int (9 : Int32)), (.long (own_L n)), (.int (Int32.ofNat (own_nd (own_M n)))), (.int (1 : Int32)), (.ref ra)])) (fun _ k => XS.bipush X121.here hx rfl (hb hby at_283) k) ?_
    refine GoW.step (T' := T121) (g' := (mkF m 288 #[.val (.int p0), .val (.int p1), .val (.int n), .val (.ref ra), .val (.int (1 : Int32)), .val (.long (own_L n)), .second, .val (.int (Int32.ofNat (own_nd (own_M n)))), .val (.int (1 : Int32)), .val (.int (0 : Int32)), .val (.int (Int32.ofNat NN)), .unset, .unset] [(.long (1000000000 : Int64)), (.int (9 : Int32)), (.long (own_L n)), (.int (Int32.ofNat (own_nd (own_M n)))), (.int (1 : Int32)), (.ref ra)])) (fun _ k => Jvm.Stand.ldc2J (g := (mkF m 285 #[.val (.int p0), .val (.int p1), .val (.int n), .val (.ref ra), .val (.int (1 : Int32)), .val (.long (own_L n)), .second, .val (.int (Int32.ofNat (own_nd (own_M n)))), .val (.int (1 : Int32)), .val (.int (0 : Int32)), .val (.int (Int32.ofNat NN)), .unset, .unset] [(.int (9 : Int32)), (.long (own_L n)), (.int (Int32.ofNat (own_nd (own_M n)))), (.int (1 : Int32)), (.ref ra)])) X121 hx hown (mvT hZ (hwi hw 188 rfl)) rfl (hb hby at_285) k) ?_
    obtain ⟨_, _, ⟨T122, L122, k122, n122⟩, -, X122, ⟨Lc122, hQ122, l122, y122, z122⟩, st122⟩ := Jvm.LawKit.callS X121 hx (y := (⟨"com/example/noteform/noteform/io/FiguresDaysPinLaw", "digitAt", "(Ljava/lang/String;IIJIJ)Z"⟩ : MethodName)) hown (mvT hZ (hwi hw 156 rfl)) (mvT hZ (hwi hw 157 rfl)) (mvT hZ (hwi hw 152 rfl)) (mvT hZ (hwi hw 158 rfl)) (by decide) (backOf (W := 0) (Q := Qret (some (.int (1 : Int32))) T101.heap n0) (own_da l Z a0 hw [] ra n (1 : Int32) (9 : Int32) (1000000000 : Int64) 1 9 NN gc rb rk tv gf T101.heap n0 Z101 F102 hgc E101 C101 B101 V101 F107 cgf rfl rfl (by decide) (by decide) (by decide) dg (by omega) (by omega)) hZ (hwi hw 158 rfl) (hwi hw 152 rfl) (by decide) (by decide)) (g := (mkF m 288 #[.val (.int p0), .val (.int p1), .val (.int n), .val (.ref ra), .val (.int (1 : Int32)), .val (.long (own_L n)), .second, .val (.int (Int32.ofNat (own_nd (own_M n)))), .val (.int (1 : Int32)), .val (.int (0 : Int32)), .val (.int (Int32.ofNat NN)), .unset, .unset] [(.long (1000000000 : Int64)), (.int (9 : Int32)), (.long (own_L n)), (.int (Int32.ofNat (own_nd (own_M n)))), (.int (1 : Int32)), (.ref ra)])) rfl (by rw [hml]; rfl) (argsL := [(.ref ra), (.int (1 : Int32)), (.int (Int32.ofNat (own_nd (own_M n)))), (.long (own_L n)), (.int (9 : Int32)), (.long (1000000000 : Int64))]) (rest := []) (lenOf own_pd27 rfl) rfl (by show 2 * 0 + _ ≤ _; exact Nat.le_of_eq rfl) (hb hby at_288) (fun _ _ => ⟨rfl, eh121, (by dsimp only [Pt.cells, Pt.slots, room_1]; omega), (by dsimp only [Pt.cells, Pt.slots, room_1]; omega)⟩)
    dsimp only [Pt.U, Pt.locs, Pt.cells, Pt.slots] at X122 l122 y122 z122 st122 hQ122
    subst l122 y122 z122
    obtain ⟨rfl, N122q, eh122⟩ := hQ122
    have N122 := Fr.app N121 N122q
    refine GoW.step (T' := T122) (g' := (mkF m 291 #[.val (.int p0), .val (.int p1), .val (.int n), .val (.ref ra), .val (.int (1 : Int32)), .val (.long (own_L n)), .second, .val (.int (Int32.ofNat (own_nd (own_M n)))), .val (.int (1 : Int32)), .val (.int (0 : Int32)), .val (.int (Int32.ofNat NN)), .unset, .unset] [(.int (1 : Int32))])) (st122) ?_
    refine GoW.step (T' := T122) (g' := (mkF m 294 #[.val (.int p0), .val (.int p1), .val (.int n), .val (.ref ra), .val (.int (1 : Int32)), .val (.long (own_L n)), .second, .val (.int (Int32.ofNat (own_nd (own_M n)))), .val (.int (1 : Int32)), .val (.int (0 : Int32)), .val (.int (Int32.ofNat NN)), .unset, .unset] [])) (fun _ k => XS.ifNo X122.here hx rfl (hb hby at_291) rfl ((if0 _ _).trans (feq (by decide : ¬ ((1 : Int32) = (0 : Int32)))).1) k) ?_
    refine GoW.step (T' := T122) (g' := (mkF m 295 #[.val (.int p0), .val (.int p1), .val (.int n), .val (.ref ra), .val (.int (1 : Int32)), .val (.long (own_L n)), .second, .val (.int (Int32.ofNat (own_nd (own_M n)))), .val (.int (1 : Int32)), .val (.int (0 : Int32)), .val (.int (Int32.ofNat NN)), .unset, .unset] [(.int (1 : Int32))])) (fun _ k => XS.iconst X122.here hx rfl (hb hby at_294) k) ?_
    refine GoW.step (T' := T122) (g' := (mkF m 299 #[.val (.int p0), .val (.int p1), .val (.int n), .val (.ref ra), .val (.int (1 : Int32)), .val (.long (own_L n)), .second, .val (.int (Int32.ofNat (own_nd (own_M n)))), .val (.int (1 : Int32)), .val (.int (0 : Int32)), .val (.int (Int32.ofNat NN)), .unset, .unset] [(.int (1 : Int32))])) (fun _ k => XS.goto X122.here hx rfl (pc0 := 295) (pc' := 299) rfl (hb hby at_295) (by decide) (by decide) k) ?_
    refine GoW.step (T' := T122) (g' := (mkF m 301 #[.val (.int p0), .val (.int p1), .val (.int n), .val (.ref ra), .val (.int (1 : Int32)), .val (.long (own_L n)), .second, .val (.int (Int32.ofNat (own_nd (own_M n)))), .val (.int (1 : Int32)), .val (.int (0 : Int32)), .val (.int (Int32.ofNat NN)), .val (.int (1 : Int32)), .unset] [])) (fun _ k => XS.istore X122.here hx rfl (hb hby at_299) rfl (l' := #[.val (.int p0), .val (.int p1), .val (.int n), .val (.ref ra), .val (.int (1 : Int32)), .val (.long (own_L n)), .second, .val (.int (Int32.ofNat (own_nd (own_M n)))), .val (.int (1 : Int32)), .val (.int (0 : Int32)), .val (.int (Int32.ofNat NN)), .val (.int (1 : Int32)), .unset]) rfl k) ?_
    refine GoW.step (T' := T122) (g' := (mkF m 303 #[.val (.int p0), .val (.int p1), .val (.int n), .val (.ref ra), .val (.int (1 : Int32)), .val (.long (own_L n)), .second, .val (.int (Int32.ofNat (own_nd (own_M n)))), .val (.int (1 : Int32)), .val (.int (0 : Int32)), .val (.int (Int32.ofNat NN)), .val (.int (1 : Int32)), .unset] [(.int (1 : Int32))])) (fun _ k => XS.iload X122.here hx rfl (hb hby at_301) rfl  k) ?_
    refine GoW.step (T' := T122) (g' := (mkF m 305 #[.val (.int p0), .val (.int p1), .val (.int n), .val (.ref ra), .val (.int (1 : Int32)), .val (.long (own_L n)), .second, .val (.int (Int32.ofNat (own_nd (own_M n)))), .val (.int (1 : Int32)), .val (.int (0 : Int32)), .val (.int (Int32.ofNat NN)), .val (.int (1 : Int32)), .unset] [(.int (Int32.ofNat (own_nd (own_M n)))), (.int (1 : Int32))])) (fun _ k => XS.iload X122.here hx rfl (hb hby at_303) rfl  k) ?_
    refine GoW.step (T' := T122) (g' := (mkF m 306 #[.val (.int p0), .val (.int p1), .val (.int n), .val (.ref ra), .val (.int (1 : Int32)), .val (.long (own_L n)), .second, .val (.int (Int32.ofNat (own_nd (own_M n)))), .val (.int (1 : Int32)), .val (.int (0 : Int32)), .val (.int (Int32.ofNat NN)), .val (.int (1 : Int32)), .unset] [(.int ((1 : Int32) + (Int32.ofNat (own_nd (own_M n)))))])) (fun _ k => XS.iadd X122.here hx rfl (hb hby at_305) rfl k) ?_
    rw [show ((1 : Int32) + (Int32.ofNat (own_nd (own_M n)))) = Int32.ofNat (own_nd (own_M n) + 1) from own_len2 (s := 1)]
    refine GoW.step (T' := T122) (g' := (mkF m 308 #[.val (.int p0), .val (.int p1), .val (.int n), .val (.ref ra), .val (.int (1 : Int32)), .val (.long (own_L n)), .second, .val (.int (Int32.ofNat (own_nd (own_M n)))), .val (.int (1 : Int32)), .val (.int (0 : Int32)), .val (.int (Int32.ofNat NN)), .val (.int (1 : Int32)), .val (.int (Int32.ofNat (own_nd (own_M n) + 1)))] [])) (fun _ k => XS.istore X122.here hx rfl (hb hby at_306) rfl (l' := #[.val (.int p0), .val (.int p1), .val (.int n), .val (.ref ra), .val (.int (1 : Int32)), .val (.long (own_L n)), .second, .val (.int (Int32.ofNat (own_nd (own_M n)))), .val (.int (1 : Int32)), .val (.int (0 : Int32)), .val (.int (Int32.ofNat NN)), .val (.int (1 : Int32)), .val (.int (Int32.ofNat (own_nd (own_M n) + 1)))]) rfl k) ?_
    refine GoW.step (T' := T122) (g' := (mkF m 310 #[.val (.int p0), .val (.int p1), .val (.int n), .val (.ref ra), .val (.int (1 : Int32)), .val (.long (own_L n)), .second, .val (.int (Int32.ofNat (own_nd (own_M n)))), .val (.int (1 : Int32)), .val (.int (0 : Int32)), .val (.int (Int32.ofNat NN)), .val (.int (1 : Int32)), .val (.int (Int32.ofNat (own_nd (own_M n) + 1)))] [(.int (1 : Int32))])) (fun _ k => XS.iload X122.here hx rfl (hb hby at_308) rfl  k) ?_
    refine GoW.step (T' := T122) (g' := (mkF m 313 #[.val (.int p0), .val (.int p1), .val (.int n), .val (.ref ra), .val (.int (1 : Int32)), .val (.long (own_L n)), .second, .val (.int (Int32.ofNat (own_nd (own_M n)))), .val (.int (1 : Int32)), .val (.int (0 : Int32)), .val (.int (Int32.ofNat NN)), .val (.int (1 : Int32)), .val (.int (Int32.ofNat (own_nd (own_M n) + 1)))] [])) (fun _ k => XS.ifNo X122.here hx rfl (hb hby at_310) rfl ((if0 _ _).trans (feq (by decide : ¬ ((1 : Int32) = (0 : Int32)))).1) k) ?_
    refine GoW.step (T' := T122) (g' := (mkF m 314 #[.val (.int p0), .val (.int p1), .val (.int n), .val (.ref ra), .val (.int (1 : Int32)), .val (.long (own_L n)), .second, .val (.int (Int32.ofNat (own_nd (own_M n)))), .val (.int (1 : Int32)), .val (.int (0 : Int32)), .val (.int (Int32.ofNat NN)), .val (.int (1 : Int32)), .val (.int (Int32.ofNat (own_nd (own_M n) + 1)))] [(.ref ra)])) (fun _ k => XS.aloadN X122.here hx rfl (hb hby at_313) rfl rfl k) ?_
    refine GoW.step (T' := T122) (g' := (mkF m 316 #[.val (.int p0), .val (.int p1), .val (.int n), .val (.ref ra), .val (.int (1 : Int32)), .val (.long (own_L n)), .second, .val (.int (Int32.ofNat (own_nd (own_M n)))), .val (.int (1 : Int32)), .val (.int (0 : Int32)), .val (.int (Int32.ofNat NN)), .val (.int (1 : Int32)), .val (.int (Int32.ofNat (own_nd (own_M n) + 1)))] [(.int (Int32.ofNat (own_nd (own_M n) + 1))), (.ref ra)])) (fun _ k => XS.iload X122.here hx rfl (hb hby at_314) rfl  k) ?_
    obtain ⟨cq123, kq123, q123a, q123b, q123c⟩ := isOf hZ eh122 E101
    obtain ⟨_, _, ⟨T123, L123, k123, n123⟩, -, X123, ⟨Lc123, hQ123, l123, y123, z123⟩, st123⟩ := X122.virtualBack hx (y := (⟨"java/lang/String", "charAt", "(I)C"⟩ : MethodName)) (z := (⟨"java/lang/String", "charAt", "(I)C"⟩ : MethodName)) hown (mvT hZ (hwi hw 159 rfl)) (mvT hZ (hwi hw 160 rfl)) (notFace_of_selects (args := #[]) (mvT hZ (hwi hw 162 rfl))) (mvT hZ (hwi hw 162 rfl)) (mvT hZ (hwi hw 161 rfl)) (by decide) (backOf (W := 0) (Q := Qret (some (.int (32 : Int32))) T101.heap n0) (own_ch_ l Z a0 hw [] ra (Int32.ofNat (own_nd (own_M n) + 1)) gc rb rk (Int32.ofNat NN) tv gf (32 : Int32) (32 : Int32) T101.heap n0 Z101 F102 hgc E101 C101 B101 V101 F107 cgf (own_ge0 (by omega)) (own_inb (n := NN) (by omega) (by omega)).2 (by rw [own_clamp (by omega)]; exact sx.1) (by decide) (by decide)) hZ (hwi hw 163 rfl) (hwi hw 20 rfl) (by decide) (by decide)) q123a q123c (g := (mkF m 316 #[.val (.int p0), .val (.int p1), .val (.int n), .val (.ref ra), .val (.int (1 : Int32)), .val (.long (own_L n)), .second, .val (.int (Int32.ofNat (own_nd (own_M n)))), .val (.int (1 : Int32)), .val (.int (0 : Int32)), .val (.int (Int32.ofNat NN)), .val (.int (1 : Int32)), .val (.int (Int32.ofNat (own_nd (own_M n) + 1)))] [(.int (Int32.ofNat (own_nd (own_M n) + 1))), (.ref ra)])) rfl (by rw [hml]; rfl) (Steps.refl _) (argsL := [(.int (Int32.ofNat (own_nd (own_M n) + 1)))]) (rest := []) (lenOf own_pd23 rfl) rfl (by show 2 * 0 + _ ≤ _; exact Nat.le_of_eq rfl) (hb hby at_316) (fun _ _ => ⟨rfl, eh122, (by dsimp only [Pt.cells, Pt.slots, room_1]; omega), (by dsimp only [Pt.cells, Pt.slots, room_1]; omega)⟩)
    dsimp only [Pt.U, Pt.locs, Pt.cells, Pt.slots] at X123 l123 y123 z123 st123 hQ123
    subst l123 y123 z123
    obtain ⟨rfl, N123q, eh123⟩ := hQ123
    have N123 := Fr.app N122 N123q
    refine GoW.step (T' := T123) (g' := (mkF m 319 #[.val (.int p0), .val (.int p1), .val (.int n), .val (.ref ra), .val (.int (1 : Int32)), .val (.long (own_L n)), .second, .val (.int (Int32.ofNat (own_nd (own_M n)))), .val (.int (1 : Int32)), .val (.int (0 : Int32)), .val (.int (Int32.ofNat NN)), .val (.int (1 : Int32)), .val (.int (Int32.ofNat (own_nd (own_M n) + 1)))] [(.int (32 : Int32))])) (fun _ k => st123.trans k) ?_
    refine GoW.step (T' := T123) (g' := (mkF m 321 #[.val (.int p0), .val (.int p1), .val (.int n), .val (.ref ra), .val (.int (1 : Int32)), .val (.long (own_L n)), .second, .val (.int (Int32.ofNat (own_nd (own_M n)))), .val (.int (1 : Int32)), .val (.int (0 : Int32)), .val (.int (Int32.ofNat NN)), .val (.int (1 : Int32)), .val (.int (Int32.ofNat (own_nd (own_M n) + 1)))] [(.int (32 : Int32)), (.int (32 : Int32))])) (fun _ k => XS.bipush X123.here hx rfl (hb hby at_319) k) ?_
    refine GoW.step (T' := T123) (g' := (mkF m 324 #[.val (.int p0), .val (.int p1), .val (.int n), .val (.ref ra), .val (.int (1 : Int32)), .val (.long (own_L n)), .second, .val (.int (Int32.ofNat (own_nd (own_M n)))), .val (.int (1 : Int32)), .val (.int (0 : Int32)), .val (.int (Int32.ofNat NN)), .val (.int (1 : Int32)), .val (.int (Int32.ofNat (own_nd (own_M n) + 1)))] [])) (fun _ k => XS.icmpNo X123.here hx rfl (hb hby at_321) rfl (teq (by decide : (32 : Int32) = (32 : Int32))).2 k) ?_
    refine GoW.step (T' := T123) (g' := (mkF m 325 #[.val (.int p0), .val (.int p1), .val (.int n), .val (.ref ra), .val (.int (1 : Int32)), .val (.long (own_L n)), .second, .val (.int (Int32.ofNat (own_nd (own_M n)))), .val (.int (1 : Int32)), .val (.int (0 : Int32)), .val (.int (Int32.ofNat NN)), .val (.int (1 : Int32)), .val (.int (Int32.ofNat (own_nd (own_M n) + 1)))] [(.ref ra)])) (fun _ k => XS.aloadN X123.here hx rfl (hb hby at_324) rfl rfl k) ?_
    refine GoW.step (T' := T123) (g' := (mkF m 327 #[.val (.int p0), .val (.int p1), .val (.int n), .val (.ref ra), .val (.int (1 : Int32)), .val (.long (own_L n)), .second, .val (.int (Int32.ofNat (own_nd (own_M n)))), .val (.int (1 : Int32)), .val (.int (0 : Int32)), .val (.int (Int32.ofNat NN)), .val (.int (1 : Int32)), .val (.int (Int32.ofNat (own_nd (own_M n) + 1)))] [(.int (Int32.ofNat (own_nd (own_M n) + 1))), (.ref ra)])) (fun _ k => XS.iload X123.here hx rfl (hb hby at_325) rfl  k) ?_
    refine GoW.step (T' := T123) (g' := (mkF m 328 #[.val (.int p0), .val (.int p1), .val (.int n), .val (.ref ra), .val (.int (1 : Int32)), .val (.long (own_L n)), .second, .val (.int (Int32.ofNat (own_nd (own_M n)))), .val (.int (1 : Int32)), .val (.int (0 : Int32)), .val (.int (Int32.ofNat NN)), .val (.int (1 : Int32)), .val (.int (Int32.ofNat (own_nd (own_M n) + 1)))] [(.int (1 : Int32)), (.int (Int32.ofNat (own_nd (own_M n) + 1))), (.ref ra)])) (fun _ k => XS.iconst X123.here hx rfl (hb hby at_327) k) ?_
    refine GoW.step (T' := T123) (g' := (mkF m 329 #[.val (.int p0), .val (.int p1), .val (.int n), .val (.ref ra), .val (.int (1 : Int32)), .val (.long (own_L n)), .second, .val (.int (Int32.ofNat (own_nd (own_M n)))), .val (.int (1 : Int32)), .val (.int (0 : Int32)), .val (.int (Int32.ofNat NN)), .val (.int (1 : Int32)), .val (.int (Int32.ofNat (own_nd (own_M n) + 1)))] [(.int ((Int32.ofNat (own_nd (own_M n) + 1)) + (1 : Int32))), (.ref ra)])) (fun _ k => XS.iadd X123.here hx rfl (hb hby at_328) rfl k) ?_
    rw [show ((Int32.ofNat (own_nd (own_M n) + 1)) + (1 : Int32)) = Int32.ofNat (own_nd (own_M n) + 1 + 1) from own_addN _ 1]
    obtain ⟨cq124, kq124, q124a, q124b, q124c⟩ := isOf hZ eh123 E101
    obtain ⟨_, _, ⟨T124, L124, k124, n124⟩, -, X124, ⟨Lc124, hQ124, l124, y124, z124⟩, st124⟩ := X123.virtualBack hx (y := (⟨"java/lang/String", "charAt", "(I)C"⟩ : MethodName)) (z := (⟨"java/lang/String", "charAt", "(I)C"⟩ : MethodName)) hown (mvT hZ (hwi hw 159 rfl)) (mvT hZ (hwi hw 160 rfl)) (notFace_of_selects (args := #[]) (mvT hZ (hwi hw 162 rfl))) (mvT hZ (hwi hw 162 rfl)) (mvT hZ (hwi hw 161 rfl)) (by decide) (backOf (W := 0) (Q := Qret (some (.int (100 : Int32))) T101.heap n0) (own_ch_ l Z a0 hw [] ra (Int32.ofNat (own_nd (own_M n) + 1 + 1)) gc rb rk (Int32.ofNat NN) tv gf (100 : Int32) (100 : Int32) T101.heap n0 Z101 F102 hgc E101 C101 B101 V101 F107 cgf (own_ge0 (by omega)) (own_inb (n := NN) (by omega) (by omega)).2 (by rw [own_clamp (by omega)]; exact sx.2.1) (by decide) (by decide)) hZ (hwi hw 163 rfl) (hwi hw 20 rfl) (by decide) (by decide)) q124a q124c (g := (mkF m 329 #[.val (.int p0), .val (.int p1), .val (.int n), .val (.ref ra), .val (.int (1 : Int32)), .val (.long (own_L n)), .second, .val (.int (Int32.ofNat (own_nd (own_M n)))), .val (.int (1 : Int32)), .val (.int (0 : Int32)), .val (.int (Int32.ofNat NN)), .val (.int (1 : Int32)), .val (.int (Int32.ofNat (own_nd (own_M n) + 1)))] [(.int (Int32.ofNat (own_nd (own_M n) + 1 + 1))), (.ref ra)])) rfl (by rw [hml]; rfl) (Steps.refl _) (argsL := [(.int (Int32.ofNat (own_nd (own_M n) + 1 + 1)))]) (rest := []) (lenOf own_pd23 rfl) rfl (by show 2 * 0 + _ ≤ _; exact Nat.le_of_eq rfl) (hb hby at_329) (fun _ _ => ⟨rfl, eh123, (by dsimp only [Pt.cells, Pt.slots, room_1]; omega), (by dsimp only [Pt.cells, Pt.slots, room_1]; omega)⟩)
    dsimp only [Pt.U, Pt.locs, Pt.cells, Pt.slots] at X124 l124 y124 z124 st124 hQ124
    subst l124 y124 z124
    obtain ⟨rfl, N124q, eh124⟩ := hQ124
    have N124 := Fr.app N123 N124q
    refine GoW.step (T' := T124) (g' := (mkF m 332 #[.val (.int p0), .val (.int p1), .val (.int n), .val (.ref ra), .val (.int (1 : Int32)), .val (.long (own_L n)), .second, .val (.int (Int32.ofNat (own_nd (own_M n)))), .val (.int (1 : Int32)), .val (.int (0 : Int32)), .val (.int (Int32.ofNat NN)), .val (.int (1 : Int32)), .val (.int (Int32.ofNat (own_nd (own_M n) + 1)))] [(.int (100 : Int32))])) (fun _ k => st124.trans k) ?_
    refine GoW.step (T' := T124) (g' := (mkF m 334 #[.val (.int p0), .val (.int p1), .val (.int n), .val (.ref ra), .val (.int (1 : Int32)), .val (.long (own_L n)), .second, .val (.int (Int32.ofNat (own_nd (own_M n)))), .val (.int (1 : Int32)), .val (.int (0 : Int32)), .val (.int (Int32.ofNat NN)), .val (.int (1 : Int32)), .val (.int (Int32.ofNat (own_nd (own_M n) + 1)))] [(.int (100 : Int32)), (.int (100 : Int32))])) (fun _ k => XS.bipush X124.here hx rfl (hb hby at_332) k) ?_
    refine GoW.step (T' := T124) (g' := (mkF m 337 #[.val (.int p0), .val (.int p1), .val (.int n), .val (.ref ra), .val (.int (1 : Int32)), .val (.long (own_L n)), .second, .val (.int (Int32.ofNat (own_nd (own_M n)))), .val (.int (1 : Int32)), .val (.int (0 : Int32)), .val (.int (Int32.ofNat NN)), .val (.int (1 : Int32)), .val (.int (Int32.ofNat (own_nd (own_M n) + 1)))] [])) (fun _ k => XS.icmpNo X124.here hx rfl (hb hby at_334) rfl (teq (by decide : (100 : Int32) = (100 : Int32))).2 k) ?_
    refine GoW.step (T' := T124) (g' := (mkF m 338 #[.val (.int p0), .val (.int p1), .val (.int n), .val (.ref ra), .val (.int (1 : Int32)), .val (.long (own_L n)), .second, .val (.int (Int32.ofNat (own_nd (own_M n)))), .val (.int (1 : Int32)), .val (.int (0 : Int32)), .val (.int (Int32.ofNat NN)), .val (.int (1 : Int32)), .val (.int (Int32.ofNat (own_nd (own_M n) + 1)))] [(.ref ra)])) (fun _ k => XS.aloadN X124.here hx rfl (hb hby at_337) rfl rfl k) ?_
    refine GoW.step (T' := T124) (g' := (mkF m 340 #[.val (.int p0), .val (.int p1), .val (.int n), .val (.ref ra), .val (.int (1 : Int32)), .val (.long (own_L n)), .second, .val (.int (Int32.ofNat (own_nd (own_M n)))), .val (.int (1 : Int32)), .val (.int (0 : Int32)), .val (.int (Int32.ofNat NN)), .val (.int (1 : Int32)), .val (.int (Int32.ofNat (own_nd (own_M n) + 1)))] [(.int (Int32.ofNat (own_nd (own_M n) + 1))), (.ref ra)])) (fun _ k => XS.iload X124.here hx rfl (hb hby at_338) rfl  k) ?_
    refine GoW.step (T' := T124) (g' := (mkF m 341 #[.val (.int p0), .val (.int p1), .val (.int n), .val (.ref ra), .val (.int (1 : Int32)), .val (.long (own_L n)), .second, .val (.int (Int32.ofNat (own_nd (own_M n)))), .val (.int (1 : Int32)), .val (.int (0 : Int32)), .val (.int (Int32.ofNat NN)), .val (.int (1 : Int32)), .val (.int (Int32.ofNat (own_nd (own_M n) + 1)))] [(.int (2 : Int32)), (.int (Int32.ofNat (own_nd (own_M n) + 1))), (.ref ra)])) (fun _ k => XS.iconst X124.here hx rfl (hb hby at_340) k) ?_
    refine GoW.step (T' := T124) (g' := (mkF m 342 #[.val (.int p0), .val (.int p1), .val (.int n), .val (.ref ra), .val (.int (1 : Int32)), .val (.long (own_L n)), .second, .val (.int (Int32.ofNat (own_nd (own_M n)))), .val (.int (1 : Int32)), .val (.int (0 : Int32)), .val (.int (Int32.ofNat NN)), .val (.int (1 : Int32)), .val (.int (Int32.ofNat (own_nd (own_M n) + 1)))] [(.int ((Int32.ofNat (own_nd (own_M n) + 1)) + (2 : Int32))), (.ref ra)])) (fun _ k => XS.iadd X124.here hx rfl (hb hby at_341) rfl k) ?_
    rw [show ((Int32.ofNat (own_nd (own_M n) + 1)) + (2 : Int32)) = Int32.ofNat (own_nd (own_M n) + 1 + 2) from own_addN _ 2]
    obtain ⟨cq125, kq125, q125a, q125b, q125c⟩ := isOf hZ eh124 E101
    obtain ⟨_, _, ⟨T125, L125, k125, n125⟩, -, X125, ⟨Lc125, hQ125, l125, y125, z125⟩, st125⟩ := X124.virtualBack hx (y := (⟨"java/lang/String", "charAt", "(I)C"⟩ : MethodName)) (z := (⟨"java/lang/String", "charAt", "(I)C"⟩ : MethodName)) hown (mvT hZ (hwi hw 159 rfl)) (mvT hZ (hwi hw 160 rfl)) (notFace_of_selects (args := #[]) (mvT hZ (hwi hw 162 rfl))) (mvT hZ (hwi hw 162 rfl)) (mvT hZ (hwi hw 161 rfl)) (by decide) (backOf (W := 0) (Q := Qret (some (.int (97 : Int32))) T101.heap n0) (own_ch_ l Z a0 hw [] ra (Int32.ofNat (own_nd (own_M n) + 1 + 2)) gc rb rk (Int32.ofNat NN) tv gf (97 : Int32) (97 : Int32) T101.heap n0 Z101 F102 hgc E101 C101 B101 V101 F107 cgf (own_ge0 (by omega)) (own_inb (n := NN) (by omega) (by omega)).2 (by rw [own_clamp (by omega)]; exact sx.2.2.1) (by decide) (by decide)) hZ (hwi hw 163 rfl) (hwi hw 20 rfl) (by decide) (by decide)) q125a q125c (g := (mkF m 342 #[.val (.int p0), .val (.int p1), .val (.int n), .val (.ref ra), .val (.int (1 : Int32)), .val (.long (own_L n)), .second, .val (.int (Int32.ofNat (own_nd (own_M n)))), .val (.int (1 : Int32)), .val (.int (0 : Int32)), .val (.int (Int32.ofNat NN)), .val (.int (1 : Int32)), .val (.int (Int32.ofNat (own_nd (own_M n) + 1)))] [(.int (Int32.ofNat (own_nd (own_M n) + 1 + 2))), (.ref ra)])) rfl (by rw [hml]; rfl) (Steps.refl _) (argsL := [(.int (Int32.ofNat (own_nd (own_M n) + 1 + 2)))]) (rest := []) (lenOf own_pd23 rfl) rfl (by show 2 * 0 + _ ≤ _; exact Nat.le_of_eq rfl) (hb hby at_342) (fun _ _ => ⟨rfl, eh124, (by dsimp only [Pt.cells, Pt.slots, room_1]; omega), (by dsimp only [Pt.cells, Pt.slots, room_1]; omega)⟩)
    dsimp only [Pt.U, Pt.locs, Pt.cells, Pt.slots] at X125 l125 y125 z125 st125 hQ125
    subst l125 y125 z125
    obtain ⟨rfl, N125q, eh125⟩ := hQ125
    have N125 := Fr.app N124 N125q
    refine GoW.step (T' := T125) (g' := (mkF m 345 #[.val (.int p0), .val (.int p1), .val (.int n), .val (.ref ra), .val (.int (1 : Int32)), .val (.long (own_L n)), .second, .val (.int (Int32.ofNat (own_nd (own_M n)))), .val (.int (1 : Int32)), .val (.int (0 : Int32)), .val (.int (Int32.ofNat NN)), .val (.int (1 : Int32)), .val (.int (Int32.ofNat (own_nd (own_M n) + 1)))] [(.int (97 : Int32))])) (fun _ k => st125.trans k) ?_
    refine GoW.step (T' := T125) (g' := (mkF m 347 #[.val (.int p0), .val (.int p1), .val (.int n), .val (.ref ra), .val (.int (1 : Int32)), .val (.long (own_L n)), .second, .val (.int (Int32.ofNat (own_nd (own_M n)))), .val (.int (1 : Int32)), .val (.int (0 : Int32)), .val (.int (Int32.ofNat NN)), .val (.int (1 : Int32)), .val (.int (Int32.ofNat (own_nd (own_M n) + 1)))] [(.int (97 : Int32)), (.int (97 : Int32))])) (fun _ k => XS.bipush X125.here hx rfl (hb hby at_345) k) ?_
    refine GoW.step (T' := T125) (g' := (mkF m 350 #[.val (.int p0), .val (.int p1), .val (.int n), .val (.ref ra), .val (.int (1 : Int32)), .val (.long (own_L n)), .second, .val (.int (Int32.ofNat (own_nd (own_M n)))), .val (.int (1 : Int32)), .val (.int (0 : Int32)), .val (.int (Int32.ofNat NN)), .val (.int (1 : Int32)), .val (.int (Int32.ofNat (own_nd (own_M n) + 1)))] [])) (fun _ k => XS.icmpNo X125.here hx rfl (hb hby at_347) rfl (teq (by decide : (97 : Int32) = (97 : Int32))).2 k) ?_
    refine GoW.step (T' := T125) (g' := (mkF m 351 #[.val (.int p0), .val (.int p1), .val (.int n), .val (.ref ra), .val (.int (1 : Int32)), .val (.long (own_L n)), .second, .val (.int (Int32.ofNat (own_nd (own_M n)))), .val (.int (1 : Int32)), .val (.int (0 : Int32)), .val (.int (Int32.ofNat NN)), .val (.int (1 : Int32)), .val (.int (Int32.ofNat (own_nd (own_M n) + 1)))] [(.ref ra)])) (fun _ k => XS.aloadN X125.here hx rfl (hb hby at_350) rfl rfl k) ?_
    refine GoW.step (T' := T125) (g' := (mkF m 353 #[.val (.int p0), .val (.int p1), .val (.int n), .val (.ref ra), .val (.int (1 : Int32)), .val (.long (own_L n)), .second, .val (.int (Int32.ofNat (own_nd (own_M n)))), .val (.int (1 : Int32)), .val (.int (0 : Int32)), .val (.int (Int32.ofNat NN)), .val (.int (1 : Int32)), .val (.int (Int32.ofNat (own_nd (own_M n) + 1)))] [(.int (Int32.ofNat (own_nd (own_M n) + 1))), (.ref ra)])) (fun _ k => XS.iload X125.here hx rfl (hb hby at_351) rfl  k) ?_
    refine GoW.step (T' := T125) (g' := (mkF m 354 #[.val (.int p0), .val (.int p1), .val (.int n), .val (.ref ra), .val (.int (1 : Int32)), .val (.long (own_L n)), .second, .val (.int (Int32.ofNat (own_nd (own_M n)))), .val (.int (1 : Int32)), .val (.int (0 : Int32)), .val (.int (Int32.ofNat NN)), .val (.int (1 : Int32)), .val (.int (Int32.ofNat (own_nd (own_M n) + 1)))] [(.int (3 : Int32)), (.int (Int32.ofNat (own_nd (own_M n) + 1))), (.ref ra)])) (fun _ k => XS.iconst X125.here hx rfl (hb hby at_353) k) ?_
    refine GoW.step (T' := T125) (g' := (mkF m 355 #[.val (.int p0), .val (.int p1), .val (.int n), .val (.ref ra), .val (.int (1 : Int32)), .val (.long (own_L n)), .second, .val (.int (Int32.ofNat (own_nd (own_M n)))), .val (.int (1 : Int32)), .val (.int (0 : Int32)), .val (.int (Int32.ofNat NN)), .val (.int (1 : Int32)), .val (.int (Int32.ofNat (own_nd (own_M n) + 1)))] [(.int ((Int32.ofNat (own_nd (own_M n) + 1)) + (3 : Int32))), (.ref ra)])) (fun _ k => XS.iadd X125.here hx rfl (hb hby at_354) rfl k) ?_
    rw [show ((Int32.ofNat (own_nd (own_M n) + 1)) + (3 : Int32)) = Int32.ofNat (own_nd (own_M n) + 1 + 3) from own_addN _ 3]
    obtain ⟨cq126, kq126, q126a, q126b, q126c⟩ := isOf hZ eh125 E101
    obtain ⟨_, _, ⟨T126, L126, k126, n126⟩, -, X126, ⟨Lc126, hQ126, l126, y126, z126⟩, st126⟩ := X125.virtualBack hx (y := (⟨"java/lang/String", "charAt", "(I)C"⟩ : MethodName)) (z := (⟨"java/lang/String", "charAt", "(I)C"⟩ : MethodName)) hown (mvT hZ (hwi hw 159 rfl)) (mvT hZ (hwi hw 160 rfl)) (notFace_of_selects (args := #[]) (mvT hZ (hwi hw 162 rfl))) (mvT hZ (hwi hw 162 rfl)) (mvT hZ (hwi hw 161 rfl)) (by decide) (backOf (W := 0) (Q := Qret (some (.int (121 : Int32))) T101.heap n0) (own_ch_ l Z a0 hw [] ra (Int32.ofNat (own_nd (own_M n) + 1 + 3)) gc rb rk (Int32.ofNat NN) tv gf (121 : Int32) (121 : Int32) T101.heap n0 Z101 F102 hgc E101 C101 B101 V101 F107 cgf (own_ge0 (by omega)) (own_inb (n := NN) (by omega) (by omega)).2 (by rw [own_clamp (by omega)]; exact sx.2.2.2) (by decide) (by decide)) hZ (hwi hw 163 rfl) (hwi hw 20 rfl) (by decide) (by decide)) q126a q126c (g := (mkF m 355 #[.val (.int p0), .val (.int p1), .val (.int n), .val (.ref ra), .val (.int (1 : Int32)), .val (.long (own_L n)), .second, .val (.int (Int32.ofNat (own_nd (own_M n)))), .val (.int (1 : Int32)), .val (.int (0 : Int32)), .val (.int (Int32.ofNat NN)), .val (.int (1 : Int32)), .val (.int (Int32.ofNat (own_nd (own_M n) + 1)))] [(.int (Int32.ofNat (own_nd (own_M n) + 1 + 3))), (.ref ra)])) rfl (by rw [hml]; rfl) (Steps.refl _) (argsL := [(.int (Int32.ofNat (own_nd (own_M n) + 1 + 3)))]) (rest := []) (lenOf own_pd23 rfl) rfl (by show 2 * 0 + _ ≤ _; exact Nat.le_of_eq rfl) (hb hby at_355) (fun _ _ => ⟨rfl, eh125, (by dsimp only [Pt.cells, Pt.slots, room_1]; omega), (by dsimp only [Pt.cells, Pt.slots, room_1]; omega)⟩)
    dsimp only [Pt.U, Pt.locs, Pt.cells, Pt.slots] at X126 l126 y126 z126 st126 hQ126
    subst l126 y126 z126
    obtain ⟨rfl, N126q, eh126⟩ := hQ126
    have N126 := Fr.app N125 N126q
    refine GoW.step (T' := T126) (g' := (mkF m 358 #[.val (.int p0), .val (.int p1), .val (.int n), .val (.ref ra), .val (.int (1 : Int32)), .val (.long (own_L n)), .second, .val (.int (Int32.ofNat (own_nd (own_M n)))), .val (.int (1 : Int32)), .val (.int (0 : Int32)), .val (.int (Int32.ofNat NN)), .val (.int (1 : Int32)), .val (.int (Int32.ofNat (own_nd (own_M n) + 1)))] [(.int (121 : Int32))])) (fun _ k => st126.trans k) ?_
    refine GoW.step (T' := T126) (g' := (mkF m 360 #[.val (.int p0), .val (.int p1), .val (.int n), .val (.ref ra), .val (.int (1 : Int32)), .val (.long (own_L n)), .second, .val (.int (Int32.ofNat (own_nd (own_M n)))), .val (.int (1 : Int32)), .val (.int (0 : Int32)), .val (.int (Int32.ofNat NN)), .val (.int (1 : Int32)), .val (.int (Int32.ofNat (own_nd (own_M n) + 1)))] [(.int (121 : Int32)), (.int (121 : Int32))])) (fun _ k => XS.bipush X126.here hx rfl (hb hby at_358) k) ?_
    refine GoW.step (T' := T126) (g' := (mkF m 363 #[.val (.int p0), .val (.int p1), .val (.int n), .val (.ref ra), .val (.int (1 : Int32)), .val (.long (own_L n)), .second, .val (.int (Int32.ofNat (own_nd (own_M n)))), .val (.int (1 : Int32)), .val (.int (0 : Int32)), .val (.int (Int32.ofNat NN)), .val (.int (1 : Int32)), .val (.int (Int32.ofNat (own_nd (own_M n) + 1)))] [])) (fun _ k => XS.icmpNo X126.here hx rfl (hb hby at_360) rfl (teq (by decide : (121 : Int32) = (121 : Int32))).2 k) ?_
    refine GoW.step (T' := T126) (g' := (mkF m 364 #[.val (.int p0), .val (.int p1), .val (.int n), .val (.ref ra), .val (.int (1 : Int32)), .val (.long (own_L n)), .second, .val (.int (Int32.ofNat (own_nd (own_M n)))), .val (.int (1 : Int32)), .val (.int (0 : Int32)), .val (.int (Int32.ofNat NN)), .val (.int (1 : Int32)), .val (.int (Int32.ofNat (own_nd (own_M n) + 1)))] [(.int (1 : Int32))])) (fun _ k => XS.iconst X126.here hx rfl (hb hby at_363) k) ?_
    refine GoW.step (T' := T126) (g' := (mkF m 368 #[.val (.int p0), .val (.int p1), .val (.int n), .val (.ref ra), .val (.int (1 : Int32)), .val (.long (own_L n)), .second, .val (.int (Int32.ofNat (own_nd (own_M n)))), .val (.int (1 : Int32)), .val (.int (0 : Int32)), .val (.int (Int32.ofNat NN)), .val (.int (1 : Int32)), .val (.int (Int32.ofNat (own_nd (own_M n) + 1)))] [(.int (1 : Int32))])) (fun _ k => XS.goto X126.here hx rfl (pc0 := 364) (pc' := 368) rfl (hb hby at_364) (by decide) (by decide) k) ?_
    refine GoW.step (T' := T126) (g' := (mkF m 370 #[.val (.int p0), .val (.int p1), .val (.int n), .val (.ref ra), .val (.int (1 : Int32)), .val (.long (own_L n)), .second, .val (.int (Int32.ofNat (own_nd (own_M n)))), .val (.int (1 : Int32)), .val (.int (0 : Int32)), .val (.int (Int32.ofNat NN)), .val (.int (1 : Int32)), .val (.int (Int32.ofNat (own_nd (own_M n) + 1)))] [])) (fun _ k => XS.istore X126.here hx rfl (hb hby at_368) rfl (l' := #[.val (.int p0), .val (.int p1), .val (.int n), .val (.ref ra), .val (.int (1 : Int32)), .val (.long (own_L n)), .second, .val (.int (Int32.ofNat (own_nd (own_M n)))), .val (.int (1 : Int32)), .val (.int (0 : Int32)), .val (.int (Int32.ofNat NN)), .val (.int (1 : Int32)), .val (.int (Int32.ofNat (own_nd (own_M n) + 1)))]) rfl k) ?_
    refine GoW.step (T' := T126) (g' := (mkF m 372 #[.val (.int p0), .val (.int p1), .val (.int n), .val (.ref ra), .val (.int (1 : Int32)), .val (.long (own_L n)), .second, .val (.int (Int32.ofNat (own_nd (own_M n)))), .val (.int (1 : Int32)), .val (.int (0 : Int32)), .val (.int (Int32.ofNat NN)), .val (.int (1 : Int32)), .val (.int (Int32.ofNat (own_nd (own_M n) + 1)))] [(.int (0 : Int32))])) (fun _ k => XS.iload X126.here hx rfl (hb hby at_370) rfl  k) ?_
    refine GoW.step (T' := T126) (g' := (mkF m 375 #[.val (.int p0), .val (.int p1), .val (.int n), .val (.ref ra), .val (.int (1 : Int32)), .val (.long (own_L n)), .second, .val (.int (Int32.ofNat (own_nd (own_M n)))), .val (.int (1 : Int32)), .val (.int (0 : Int32)), .val (.int (Int32.ofNat NN)), .val (.int (1 : Int32)), .val (.int (Int32.ofNat (own_nd (own_M n) + 1)))] [])) (fun _ k => XS.ifNo X126.here hx rfl (hb hby at_372) rfl ((if0 _ _).trans (teq (by decide : (0 : Int32) = (0 : Int32))).2) k) ?_
    refine GoW.step (T' := T126) (g' := (mkF m 377 #[.val (.int p0), .val (.int p1), .val (.int n), .val (.ref ra), .val (.int (1 : Int32)), .val (.long (own_L n)), .second, .val (.int (Int32.ofNat (own_nd (own_M n)))), .val (.int (1 : Int32)), .val (.int (0 : Int32)), .val (.int (Int32.ofNat NN)), .val (.int (1 : Int32)), .val (.int (Int32.ofNat (own_nd (own_M n) + 1)))] [(.int (1 : Int32))])) (fun _ k => XS.iload X126.here hx rfl (hb hby at_375) rfl  k) ?_
    refine GoW.step (T' := T126) (g' := (mkF m 380 #[.val (.int p0), .val (.int p1), .val (.int n), .val (.ref ra), .val (.int (1 : Int32)), .val (.long (own_L n)), .second, .val (.int (Int32.ofNat (own_nd (own_M n)))), .val (.int (1 : Int32)), .val (.int (0 : Int32)), .val (.int (Int32.ofNat NN)), .val (.int (1 : Int32)), .val (.int (Int32.ofNat (own_nd (own_M n) + 1)))] [])) (fun _ k => XS.ifNo X126.here hx rfl (hb hby at_377) rfl ((if0 _ _).trans (feq (by decide : ¬ ((1 : Int32) = (0 : Int32)))).1) k) ?_
    refine GoW.step (T' := T126) (g' := (mkF m 381 #[.val (.int p0), .val (.int p1), .val (.int n), .val (.ref ra), .val (.int (1 : Int32)), .val (.long (own_L n)), .second, .val (.int (Int32.ofNat (own_nd (own_M n)))), .val (.int (1 : Int32)), .val (.int (0 : Int32)), .val (.int (Int32.ofNat NN)), .val (.int (1 : Int32)), .val (.int (Int32.ofNat (own_nd (own_M n) + 1)))] [(.ref ra)])) (fun _ k => XS.aloadN X126.here hx rfl (hb hby at_380) rfl rfl k) ?_
    refine GoW.step (T' := T126) (g' := (mkF m 383 #[.val (.int p0), .val (.int p1), .val (.int n), .val (.ref ra), .val (.int (1 : Int32)), .val (.long (own_L n)), .second, .val (.int (Int32.ofNat (own_nd (own_M n)))), .val (.int (1 : Int32)), .val (.int (0 : Int32)), .val (.int (Int32.ofNat NN)), .val (.int (1 : Int32)), .val (.int (Int32.ofNat (own_nd (own_M n) + 1)))] [(.int (Int32.ofNat (own_nd (own_M n) + 1))), (.ref ra)])) (fun _ k => XS.iload X126.here hx rfl (hb hby at_381) rfl  k) ?_
    refine GoW.step (T' := T126) (g' := (mkF m 384 #[.val (.int p0), .val (.int p1), .val (.int n), .val (.ref ra), .val (.int (1 : Int32)), .val (.long (own_L n)), .second, .val (.int (Int32.ofNat (own_nd (own_M n)))), .val (.int (1 : Int32)), .val (.int (0 : Int32)), .val (.int (Int32.ofNat NN)), .val (.int (1 : Int32)), .val (.int (Int32.ofNat (own_nd (own_M n) + 1)))] [(.int (4 : Int32)), (.int (Int32.ofNat (own_nd (own_M n) + 1))), (.ref ra)])) (fun _ k => XS.iconst X126.here hx rfl (hb hby at_383) k) ?_
    refine GoW.step (T' := T126) (g' := (mkF m 385 #[.val (.int p0), .val (.int p1), .val (.int n), .val (.ref ra), .val (.int (1 : Int32)), .val (.long (own_L n)), .second, .val (.int (Int32.ofNat (own_nd (own_M n)))), .val (.int (1 : Int32)), .val (.int (0 : Int32)), .val (.int (Int32.ofNat NN)), .val (.int (1 : Int32)), .val (.int (Int32.ofNat (own_nd (own_M n) + 1)))] [(.int ((Int32.ofNat (own_nd (own_M n) + 1)) + (4 : Int32))), (.ref ra)])) (fun _ k => XS.iadd X126.here hx rfl (hb hby at_384) rfl k) ?_
    rw [show ((Int32.ofNat (own_nd (own_M n) + 1)) + (4 : Int32)) = Int32.ofNat (own_nd (own_M n) + 1 + 4) from own_addN _ 4]
    obtain ⟨cq127, kq127, q127a, q127b, q127c⟩ := isOf hZ eh126 E101
    obtain ⟨_, _, ⟨T127, L127, k127, n127⟩, -, X127, ⟨Lc127, hQ127, l127, y127, z127⟩, st127⟩ := X126.virtualBack hx (y := (⟨"java/lang/String", "charAt", "(I)C"⟩ : MethodName)) (z := (⟨"java/lang/String", "charAt", "(I)C"⟩ : MethodName)) hown (mvT hZ (hwi hw 159 rfl)) (mvT hZ (hwi hw 160 rfl)) (notFace_of_selects (args := #[]) (mvT hZ (hwi hw 162 rfl))) (mvT hZ (hwi hw 162 rfl)) (mvT hZ (hwi hw 161 rfl)) (by decide) (backOf (W := 0) (Q := Qret (some (.int (115 : Int32))) T101.heap n0) (own_ch_ l Z a0 hw [] ra (Int32.ofNat (own_nd (own_M n) + 1 + 4)) gc rb rk (Int32.ofNat NN) tv gf (115 : Int32) (115 : Int32) T101.heap n0 Z101 F102 hgc E101 C101 B101 V101 F107 cgf (own_ge0 (by omega)) (own_inb (n := NN) (by omega) (by omega)).2 (by rw [own_clamp (by omega)]; exact s5 hn1) (by decide) (by decide)) hZ (hwi hw 163 rfl) (hwi hw 20 rfl) (by decide) (by decide)) q127a q127c (g := (mkF m 385 #[.val (.int p0), .val (.int p1), .val (.int n), .val (.ref ra), .val (.int (1 : Int32)), .val (.long (own_L n)), .second, .val (.int (Int32.ofNat (own_nd (own_M n)))), .val (.int (1 : Int32)), .val (.int (0 : Int32)), .val (.int (Int32.ofNat NN)), .val (.int (1 : Int32)), .val (.int (Int32.ofNat (own_nd (own_M n) + 1)))] [(.int (Int32.ofNat (own_nd (own_M n) + 1 + 4))), (.ref ra)])) rfl (by rw [hml]; rfl) (Steps.refl _) (argsL := [(.int (Int32.ofNat (own_nd (own_M n) + 1 + 4)))]) (rest := []) (lenOf own_pd23 rfl) rfl (by show 2 * 0 + _ ≤ _; exact Nat.le_of_eq rfl) (hb hby at_385) (fun _ _ => ⟨rfl, eh126, (by dsimp only [Pt.cells, Pt.slots, room_1]; omega), (by dsimp only [Pt.cells, Pt.slots, room_1]; omega)⟩)
    dsimp only [Pt.U, Pt.locs, Pt.cells, Pt.slots] at X127 l127 y127 z127 st127 hQ127
    subst l127 y127 z127
    obtain ⟨rfl, N127q, eh127⟩ := hQ127
    have N127 := Fr.app N126 N127q
    refine GoW.step (T' := T127) (g' := (mkF m 388 #[.val (.int p0), .val (.int p1), .val (.int n), .val (.ref ra), .val (.int (1 : Int32)), .val (.long (own_L n)), .second, .val (.int (Int32.ofNat (own_nd (own_M n)))), .val (.int (1 : Int32)), .val (.int (0 : Int32)), .val (.int (Int32.ofNat NN)), .val (.int (1 : Int32)), .val (.int (Int32.ofNat (own_nd (own_M n) + 1)))] [(.int (115 : Int32))])) (fun _ k => st127.trans k) ?_
    refine GoW.step (T' := T127) (g' := (mkF m 390 #[.val (.int p0), .val (.int p1), .val (.int n), .val (.ref ra), .val (.int (1 : Int32)), .val (.long (own_L n)), .second, .val (.int (Int32.ofNat (own_nd (own_M n)))), .val (.int (1 : Int32)), .val (.int (0 : Int32)), .val (.int (Int32.ofNat NN)), .val (.int (1 : Int32)), .val (.int (Int32.ofNat (own_nd (own_M n) + 1)))] [(.int (115 : Int32)), (.int (115 : Int32))])) (fun _ k => XS.bipush X127.here hx rfl (hb hby at_388) k) ?_
    refine GoW.step (T' := T127) (g' := (mkF m 393 #[.val (.int p0), .val (.int p1), .val (.int n), .val (.ref ra), .val (.int (1 : Int32)), .val (.long (own_L n)), .second, .val (.int (Int32.ofNat (own_nd (own_M n)))), .val (.int (1 : Int32)), .val (.int (0 : Int32)), .val (.int (Int32.ofNat NN)), .val (.int (1 : Int32)), .val (.int (Int32.ofNat (own_nd (own_M n) + 1)))] [])) (fun _ k => XS.icmpNo X127.here hx rfl (hb hby at_390) rfl (teq (by decide : (115 : Int32) = (115 : Int32))).2 k) ?_
    refine GoW.step (T' := T127) (g' := (mkF m 394 #[.val (.int p0), .val (.int p1), .val (.int n), .val (.ref ra), .val (.int (1 : Int32)), .val (.long (own_L n)), .second, .val (.int (Int32.ofNat (own_nd (own_M n)))), .val (.int (1 : Int32)), .val (.int (0 : Int32)), .val (.int (Int32.ofNat NN)), .val (.int (1 : Int32)), .val (.int (Int32.ofNat (own_nd (own_M n) + 1)))] [(.int (1 : Int32))])) (fun _ k => XS.iconst X127.here hx rfl (hb hby at_393) k) ?_
    refine GoW.step (T' := T127) (g' := (mkF m 398 #[.val (.int p0), .val (.int p1), .val (.int n), .val (.ref ra), .val (.int (1 : Int32)), .val (.long (own_L n)), .second, .val (.int (Int32.ofNat (own_nd (own_M n)))), .val (.int (1 : Int32)), .val (.int (0 : Int32)), .val (.int (Int32.ofNat NN)), .val (.int (1 : Int32)), .val (.int (Int32.ofNat (own_nd (own_M n) + 1)))] [(.int (1 : Int32))])) (fun _ k => XS.goto X127.here hx rfl (pc0 := 394) (pc' := 398) rfl (hb hby at_394) (by decide) (by decide) k) ?_
    refine GoW.step (T' := T127) (g' := (mkF m 400 #[.val (.int p0), .val (.int p1), .val (.int n), .val (.ref ra), .val (.int (1 : Int32)), .val (.long (own_L n)), .second, .val (.int (Int32.ofNat (own_nd (own_M n)))), .val (.int (1 : Int32)), .val (.int (0 : Int32)), .val (.int (Int32.ofNat NN)), .val (.int (1 : Int32)), .val (.int (Int32.ofNat (own_nd (own_M n) + 1)))] [])) (fun _ k => XS.istore X127.here hx rfl (hb hby at_398) rfl (l' := #[.val (.int p0), .val (.int p1), .val (.int n), .val (.ref ra), .val (.int (1 : Int32)), .val (.long (own_L n)), .second, .val (.int (Int32.ofNat (own_nd (own_M n)))), .val (.int (1 : Int32)), .val (.int (0 : Int32)), .val (.int (Int32.ofNat NN)), .val (.int (1 : Int32)), .val (.int (Int32.ofNat (own_nd (own_M n) + 1)))]) rfl k) ?_
    refine GoW.step (T' := T127) (g' := (mkF m 402 #[.val (.int p0), .val (.int p1), .val (.int n), .val (.ref ra), .val (.int (1 : Int32)), .val (.long (own_L n)), .second, .val (.int (Int32.ofNat (own_nd (own_M n)))), .val (.int (1 : Int32)), .val (.int (0 : Int32)), .val (.int (Int32.ofNat NN)), .val (.int (1 : Int32)), .val (.int (Int32.ofNat (own_nd (own_M n) + 1)))] [(.int (1 : Int32))])) (fun _ k => XS.iload X127.here hx rfl (hb hby at_400) rfl  k) ?_
    exact GoW.retN X127 hx hS hk hZ hEL CR eh127 (t := .boolean) hret hlk (by simp) (hb hby at_402) (⟨rfl, N127⟩) (by omega) (by omega)
  · skip
    refine GoW.step (T' := T101) (g' := (mkF m 31 #[.val (.int p0), .val (.int p1), .val (.int n), .val (.ref ra), .unset, .unset, .unset, .unset, .unset, .unset, .unset, .unset, .unset] [])) (fun _ k => XS.ifYes X101.here hx rfl (pc0 := 24) (pc' := 31) rfl (hb hby at_24) rfl ((if0 _ _).trans (flt hc108).2.1) (by decide) (by decide) k) ?_
    refine GoW.step (T' := T101) (g' := (mkF m 32 #[.val (.int p0), .val (.int p1), .val (.int n), .val (.ref ra), .unset, .unset, .unset, .unset, .unset, .unset, .unset, .unset, .unset] [(.int (0 : Int32))])) (fun _ k => XS.iconst X101.here hx rfl (hb hby at_31) k) ?_
    refine GoW.step (T' := T101) (g' := (mkF m 34 #[.val (.int p0), .val (.int p1), .val (.int n), .val (.ref ra), .val (.int (0 : Int32)), .unset, .unset, .unset, .unset, .unset, .unset, .unset, .unset] [])) (fun _ k => XS.istore X101.here hx rfl (hb hby at_32) rfl (l' := #[.val (.int p0), .val (.int p1), .val (.int n), .val (.ref ra), .val (.int (0 : Int32)), .unset, .unset, .unset, .unset, .unset, .unset, .unset, .unset]) rfl k) ?_
    refine GoW.step (T' := T101) (g' := (mkF m 35 #[.val (.int p0), .val (.int p1), .val (.int n), .val (.ref ra), .val (.int (0 : Int32)), .unset, .unset, .unset, .unset, .unset, .unset, .unset, .unset] [(.int n)])) (fun _ k => XS.iloadN X101.here hx rfl (hb hby at_34) rfl  k) ?_
    refine GoW.step (T' := T101) (g' := (mkF m 36 #[.val (.int p0), .val (.int p1), .val (.int n), .val (.ref ra), .val (.int (0 : Int32)), .unset, .unset, .unset, .unset, .unset, .unset, .unset, .unset] [(.long (n.toInt64))])) (fun _ k => XS.i2l X101.here hx rfl (hb hby at_35) rfl k) ?_
    obtain ⟨_, _, ⟨T128, L128, k128, n128⟩, -, X128, ⟨Lc128, hQ128, l128, y128, z128⟩, st128⟩ := Jvm.LawKit.callS X101 hx (y := (⟨"java/lang/Math", "abs", "(J)J"⟩ : MethodName)) hown (mvT hZ (hwi hw 147 rfl)) (mvT hZ (hwi hw 148 rfl)) (mvT hZ (hwi hw 144 rfl)) (mvT hZ (hwi hw 149 rfl)) (by decide) (backOf (W := 0) (Q := Qret (some (.long (own_L n))) T101.heap n0) (own_abs l Z a0 hw [] n T101.heap n0 Z101) hZ (hwi hw 149 rfl) (hwi hw 144 rfl) (by decide) (by decide)) (g := (mkF m 36 #[.val (.int p0), .val (.int p1), .val (.int n), .val (.ref ra), .val (.int (0 : Int32)), .unset, .unset, .unset, .unset, .unset, .unset, .unset, .unset] [(.long (n.toInt64))])) rfl (by rw [hml]; rfl) (argsL := [(.long (n.toInt64))]) (rest := []) (lenOf own_pd25 rfl) rfl (by show 2 * 0 + _ ≤ _; exact Nat.le_of_eq rfl) (hb hby at_36) (fun _ _ => ⟨rfl, rfl, (by dsimp only [Pt.cells, Pt.slots, room_1]; omega), (by dsimp only [Pt.cells, Pt.slots, room_1]; omega)⟩)
    dsimp only [Pt.U, Pt.locs, Pt.cells, Pt.slots] at X128 l128 y128 z128 st128 hQ128
    subst l128 y128 z128
    obtain ⟨rfl, N128q, eh128⟩ := hQ128
    have N128 := Fr.app N101 N128q
    refine GoW.step (T' := T128) (g' := (mkF m 39 #[.val (.int p0), .val (.int p1), .val (.int n), .val (.ref ra), .val (.int (0 : Int32)), .unset, .unset, .unset, .unset, .unset, .unset, .unset, .unset] [(.long (own_L n))])) (st128) ?_
    refine GoW.step (T' := T128) (g' := (mkF m 41 #[.val (.int p0), .val (.int p1), .val (.int n), .val (.ref ra), .val (.int (0 : Int32)), .val (.long (own_L n)), .second, .unset, .unset, .unset, .unset, .unset, .unset] [])) (fun _ k => XS.lstore X128.here hx rfl (hb hby at_39) rfl (l' := #[.val (.int p0), .val (.int p1), .val (.int n), .val (.ref ra), .val (.int (0 : Int32)), .val (.long (own_L n)), .second, .unset, .unset, .unset, .unset, .unset, .unset]) rfl k) ?_
    refine GoW.step (T' := T128) (g' := (mkF m 43 #[.val (.int p0), .val (.int p1), .val (.int n), .val (.ref ra), .val (.int (0 : Int32)), .val (.long (own_L n)), .second, .unset, .unset, .unset, .unset, .unset, .unset] [(.long (own_L n))])) (fun _ k => XS.lload X128.here hx rfl (hb hby at_41) rfl  k) ?_
    obtain ⟨_, _, ⟨T129, L129, k129, n129⟩, -, X129, ⟨Lc129, hQ129, l129, y129, z129⟩, st129⟩ := Jvm.LawKit.callS X128 hx (y := (⟨"com/example/noteform/noteform/io/FiguresDaysPinLaw", "digitCount", "(J)I"⟩ : MethodName)) hown (mvT hZ (hwi hw 150 rfl)) (mvT hZ (hwi hw 151 rfl)) (mvT hZ (hwi hw 152 rfl)) (mvT hZ (hwi hw 153 rfl)) (by decide) (backOf (W := 0) (Q := Qret (some (.int (Int32.ofNat (own_nd (own_M n))))) T101.heap n0) (own_dc l Z a0 hw [] n T101.heap n0 Z101) hZ (hwi hw 153 rfl) (hwi hw 152 rfl) (by decide) (by decide)) (g := (mkF m 43 #[.val (.int p0), .val (.int p1), .val (.int n), .val (.ref ra), .val (.int (0 : Int32)), .val (.long (own_L n)), .second, .unset, .unset, .unset, .unset, .unset, .unset] [(.long (own_L n))])) rfl (by rw [hml]; rfl) (argsL := [(.long (own_L n))]) (rest := []) (lenOf own_pd26 rfl) rfl (by show 2 * 0 + _ ≤ _; exact Nat.le_of_eq rfl) (hb hby at_43) (fun _ _ => ⟨rfl, eh128, (by dsimp only [Pt.cells, Pt.slots, room_1]; omega), (by dsimp only [Pt.cells, Pt.slots, room_1]; omega)⟩)
    dsimp only [Pt.U, Pt.locs, Pt.cells, Pt.slots] at X129 l129 y129 z129 st129 hQ129
    subst l129 y129 z129
    obtain ⟨rfl, N129q, eh129⟩ := hQ129
    have N129 := Fr.app N128 N129q
    refine GoW.step (T' := T129) (g' := (mkF m 46 #[.val (.int p0), .val (.int p1), .val (.int n), .val (.ref ra), .val (.int (0 : Int32)), .val (.long (own_L n)), .second, .unset, .unset, .unset, .unset, .unset, .unset] [(.int (Int32.ofNat (own_nd (own_M n))))])) (st129) ?_
    refine GoW.step (T' := T129) (g' := (mkF m 48 #[.val (.int p0), .val (.int p1), .val (.int n), .val (.ref ra), .val (.int (0 : Int32)), .val (.long (own_L n)), .second, .val (.int (Int32.ofNat (own_nd (own_M n)))), .unset, .unset, .unset, .unset, .unset] [])) (fun _ k => XS.istore X129.here hx rfl (hb hby at_46) rfl (l' := #[.val (.int p0), .val (.int p1), .val (.int n), .val (.ref ra), .val (.int (0 : Int32)), .val (.long (own_L n)), .second, .val (.int (Int32.ofNat (own_nd (own_M n)))), .unset, .unset, .unset, .unset, .unset]) rfl k) ?_
    refine GoW.step (T' := T129) (g' := (mkF m 50 #[.val (.int p0), .val (.int p1), .val (.int n), .val (.ref ra), .val (.int (0 : Int32)), .val (.long (own_L n)), .second, .val (.int (Int32.ofNat (own_nd (own_M n)))), .unset, .unset, .unset, .unset, .unset] [(.int (0 : Int32))])) (fun _ k => XS.iload X129.here hx rfl (hb hby at_48) rfl  k) ?_
    refine GoW.step (T' := T129) (g' := (mkF m 57 #[.val (.int p0), .val (.int p1), .val (.int n), .val (.ref ra), .val (.int (0 : Int32)), .val (.long (own_L n)), .second, .val (.int (Int32.ofNat (own_nd (own_M n)))), .unset, .unset, .unset, .unset, .unset] [])) (fun _ k => XS.ifYes X129.here hx rfl (pc0 := 50) (pc' := 57) rfl (hb hby at_50) rfl ((if0 _ _).trans (teq (by decide : (0 : Int32) = (0 : Int32))).1) (by decide) (by decide) k) ?_
    refine GoW.step (T' := T129) (g' := (mkF m 58 #[.val (.int p0), .val (.int p1), .val (.int n), .val (.ref ra), .val (.int (0 : Int32)), .val (.long (own_L n)), .second, .val (.int (Int32.ofNat (own_nd (own_M n)))), .unset, .unset, .unset, .unset, .unset] [(.int (0 : Int32))])) (fun _ k => XS.iconst X129.here hx rfl (hb hby at_57) k) ?_
    refine GoW.step (T' := T129) (g' := (mkF m 60 #[.val (.int p0), .val (.int p1), .val (.int n), .val (.ref ra), .val (.int (0 : Int32)), .val (.long (own_L n)), .second, .val (.int (Int32.ofNat (own_nd (own_M n)))), .val (.int (0 : Int32)), .unset, .unset, .unset, .unset] [])) (fun _ k => XS.istore X129.here hx rfl (hb hby at_58) rfl (l' := #[.val (.int p0), .val (.int p1), .val (.int n), .val (.ref ra), .val (.int (0 : Int32)), .val (.long (own_L n)), .second, .val (.int (Int32.ofNat (own_nd (own_M n)))), .val (.int (0 : Int32)), .unset, .unset, .unset, .unset]) rfl k) ?_
    refine GoW.step (T' := T129) (g' := (mkF m 61 #[.val (.int p0), .val (.int p1), .val (.int n), .val (.ref ra), .val (.int (0 : Int32)), .val (.long (own_L n)), .second, .val (.int (Int32.ofNat (own_nd (own_M n)))), .val (.int (0 : Int32)), .unset, .unset, .unset, .unset] [(.int n)])) (fun _ k => XS.iloadN X129.here hx rfl (hb hby at_60) rfl  k) ?_
    refine GoW.step (T' := T129) (g' := (mkF m 62 #[.val (.int p0), .val (.int p1), .val (.int n), .val (.ref ra), .val (.int (0 : Int32)), .val (.long (own_L n)), .second, .val (.int (Int32.ofNat (own_nd (own_M n)))), .val (.int (0 : Int32)), .unset, .unset, .unset, .unset] [(.int (1 : Int32)), (.int n)])) (fun _ k => XS.iconst X129.here hx rfl (hb hby at_61) k) ?_
    by_cases hc130 : n = (1 : Int32)
    · skip
      refine GoW.step (T' := T129) (g' := (mkF m 65 #[.val (.int p0), .val (.int p1), .val (.int n), .val (.ref ra), .val (.int (0 : Int32)), .val (.long (own_L n)), .second, .val (.int (Int32.ofNat (own_nd (own_M n)))), .val (.int (0 : Int32)), .unset, .unset, .unset, .unset] [])) (fun _ k => XS.icmpNo X129.here hx rfl (hb hby at_62) rfl (teq hc130).2 k) ?_
      refine GoW.step (T' := T129) (g' := (mkF m 66 #[.val (.int p0), .val (.int p1), .val (.int n), .val (.ref ra), .val (.int (0 : Int32)), .val (.long (own_L n)), .second, .val (.int (Int32.ofNat (own_nd (own_M n)))), .val (.int (0 : Int32)), .unset, .unset, .unset, .unset] [(.int (1 : Int32))])) (fun _ k => XS.iconst X129.here hx rfl (hb hby at_65) k) ?_
      refine GoW.step (T' := T129) (g' := (mkF m 70 #[.val (.int p0), .val (.int p1), .val (.int n), .val (.ref ra), .val (.int (0 : Int32)), .val (.long (own_L n)), .second, .val (.int (Int32.ofNat (own_nd (own_M n)))), .val (.int (0 : Int32)), .unset, .unset, .unset, .unset] [(.int (1 : Int32))])) (fun _ k => XS.goto X129.here hx rfl (pc0 := 66) (pc' := 70) rfl (hb hby at_66) (by decide) (by decide) k) ?_
      refine GoW.step (T' := T129) (g' := (mkF m 72 #[.val (.int p0), .val (.int p1), .val (.int n), .val (.ref ra), .val (.int (0 : Int32)), .val (.long (own_L n)), .second, .val (.int (Int32.ofNat (own_nd (own_M n)))), .val (.int (0 : Int32)), .val (.int (1 : Int32)), .unset, .unset, .unset] [])) (fun _ k => XS.istore X129.here hx rfl (hb hby at_70) rfl (l' := #[.val (.int p0), .val (.int p1), .val (.int n), .val (.ref ra), .val (.int (0 : Int32)), .val (.long (own_L n)), .second, .val (.int (Int32.ofNat (own_nd (own_M n)))), .val (.int (0 : Int32)), .val (.int (1 : Int32)), .unset, .unset, .unset]) rfl k) ?_
      refine GoW.step (T' := T129) (g' := (mkF m 74 #[.val (.int p0), .val (.int p1), .val (.int n), .val (.ref ra), .val (.int (0 : Int32)), .val (.long (own_L n)), .second, .val (.int (Int32.ofNat (own_nd (own_M n)))), .val (.int (0 : Int32)), .val (.int (1 : Int32)), .unset, .unset, .unset] [(.int (0 : Int32))])) (fun _ k => XS.iload X129.here hx rfl (hb hby at_72) rfl  k) ?_
      refine GoW.step (T' := T129) (g' := (mkF m 76 #[.val (.int p0), .val (.int p1), .val (.int n), .val (.ref ra), .val (.int (0 : Int32)), .val (.long (own_L n)), .second, .val (.int (Int32.ofNat (own_nd (own_M n)))), .val (.int (0 : Int32)), .val (.int (1 : Int32)), .unset, .unset, .unset] [(.int (Int32.ofNat (own_nd (own_M n)))), (.int (0 : Int32))])) (fun _ k => XS.iload X129.here hx rfl (hb hby at_74) rfl  k) ?_
      refine GoW.step (T' := T129) (g' := (mkF m 77 #[.val (.int p0), .val (.int p1), .val (.int n), .val (.ref ra), .val (.int (0 : Int32)), .val (.long (own_L n)), .second, .val (.int (Int32.ofNat (own_nd (own_M n)))), .val (.int (0 : Int32)), .val (.int (1 : Int32)), .unset, .unset, .unset] [(.int ((0 : Int32) + (Int32.ofNat (own_nd (own_M n)))))])) (fun _ k => XS.iadd X129.here hx rfl (hb hby at_76) rfl k) ?_
      refine GoW.step (T' := T129) (g' := (mkF m 79 #[.val (.int p0), .val (.int p1), .val (.int n), .val (.ref ra), .val (.int (0 : Int32)), .val (.long (own_L n)), .second, .val (.int (Int32.ofNat (own_nd (own_M n)))), .val (.int (0 : Int32)), .val (.int (1 : Int32)), .unset, .unset, .unset] [(.int (1 : Int32)), (.int ((0 : Int32) + (Int32.ofNat (own_nd (own_M n)))))])) (fun _ k => XS.iload X129.here hx rfl (hb hby at_77) rfl  k) ?_
      refine GoW.step (T' := T129) (g' := (mkF m 82 #[.val (.int p0), .val (.int p1), .val (.int n), .val (.ref ra), .val (.int (0 : Int32)), .val (.long (own_L n)), .second, .val (.int (Int32.ofNat (own_nd (own_M n)))), .val (.int (0 : Int32)), .val (.int (1 : Int32)), .unset, .unset, .unset] [(.int ((0 : Int32) + (Int32.ofNat (own_nd (own_M n)))))])) (fun _ k => XS.ifNo X129.here hx rfl (hb hby at_79) rfl ((if0 _ _).trans (feq (by decide : ¬ ((1 : Int32) = (0 : Int32)))).1) k) ?_
      refine GoW.step (T' := T129) (g' := (mkF m 83 #[.val (.int p0), .val (.int p1), .val (.int n), .val (.ref ra), .val (.int (0 : Int32)), .val (.long (own_L n)), .second, .val (.int (Int32.ofNat (own_nd (own_M n)))), .val (.int (0 : Int32)), .val (.int (1 : Int32)), .unset, .unset, .unset] [(.int (4 : Int32)), (.int ((0 : Int32) + (Int32.ofNat (own_nd (own_M n)))))])) (fun _ k => XS.iconst X129.here hx rfl (hb hby at_82) k) ?_
      refine GoW.step (T' := T129) (g' := (mkF m 87 #[.val (.int p0), .val (.int p1), .val (.int n), .val (.ref ra), .val (.int (0 : Int32)), .val (.long (own_L n)), .second, .val (.int (Int32.ofNat (own_nd (own_M n)))), .val (.int (0 : Int32)), .val (.int (1 : Int32)), .unset, .unset, .unset] [(.int (4 : Int32)), (.int ((0 : Int32) + (Int32.ofNat (own_nd (own_M n)))))])) (fun _ k => XS.goto X129.here hx rfl (pc0 := 83) (pc' := 87) rfl (hb hby at_83) (by decide) (by decide) k) ?_
      refine GoW.step (T' := T129) (g' := (mkF m 88 #[.val (.int p0), .val (.int p1), .val (.int n), .val (.ref ra), .val (.int (0 : Int32)), .val (.long (own_L n)), .second, .val (.int (Int32.ofNat (own_nd (own_M n)))), .val (.int (0 : Int32)), .val (.int (1 : Int32)), .unset, .unset, .unset] [(.int (((0 : Int32) + (Int32.ofNat (own_nd (own_M n)))) + (4 : Int32)))])) (fun _ k => XS.iadd X129.here hx rfl (hb hby at_87) rfl k) ?_
      obtain ⟨hNN, dg, sx, s5⟩ := own_tS (s := 0) (e := 4) tx (own_sgF hc108) (if_pos hc130)
      have hn10 := own_nd_le (own_M n)
      have hlen : (((0 : Int32) + (Int32.ofNat (own_nd (own_M n)))) + (4 : Int32)) = Int32.ofNat NN := own_len3 (d := own_nd (own_M n)) (s := 0) (e := 4) hNN
      rw [hlen]
      refine GoW.step (T' := T129) (g' := (mkF m 90 #[.val (.int p0), .val (.int p1), .val (.int n), .val (.ref ra), .val (.int (0 : Int32)), .val (.long (own_L n)), .second, .val (.int (Int32.ofNat (own_nd (own_M n)))), .val (.int (0 : Int32)), .val (.int (1 : Int32)), .val (.int (Int32.ofNat NN)), .unset, .unset] [])) (fun _ k => XS.istore X129.here hx rfl (hb hby at_88) rfl (l' := #[.val (.int p0), .val (.int p1), .val (.int n), .val (.ref ra), .val (.int (0 : Int32)), .val (.long (own_L n)), .second, .val (.int (Int32.ofNat (own_nd (own_M n)))), .val (.int (0 : Int32)), .val (.int (1 : Int32)), .val (.int (Int32.ofNat NN)), .unset, .unset]) rfl k) ?_
      refine GoW.step (T' := T129) (g' := (mkF m 91 #[.val (.int p0), .val (.int p1), .val (.int n), .val (.ref ra), .val (.int (0 : Int32)), .val (.long (own_L n)), .second, .val (.int (Int32.ofNat (own_nd (own_M n)))), .val (.int (0 : Int32)), .val (.int (1 : Int32)), .val (.int (Int32.ofNat NN)), .unset, .unset] [(.ref ra)])) (fun _ k => XS.aloadN X129.here hx rfl (hb hby at_90) rfl rfl k) ?_
      refine GoW.step (T' := T129) (g' := (mkF m 94 #[.val (.int p0), .val (.int p1), .val (.int n), .val (.ref ra), .val (.int (0 : Int32)), .val (.long (own_L n)), .second, .val (.int (Int32.ofNat (own_nd (own_M n)))), .val (.int (0 : Int32)), .val (.int (1 : Int32)), .val (.int (Int32.ofNat NN)), .unset, .unset] [])) (fun _ k => XS.ifnullNo X129.here hx rfl (hb hby at_91) rfl k) ?_
      refine GoW.step (T' := T129) (g' := (mkF m 95 #[.val (.int p0), .val (.int p1), .val (.int n), .val (.ref ra), .val (.int (0 : Int32)), .val (.long (own_L n)), .second, .val (.int (Int32.ofNat (own_nd (own_M n)))), .val (.int (0 : Int32)), .val (.int (1 : Int32)), .val (.int (Int32.ofNat NN)), .unset, .unset] [(.ref ra)])) (fun _ k => XS.aloadN X129.here hx rfl (hb hby at_94) rfl rfl k) ?_
      obtain ⟨cq131, kq131, q131a, q131b, q131c⟩ := isOf hZ eh129 E101
      obtain ⟨_, _, ⟨T131, L131, k131, n131⟩, -, X131, ⟨Lc131, hQ131, l131, y131, z131⟩, st131⟩ := X129.virtualBack hx (y := (⟨"java/lang/String", "length", "()I"⟩ : MethodName)) (z := (⟨"java/lang/String", "length", "()I"⟩ : MethodName)) hown (mvT hZ (hwi hw 155 rfl)) (mvT hZ (hwi hw 72 rfl)) (notFace_of_selects (args := #[]) (mvT hZ (hwi hw 74 rfl))) (mvT hZ (hwi hw 74 rfl)) (mvT hZ (hwi hw 73 rfl)) (by decide) (backOf (W := 0) (Q := Qret (some (.int (Int32.ofNat NN))) T101.heap n0) (own_len_ l Z a0 hw [] ra gc rb rk (Int32.ofNat NN) tv T101.heap n0 Z101 F102 hgc E101 C101 B101 V101) hZ (hwi hw 75 rfl) (hwi hw 20 rfl) (by decide) (by decide)) q131a q131c (g := (mkF m 95 #[.val (.int p0), .val (.int p1), .val (.int n), .val (.ref ra), .val (.int (0 : Int32)), .val (.long (own_L n)), .second, .val (.int (Int32.ofNat (own_nd (own_M n)))), .val (.int (0 : Int32)), .val (.int (1 : Int32)), .val (.int (Int32.ofNat NN)), .unset, .unset] [(.ref ra)])) rfl (by rw [hml]; rfl) (Steps.refl _) (argsL := []) (rest := []) (lenOf own_pd5 rfl) rfl (by show 2 * 0 + _ ≤ _; exact Nat.le_of_eq rfl) (hb hby at_95) (fun _ _ => ⟨rfl, eh129, (by dsimp only [Pt.cells, Pt.slots, room_1]; omega), (by dsimp only [Pt.cells, Pt.slots, room_1]; omega)⟩)
      dsimp only [Pt.U, Pt.locs, Pt.cells, Pt.slots] at X131 l131 y131 z131 st131 hQ131
      subst l131 y131 z131
      obtain ⟨rfl, N131q, eh131⟩ := hQ131
      have N131 := Fr.app N129 N131q
      refine GoW.step (T' := T131) (g' := (mkF m 98 #[.val (.int p0), .val (.int p1), .val (.int n), .val (.ref ra), .val (.int (0 : Int32)), .val (.long (own_L n)), .second, .val (.int (Int32.ofNat (own_nd (own_M n)))), .val (.int (0 : Int32)), .val (.int (1 : Int32)), .val (.int (Int32.ofNat NN)), .unset, .unset] [(.int (Int32.ofNat NN))])) (fun _ k => st131.trans k) ?_
      refine GoW.step (T' := T131) (g' := (mkF m 100 #[.val (.int p0), .val (.int p1), .val (.int n), .val (.ref ra), .val (.int (0 : Int32)), .val (.long (own_L n)), .second, .val (.int (Int32.ofNat (own_nd (own_M n)))), .val (.int (0 : Int32)), .val (.int (1 : Int32)), .val (.int (Int32.ofNat NN)), .unset, .unset] [(.int (Int32.ofNat NN)), (.int (Int32.ofNat NN))])) (fun _ k => XS.iload X131.here hx rfl (hb hby at_98) rfl  k) ?_
      refine GoW.step (T' := T131) (g' := (mkF m 105 #[.val (.int p0), .val (.int p1), .val (.int n), .val (.ref ra), .val (.int (0 : Int32)), .val (.long (own_L n)), .second, .val (.int (Int32.ofNat (own_nd (own_M n)))), .val (.int (0 : Int32)), .val (.int (1 : Int32)), .val (.int (Int32.ofNat NN)), .unset, .unset] [])) (fun _ k => XS.icmpYes X131.here hx rfl (pc0 := 100) (pc' := 105) rfl (hb hby at_100) rfl (teq (rfl : (Int32.ofNat NN) = (Int32.ofNat NN))).1 (by decide) (by decide) k) ?_
      refine GoW.step (T' := T131) (g' := (mkF m 107 #[.val (.int p0), .val (.int p1), .val (.int n), .val (.ref ra), .val (.int (0 : Int32)), .val (.long (own_L n)), .second, .val (.int (Int32.ofNat (own_nd (own_M n)))), .val (.int (0 : Int32)), .val (.int (1 : Int32)), .val (.int (Int32.ofNat NN)), .unset, .unset] [(.int (0 : Int32))])) (fun _ k => XS.iload X131.here hx rfl (hb hby at_105) rfl  k) ?_
      refine GoW.step (T' := T131) (g' := (mkF m 122 #[.val (.int p0), .val (.int p1), .val (.int n), .val (.ref ra), .val (.int (0 : Int32)), .val (.long (own_L n)), .second, .val (.int (Int32.ofNat (own_nd (own_M n)))), .val (.int (0 : Int32)), .val (.int (1 : Int32)), .val (.int (Int32.ofNat NN)), .unset, .unset] [])) (fun _ k => XS.ifYes X131.here hx rfl (pc0 := 107) (pc' := 122) rfl (hb hby at_107) rfl ((if0 _ _).trans (teq (by decide : (0 : Int32) = (0 : Int32))).1) (by decide) (by decide) k) ?_
      refine GoW.step (T' := T131) (g' := (mkF m 123 #[.val (.int p0), .val (.int p1), .val (.int n), .val (.ref ra), .val (.int (0 : Int32)), .val (.long (own_L n)), .second, .val (.int (Int32.ofNat (own_nd (own_M n)))), .val (.int (0 : Int32)), .val (.int (1 : Int32)), .val (.int (Int32.ofNat NN)), .unset, .unset] [(.ref ra)])) (fun _ k => XS.aloadN X131.here hx rfl (hb hby at_122) rfl rfl k) ?_
      refine GoW.step (T' := T131) (g' := (mkF m 125 #[.val (.int p0), .val (.int p1), .val (.int n), .val (.ref ra), .val (.int (0 : Int32)), .val (.long (own_L n)), .second, .val (.int (Int32.ofNat (own_nd (own_M n)))), .val (.int (0 : Int32)), .val (.int (1 : Int32)), .val (.int (Int32.ofNat NN)), .unset, .unset] [(.int (0 : Int32)), (.ref ra)])) (fun _ k => XS.iload X131.here hx rfl (hb hby at_123) rfl  k) ?_
      refine GoW.step (T' := T131) (g' := (mkF m 127 #[.val (.int p0), .val (.int p1), .val (.int n), .val (.ref ra), .val (.int (0 : Int32)), .val (.long (own_L n)), .second, .val (.int (Int32.ofNat (own_nd (own_M n)))), .val (.int (0 : Int32)), .val (.int (1 : Int32)), .val (.int (Int32.ofNat NN)), .unset, .unset] [(.int (Int32.ofNat (own_nd (own_M n)))), (.int (0 : Int32)), (.ref ra)])) (fun _ k => XS.iload X131.here hx rfl (hb hby at_125) rfl  k) ?_
      refine GoW.step (T' := T131) (g' := (mkF m 129 #[.val (.int p0), .val (.int p1), .val (.int n), .val (.ref ra), .val (.int (0 : Int32)), .val (.long (own_L n)), .second, .val (.int (Int32.ofNat (own_nd (own_M n)))), .val (.int (0 : Int32)), .val (.int (1 : Int32)), .val (.int (Int32.ofNat NN)), .unset, .unset] [(.long (own_L n)), (.int (Int32.ofNat (own_nd (own_M n)))), (.int (0 : Int32)), (.ref ra)])) (fun _ k => XS.lload X131.here hx rfl (hb hby at_127) rfl  k) ?_
      refine GoW.step (T' := T131) (g' := (mkF m 130 #[.val (.int p0), .val (.int p1), .val (.int n), .val (.ref ra), .val (.int (0 : Int32)), .val (.long (own_L n)), .second, .val (.int (Int32.ofNat (own_nd (own_M n)))), .val (.int (0 : Int32)), .val (.int (1 : Int32)), .val (.int (Int32.ofNat NN)), .unset, .unset] [(.int (0 : Int32)), (.long (own_L n)), (.int (Int32.ofNat (own_nd (own_M n)))), (.int (0 : Int32)), (.ref ra)])) (fun _ k => XS.iconst X131.here hx rfl (hb hby at_129) k) ?_
      refine GoW.step (T' := T131) (g' := (mkF m 131 #[.val (.int p0), .val (.int p1), .val (.int n), .val (.ref ra), .val (.int (0 : Int32)), .val (.long (own_L n)), .second, .val (.int (Int32.ofNat (own_nd (own_M n)))), .val (.int (0 : Int32)), .val (.int (1 : Int32)), .val (.int (Int32.ofNat NN)), .unset, .unset] [(.long (1 : Int64)), (.int (0 : Int32)), (.long (own_L n)), (.int (Int32.ofNat (own_nd (own_M n)))), (.int (0 : Int32)), (.ref ra)])) (fun _ k => XS.lconst X131.here hx rfl (hb hby at_130) k) ?_
      obtain ⟨_, _, ⟨T132, L132, k132, n132⟩, -, X132, ⟨Lc132, hQ132, l132, y132, z132⟩, st132⟩ := Jvm.LawKit.callS X131 hx (y := (⟨"com/example/noteform/noteform/io/FiguresDaysPinLaw", "digitAt", "(Ljava/lang/String;IIJIJ)Z"⟩ : MethodName)) hown (mvT hZ (hwi hw 156 rfl)) (mvT hZ (hwi hw 157 rfl)) (mvT hZ (hwi hw 152 rfl)) (mvT hZ (hwi hw 158 rfl)) (by decide) (backOf (W := 0) (Q := Qret (some (.int (1 : Int32))) T101.heap n0) (own_da l Z a0 hw [] ra n (0 : Int32) (0 : Int32) (1 : Int64) 0 0 NN gc rb rk tv gf T101.heap n0 Z101 F102 hgc E101 C101 B101 V101 F107 cgf rfl rfl (by decide) (by decide) (by decide) dg (by omega) (by omega)) hZ (hwi hw 158 rfl) (hwi hw 152 rfl) (by decide) (by decide)) (g := (mkF m 131 #[.val (.int p0), .val (.int p1), .val (.int n), .val (.ref ra), .val (.int (0 : Int32)), .val (.long (own_L n)), .second, .val (.int (Int32.ofNat (own_nd (own_M n)))), .val (.int (0 : Int32)), .val (.int (1 : Int32)), .val (.int (Int32.ofNat NN)), .unset, .unset] [(.long (1 : Int64)), (.int (0 : Int32)), (.long (own_L n)), (.int (Int32.ofNat (own_nd (own_M n)))), (.int (0 : Int32)), (.ref ra)])) rfl (by rw [hml]; rfl) (argsL := [(.ref ra), (.int (0 : Int32)), (.int (Int32.ofNat (own_nd (own_M n)))), (.long (own_L n)), (.int (0 : Int32)), (.long (1 : Int64))]) (rest := []) (lenOf own_pd27 rfl) rfl (by show 2 * 0 + _ ≤ _; exact Nat.le_of_eq rfl) (hb hby at_131) (fun _ _ => ⟨rfl, eh131, (by dsimp only [Pt.cells, Pt.slots, room_1]; omega), (by dsimp only [Pt.cells, Pt.slots, room_1]; omega)⟩)
      dsimp only [Pt.U, Pt.locs, Pt.cells, Pt.slots] at X132 l132 y132 z132 st132 hQ132
      subst l132 y132 z132
      obtain ⟨rfl, N132q, eh132⟩ := hQ132
      have N132 := Fr.app N131 N132q
      refine GoW.step (T' := T132) (g' := (mkF m 134 #[.val (.int p0), .val (.int p1), .val (.int n), .val (.ref ra), .val (.int (0 : Int32)), .val (.long (own_L n)), .second, .val (.int (Int32.ofNat (own_nd (own_M n)))), .val (.int (0 : Int32)), .val (.int (1 : Int32)), .val (.int (Int32.ofNat NN)), .unset, .unset] [(.int (1 : Int32))])) (st132) ?_
      refine GoW.step (T' := T132) (g' := (mkF m 137 #[.val (.int p0), .val (.int p1), .val (.int n), .val (.ref ra), .val (.int (0 : Int32)), .val (.long (own_L n)), .second, .val (.int (Int32.ofNat (own_nd (own_M n)))), .val (.int (0 : Int32)), .val (.int (1 : Int32)), .val (.int (Int32.ofNat NN)), .unset, .unset] [])) (fun _ k => XS.ifNo X132.here hx rfl (hb hby at_134) rfl ((if0 _ _).trans (feq (by decide : ¬ ((1 : Int32) = (0 : Int32)))).1) k) ?_
      refine GoW.step (T' := T132) (g' := (mkF m 138 #[.val (.int p0), .val (.int p1), .val (.int n), .val (.ref ra), .val (.int (0 : Int32)), .val (.long (own_L n)), .second, .val (.int (Int32.ofNat (own_nd (own_M n)))), .val (.int (0 : Int32)), .val (.int (1 : Int32)), .val (.int (Int32.ofNat NN)), .unset, .unset] [(.ref ra)])) (fun _ k => XS.aloadN X132.here hx rfl (hb hby at_137) rfl rfl k) ?_
      refine GoW.step (T' := T132) (g' := (mkF m 140 #[.val (.int p0), .val (.int p1), .val (.int n), .val (.ref ra), .val (.int (0 : Int32)), .val (.long (own_L n)), .second, .val (.int (Int32.ofNat (own_nd (own_M n)))), .val (.int (0 : Int32)), .val (.int (1 : Int32)), .val (.int (Int32.ofNat NN)), .unset, .unset] [(.int (0 : Int32)), (.ref ra)])) (fun _ k => XS.iload X132.here hx rfl (hb hby at_138) rfl  k) ?_
      refine GoW.step (T' := T132) (g' := (mkF m 142 #[.val (.int p0), .val (.int p1), .val (.int n), .val (.ref ra), .val (.int (0 : Int32)), .val (.long (own_L n)), .second, .val (.int (Int32.ofNat (own_nd (own_M n)))), .val (.int (0 : Int32)), .val (.int (1 : Int32)), .val (.int (Int32.ofNat NN)), .unset, .unset] [(.int (Int32.ofNat (own_nd (own_M n)))), (.int (0 : Int32)), (.ref ra)])) (fun _ k => XS.iload X132.here hx rfl (hb hby at_140) rfl  k) ?_
      refine GoW.step (T' := T132) (g' := (mkF m 144 #[.val (.int p0), .val (.int p1), .val (.int n), .val (.ref ra), .val (.int (0 : Int32)), .val (.long (own_L n)), .second, .val (.int (Int32.ofNat (own_nd (own_M n)))), .val (.int (0 : Int32)), .val (.int (1 : Int32)), .val (.int (Int32.ofNat NN)), .unset, .unset] [(.long (own_L n)), (.int (Int32.ofNat (own_nd (own_M n)))), (.int (0 : Int32)), (.ref ra)])) (fun _ k => XS.lload X132.here hx rfl (hb hby at_142) rfl  k) ?_
      refine GoW.step (T' := T132) (g' := (mkF m 145 #[.val (.int p0), .val (.int p1), .val (.int n), .val (.ref ra), .val (.int (0 : Int32)), .val (.long (own_L n)), .second, .val (.int (Int32.ofNat (own_nd (own_M n)))), .val (.int (0 : Int32)), .val (.int (1 : Int32)), .val (.int (Int32.ofNat NN)), .unset, .unset] [(.int (1 : Int32)), (.long (own_L n)), (.int (Int32.ofNat (own_nd (own_M n)))), (.int (0 : Int32)), (.ref ra)])) (fun _ k => XS.iconst X132.here hx rfl (hb hby at_144) k) ?_
      refine GoW.step (T' := T132) (g' := (mkF m 148 #[.val (.int p0), .val (.int p1), .val (.int n), .val (.ref ra), .val (.int (0 : Int32)), .val (.long (own_L n)), .second, .val (.int (Int32.ofNat (own_nd (own_M n)))), .val (.int (0 : Int32)), .val (.int (1 : Int32)), .val (.int (Int32.ofNat NN)), .unset, .unset] [(.long (10 : Int64)), (.int (1 : Int32)), (.long (own_L n)), (.int (Int32.ofNat (own_nd (own_M n)))), (.int (0 : Int32)), (.ref ra)])) (fun _ k => Jvm.Stand.ldc2J (g := (mkF m 145 #[.val (.int p0), .val (.int p1), .val (.int n), .val (.ref ra), .val (.int (0 : Int32)), .val (.long (own_L n)), .second, .val (.int (Int32.ofNat (own_nd (own_M n)))), .val (.int (0 : Int32)), .val (.int (1 : Int32)), .val (.int (Int32.ofNat NN)), .unset, .unset] [(.int (1 : Int32)), (.long (own_L n)), (.int (Int32.ofNat (own_nd (own_M n)))), (.int (0 : Int32)), (.ref ra)])) X132 hx hown (mvT hZ (hwi hw 154 rfl)) rfl (hb hby at_145) k) ?_
      obtain ⟨_, _, ⟨T133, L133, k133, n133⟩, -, X133, ⟨Lc133, hQ133, l133, y133, z133⟩, st133⟩ := Jvm.LawKit.callS X132 hx (y := (⟨"com/example/noteform/noteform/io/FiguresDaysPinLaw", "digitAt", "(Ljava/lang/String;IIJIJ)Z"⟩ : MethodName)) hown (mvT hZ (hwi hw 156 rfl)) (mvT hZ (hwi hw 157 rfl)) (mvT hZ (hwi hw 152 rfl)) (mvT hZ (hwi hw 158 rfl)) (by decide) (backOf (W := 0) (Q := Qret (some (.int (1 : Int32))) T101.heap n0) (own_da l Z a0 hw [] ra n (0 : Int32) (1 : Int32) (10 : Int64) 0 1 NN gc rb rk tv gf T101.heap n0 Z101 F102 hgc E101 C101 B101 V101 F107 cgf rfl rfl (by decide) (by decide) (by decide) dg (by omega) (by omega)) hZ (hwi hw 158 rfl) (hwi hw 152 rfl) (by decide) (by decide)) (g := (mkF m 148 #[.val (.int p0), .val (.int p1), .val (.int n), .val (.ref ra), .val (.int (0 : Int32)), .val (.long (own_L n)), .second, .val (.int (Int32.ofNat (own_nd (own_M n)))), .val (.int (0 : Int32)), .val (.int (1 : Int32)), .val (.int (Int32.ofNat NN)), .unset, .unset] [(.long (10 : Int64)), (.int (1 : Int32)), (.long (own_L n)), (.int (Int32.ofNat (own_nd (own_M n)))), (.int (0 : Int32)), (.ref ra)])) rfl (by rw [hml]; rfl) (argsL := [(.ref ra), (.int (0 : Int32)), (.int (Int32.ofNat (own_nd (own_M n)))), (.long (own_L n)), (.int (1 : Int32)), (.long (10 : Int64))]) (rest := []) (lenOf own_pd27 rfl) rfl (by show 2 * 0 + _ ≤ _; exact Nat.le_of_eq rfl) (hb hby at_148) (fun _ _ => ⟨rfl, eh132, (by dsimp only [Pt.cells, Pt.slots, room_1]; omega), (by dsimp only [Pt.cells, Pt.slots, room_1]; omega)⟩)
      dsimp only [Pt.U, Pt.locs, Pt.cells, Pt.slots] at X133 l133 y133 z133 st133 hQ133
      subst l133 y133 z133
      obtain ⟨rfl, N133q, eh133⟩ := hQ133
      have N133 := Fr.app N132 N133q
      refine GoW.step (T' := T133) (g' := (mkF m 151 #[.val (.int p0), .val (.int p1), .val (.int n), .val (.ref ra), .val (.int (0 : Int32)), .val (.long (own_L n)), .second, .val (.int (Int32.ofNat (own_nd (own_M n)))), .val (.int (0 : Int32)), .val (.int (1 : Int32)), .val (.int (Int32.ofNat NN)), .unset, .unset] [(.int (1 : Int32))])) (st133) ?_
      refine GoW.step (T' := T133) (g' := (mkF m 154 #[.val (.int p0), .val (.int p1), .val (.int n), .val (.ref ra), .val (.int (0 : Int32)), .val (.long (own_L n)), .second, .val (.int (Int32.ofNat (own_nd (own_M n)))), .val (.int (0 : Int32)), .val (.int (1 : Int32)), .val (.int (Int32.ofNat NN)), .unset, .unset] [])) (fun _ k => XS.ifNo X133.here hx rfl (hb hby at_151) rfl ((if0 _ _).trans (feq (by decide : ¬ ((1 : Int32) = (0 : Int32)))).1) k) ?_
      refine GoW.step (T' := T133) (g' := (mkF m 155 #[.val (.int p0), .val (.int p1), .val (.int n), .val (.ref ra), .val (.int (0 : Int32)), .val (.long (own_L n)), .second, .val (.int (Int32.ofNat (own_nd (own_M n)))), .val (.int (0 : Int32)), .val (.int (1 : Int32)), .val (.int (Int32.ofNat NN)), .unset, .unset] [(.ref ra)])) (fun _ k => XS.aloadN X133.here hx rfl (hb hby at_154) rfl rfl k) ?_
      refine GoW.step (T' := T133) (g' := (mkF m 157 #[.val (.int p0), .val (.int p1), .val (.int n), .val (.ref ra), .val (.int (0 : Int32)), .val (.long (own_L n)), .second, .val (.int (Int32.ofNat (own_nd (own_M n)))), .val (.int (0 : Int32)), .val (.int (1 : Int32)), .val (.int (Int32.ofNat NN)), .unset, .unset] [(.int (0 : Int32)), (.ref ra)])) (fun _ k => XS.iload X133.here hx rfl (hb hby at_155) rfl  k) ?_
      refine GoW.step (T' := T133) (g' := (mkF m 159 #[.val (.int p0), .val (.int p1), .val (.int n), .val (.ref ra), .val (.int (0 : Int32)), .val (.long (own_L n)), .second, .val (.int (Int32.ofNat (own_nd (own_M n)))), .val (.int (0 : Int32)), .val (.int (1 : Int32)), .val (.int (Int32.ofNat NN)), .unset, .unset] [(.int (Int32.ofNat (own_nd (own_M n)))), (.int (0 : Int32)), (.ref ra)])) (fun _ k => XS.iload X133.here hx rfl (hb hby at_157) rfl  k) ?_
      refine GoW.step (T' := T133) (g' := (mkF m 161 #[.val (.int p0), .val (.int p1), .val (.int n), .val (.ref ra), .val (.int (0 : Int32)), .val (.long (own_L n)), .second, .val (.int (Int32.ofNat (own_nd (own_M n)))), .val (.int (0 : Int32)), .val (.int (1 : Int32)), .val (.int (Int32.ofNat NN)), .unset, .unset] [(.long (own_L n)), (.int (Int32.ofNat (own_nd (own_M n)))), (.int (0 : Int32)), (.ref ra)])) (fun _ k => XS.lload X133.here hx rfl (hb hby at_159) rfl  k) ?_
      refine GoW.step (T' := T133) (g' := (mkF m 162 #[.val (.int p0), .val (.int p1), .val (.int n), .val (.ref ra), .val (.int (0 : Int32)), .val (.long (own_L n)), .second, .val (.int (Int32.ofNat (own_nd (own_M n)))), .val (.int (0 : Int32)), .val (.int (1 : Int32)), .val (.int (Int32.ofNat NN)), .unset, .unset] [(.int (2 : Int32)), (.long (own_L n)), (.int (Int32.ofNat (own_nd (own_M n)))), (.int (0 : Int32)), (.ref ra)])) (fun _ k => XS.iconst X133.here hx rfl (hb hby at_161) k) ?_
      refine GoW.step (T' := T133) (g' := (mkF m 165 #[.val (.int p0), .val (.int p1), .val (.int n), .val (.ref ra), .val (.int (0 : Int32)), .val (.long (own_L n)), .second, .val (.int (Int32.ofNat (own_nd (own_M n)))), .val (.int (0 : Int32)), .val (.int (1 : Int32)), .val (.int (Int32.ofNat NN)), .unset, .unset] [(.long (100 : Int64)), (.int (2 : Int32)), (.long (own_L n)), (.int (Int32.ofNat (own_nd (own_M n)))), (.int (0 : Int32)), (.ref ra)])) (fun _ k => Jvm.Stand.ldc2J (g := (mkF m 162 #[.val (.int p0), .val (.int p1), .val (.int n), .val (.ref ra), .val (.int (0 : Int32)), .val (.long (own_L n)), .second, .val (.int (Int32.ofNat (own_nd (own_M n)))), .val (.int (0 : Int32)), .val (.int (1 : Int32)), .val (.int (Int32.ofNat NN)), .unset, .unset] [(.int (2 : Int32)), (.long (own_L n)), (.int (Int32.ofNat (own_nd (own_M n)))), (.int (0 : Int32)), (.ref ra)])) X133 hx hown (mvT hZ (hwi hw 181 rfl)) rfl (hb hby at_162) k) ?_
      obtain ⟨_, _, ⟨T134, L134, k134, n134⟩, -, X134, ⟨Lc134, hQ134, l134, y134, z134⟩, st134⟩ := Jvm.LawKit.callS X133 hx (y := (⟨"com/example/noteform/noteform/io/FiguresDaysPinLaw", "digitAt", "(Ljava/lang/String;IIJIJ)Z"⟩ : MethodName)) hown (mvT hZ (hwi hw 156 rfl)) (mvT hZ (hwi hw 157 rfl)) (mvT hZ (hwi hw 152 rfl)) (mvT hZ (hwi hw 158 rfl)) (by decide) (backOf (W := 0) (Q := Qret (some (.int (1 : Int32))) T101.heap n0) (own_da l Z a0 hw [] ra n (0 : Int32) (2 : Int32) (100 : Int64) 0 2 NN gc rb rk tv gf T101.heap n0 Z101 F102 hgc E101 C101 B101 V101 F107 cgf rfl rfl (by decide) (by decide) (by decide) dg (by omega) (by omega)) hZ (hwi hw 158 rfl) (hwi hw 152 rfl) (by decide) (by decide)) (g := (mkF m 165 #[.val (.int p0), .val (.int p1), .val (.int n), .val (.ref ra), .val (.int (0 : Int32)), .val (.long (own_L n)), .second, .val (.int (Int32.ofNat (own_nd (own_M n)))), .val (.int (0 : Int32)), .val (.int (1 : Int32)), .val (.int (Int32.ofNat NN)), .unset, .unset] [(.long (100 : Int64)), (.int (2 : Int32)), (.long (own_L n)), (.int (Int32.ofNat (own_nd (own_M n)))), (.int (0 : Int32)), (.ref ra)])) rfl (by rw [hml]; rfl) (argsL := [(.ref ra), (.int (0 : Int32)), (.int (Int32.ofNat (own_nd (own_M n)))), (.long (own_L n)), (.int (2 : Int32)), (.long (100 : Int64))]) (rest := []) (lenOf own_pd27 rfl) rfl (by show 2 * 0 + _ ≤ _; exact Nat.le_of_eq rfl) (hb hby at_165) (fun _ _ => ⟨rfl, eh133, (by dsimp only [Pt.cells, Pt.slots, room_1]; omega), (by dsimp only [Pt.cells, Pt.slots, room_1]; omega)⟩)
      dsimp only [Pt.U, Pt.locs, Pt.cells, Pt.slots] at X134 l134 y134 z134 st134 hQ134
      subst l134 y134 z134
      obtain ⟨rfl, N134q, eh134⟩ := hQ134
      have N134 := Fr.app N133 N134q
      refine GoW.step (T' := T134) (g' := (mkF m 168 #[.val (.int p0), .val (.int p1), .val (.int n), .val (.ref ra), .val (.int (0 : Int32)), .val (.long (own_L n)), .second, .val (.int (Int32.ofNat (own_nd (own_M n)))), .val (.int (0 : Int32)), .val (.int (1 : Int32)), .val (.int (Int32.ofNat NN)), .unset, .unset] [(.int (1 : Int32))])) (st134) ?_
      refine GoW.step (T' := T134) (g' := (mkF m 171 #[.val (.int p0), .val (.int p1), .val (.int n), .val (.ref ra), .val (.int (0 : Int32)), .val (.long (own_L n)), .second, .val (.int (Int32.ofNat (own_nd (own_M n)))), .val (.int (0 : Int32)), .val (.int (1 : Int32)), .val (.int (Int32.ofNat NN)), .unset, .unset] [])) (fun _ k => XS.ifNo X134.here hx rfl (hb hby at_168) rfl ((if0 _ _).trans (feq (by decide : ¬ ((1 : Int32) = (0 : Int32)))).1) k) ?_
      refine GoW.step (T' := T134) (g' := (mkF m 172 #[.val (.int p0), .val (.int p1), .val (.int n), .val (.ref ra), .val (.int (0 : Int32)), .val (.long (own_L n)), .second, .val (.int (Int32.ofNat (own_nd (own_M n)))), .val (.int (0 : Int32)), .val (.int (1 : Int32)), .val (.int (Int32.ofNat NN)), .unset, .unset] [(.ref ra)])) (fun _ k => XS.aloadN X134.here hx rfl (hb hby at_171) rfl rfl k) ?_
      refine GoW.step (T' := T134) (g' := (mkF m 174 #[.val (.int p0), .val (.int p1), .val (.int n), .val (.ref ra), .val (.int (0 : Int32)), .val (.long (own_L n)), .second, .val (.int (Int32.ofNat (own_nd (own_M n)))), .val (.int (0 : Int32)), .val (.int (1 : Int32)), .val (.int (Int32.ofNat NN)), .unset, .unset] [(.int (0 : Int32)), (.ref ra)])) (fun _ k => XS.iload X134.here hx rfl (hb hby at_172) rfl  k) ?_
      refine GoW.step (T' := T134) (g' := (mkF m 176 #[.val (.int p0), .val (.int p1), .val (.int n), .val (.ref ra), .val (.int (0 : Int32)), .val (.long (own_L n)), .second, .val (.int (Int32.ofNat (own_nd (own_M n)))), .val (.int (0 : Int32)), .val (.int (1 : Int32)), .val (.int (Int32.ofNat NN)), .unset, .unset] [(.int (Int32.ofNat (own_nd (own_M n)))), (.int (0 : Int32)), (.ref ra)])) (fun _ k => XS.iload X134.here hx rfl (hb hby at_174) rfl  k) ?_
      refine GoW.step (T' := T134) (g' := (mkF m 178 #[.val (.int p0), .val (.int p1), .val (.int n), .val (.ref ra), .val (.int (0 : Int32)), .val (.long (own_L n)), .second, .val (.int (Int32.ofNat (own_nd (own_M n)))), .val (.int (0 : Int32)), .val (.int (1 : Int32)), .val (.int (Int32.ofNat NN)), .unset, .unset] [(.long (own_L n)), (.int (Int32.ofNat (own_nd (own_M n)))), (.int (0 : Int32)), (.ref ra)])) (fun _ k => XS.lload X134.here hx rfl (hb hby at_176) rfl  k) ?_
      refine GoW.step (T' := T134) (g' := (mkF m 179 #[.val (.int p0), .val (.int p1), .val (.int n), .val (.ref ra), .val (.int (0 : Int32)), .val (.long (own_L n)), .second, .val (.int (Int32.ofNat (own_nd (own_M n)))), .val (.int (0 : Int32)), .val (.int (1 : Int32)), .val (.int (Int32.ofNat NN)), .unset, .unset] [(.int (3 : Int32)), (.long (own_L n)), (.int (Int32.ofNat (own_nd (own_M n)))), (.int (0 : Int32)), (.ref ra)])) (fun _ k => XS.iconst X134.here hx rfl (hb hby at_178) k) ?_
      refine GoW.step (T' := T134) (g' := (mkF m 182 #[.val (.int p0), .val (.int p1), .val (.int n), .val (.ref ra), .val (.int (0 : Int32)), .val (.long (own_L n)), .second, .val (.int (Int32.ofNat (own_nd (own_M n)))), .val (.int (0 : Int32)), .val (.int (1 : Int32)), .val (.int (Int32.ofNat NN)), .unset, .unset] [(.long (1000 : Int64)), (.int (3 : Int32)), (.long (own_L n)), (.int (Int32.ofNat (own_nd (own_M n)))), (.int (0 : Int32)), (.ref ra)])) (fun _ k => Jvm.Stand.ldc2J (g := (mkF m 179 #[.val (.int p0), .val (.int p1), .val (.int n), .val (.ref ra), .val (.int (0 : Int32)), .val (.long (own_L n)), .second, .val (.int (Int32.ofNat (own_nd (own_M n)))), .val (.int (0 : Int32)), .val (.int (1 : Int32)), .val (.int (Int32.ofNat NN)), .unset, .unset] [(.int (3 : Int32)), (.long (own_L n)), (.int (Int32.ofNat (own_nd (own_M n)))), (.int (0 : Int32)), (.ref ra)])) X134 hx hown (mvT hZ (hwi hw 182 rfl)) rfl (hb hby at_179) k) ?_
      obtain ⟨_, _, ⟨T135, L135, k135, n135⟩, -, X135, ⟨Lc135, hQ135, l135, y135, z135⟩, st135⟩ := Jvm.LawKit.callS X134 hx (y := (⟨"com/example/noteform/noteform/io/FiguresDaysPinLaw", "digitAt", "(Ljava/lang/String;IIJIJ)Z"⟩ : MethodName)) hown (mvT hZ (hwi hw 156 rfl)) (mvT hZ (hwi hw 157 rfl)) (mvT hZ (hwi hw 152 rfl)) (mvT hZ (hwi hw 158 rfl)) (by decide) (backOf (W := 0) (Q := Qret (some (.int (1 : Int32))) T101.heap n0) (own_da l Z a0 hw [] ra n (0 : Int32) (3 : Int32) (1000 : Int64) 0 3 NN gc rb rk tv gf T101.heap n0 Z101 F102 hgc E101 C101 B101 V101 F107 cgf rfl rfl (by decide) (by decide) (by decide) dg (by omega) (by omega)) hZ (hwi hw 158 rfl) (hwi hw 152 rfl) (by decide) (by decide)) (g := (mkF m 182 #[.val (.int p0), .val (.int p1), .val (.int n), .val (.ref ra), .val (.int (0 : Int32)), .val (.long (own_L n)), .second, .val (.int (Int32.ofNat (own_nd (own_M n)))), .val (.int (0 : Int32)), .val (.int (1 : Int32)), .val (.int (Int32.ofNat NN)), .unset, .unset] [(.long (1000 : Int64)), (.int (3 : Int32)), (.long (own_L n)), (.int (Int32.ofNat (own_nd (own_M n)))), (.int (0 : Int32)), (.ref ra)])) rfl (by rw [hml]; rfl) (argsL := [(.ref ra), (.int (0 : Int32)), (.int (Int32.ofNat (own_nd (own_M n)))), (.long (own_L n)), (.int (3 : Int32)), (.long (1000 : Int64))]) (rest := []) (lenOf own_pd27 rfl) rfl (by show 2 * 0 + _ ≤ _; exact Nat.le_of_eq rfl) (hb hby at_182) (fun _ _ => ⟨rfl, eh134, (by dsimp only [Pt.cells, Pt.slots, room_1]; omega), (by dsimp only [Pt.cells, Pt.slots, room_1]; omega)⟩)
      dsimp only [Pt.U, Pt.locs, Pt.cells, Pt.slots] at X135 l135 y135 z135 st135 hQ135
      subst l135 y135 z135
      obtain ⟨rfl, N135q, eh135⟩ := hQ135
      have N135 := Fr.app N134 N135q
      refine GoW.step (T' := T135) (g' := (mkF m 185 #[.val (.int p0), .val (.int p1), .val (.int n), .val (.ref ra), .val (.int (0 : Int32)), .val (.long (own_L n)), .second, .val (.int (Int32.ofNat (own_nd (own_M n)))), .val (.int (0 : Int32)), .val (.int (1 : Int32)), .val (.int (Int32.ofNat NN)), .unset, .unset] [(.int (1 : Int32))])) (st135) ?_
      refine GoW.step (T' := T135) (g' := (mkF m 188 #[.val (.int p0), .val (.int p1), .val (.int n), .val (.ref ra), .val (.int (0 : Int32)), .val (.long (own_L n)), .second, .val (.int (Int32.ofNat (own_nd (own_M n)))), .val (.int (0 : Int32)), .val (.int (1 : Int32)), .val (.int (Int32.ofNat NN)), .unset, .unset] [])) (fun _ k => XS.ifNo X135.here hx rfl (hb hby at_185) rfl ((if0 _ _).trans (feq (by decide : ¬ ((1 : Int32) = (0 : Int32)))).1) k) ?_
      refine GoW.step (T' := T135) (g' := (mkF m 189 #[.val (.int p0), .val (.int p1), .val (.int n), .val (.ref ra), .val (.int (0 : Int32)), .val (.long (own_L n)), .second, .val (.int (Int32.ofNat (own_nd (own_M n)))), .val (.int (0 : Int32)), .val (.int (1 : Int32)), .val (.int (Int32.ofNat NN)), .unset, .unset] [(.ref ra)])) (fun _ k => XS.aloadN X135.here hx rfl (hb hby at_188) rfl rfl k) ?_
      refine GoW.step (T' := T135) (g' := (mkF m 191 #[.val (.int p0), .val (.int p1), .val (.int n), .val (.ref ra), .val (.int (0 : Int32)), .val (.long (own_L n)), .second, .val (.int (Int32.ofNat (own_nd (own_M n)))), .val (.int (0 : Int32)), .val (.int (1 : Int32)), .val (.int (Int32.ofNat NN)), .unset, .unset] [(.int (0 : Int32)), (.ref ra)])) (fun _ k => XS.iload X135.here hx rfl (hb hby at_189) rfl  k) ?_
      refine GoW.step (T' := T135) (g' := (mkF m 193 #[.val (.int p0), .val (.int p1), .val (.int n), .val (.ref ra), .val (.int (0 : Int32)), .val (.long (own_L n)), .second, .val (.int (Int32.ofNat (own_nd (own_M n)))), .val (.int (0 : Int32)), .val (.int (1 : Int32)), .val (.int (Int32.ofNat NN)), .unset, .unset] [(.int (Int32.ofNat (own_nd (own_M n)))), (.int (0 : Int32)), (.ref ra)])) (fun _ k => XS.iload X135.here hx rfl (hb hby at_191) rfl  k) ?_
      refine GoW.step (T' := T135) (g' := (mkF m 195 #[.val (.int p0), .val (.int p1), .val (.int n), .val (.ref ra), .val (.int (0 : Int32)), .val (.long (own_L n)), .second, .val (.int (Int32.ofNat (own_nd (own_M n)))), .val (.int (0 : Int32)), .val (.int (1 : Int32)), .val (.int (Int32.ofNat NN)), .unset, .unset] [(.long (own_L n)), (.int (Int32.ofNat (own_nd (own_M n)))), (.int (0 : Int32)), (.ref ra)])) (fun _ k => XS.lload X135.here hx rfl (hb hby at_193) rfl  k) ?_
      refine GoW.step (T' := T135) (g' := (mkF m 196 #[.val (.int p0), .val (.int p1), .val (.int n), .val (.ref ra), .val (.int (0 : Int32)), .val (.long (own_L n)), .second, .val (.int (Int32.ofNat (own_nd (own_M n)))), .val (.int (0 : Int32)), .val (.int (1 : Int32)), .val (.int (Int32.ofNat NN)), .unset, .unset] [(.int (4 : Int32)), (.long (own_L n)), (.int (Int32.ofNat (own_nd (own_M n)))), (.int (0 : Int32)), (.ref ra)])) (fun _ k => XS.iconst X135.here hx rfl (hb hby at_195) k) ?_
      refine GoW.step (T' := T135) (g' := (mkF m 199 #[.val (.int p0), .val (.int p1), .val (.int n), .val (.ref ra), .val (.int (0 : Int32)), .val (.long (own_L n)), .second, .val (.int (Int32.ofNat (own_nd (own_M n)))), .val (.int (0 : Int32)), .val (.int (1 : Int32)), .val (.int (Int32.ofNat NN)), .unset, .unset] [(.long (10000 : Int64)), (.int (4 : Int32)), (.long (own_L n)), (.int (Int32.ofNat (own_nd (own_M n)))), (.int (0 : Int32)), (.ref ra)])) (fun _ k => Jvm.Stand.ldc2J (g := (mkF m 196 #[.val (.int p0), .val (.int p1), .val (.int n), .val (.ref ra), .val (.int (0 : Int32)), .val (.long (own_L n)), .second, .val (.int (Int32.ofNat (own_nd (own_M n)))), .val (.int (0 : Int32)), .val (.int (1 : Int32)), .val (.int (Int32.ofNat NN)), .unset, .unset] [(.int (4 : Int32)), (.long (own_L n)), (.int (Int32.ofNat (own_nd (own_M n)))), (.int (0 : Int32)), (.ref ra)])) X135 hx hown (mvT hZ (hwi hw 183 rfl)) rfl (hb hby at_196) k) ?_
      obtain ⟨_, _, ⟨T136, L136, k136, n136⟩, -, X136, ⟨Lc136, hQ136, l136, y136, z136⟩, st136⟩ := Jvm.LawKit.callS X135 hx (y := (⟨"com/example/noteform/noteform/io/FiguresDaysPinLaw", "digitAt", "(Ljava/lang/String;IIJIJ)Z"⟩ : MethodName)) hown (mvT hZ (hwi hw 156 rfl)) (mvT hZ (hwi hw 157 rfl)) (mvT hZ (hwi hw 152 rfl)) (mvT hZ (hwi hw 158 rfl)) (by decide) (backOf (W := 0) (Q := Qret (some (.int (1 : Int32))) T101.heap n0) (own_da l Z a0 hw [] ra n (0 : Int32) (4 : Int32) (10000 : Int64) 0 4 NN gc rb rk tv gf T101.heap n0 Z101 F102 hgc E101 C101 B101 V101 F107 cgf rfl rfl (by decide) (by decide) (by decide) dg (by omega) (by omega)) hZ (hwi hw 158 rfl) (hwi hw 152 rfl) (by decide) (by decide)) (g := (mkF m 199 #[.val (.int p0), .val (.int p1), .val (.int n), .val (.ref ra), .val (.int (0 : Int32)), .val (.long (own_L n)), .second, .val (.int (Int32.ofNat (own_nd (own_M n)))), .val (.int (0 : Int32)), .val (.int (1 : Int32)), .val (.int (Int32.ofNat NN)), .unset, .unset] [(.long (10000 : Int64)), (.int (4 : Int32)), (.long (own_L n)), (.int (Int32.ofNat (own_nd (own_M n)))), (.int (0 : Int32)), (.ref ra)])) rfl (by rw [hml]; rfl) (argsL := [(.ref ra), (.int (0 : Int32)), (.int (Int32.ofNat (own_nd (own_M n)))), (.long (own_L n)), (.int (4 : Int32)), (.long (10000 : Int64))]) (rest := []) (lenOf own_pd27 rfl) rfl (by show 2 * 0 + _ ≤ _; exact Nat.le_of_eq rfl) (hb hby at_199) (fun _ _ => ⟨rfl, eh135, (by dsimp only [Pt.cells, Pt.slots, room_1]; omega), (by dsimp only [Pt.cells, Pt.slots, room_1]; omega)⟩)
      dsimp only [Pt.U, Pt.locs, Pt.cells, Pt.slots] at X136 l136 y136 z136 st136 hQ136
      subst l136 y136 z136
      obtain ⟨rfl, N136q, eh136⟩ := hQ136
      have N136 := Fr.app N135 N136q
      refine GoW.step (T' := T136) (g' := (mkF m 202 #[.val (.int p0), .val (.int p1), .val (.int n), .val (.ref ra), .val (.int (0 : Int32)), .val (.long (own_L n)), .second, .val (.int (Int32.ofNat (own_nd (own_M n)))), .val (.int (0 : Int32)), .val (.int (1 : Int32)), .val (.int (Int32.ofNat NN)), .unset, .unset] [(.int (1 : Int32))])) (st136) ?_
      refine GoW.step (T' := T136) (g' := (mkF m 205 #[.val (.int p0), .val (.int p1), .val (.int n), .val (.ref ra), .val (.int (0 : Int32)), .val (.long (own_L n)), .second, .val (.int (Int32.ofNat (own_nd (own_M n)))), .val (.int (0 : Int32)), .val (.int (1 : Int32)), .val (.int (Int32.ofNat NN)), .unset, .unset] [])) (fun _ k => XS.ifNo X136.here hx rfl (hb hby at_202) rfl ((if0 _ _).trans (feq (by decide : ¬ ((1 : Int32) = (0 : Int32)))).1) k) ?_
      refine GoW.step (T' := T136) (g' := (mkF m 206 #[.val (.int p0), .val (.int p1), .val (.int n), .val (.ref ra), .val (.int (0 : Int32)), .val (.long (own_L n)), .second, .val (.int (Int32.ofNat (own_nd (own_M n)))), .val (.int (0 : Int32)), .val (.int (1 : Int32)), .val (.int (Int32.ofNat NN)), .unset, .unset] [(.ref ra)])) (fun _ k => XS.aloadN X136.here hx rfl (hb hby at_205) rfl rfl k) ?_
      refine GoW.step (T' := T136) (g' := (mkF m 208 #[.val (.int p0), .val (.int p1), .val (.int n), .val (.ref ra), .val (.int (0 : Int32)), .val (.long (own_L n)), .second, .val (.int (Int32.ofNat (own_nd (own_M n)))), .val (.int (0 : Int32)), .val (.int (1 : Int32)), .val (.int (Int32.ofNat NN)), .unset, .unset] [(.int (0 : Int32)), (.ref ra)])) (fun _ k => XS.iload X136.here hx rfl (hb hby at_206) rfl  k) ?_
      refine GoW.step (T' := T136) (g' := (mkF m 210 #[.val (.int p0), .val (.int p1), .val (.int n), .val (.ref ra), .val (.int (0 : Int32)), .val (.long (own_L n)), .second, .val (.int (Int32.ofNat (own_nd (own_M n)))), .val (.int (0 : Int32)), .val (.int (1 : Int32)), .val (.int (Int32.ofNat NN)), .unset, .unset] [(.int (Int32.ofNat (own_nd (own_M n)))), (.int (0 : Int32)), (.ref ra)])) (fun _ k => XS.iload X136.here hx rfl (hb hby at_208) rfl  k) ?_
      refine GoW.step (T' := T136) (g' := (mkF m 212 #[.val (.int p0), .val (.int p1), .val (.int n), .val (.ref ra), .val (.int (0 : Int32)), .val (.long (own_L n)), .second, .val (.int (Int32.ofNat (own_nd (own_M n)))), .val (.int (0 : Int32)), .val (.int (1 : Int32)), .val (.int (Int32.ofNat NN)), .unset, .unset] [(.long (own_L n)), (.int (Int32.ofNat (own_nd (own_M n)))), (.int (0 : Int32)), (.ref ra)])) (fun _ k => XS.lload X136.here hx rfl (hb hby at_210) rfl  k) ?_
      refine GoW.step (T' := T136) (g' := (mkF m 213 #[.val (.int p0), .val (.int p1), .val (.int n), .val (.ref ra), .val (.int (0 : Int32)), .val (.long (own_L n)), .second, .val (.int (Int32.ofNat (own_nd (own_M n)))), .val (.int (0 : Int32)), .val (.int (1 : Int32)), .val (.int (Int32.ofNat NN)), .unset, .unset] [(.int (5 : Int32)), (.long (own_L n)), (.int (Int32.ofNat (own_nd (own_M n)))), (.int (0 : Int32)), (.ref ra)])) (fun _ k => XS.iconst X136.here hx rfl (hb hby at_212) k) ?_
      refine GoW.step (T' := T136) (g' := (mkF m 216 #[.val (.int p0), .val (.int p1), .val (.int n), .val (.ref ra), .val (.int (0 : Int32)), .val (.long (own_L n)), .second, .val (.int (Int32.ofNat (own_nd (own_M n)))), .val (.int (0 : Int32)), .val (.int (1 : Int32)), .val (.int (Int32.ofNat NN)), .unset, .unset] [(.long (100000 : Int64)), (.int (5 : Int32)), (.long (own_L n)), (.int (Int32.ofNat (own_nd (own_M n)))), (.int (0 : Int32)), (.ref ra)])) (fun _ k => Jvm.Stand.ldc2J (g := (mkF m 213 #[.val (.int p0), .val (.int p1), .val (.int n), .val (.ref ra), .val (.int (0 : Int32)), .val (.long (own_L n)), .second, .val (.int (Int32.ofNat (own_nd (own_M n)))), .val (.int (0 : Int32)), .val (.int (1 : Int32)), .val (.int (Int32.ofNat NN)), .unset, .unset] [(.int (5 : Int32)), (.long (own_L n)), (.int (Int32.ofNat (own_nd (own_M n)))), (.int (0 : Int32)), (.ref ra)])) X136 hx hown (mvT hZ (hwi hw 184 rfl)) rfl (hb hby at_213) k) ?_
      obtain ⟨_, _, ⟨T137, L137, k137, n137⟩, -, X137, ⟨Lc137, hQ137, l137, y137, z137⟩, st137⟩ := Jvm.LawKit.callS X136 hx (y := (⟨"com/example/noteform/noteform/io/FiguresDaysPinLaw", "digitAt", "(Ljava/lang/String;IIJIJ)Z"⟩ : MethodName)) hown (mvT hZ (hwi hw 156 rfl)) (mvT hZ (hwi hw 157 rfl)) (mvT hZ (hwi hw 152 rfl)) (mvT hZ (hwi hw 158 rfl)) (by decide) (backOf (W := 0) (Q := Qret (some (.int (1 : Int32))) T101.heap n0) (own_da l Z a0 hw [] ra n (0 : Int32) (5 : Int32) (100000 : Int64) 0 5 NN gc rb rk tv gf T101.heap n0 Z101 F102 hgc E101 C101 B101 V101 F107 cgf rfl rfl (by decide) (by decide) (by decide) dg (by omega) (by omega)) hZ (hwi hw 158 rfl) (hwi hw 152 rfl) (by decide) (by decide)) (g := (mkF m 216 #[.val (.int p0), .val (.int p1), .val (.int n), .val (.ref ra), .val (.int (0 : Int32)), .val (.long (own_L n)), .second, .val (.int (Int32.ofNat (own_nd (own_M n)))), .val (.int (0 : Int32)), .val (.int (1 : Int32)), .val (.int (Int32.ofNat NN)), .unset, .unset] [(.long (100000 : Int64)), (.int (5 : Int32)), (.long (own_L n)), (.int (Int32.ofNat (own_nd (own_M n)))), (.int (0 : Int32)), (.ref ra)])) rfl (by rw [hml]; rfl) (argsL := [(.ref ra), (.int (0 : Int32)), (.int (Int32.ofNat (own_nd (own_M n)))), (.long (own_L n)), (.int (5 : Int32)), (.long (100000 : Int64))]) (rest := []) (lenOf own_pd27 rfl) rfl (by show 2 * 0 + _ ≤ _; exact Nat.le_of_eq rfl) (hb hby at_216) (fun _ _ => ⟨rfl, eh136, (by dsimp only [Pt.cells, Pt.slots, room_1]; omega), (by dsimp only [Pt.cells, Pt.slots, room_1]; omega)⟩)
      dsimp only [Pt.U, Pt.locs, Pt.cells, Pt.slots] at X137 l137 y137 z137 st137 hQ137
      subst l137 y137 z137
      obtain ⟨rfl, N137q, eh137⟩ := hQ137
      have N137 := Fr.app N136 N137q
      refine GoW.step (T' := T137) (g' := (mkF m 219 #[.val (.int p0), .val (.int p1), .val (.int n), .val (.ref ra), .val (.int (0 : Int32)), .val (.long (own_L n)), .second, .val (.int (Int32.ofNat (own_nd (own_M n)))), .val (.int (0 : Int32)), .val (.int (1 : Int32)), .val (.int (Int32.ofNat NN)), .unset, .unset] [(.int (1 : Int32))])) (st137) ?_
      refine GoW.step (T' := T137) (g' := (mkF m 222 #[.val (.int p0), .val (.int p1), .val (.int n), .val (.ref ra), .val (.int (0 : Int32)), .val (.long (own_L n)), .second, .val (.int (Int32.ofNat (own_nd (own_M n)))), .val (.int (0 : Int32)), .val (.int (1 : Int32)), .val (.int (Int32.ofNat NN)), .unset, .unset] [])) (fun _ k => XS.ifNo X137.here hx rfl (hb hby at_219) rfl ((if0 _ _).trans (feq (by decide : ¬ ((1 : Int32) = (0 : Int32)))).1) k) ?_
      refine GoW.step (T' := T137) (g' := (mkF m 223 #[.val (.int p0), .val (.int p1), .val (.int n), .val (.ref ra), .val (.int (0 : Int32)), .val (.long (own_L n)), .second, .val (.int (Int32.ofNat (own_nd (own_M n)))), .val (.int (0 : Int32)), .val (.int (1 : Int32)), .val (.int (Int32.ofNat NN)), .unset, .unset] [(.ref ra)])) (fun _ k => XS.aloadN X137.here hx rfl (hb hby at_222) rfl rfl k) ?_
      refine GoW.step (T' := T137) (g' := (mkF m 225 #[.val (.int p0), .val (.int p1), .val (.int n), .val (.ref ra), .val (.int (0 : Int32)), .val (.long (own_L n)), .second, .val (.int (Int32.ofNat (own_nd (own_M n)))), .val (.int (0 : Int32)), .val (.int (1 : Int32)), .val (.int (Int32.ofNat NN)), .unset, .unset] [(.int (0 : Int32)), (.ref ra)])) (fun _ k => XS.iload X137.here hx rfl (hb hby at_223) rfl  k) ?_
      refine GoW.step (T' := T137) (g' := (mkF m 227 #[.val (.int p0), .val (.int p1), .val (.int n), .val (.ref ra), .val (.int (0 : Int32)), .val (.long (own_L n)), .second, .val (.int (Int32.ofNat (own_nd (own_M n)))), .val (.int (0 : Int32)), .val (.int (1 : Int32)), .val (.int (Int32.ofNat NN)), .unset, .unset] [(.int (Int32.ofNat (own_nd (own_M n)))), (.int (0 : Int32)), (.ref ra)])) (fun _ k => XS.iload X137.here hx rfl (hb hby at_225) rfl  k) ?_
      refine GoW.step (T' := T137) (g' := (mkF m 229 #[.val (.int p0), .val (.int p1), .val (.int n), .val (.ref ra), .val (.int (0 : Int32)), .val (.long (own_L n)), .second, .val (.int (Int32.ofNat (own_nd (own_M n)))), .val (.int (0 : Int32)), .val (.int (1 : Int32)), .val (.int (Int32.ofNat NN)), .unset, .unset] [(.long (own_L n)), (.int (Int32.ofNat (own_nd (own_M n)))), (.int (0 : Int32)), (.ref ra)])) (fun _ k => XS.lload X137.here hx rfl (hb hby at_227) rfl  k) ?_
      refine GoW.step (T' := T137) (g' := (mkF m 231 #[.val (.int p0), .val (.int p1), .val (.int n), .val (.ref ra), .val (.int (0 : Int32)), .val (.long (own_L n)), .second, .val (.int (Int32.ofNat (own_nd (own_M n)))), .val (.int (0 : Int32)), .val (.int (1 : Int32)), .val (.int (Int32.ofNat NN)), .unset, .unset] [(.int (6 : Int32)), (.long (own_L n)), (.int (Int32.ofNat (own_nd (own_M n)))), (.int (0 : Int32)), (.ref ra)])) (fun _ k => XS.bipush X137.here hx rfl (hb hby at_229) k) ?_
      refine GoW.step (T' := T137) (g' := (mkF m 234 #[.val (.int p0), .val (.int p1), .val (.int n), .val (.ref ra), .val (.int (0 : Int32)), .val (.long (own_L n)), .second, .val (.int (Int32.ofNat (own_nd (own_M n)))), .val (.int (0 : Int32)), .val (.int (1 : Int32)), .val (.int (Int32.ofNat NN)), .unset, .unset] [(.long (1000000 : Int64)), (.int (6 : Int32)), (.long (own_L n)), (.int (Int32.ofNat (own_nd (own_M n)))), (.int (0 : Int32)), (.ref ra)])) (fun _ k => Jvm.Stand.ldc2J (g := (mkF m 231 #[.val (.int p0), .val (.int p1), .val (.int n), .val (.ref ra), .val (.int (0 : Int32)), .val (.long (own_L n)), .second, .val (.int (Int32.ofNat (own_nd (own_M n)))), .val (.int (0 : Int32)), .val (.int (1 : Int32)), .val (.int (Int32.ofNat NN)), .unset, .unset] [(.int (6 : Int32)), (.long (own_L n)), (.int (Int32.ofNat (own_nd (own_M n)))), (.int (0 : Int32)), (.ref ra)])) X137 hx hown (mvT hZ (hwi hw 185 rfl)) rfl (hb hby at_231) k) ?_
      obtain ⟨_, _, ⟨T138, L138, k138, n138⟩, -, X138, ⟨Lc138, hQ138, l138, y138, z138⟩, st138⟩ := Jvm.LawKit.callS X137 hx (y := (⟨"com/example/noteform/noteform/io/FiguresDaysPinLaw", "digitAt", "(Ljava/lang/String;IIJIJ)Z"⟩ : MethodName)) hown (mvT hZ (hwi hw 156 rfl)) (mvT hZ (hwi hw 157 rfl)) (mvT hZ (hwi hw 152 rfl)) (mvT hZ (hwi hw 158 rfl)) (by decide) (backOf (W := 0) (Q := Qret (some (.int (1 : Int32))) T101.heap n0) (own_da l Z a0 hw [] ra n (0 : Int32) (6 : Int32) (1000000 : Int64) 0 6 NN gc rb rk tv gf T101.heap n0 Z101 F102 hgc E101 C101 B101 V101 F107 cgf rfl rfl (by decide) (by decide) (by decide) dg (by omega) (by omega)) hZ (hwi hw 158 rfl) (hwi hw 152 rfl) (by decide) (by decide)) (g := (mkF m 234 #[.val (.int p0), .val (.int p1), .val (.int n), .val (.ref ra), .val (.int (0 : Int32)), .val (.long (own_L n)), .second, .val (.int (Int32.ofNat (own_nd (own_M n)))), .val (.int (0 : Int32)), .val (.int (1 : Int32)), .val (.int (Int32.ofNat NN)), .unset, .unset] [(.long (1000000 : Int64)), (.int (6 : Int32)), (.long (own_L n)), (.int (Int32.ofNat (own_nd (own_M n)))), (.int (0 : Int32)), (.ref ra)])) rfl (by rw [hml]; rfl) (argsL := [(.ref ra), (.int (0 : Int32)), (.int (Int32.ofNat (own_nd (own_M n)))), (.long (own_L n)), (.int (6 : Int32)), (.long (1000000 : Int64))]) (rest := []) (lenOf own_pd27 rfl) rfl (by show 2 * 0 + _ ≤ _; exact Nat.le_of_eq rfl) (hb hby at_234) (fun _ _ => ⟨rfl, eh137, (by dsimp only [Pt.cells, Pt.slots, room_1]; omega), (by dsimp only [Pt.cells, Pt.slots, room_1]; omega)⟩)
      dsimp only [Pt.U, Pt.locs, Pt.cells, Pt.slots] at X138 l138 y138 z138 st138 hQ138
      subst l138 y138 z138
      obtain ⟨rfl, N138q, eh138⟩ := hQ138
      have N138 := Fr.app N137 N138q
      refine GoW.step (T' := T138) (g' := (mkF m 237 #[.val (.int p0), .val (.int p1), .val (.int n), .val (.ref ra), .val (.int (0 : Int32)), .val (.long (own_L n)), .second, .val (.int (Int32.ofNat (own_nd (own_M n)))), .val (.int (0 : Int32)), .val (.int (1 : Int32)), .val (.int (Int32.ofNat NN)), .unset, .unset] [(.int (1 : Int32))])) (st138) ?_
      refine GoW.step (T' := T138) (g' := (mkF m 240 #[.val (.int p0), .val (.int p1), .val (.int n), .val (.ref ra), .val (.int (0 : Int32)), .val (.long (own_L n)), .second, .val (.int (Int32.ofNat (own_nd (own_M n)))), .val (.int (0 : Int32)), .val (.int (1 : Int32)), .val (.int (Int32.ofNat NN)), .unset, .unset] [])) (fun _ k => XS.ifNo X138.here hx rfl (hb hby at_237) rfl ((if0 _ _).trans (feq (by decide : ¬ ((1 : Int32) = (0 : Int32)))).1) k) ?_
      refine GoW.step (T' := T138) (g' := (mkF m 241 #[.val (.int p0), .val (.int p1), .val (.int n), .val (.ref ra), .val (.int (0 : Int32)), .val (.long (own_L n)), .second, .val (.int (Int32.ofNat (own_nd (own_M n)))), .val (.int (0 : Int32)), .val (.int (1 : Int32)), .val (.int (Int32.ofNat NN)), .unset, .unset] [(.ref ra)])) (fun _ k => XS.aloadN X138.here hx rfl (hb hby at_240) rfl rfl k) ?_
      refine GoW.step (T' := T138) (g' := (mkF m 243 #[.val (.int p0), .val (.int p1), .val (.int n), .val (.ref ra), .val (.int (0 : Int32)), .val (.long (own_L n)), .second, .val (.int (Int32.ofNat (own_nd (own_M n)))), .val (.int (0 : Int32)), .val (.int (1 : Int32)), .val (.int (Int32.ofNat NN)), .unset, .unset] [(.int (0 : Int32)), (.ref ra)])) (fun _ k => XS.iload X138.here hx rfl (hb hby at_241) rfl  k) ?_
      refine GoW.step (T' := T138) (g' := (mkF m 245 #[.val (.int p0), .val (.int p1), .val (.int n), .val (.ref ra), .val (.int (0 : Int32)), .val (.long (own_L n)), .second, .val (.int (Int32.ofNat (own_nd (own_M n)))), .val (.int (0 : Int32)), .val (.int (1 : Int32)), .val (.int (Int32.ofNat NN)), .unset, .unset] [(.int (Int32.ofNat (own_nd (own_M n)))), (.int (0 : Int32)), (.ref ra)])) (fun _ k => XS.iload X138.here hx rfl (hb hby at_243) rfl  k) ?_
      refine GoW.step (T' := T138) (g' := (mkF m 247 #[.val (.int p0), .val (.int p1), .val (.int n), .val (.ref ra), .val (.int (0 : Int32)), .val (.long (own_L n)), .second, .val (.int (Int32.ofNat (own_nd (own_M n)))), .val (.int (0 : Int32)), .val (.int (1 : Int32)), .val (.int (Int32.ofNat NN)), .unset, .unset] [(.long (own_L n)), (.int (Int32.ofNat (own_nd (own_M n)))), (.int (0 : Int32)), (.ref ra)])) (fun _ k => XS.lload X138.here hx rfl (hb hby at_245) rfl  k) ?_
      refine GoW.step (T' := T138) (g' := (mkF m 249 #[.val (.int p0), .val (.int p1), .val (.int n), .val (.ref ra), .val (.int (0 : Int32)), .val (.long (own_L n)), .second, .val (.int (Int32.ofNat (own_nd (own_M n)))), .val (.int (0 : Int32)), .val (.int (1 : Int32)), .val (.int (Int32.ofNat NN)), .unset, .unset] [(.int (7 : Int32)), (.long (own_L n)), (.int (Int32.ofNat (own_nd (own_M n)))), (.int (0 : Int32)), (.ref ra)])) (fun _ k => XS.bipush X138.here hx rfl (hb hby at_247) k) ?_
      refine GoW.step (T' := T138) (g' := (mkF m 252 #[.val (.int p0), .val (.int p1), .val (.int n), .val (.ref ra), .val (.int (0 : Int32)), .val (.long (own_L n)), .second, .val (.int (Int32.ofNat (own_nd (own_M n)))), .val (.int (0 : Int32)), .val (.int (1 : Int32)), .val (.int (Int32.ofNat NN)), .unset, .unset] [(.long (10000000 : Int64)), (.int (7 : Int32)), (.long (own_L n)), (.int (Int32.ofNat (own_nd (own_M n)))), (.int (0 : Int32)), (.ref ra)])) (fun _ k => Jvm.Stand.ldc2J (g := (mkF m 249 #[.val (.int p0), .val (.int p1), .val (.int n), .val (.ref ra), .val (.int (0 : Int32)), .val (.long (own_L n)), .second, .val (.int (Int32.ofNat (own_nd (own_M n)))), .val (.int (0 : Int32)), .val (.int (1 : Int32)), .val (.int (Int32.ofNat NN)), .unset, .unset] [(.int (7 : Int32)), (.long (own_L n)), (.int (Int32.ofNat (own_nd (own_M n)))), (.int (0 : Int32)), (.ref ra)])) X138 hx hown (mvT hZ (hwi hw 186 rfl)) rfl (hb hby at_249) k) ?_
      obtain ⟨_, _, ⟨T139, L139, k139, n139⟩, -, X139, ⟨Lc139, hQ139, l139, y139, z139⟩, st139⟩ := Jvm.LawKit.callS X138 hx (y := (⟨"com/example/noteform/noteform/io/FiguresDaysPinLaw", "digitAt", "(Ljava/lang/String;IIJIJ)Z"⟩ : MethodName)) hown (mvT hZ (hwi hw 156 rfl)) (mvT hZ (hwi hw 157 rfl)) (mvT hZ (hwi hw 152 rfl)) (mvT hZ (hwi hw 158 rfl)) (by decide) (backOf (W := 0) (Q := Qret (some (.int (1 : Int32))) T101.heap n0) (own_da l Z a0 hw [] ra n (0 : Int32) (7 : Int32) (10000000 : Int64) 0 7 NN gc rb rk tv gf T101.heap n0 Z101 F102 hgc E101 C101 B101 V101 F107 cgf rfl rfl (by decide) (by decide) (by decide) dg (by omega) (by omega)) hZ (hwi hw 158 rfl) (hwi hw 152 rfl) (by decide) (by decide)) (g := (mkF m 252 #[.val (.int p0), .val (.int p1), .val (.int n), .val (.ref ra), .val (.int (0 : Int32)), .val (.long (own_L n)), .second, .val (.int (Int32.ofNat (own_nd (own_M n)))), .val (.int (0 : Int32)), .val (.int (1 : Int32)), .val (.int (Int32.ofNat NN)), .unset, .unset] [(.long (10000000 : Int64)), (.int (7 : Int32)), (.long (own_L n)), (.int (Int32.ofNat (own_nd (own_M n)))), (.int (0 : Int32)), (.ref ra)])) rfl (by rw [hml]; rfl) (argsL := [(.ref ra), (.int (0 : Int32)), (.int (Int32.ofNat (own_nd (own_M n)))), (.long (own_L n)), (.int (7 : Int32)), (.long (10000000 : Int64))]) (rest := []) (lenOf own_pd27 rfl) rfl (by show 2 * 0 + _ ≤ _; exact Nat.le_of_eq rfl) (hb hby at_252) (fun _ _ => ⟨rfl, eh138, (by dsimp only [Pt.cells, Pt.slots, room_1]; omega), (by dsimp only [Pt.cells, Pt.slots, room_1]; omega)⟩)
      dsimp only [Pt.U, Pt.locs, Pt.cells, Pt.slots] at X139 l139 y139 z139 st139 hQ139
      subst l139 y139 z139
      obtain ⟨rfl, N139q, eh139⟩ := hQ139
      have N139 := Fr.app N138 N139q
      refine GoW.step (T' := T139) (g' := (mkF m 255 #[.val (.int p0), .val (.int p1), .val (.int n), .val (.ref ra), .val (.int (0 : Int32)), .val (.long (own_L n)), .second, .val (.int (Int32.ofNat (own_nd (own_M n)))), .val (.int (0 : Int32)), .val (.int (1 : Int32)), .val (.int (Int32.ofNat NN)), .unset, .unset] [(.int (1 : Int32))])) (st139) ?_
      refine GoW.step (T' := T139) (g' := (mkF m 258 #[.val (.int p0), .val (.int p1), .val (.int n), .val (.ref ra), .val (.int (0 : Int32)), .val (.long (own_L n)), .second, .val (.int (Int32.ofNat (own_nd (own_M n)))), .val (.int (0 : Int32)), .val (.int (1 : Int32)), .val (.int (Int32.ofNat NN)), .unset, .unset] [])) (fun _ k => XS.ifNo X139.here hx rfl (hb hby at_255) rfl ((if0 _ _).trans (feq (by decide : ¬ ((1 : Int32) = (0 : Int32)))).1) k) ?_
      refine GoW.step (T' := T139) (g' := (mkF m 259 #[.val (.int p0), .val (.int p1), .val (.int n), .val (.ref ra), .val (.int (0 : Int32)), .val (.long (own_L n)), .second, .val (.int (Int32.ofNat (own_nd (own_M n)))), .val (.int (0 : Int32)), .val (.int (1 : Int32)), .val (.int (Int32.ofNat NN)), .unset, .unset] [(.ref ra)])) (fun _ k => XS.aloadN X139.here hx rfl (hb hby at_258) rfl rfl k) ?_
      refine GoW.step (T' := T139) (g' := (mkF m 261 #[.val (.int p0), .val (.int p1), .val (.int n), .val (.ref ra), .val (.int (0 : Int32)), .val (.long (own_L n)), .second, .val (.int (Int32.ofNat (own_nd (own_M n)))), .val (.int (0 : Int32)), .val (.int (1 : Int32)), .val (.int (Int32.ofNat NN)), .unset, .unset] [(.int (0 : Int32)), (.ref ra)])) (fun _ k => XS.iload X139.here hx rfl (hb hby at_259) rfl  k) ?_
      refine GoW.step (T' := T139) (g' := (mkF m 263 #[.val (.int p0), .val (.int p1), .val (.int n), .val (.ref ra), .val (.int (0 : Int32)), .val (.long (own_L n)), .second, .val (.int (Int32.ofNat (own_nd (own_M n)))), .val (.int (0 : Int32)), .val (.int (1 : Int32)), .val (.int (Int32.ofNat NN)), .unset, .unset] [(.int (Int32.ofNat (own_nd (own_M n)))), (.int (0 : Int32)), (.ref ra)])) (fun _ k => XS.iload X139.here hx rfl (hb hby at_261) rfl  k) ?_
      refine GoW.step (T' := T139) (g' := (mkF m 265 #[.val (.int p0), .val (.int p1), .val (.int n), .val (.ref ra), .val (.int (0 : Int32)), .val (.long (own_L n)), .second, .val (.int (Int32.ofNat (own_nd (own_M n)))), .val (.int (0 : Int32)), .val (.int (1 : Int32)), .val (.int (Int32.ofNat NN)), .unset, .unset] [(.long (own_L n)), (.int (Int32.ofNat (own_nd (own_M n)))), (.int (0 : Int32)), (.ref ra)])) (fun _ k => XS.lload X139.here hx rfl (hb hby at_263) rfl  k) ?_
      refine GoW.step (T' := T139) (g' := (mkF m 267 #[.val (.int p0), .val (.int p1), .val (.int n), .val (.ref ra), .val (.int (0 : Int32)), .val (.long (own_L n)), .second, .val (.int (Int32.ofNat (own_nd (own_M n)))), .val (.int (0 : Int32)), .val (.int (1 : Int32)), .val (.int (Int32.ofNat NN)), .unset, .unset] [(.int (8 : Int32)), (.long (own_L n)), (.int (Int32.ofNat (own_nd (own_M n)))), (.int (0 : Int32)), (.ref ra)])) (fun _ k => XS.bipush X139.here hx rfl (hb hby at_265) k) ?_
      refine GoW.step (T' := T139) (g' := (mkF m 270 #[.val (.int p0), .val (.int p1), .val (.int n), .val (.ref ra), .val (.int (0 : Int32)), .val (.long (own_L n)), .second, .val (.int (Int32.ofNat (own_nd (own_M n)))), .val (.int (0 : Int32)), .val (.int (1 : Int32)), .val (.int (Int32.ofNat NN)), .unset, .unset] [(.long (100000000 : Int64)), (.int (8 : Int32)), (.long (own_L n)), (.int (Int32.ofNat (own_nd (own_M n)))), (.int (0 : Int32)), (.ref ra)])) (fun _ k => Jvm.Stand.ldc2J (g := (mkF m 267 #[.val (.int p0), .val (.int p1), .val (.int n), .val (.ref ra), .val (.int (0 : Int32)), .val (.long (own_L n)), .second, .val (.int (Int32.ofNat (own_nd (own_M n)))), .val (.int (0 : Int32)), .val (.int (1 : Int32)), .val (.int (Int32.ofNat NN)), .unset, .unset] [(.int (8 : Int32)), (.long (own_L n)), (.int (Int32.ofNat (own_nd (own_M n)))), (.int (0 : Int32)), (.ref ra)])) X139 hx hown (mvT hZ (hwi hw 187 rfl)) rfl (hb hby at_267) k) ?_
      obtain ⟨_, _, ⟨T140, L140, k140, n140⟩, -, X140, ⟨Lc140, hQ140, l140, y140, z140⟩, st140⟩ := Jvm.LawKit.callS X139 hx (y := (⟨"com/example/noteform/noteform/io/FiguresDaysPinLaw", "digitAt", "(Ljava/lang/String;IIJIJ)Z"⟩ : MethodName)) hown (mvT hZ (hwi hw 156 rfl)) (mvT hZ (hwi hw 157 rfl)) (mvT hZ (hwi hw 152 rfl)) (mvT hZ (hwi hw 158 rfl)) (by decide) (backOf (W := 0) (Q := Qret (some (.int (1 : Int32))) T101.heap n0) (own_da l Z a0 hw [] ra n (0 : Int32) (8 : Int32) (100000000 : Int64) 0 8 NN gc rb rk tv gf T101.heap n0 Z101 F102 hgc E101 C101 B101 V101 F107 cgf rfl rfl (by decide) (by decide) (by decide) dg (by omega) (by omega)) hZ (hwi hw 158 rfl) (hwi hw 152 rfl) (by decide) (by decide)) (g := (mkF m 270 #[.val (.int p0), .val (.int p1), .val (.int n), .val (.ref ra), .val (.int (0 : Int32)), .val (.long (own_L n)), .second, .val (.int (Int32.ofNat (own_nd (own_M n)))), .val (.int (0 : Int32)), .val (.int (1 : Int32)), .val (.int (Int32.ofNat NN)), .unset, .unset] [(.long (100000000 : Int64)), (.int (8 : Int32)), (.long (own_L n)), (.int (Int32.ofNat (own_nd (own_M n)))), (.int (0 : Int32)), (.ref ra)])) rfl (by rw [hml]; rfl) (argsL := [(.ref ra), (.int (0 : Int32)), (.int (Int32.ofNat (own_nd (own_M n)))), (.long (own_L n)), (.int (8 : Int32)), (.long (100000000 : Int64))]) (rest := []) (lenOf own_pd27 rfl) rfl (by show 2 * 0 + _ ≤ _; exact Nat.le_of_eq rfl) (hb hby at_270) (fun _ _ => ⟨rfl, eh139, (by dsimp only [Pt.cells, Pt.slots, room_1]; omega), (by dsimp only [Pt.cells, Pt.slots, room_1]; omega)⟩)
      dsimp only [Pt.U, Pt.locs, Pt.cells, Pt.slots] at X140 l140 y140 z140 st140 hQ140
      subst l140 y140 z140
      obtain ⟨rfl, N140q, eh140⟩ := hQ140
      have N140 := Fr.app N139 N140q
      refine GoW.step (T' := T140) (g' := (mkF m 273 #[.val (.int p0), .val (.int p1), .val (.int n), .val (.ref ra), .val (.int (0 : Int32)), .val (.long (own_L n)), .second, .val (.int (Int32.ofNat (own_nd (own_M n)))), .val (.int (0 : Int32)), .val (.int (1 : Int32)), .val (.int (Int32.ofNat NN)), .unset, .unset] [(.int (1 : Int32))])) (st140) ?_
      refine GoW.step (T' := T140) (g' := (mkF m 276 #[.val (.int p0), .val (.int p1), .val (.int n), .val (.ref ra), .val (.int (0 : Int32)), .val (.long (own_L n)), .second, .val (.int (Int32.ofNat (own_nd (own_M n)))), .val (.int (0 : Int32)), .val (.int (1 : Int32)), .val (.int (Int32.ofNat NN)), .unset, .unset] [])) (fun _ k => XS.ifNo X140.here hx rfl (hb hby at_273) rfl ((if0 _ _).trans (feq (by decide : ¬ ((1 : Int32) = (0 : Int32)))).1) k) ?_
      refine GoW.step (T' := T140) (g' := (mkF m 277 #[.val (.int p0), .val (.int p1), .val (.int n), .val (.ref ra), .val (.int (0 : Int32)), .val (.long (own_L n)), .second, .val (.int (Int32.ofNat (own_nd (own_M n)))), .val (.int (0 : Int32)), .val (.int (1 : Int32)), .val (.int (Int32.ofNat NN)), .unset, .unset] [(.ref ra)])) (fun _ k => XS.aloadN X140.here hx rfl (hb hby at_276) rfl rfl k) ?_
      refine GoW.step (T' := T140) (g' := (mkF m 279 #[.val (.int p0), .val (.int p1), .val (.int n), .val (.ref ra), .val (.int (0 : Int32)), .val (.long (own_L n)), .second, .val (.int (Int32.ofNat (own_nd (own_M n)))), .val (.int (0 : Int32)), .val (.int (1 : Int32)), .val (.int (Int32.ofNat NN)), .unset, .unset] [(.int (0 : Int32)), (.ref ra)])) (fun _ k => XS.iload X140.here hx rfl (hb hby at_277) rfl  k) ?_
      refine GoW.step (T' := T140) (g' := (mkF m 281 #[.val (.int p0), .val (.int p1), .val (.int n), .val (.ref ra), .val (.int (0 : Int32)), .val (.long (own_L n)), .second, .val (.int (Int32.ofNat (own_nd (own_M n)))), .val (.int (0 : Int32)), .val (.int (1 : Int32)), .val (.int (Int32.ofNat NN)), .unset, .unset] [(.int (Int32.ofNat (own_nd (own_M n)))), (.int (0 : Int32)), (.ref ra)])) (fun _ k => XS.iload X140.here hx rfl (hb hby at_279) rfl  k) ?_
      refine GoW.step (T' := T140) (g' := (mkF m 283 #[.val (.int p0), .val (.int p1), .val (.int n), .val (.ref ra), .val (.int (0 : Int32)), .val (.long (own_L n)), .second, .val (.int (Int32.ofNat (own_nd (own_M n)))), .val (.int (0 : Int32)), .val (.int (1 : Int32)), .val (.int (Int32.ofNat NN)), .unset, .unset] [(.long (own_L n)), (.int (Int32.ofNat (own_nd (own_M n)))), (.int (0 : Int32)), (.ref ra)])) (fun _ k => XS.lload X140.here hx rfl (hb hby at_281) rfl  k) ?_
      refine GoW.step (T' := T140) (g' := (mkF m 285 #[.val (.int p0), .val (.int p1), .val (.int n), .val (.ref ra), .val (.int (0 : Int32)), .val (.long (own_L n)), .second, .val (.int (Int32.ofNat (own_nd (own_M n)))), .val (.int (0 : Int32)), .val (.int (1 : Int32)), .val (.int (Int32.ofNat NN)), .unset, .unset] [(.int (9 : Int32)), (.long (own_L n)), (.int (Int32.ofNat (own_nd (own_M n)))), (.int (0 : Int32)), (.ref ra)])) (fun _ k => XS.bipush X140.here hx rfl (hb hby at_283) k) ?_
      refine GoW.step (T' := T140) (g' := (mkF m 288 #[.val (.int p0), .val (.int p1), .val (.int n), .val (.ref ra), .val (.int (0 : Int32)), .val (.long (own_L n)), .second, .val (.int (Int32.ofNat (own_nd (own_M n)))), .val (.int (0 : Int32)), .val (.int (1 : Int32)), .val (.int (Int32.ofNat NN)), .unset, .unset] [(.long (1000000000 : Int64)), (.int (9 : Int32)), (.long (own_L n)), (.int (Int32.ofNat (own_nd (own_M n)))), (.int (0 : Int32)), (.ref ra)])) (fun _ k => Jvm.Stand.ldc2J (g := (mkF m 285 #[.val (.int p0), .val (.int p1), .val (.int n), .val (.ref ra), .val (.int (0 : Int32)), .val (.long (own_L n)), .second, .val (.int (Int32.ofNat (own_nd (own_M n)))), .val (.int (0 : Int32)), .val (.int (1 : Int32)), .val (.int (Int32.ofNat NN)), .unset, .unset] [(.int (9 : Int32)), (.long (own_L n)), (.int (Int32.ofNat (own_nd (own_M n)))), (.int (0 : Int32)), (.ref ra)])) X140 hx hown (mvT hZ (hwi hw 188 rfl)) rfl (hb hby at_285) k) ?_
      obtain ⟨_, _, ⟨T141, L141, k141, n141⟩, -, X141, ⟨Lc141, hQ141, l141, y141, z141⟩, st141⟩ := Jvm.LawKit.callS X140 hx (y := (⟨"com/example/noteform/noteform/io/FiguresDaysPinLaw", "digitAt", "(Ljava/lang/String;IIJIJ)Z"⟩ : MethodName)) hown (mvT hZ (hwi hw 156 rfl)) (mvT hZ (hwi hw 157 rfl)) (mvT hZ (hwi hw 152 rfl)) (mvT hZ (hwi hw 158 rfl)) (by decide) (backOf (W := 0) (Q := Qret (some (.int (1 : Int32))) T101.heap n0) (own_da l Z a0 hw [] ra n (0 : Int32) (9 : Int32) (1000000000 : Int64) 0 9 NN gc rb rk tv gf T101.heap n0 Z101 F102 hgc E101 C101 B101 V101 F107 cgf rfl rfl (by decide) (by decide) (by decide) dg (by omega) (by omega)) hZ (hwi hw 158 rfl) (hwi hw 152 rfl) (by decide) (by decide)) (g := (mkF m 288 #[.val (.int p0), .val (.int p1), .val (.int n), .val (.ref ra), .val (.int (0 : Int32)), .val (.long (own_L n)), .second, .val (.int (Int32.ofNat (own_nd (own_M n)))), .val (.int (0 : Int32)), .val (.int (1 : Int32)), .val (.int (Int32.ofNat NN)), .unset, .unset] [(.long (1000000000 : Int64)), (.int (9 : Int32)), (.long (own_L n)), (.int (Int32.ofNat (own_nd (own_M n)))), (.int (0 : Int32)), (.ref ra)])) rfl (by rw [hml]; rfl) (argsL := [(.ref ra), (.int (0 : Int32)), (.int (Int32.ofNat (own_nd (own_M n)))), (.long (own_L n)), (.int (9 : Int32)), (.long (1000000000 : Int64))]) (rest := []) (lenOf own_pd27 rfl) rfl (by show 2 * 0 + _ ≤ _; exact Nat.le_of_eq rfl) (hb hby at_288) (fun _ _ => ⟨rfl, eh140, (by dsimp only [Pt.cells, Pt.slots, room_1]; omega), (by dsimp only [Pt.cells, Pt.slots, room_1]; omega)⟩)
      dsimp only [Pt.U, Pt.locs, Pt.cells, Pt.slots] at X141 l141 y141 z141 st141 hQ141
      subst l141 y141 z141
      obtain ⟨rfl, N141q, eh141⟩ := hQ141
      have N141 := Fr.app N140 N141q
      refine GoW.step (T' := T141) (g' := (mkF m 291 #[.val (.int p0), .val (.int p1), .val (.int n), .val (.ref ra), .val (.int (0 : Int32)), .val (.long (own_L n)), .second, .val (.int (Int32.ofNat (own_nd (own_M n)))), .val (.int (0 : Int32)), .val (.int (1 : Int32)), .val (.int (Int32.ofNat NN)), .unset, .unset] [(.int (1 : Int32))])) (st141) ?_
      refine GoW.step (T' := T141) (g' := (mkF m 294 #[.val (.int p0), .val (.int p1), .val (.int n), .val (.ref ra), .val (.int (0 : Int32)), .val (.long (own_L n)), .second, .val (.int (Int32.ofNat (own_nd (own_M n)))), .val (.int (0 : Int32)), .val (.int (1 : Int32)), .val (.int (Int32.ofNat NN)), .unset, .unset] [])) (fun _ k => XS.ifNo X141.here hx rfl (hb hby at_291) rfl ((if0 _ _).trans (feq (by decide : ¬ ((1 : Int32) = (0 : Int32)))).1) k) ?_
      refine GoW.step (T' := T141) (g' := (mkF m 295 #[.val (.int p0), .val (.int p1), .val (.int n), .val (.ref ra), .val (.int (0 : Int32)), .val (.long (own_L n)), .second, .val (.int (Int32.ofNat (own_nd (own_M n)))), .val (.int (0 : Int32)), .val (.int (1 : Int32)), .val (.int (Int32.ofNat NN)), .unset, .unset] [(.int (1 : Int32))])) (fun _ k => XS.iconst X141.here hx rfl (hb hby at_294) k) ?_
      refine GoW.step (T' := T141) (g' := (mkF m 299 #[.val (.int p0), .val (.int p1), .val (.int n), .val (.ref ra), .val (.int (0 : Int32)), .val (.long (own_L n)), .second, .val (.int (Int32.ofNat (own_nd (own_M n)))), .val (.int (0 : Int32)), .val (.int (1 : Int32)), .val (.int (Int32.ofNat NN)), .unset, .unset] [(.int (1 : Int32))])) (fun _ k => XS.goto X141.here hx rfl (pc0 := 295) (pc' := 299) rfl (hb hby at_295) (by decide) (by decide) k) ?_
      refine GoW.step (T' := T141) (g' := (mkF m 301 #[.val (.int p0), .val (.int p1), .val (.int n), .val (.ref ra), .val (.int (0 : Int32)), .val (.long (own_L n)), .second, .val (.int (Int32.ofNat (own_nd (own_M n)))), .val (.int (0 : Int32)), .val (.int (1 : Int32)), .val (.int (Int32.ofNat NN)), .val (.int (1 : Int32)), .unset] [])) (fun _ k => XS.istore X141.here hx rfl (hb hby at_299) rfl (l' := #[.val (.int p0), .val (.int p1), .val (.int n), .val (.ref ra), .val (.int (0 : Int32)), .val (.long (own_L n)), .second, .val (.int (Int32.ofNat (own_nd (own_M n)))), .val (.int (0 : Int32)), .val (.int (1 : Int32)), .val (.int (Int32.ofNat NN)), .val (.int (1 : Int32)), .unset]) rfl k) ?_
      refine GoW.step (T' := T141) (g' := (mkF m 303 #[.val (.int p0), .val (.int p1), .val (.int n), .val (.ref ra), .val (.int (0 : Int32)), .val (.long (own_L n)), .second, .val (.int (Int32.ofNat (own_nd (own_M n)))), .val (.int (0 : Int32)), .val (.int (1 : Int32)), .val (.int (Int32.ofNat NN)), .val (.int (1 : Int32)), .unset] [(.int (0 : Int32))])) (fun _ k => XS.iload X141.here hx rfl (hb hby at_301) rfl  k) ?_
      refine GoW.step (T' := T141) (g' := (mkF m 305 #[.val (.int p0), .val (.int p1), .val (.int n), .val (.ref ra), .val (.int (0 : Int32)), .val (.long (own_L n)), .second, .val (.int (Int32.ofNat (own_nd (own_M n)))), .val (.int (0 : Int32)), .val (.int (1 : Int32)), .val (.int (Int32.ofNat NN)), .val (.int (1 : Int32)), .unset] [(.int (Int32.ofNat (own_nd (own_M n)))), (.int (0 : Int32))])) (fun _ k => XS.iload X141.here hx rfl (hb hby at_303) rfl  k) ?_
      refine GoW.step (T' := T141) (g' := (mkF m 306 #[.val (.int p0), .val (.int p1), .val (.int n), .val (.ref ra), .val (.int (0 : Int32)), .val (.long (own_L n)), .second, .val (.int (Int32.ofNat (own_nd (own_M n)))), .val (.int (0 : Int32)), .val (.int (1 : Int32)), .val (.int (Int32.ofNat NN)), .val (.int (1 : Int32)), .unset] [(.int ((0 : Int32) + (Int32.ofNat (own_nd (own_M n)))))])) (fun _ k => XS.iadd X141.here hx rfl (hb hby at_305) rfl k) ?_
      rw [show ((0 : Int32) + (Int32.ofNat (own_nd (own_M n)))) = Int32.ofNat (own_nd (own_M n) + 0) from own_len2 (s := 0)]
      refine GoW.step (T' := T141) (g' := (mkF m 308 #[.val (.int p0), .val (.int p1), .val (.int n), .val (.ref ra), .val (.int (0 : Int32)), .val (.long (own_L n)), .second, .val (.int (Int32.ofNat (own_nd (own_M n)))), .val (.int (0 : Int32)), .val (.int (1 : Int32)), .val (.int (Int32.ofNat NN)), .val (.int (1 : Int32)), .val (.int (Int32.ofNat (own_nd (own_M n) + 0)))] [])) (fun _ k => XS.istore X141.here hx rfl (hb hby at_306) rfl (l' := #[.val (.int p0), .val (.int p1), .val (.int n), .val (.ref ra), .val (.int (0 : Int32)), .val (.long (own_L n)), .second, .val (.int (Int32.ofNat (own_nd (own_M n)))), .val (.int (0 : Int32)), .val (.int (1 : Int32)), .val (.int (Int32.ofNat NN)), .val (.int (1 : Int32)), .val (.int (Int32.ofNat (own_nd (own_M n) + 0)))]) rfl k) ?_
      refine GoW.step (T' := T141) (g' := (mkF m 310 #[.val (.int p0), .val (.int p1), .val (.int n), .val (.ref ra), .val (.int (0 : Int32)), .val (.long (own_L n)), .second, .val (.int (Int32.ofNat (own_nd (own_M n)))), .val (.int (0 : Int32)), .val (.int (1 : Int32)), .val (.int (Int32.ofNat NN)), .val (.int (1 : Int32)), .val (.int (Int32.ofNat (own_nd (own_M n) + 0)))] [(.int (1 : Int32))])) (fun _ k => XS.iload X141.here hx rfl (hb hby at_308) rfl  k) ?_
      refine GoW.step (T' := T141) (g' := (mkF m 313 #[.val (.int p0), .val (.int p1), .val (.int n), .val (.ref ra), .val (.int (0 : Int32)), .val (.long (own_L n)), .second, .val (.int (Int32.ofNat (own_nd (own_M n)))), .val (.int (0 : Int32)), .val (.int (1 : Int32)), .val (.int (Int32.ofNat NN)), .val (.int (1 : Int32)), .val (.int (Int32.ofNat (own_nd (own_M n) + 0)))] [])) (fun _ k => XS.ifNo X141.here hx rfl (hb hby at_310) rfl ((if0 _ _).trans (feq (by decide : ¬ ((1 : Int32) = (0 : Int32)))).1) k) ?_
      refine GoW.step (T' := T141) (g' := (mkF m 314 #[.val (.int p0), .val (.int p1), .val (.int n), .val (.ref ra), .val (.int (0 : Int32)), .val (.long (own_L n)), .second, .val (.int (Int32.ofNat (own_nd (own_M n)))), .val (.int (0 : Int32)), .val (.int (1 : Int32)), .val (.int (Int32.ofNat NN)), .val (.int (1 : Int32)), .val (.int (Int32.ofNat (own_nd (own_M n) + 0)))] [(.ref ra)])) (fun _ k => XS.aloadN X141.here hx rfl (hb hby at_313) rfl rfl k) ?_
      refine GoW.step (T' := T141) (g' := (mkF m 316 #[.val (.int p0), .val (.int p1), .val (.int n), .val (.ref ra), .val (.int (0 : Int32)), .val (.long (own_L n)), .second, .val (.int (Int32.ofNat (own_nd (own_M n)))), .val (.int (0 : Int32)), .val (.int (1 : Int32)), .val (.int (Int32.ofNat NN)), .val (.int (1 : Int32)), .val (.int (Int32.ofNat (own_nd (own_M n) + 0)))] [(.int (Int32.ofNat (own_nd (own_M n) + 0))), (.ref ra)])) (fun _ k => XS.iload X141.here hx rfl (hb hby at_314) rfl  k) ?_
      obtain ⟨cq142, kq142, q142a, q142b, q142c⟩ := isOf hZ eh141 E101
      obtain ⟨_, _, ⟨T142, L142, k142, n142⟩, -, X142, ⟨Lc142, hQ142, l142, y142, z142⟩, st142⟩ := X141.virtualBack hx (y := (⟨"java/lang/String", "charAt", "(I)C"⟩ : MethodName)) (z := (⟨"java/lang/String", "charAt", "(I)C"⟩ : MethodName)) hown (mvT hZ (hwi hw 159 rfl)) (mvT hZ (hwi hw 160 rfl)) (notFace_of_selects (args := #[]) (mvT hZ (hwi hw 162 rfl))) (mvT hZ (hwi hw 162 rfl)) (mvT hZ (hwi hw 161 rfl)) (by decide) (backOf (W := 0) (Q := Qret (some (.int (32 : Int32))) T101.heap n0) (own_ch_ l Z a0 hw [] ra (Int32.ofNat (own_nd (own_M n) + 0)) gc rb rk (Int32.ofNat NN) tv gf (32 : Int32) (32 : Int32) T101.heap n0 Z101 F102 hgc E101 C101 B101 V101 F107 cgf (own_ge0 (by omega)) (own_inb (n := NN) (by omega) (by omega)).2 (by rw [own_clamp (by omega)]; exact sx.1) (by decide) (by decide)) hZ (hwi hw 163 rfl) (hwi hw 20 rfl) (by decide) (by decide)) q142a q142c (g := (mkF m 316 #[.val (.int p0), .val (.int p1), .val (.int n), .val (.ref ra), .val (.int (0 : Int32)), .val (.long (own_L n)), .second, .val (.int (Int32.ofNat (own_nd (own_M n)))), .val (.int (0 : Int32)), .val (.int (1 : Int32)), .val (.int (Int32.ofNat NN)), .val (.int (1 : Int32)), .val (.int (Int32.ofNat (own_nd (own_M n) + 0)))] [(.int (Int32.ofNat (own_nd (own_M n) + 0))), (.ref ra)])) rfl (by rw [hml]; rfl) (Steps.refl _) (argsL := [(.int (Int32.ofNat (own_nd (own_M n) + 0)))]) (rest := []) (lenOf own_pd23 rfl) rfl (by show 2 * 0 + _ ≤ _; exact Nat.le_of_eq rfl) (hb hby at_316) (fun _ _ => ⟨rfl, eh141, (by dsimp only [Pt.cells, Pt.slots, room_1]; omega), (by dsimp only [Pt.cells, Pt.slots, room_1]; omega)⟩)
      dsimp only [Pt.U, Pt.locs, Pt.cells, Pt.slots] at X142 l142 y142 z142 st142 hQ142
      subst l142 y142 z142
      obtain ⟨rfl, N142q, eh142⟩ := hQ142
      have N142 := Fr.app N141 N142q
      refine GoW.step (T' := T142) (g' := (mkF m 319 #[.val (.int p0), .val (.int p1), .val (.int n), .val (.ref ra), .val (.int (0 : Int32)), .val (.long (own_L n)), .second, .val (.int (Int32.ofNat (own_nd (own_M n)))), .val (.int (0 : Int32)), .val (.int (1 : Int32)), .val (.int (Int32.ofNat NN)), .val (.int (1 : Int32)), .val (.int (Int32.ofNat (own_nd (own_M n) + 0)))] [(.int (32 : Int32))])) (fun _ k => st142.trans k) ?_
      refine GoW.step (T' := T142) (g' := (mkF m 321 #[.val (.int p0), .val (.int p1), .val (.int n), .val (.ref ra), .val (.int (0 : Int32)), .val (.long (own_L n)), .second, .val (.int (Int32.ofNat (own_nd (own_M n)))), .val (.int (0 : Int32)), .val (.int (1 : Int32)), .val (.int (Int32.ofNat NN)), .val (.int (1 : Int32)), .val (.int (Int32.ofNat (own_nd (own_M n) + 0)))] [(.int (32 : Int32)), (.int (32 : Int32))])) (fun _ k => XS.bipush X142.here hx rfl (hb hby at_319) k) ?_
      refine GoW.step (T' := T142) (g' := (mkF m 324 #[.val (.int p0), .val (.int p1), .val (.int n), .val (.ref ra), .val (.int (0 : Int32)), .val (.long (own_L n)), .second, .val (.int (Int32.ofNat (own_nd (own_M n)))), .val (.int (0 : Int32)), .val (.int (1 : Int32)), .val (.int (Int32.ofNat NN)), .val (.int (1 : Int32)), .val (.int (Int32.ofNat (own_nd (own_M n) + 0)))] [])) (fun _ k => XS.icmpNo X142.here hx rfl (hb hby at_321) rfl (teq (by decide : (32 : Int32) = (32 : Int32))).2 k) ?_
      refine GoW.step (T' := T142) (g' := (mkF m 325 #[.val (.int p0), .val (.int p1), .val (.int n), .val (.ref ra), .val (.int (0 : Int32)), .val (.long (own_L n)), .second, .val (.int (Int32.ofNat (own_nd (own_M n)))), .val (.int (0 : Int32)), .val (.int (1 : Int32)), .val (.int (Int32.ofNat NN)), .val (.int (1 : Int32)), .val (.int (Int32.ofNat (own_nd (own_M n) + 0)))] [(.ref ra)])) (fun _ k => XS.aloadN X142.here hx rfl (hb hby at_324) rfl rfl k) ?_
      refine GoW.step (T' := T142) (g' := (mkF m 327 #[.val (.int p0), .val (.int p1), .val (.int n), .val (.ref ra), .val (.int (0 : Int32)), .val (.long (own_L n)), .second, .val (.int (Int32.ofNat (own_nd (own_M n)))), .val (.int (0 : Int32)), .val (.int (1 : Int32)), .val (.int (Int32.ofNat NN)), .val (.int (1 : Int32)), .val (.int (Int32.ofNat (own_nd (own_M n) + 0)))] [(.int (Int32.ofNat (own_nd (own_M n) + 0))), (.ref ra)])) (fun _ k => XS.iload X142.here hx rfl (hb hby at_325) rfl  k) ?_
      refine GoW.step (T' := T142) (g' := (mkF m 328 #[.val (.int p0), .val (.int p1), .val (.int n), .val (.ref ra), .val (.int (0 : Int32)), .val (.long (own_L n)), .second, .val (.int (Int32.ofNat (own_nd (own_M n)))), .val (.int (0 : Int32)), .val (.int (1 : Int32)), .val (.int (Int32.ofNat NN)), .val (.int (1 : Int32)), .val (.int (Int32.ofNat (own_nd (own_M n) + 0)))] [(.int (1 : Int32)), (.int (Int32.ofNat (own_nd (own_M n) + 0))), (.ref ra)])) (fun _ k => XS.iconst X142.here hx rfl (hb hby at_327) k) ?_
      refine GoW.step (T' := T142) (g' := (mkF m 329 #[.val (.int p0), .val (.int p1), .val (.int n), .val (.ref ra), .val (.int (0 : Int32)), .val (.long (own_L n)), .second, .val (.int (Int32.ofNat (own_nd (own_M n)))), .val (.int (0 : Int32)), .val (.int (1 : Int32)), .val (.int (Int32.ofNat NN)), .val (.int (1 : Int32)), .val (.int (Int32.ofNat (own_nd (own_M n) + 0)))] [(.int ((Int32.ofNat (own_nd (own_M n) + 0)) + (1 : Int32))), (.ref ra)])) (fun _ k => XS.iadd X142.here hx rfl (hb hby at_328) rfl k) ?_
      rw [show ((Int32.ofNat (own_nd (own_M n) + 0)) + (1 : Int32)) = Int32.ofNat (own_nd (own_M n) + 0 + 1) from own_addN _ 1]
      obtain ⟨cq143, kq143, q143a, q143b, q143c⟩ := isOf hZ eh142 E101
      obtain ⟨_, _, ⟨T143, L143, k143, n143⟩, -, X143, ⟨Lc143, hQ143, l143, y143, z143⟩, st143⟩ := X142.virtualBack hx (y := (⟨"java/lang/String", "charAt", "(I)C"⟩ : MethodName)) (z := (⟨"java/lang/String", "charAt", "(I)C"⟩ : MethodName)) hown (mvT hZ (hwi hw 159 rfl)) (mvT hZ (hwi hw 160 rfl)) (notFace_of_selects (args := #[]) (mvT hZ (hwi hw 162 rfl))) (mvT hZ (hwi hw 162 rfl)) (mvT hZ (hwi hw 161 rfl)) (by decide) (backOf (W := 0) (Q := Qret (some (.int (100 : Int32))) T101.heap n0) (own_ch_ l Z a0 hw [] ra (Int32.ofNat (own_nd (own_M n) + 0 + 1)) gc rb rk (Int32.ofNat NN) tv gf (100 : Int32) (100 : Int32) T101.heap n0 Z101 F102 hgc E101 C101 B101 V101 F107 cgf (own_ge0 (by omega)) (own_inb (n := NN) (by omega) (by omega)).2 (by rw [own_clamp (by omega)]; exact sx.2.1) (by decide) (by decide)) hZ (hwi hw 163 rfl) (hwi hw 20 rfl) (by decide) (by decide)) q143a q143c (g := (mkF m 329 #[.val (.int p0), .val (.int p1), .val (.int n), .val (.ref ra), .val (.int (0 : Int32)), .val (.long (own_L n)), .second, .val (.int (Int32.ofNat (own_nd (own_M n)))), .val (.int (0 : Int32)), .val (.int (1 : Int32)), .val (.int (Int32.ofNat NN)), .val (.int (1 : Int32)), .val (.int (Int32.ofNat (own_nd (own_M n) + 0)))] [(.int (Int32.ofNat (own_nd (own_M n) + 0 + 1))), (.ref ra)])) rfl (by rw [hml]; rfl) (Steps.refl _) (argsL := [(.int (Int32.ofNat (own_nd (own_M n) + 0 + 1)))]) (rest := []) (lenOf own_pd23 rfl) rfl (by show 2 * 0 + _ ≤ _; exact Nat.le_of_eq rfl) (hb hby at_329) (fun _ _ => ⟨rfl, eh142, (by dsimp only [Pt.cells, Pt.slots, room_1]; omega), (by dsimp only [Pt.cells, Pt.slots, room_1]; omega)⟩)
      dsimp only [Pt.U, Pt.locs, Pt.cells, Pt.slots] at X143 l143 y143 z143 st143 hQ143
      subst l143 y143 z143
      obtain ⟨rfl, N143q, eh143⟩ := hQ143
      have N143 := Fr.app N142 N143q
      refine GoW.step (T' := T143) (g' := (mkF m 332 #[.val (.int p0), .val (.int p1), .val (.int n), .val (.ref ra), .val (.int (0 : Int32)), .val (.long (own_L n)), .second, .val (.int (Int32.ofNat (own_nd (own_M n)))), .val (.int (0 : Int32)), .val (.int (1 : Int32)), .val (.int (Int32.ofNat NN)), .val (.int (1 : Int32)), .val (.int (Int32.ofNat (own_nd (own_M n) + 0)))] [(.int (100 : Int32))])) (fun _ k => st143.trans k) ?_
      refine GoW.step (T' := T143) (g' := (mkF m 334 #[.val (.int p0), .val (.int p1), .val (.int n), .val (.ref ra), .val (.int (0 : Int32)), .val (.long (own_L n)), .second, .val (.int (Int32.ofNat (own_nd (own_M n)))), .val (.int (0 : Int32)), .val (.int (1 : Int32)), .val (.int (Int32.ofNat NN)), .val (.int (1 : Int32)), .val (.int (Int32.ofNat (own_nd (own_M n) + 0)))] [(.int (100 : Int32)), (.int (100 : Int32))])) (fun _ k => XS.bipush X143.here hx rfl (hb hby at_332) k) ?_
      refine GoW.step (T' := T143) (g' := (mkF m 337 #[.val (.int p0), .val (.int p1), .val (.int n), .val (.ref ra), .val (.int (0 : Int32)), .val (.long (own_L n)), .second, .val (.int (Int32.ofNat (own_nd (own_M n)))), .val (.int (0 : Int32)), .val (.int (1 : Int32)), .val (.int (Int32.ofNat NN)), .val (.int (1 : Int32)), .val (.int (Int32.ofNat (own_nd (own_M n) + 0)))] [])) (fun _ k => XS.icmpNo X143.here hx rfl (hb hby at_334) rfl (teq (by decide : (100 : Int32) = (100 : Int32))).2 k) ?_
      refine GoW.step (T' := T143) (g' := (mkF m 338 #[.val (.int p0), .val (.int p1), .val (.int n), .val (.ref ra), .val (.int (0 : Int32)), .val (.long (own_L n)), .second, .val (.int (Int32.ofNat (own_nd (own_M n)))), .val (.int (0 : Int32)), .val (.int (1 : Int32)), .val (.int (Int32.ofNat NN)), .val (.int (1 : Int32)), .val (.int (Int32.ofNat (own_nd (own_M n) + 0)))] [(.ref ra)])) (fun _ k => XS.aloadN X143.here hx rfl (hb hby at_337) rfl rfl k) ?_
      refine GoW.step (T' := T143) (g' := (mkF m 340 #[.val (.int p0), .val (.int p1), .val (.int n), .val (.ref ra), .val (.int (0 : Int32)), .val (.long (own_L n)), .second, .val (.int (Int32.ofNat (own_nd (own_M n)))), .val (.int (0 : Int32)), .val (.int (1 : Int32)), .val (.int (Int32.ofNat NN)), .val (.int (1 : Int32)), .val (.int (Int32.ofNat (own_nd (own_M n) + 0)))] [(.int (Int32.ofNat (own_nd (own_M n) + 0))), (.ref ra)])) (fun _ k => XS.iload X143.here hx rfl (hb hby at_338) rfl  k) ?_
      refine GoW.step (T' := T143) (g' := (mkF m 341 #[.val (.int p0), .val (.int p1), .val (.int n), .val (.ref ra), .val (.int (0 : Int32)), .val (.long (own_L n)), .second, .val (.int (Int32.ofNat (own_nd (own_M n)))), .val (.int (0 : Int32)), .val (.int (1 : Int32)), .val (.int (Int32.ofNat NN)), .val (.int (1 : Int32)), .val (.int (Int32.ofNat (own_nd (own_M n) + 0)))] [(.int (2 : Int32)), (.int (Int32.ofNat (own_nd (own_M n) + 0))), (.ref ra)])) (fun _ k => XS.iconst X143.here hx rfl (hb hby at_340) k) ?_
      refine GoW.step (T' := T143) (g' := (mkF m 342 #[.val (.int p0), .val (.int p1), .val (.int n), .val (.ref ra), .val (.int (0 : Int32)), .val (.long (own_L n)), .second, .val (.int (Int32.ofNat (own_nd (own_M n)))), .val (.int (0 : Int32)), .val (.int (1 : Int32)), .val (.int (Int32.ofNat NN)), .val (.int (1 : Int32)), .val (.int (Int32.ofNat (own_nd (own_M n) + 0)))] [(.int ((Int32.ofNat (own_nd (own_M n) + 0)) + (2 : Int32))), (.ref ra)])) (fun _ k => XS.iadd X143.here hx rfl (hb hby at_341) rfl k) ?_
      rw [show ((Int32.ofNat (own_nd (own_M n) + 0)) + (2 : Int32)) = Int32.ofNat (own_nd (own_M n) + 0 + 2) from own_addN _ 2]
      obtain ⟨cq144, kq144, q144a, q144b, q144c⟩ := isOf hZ eh143 E101
      obtain ⟨_, _, ⟨T144, L144, k144, n144⟩, -, X144, ⟨Lc144, hQ144, l144, y144, z144⟩, st144⟩ := X143.virtualBack hx (y := (⟨"java/lang/String", "charAt", "(I)C"⟩ : MethodName)) (z := (⟨"java/lang/String", "charAt", "(I)C"⟩ : MethodName)) hown (mvT hZ (hwi hw 159 rfl)) (mvT hZ (hwi hw 160 rfl)) (notFace_of_selects (args := #[]) (mvT hZ (hwi hw 162 rfl))) (mvT hZ (hwi hw 162 rfl)) (mvT hZ (hwi hw 161 rfl)) (by decide) (backOf (W := 0) (Q := Qret (some (.int (97 : Int32))) T101.heap n0) (own_ch_ l Z a0 hw [] ra (Int32.ofNat (own_nd (own_M n) + 0 + 2)) gc rb rk (Int32.ofNat NN) tv gf (97 : Int32) (97 : Int32) T101.heap n0 Z101 F102 hgc E101 C101 B101 V101 F107 cgf (own_ge0 (by omega)) (own_inb (n := NN) (by omega) (by omega)).2 (by rw [own_clamp (by omega)]; exact sx.2.2.1) (by decide) (by decide)) hZ (hwi hw 163 rfl) (hwi hw 20 rfl) (by decide) (by decide)) q144a q144c (g := (mkF m 342 #[.val (.int p0), .val (.int p1), .val (.int n), .val (.ref ra), .val (.int (0 : Int32)), .val (.long (own_L n)), .second, .val (.int (Int32.ofNat (own_nd (own_M n)))), .val (.int (0 : Int32)), .val (.int (1 : Int32)), .val (.int (Int32.ofNat NN)), .val (.int (1 : Int32)), .val (.int (Int32.ofNat (own_nd (own_M n) + 0)))] [(.int (Int32.ofNat (own_nd (own_M n) + 0 + 2))), (.ref ra)])) rfl (by rw [hml]; rfl) (Steps.refl _) (argsL := [(.int (Int32.ofNat (own_nd (own_M n) + 0 + 2)))]) (rest := []) (lenOf own_pd23 rfl) rfl (by show 2 * 0 + _ ≤ _; exact Nat.le_of_eq rfl) (hb hby at_342) (fun _ _ => ⟨rfl, eh143, (by dsimp only [Pt.cells, Pt.slots, room_1]; omega), (by dsimp only [Pt.cells, Pt.slots, room_1]; omega)⟩)
      dsimp only [Pt.U, Pt.locs, Pt.cells, Pt.slots] at X144 l144 y144 z144 st144 hQ144
      subst l144 y144 z144
      obtain ⟨rfl, N144q, eh144⟩ := hQ144
      have N144 := Fr.app N143 N144q
      refine GoW.step (T' := T144) (g' := (mkF m 345 #[.val (.int p0), .val (.int p1), .val (.int n), .val (.ref ra), .val (.int (0 : Int32)), .val (.long (own_L n)), .second, .val (.int (Int32.ofNat (own_nd (own_M n)))), .val (.int (0 : Int32)), .val (.int (1 : Int32)), .val (.int (Int32.ofNat NN)), .val (.int (1 : Int32)), .val (.int (Int32.ofNat (own_nd (own_M n) + 0)))] [(.int (97 : Int32))])) (fun _ k => st144.trans k) ?_
      refine GoW.step (T' := T144) (g' := (mkF m 347 #[.val (.int p0), .val (.int p1), .val (.int n), .val (.ref ra), .val (.int (0 : Int32)), .val (.long (own_L n)), .second, .val (.int (Int32.ofNat (own_nd (own_M n)))), .val (.int (0 : Int32)), .val (.int (1 : Int32)), .val (.int (Int32.ofNat NN)), .val (.int (1 : Int32)), .val (.int (Int32.ofNat (own_nd (own_M n) + 0)))] [(.int (97 : Int32)), (.int (97 : Int32))])) (fun _ k => XS.bipush X144.here hx rfl (hb hby at_345) k) ?_
      refine GoW.step (T' := T144) (g' := (mkF m 350 #[.val (.int p0), .val (.int p1), .val (.int n), .val (.ref ra), .val (.int (0 : Int32)), .val (.long (own_L n)), .second, .val (.int (Int32.ofNat (own_nd (own_M n)))), .val (.int (0 : Int32)), .val (.int (1 : Int32)), .val (.int (Int32.ofNat NN)), .val (.int (1 : Int32)), .val (.int (Int32.ofNat (own_nd (own_M n) + 0)))] [])) (fun _ k => XS.icmpNo X144.here hx rfl (hb hby at_347) rfl (teq (by decide : (97 : Int32) = (97 : Int32))).2 k) ?_
      refine GoW.step (T' := T144) (g' := (mkF m 351 #[.val (.int p0), .val (.int p1), .val (.int n), .val (.ref ra), .val (.int (0 : Int32)), .val (.long (own_L n)), .second, .val (.int (Int32.ofNat (own_nd (own_M n)))), .val (.int (0 : Int32)), .val (.int (1 : Int32)), .val (.int (Int32.ofNat NN)), .val (.int (1 : Int32)), .val (.int (Int32.ofNat (own_nd (own_M n) + 0)))] [(.ref ra)])) (fun _ k => XS.aloadN X144.here hx rfl (hb hby at_350) rfl rfl k) ?_
      refine GoW.step (T' := T144) (g' := (mkF m 353 #[.val (.int p0), .val (.int p1), .val (.int n), .val (.ref ra), .val (.int (0 : Int32)), .val (.long (own_L n)), .second, .val (.int (Int32.ofNat (own_nd (own_M n)))), .val (.int (0 : Int32)), .val (.int (1 : Int32)), .val (.int (Int32.ofNat NN)), .val (.int (1 : Int32)), .val (.int (Int32.ofNat (own_nd (own_M n) + 0)))] [(.int (Int32.ofNat (own_nd (own_M n) + 0))), (.ref ra)])) (fun _ k => XS.iload X144.here hx rfl (hb hby at_351) rfl  k) ?_
      refine GoW.step (T' := T144) (g' := (mkF m 354 #[.val (.int p0), .val (.int p1), .val (.int n), .val (.ref ra), .val (.int (0 : Int32)), .val (.long (own_L n)), .second, .val (.int (Int32.ofNat (own_nd (own_M n)))), .val (.int (0 : Int32)), .val (.int (1 : Int32)), .val (.int (Int32.ofNat NN)), .val (.int (1 : Int32)), .val (.int (Int32.ofNat (own_nd (own_M n) + 0)))] [(.int (3 : Int32)), (.int (Int32.ofNat (own_nd (own_M n) + 0))), (.ref ra)])) (fun _ k => XS.iconst X144.here hx rfl (hb hby at_353) k) ?_
      refine GoW.step (T' := T144) (g' := (mkF m 355 #[.val (.int p0), .val (.int p1), .val (.int n), .val (.ref ra), .val (.int (0 : Int32)), .val (.long (own_L n)), .second, .val (.int (Int32.ofNat (own_nd (own_M n)))), .val (.int (0 : Int32)), .val (.int (1 : Int32)), .val (.int (Int32.ofNat NN)), .val (.int (1 : Int32)), .val (.int (Int32.ofNat (own_nd (own_M n) + 0)))] [(.int ((Int32.ofNat (own_nd (own_M n) + 0)) + (3 : Int32))), (.ref ra)])) (fun _ k => XS.iadd X144.here hx rfl (hb hby at_354) rfl k) ?_
      rw [show ((Int32.ofNat (own_nd (own_M n) + 0)) + (3 : Int32)) = Int32.ofNat (own_nd (own_M n) + 0 + 3) from own_addN _ 3]
      obtain ⟨cq145, kq145, q145a, q145b, q145c⟩ := isOf hZ eh144 E101
      obtain ⟨_, _, ⟨T145, L145, k145, n145⟩, -, X145, ⟨Lc145, hQ145, l145, y145, z145⟩, st145⟩ := X144.virtualBack hx (y := (⟨"java/lang/String", "charAt", "(I)C"⟩ : MethodName)) (z := (⟨"java/lang/String", "charAt", "(I)C"⟩ : MethodName)) hown (mvT hZ (hwi hw 159 rfl)) (mvT hZ (hwi hw 160 rfl)) (notFace_of_selects (args := #[]) (mvT hZ (hwi hw 162 rfl))) (mvT hZ (hwi hw 162 rfl)) (mvT hZ (hwi hw 161 rfl)) (by decide) (backOf (W := 0) (Q := Qret (some (.int (121 : Int32))) T101.heap n0) (own_ch_ l Z a0 hw [] ra (Int32.ofNat (own_nd (own_M n) + 0 + 3)) gc rb rk (Int32.ofNat NN) tv gf (121 : Int32) (121 : Int32) T101.heap n0 Z101 F102 hgc E101 C101 B101 V101 F107 cgf (own_ge0 (by omega)) (own_inb (n := NN) (by omega) (by omega)).2 (by rw [own_clamp (by omega)]; exact sx.2.2.2) (by decide) (by decide)) hZ (hwi hw 163 rfl) (hwi hw 20 rfl) (by decide) (by decide)) q145a q145c (g := (mkF m 355 #[.val (.int p0), .val (.int p1), .val (.int n), .val (.ref ra), .val (.int (0 : Int32)), .val (.long (own_L n)), .second, .val (.int (Int32.ofNat (own_nd (own_M n)))), .val (.int (0 : Int32)), .val (.int (1 : Int32)), .val (.int (Int32.ofNat NN)), .val (.int (1 : Int32)), .val (.int (Int32.ofNat (own_nd (own_M n) + 0)))] [(.int (Int32.ofNat (own_nd (own_M n) + 0 + 3))), (.ref ra)])) rfl (by rw [hml]; rfl) (Steps.refl _) (argsL := [(.int (Int32.ofNat (own_nd (own_M n) + 0 + 3)))]) (rest := []) (lenOf own_pd23 rfl) rfl (by show 2 * 0 + _ ≤ _; exact Nat.le_of_eq rfl) (hb hby at_355) (fun _ _ => ⟨rfl, eh144, (by dsimp only [Pt.cells, Pt.slots, room_1]; omega), (by dsimp only [Pt.cells, Pt.slots, room_1]; omega)⟩)
      dsimp only [Pt.U, Pt.locs, Pt.cells, Pt.slots] at X145 l145 y145 z145 st145 hQ145
      subst l145 y145 z145
      obtain ⟨rfl, N145q, eh145⟩ := hQ145
      have N145 := Fr.app N144 N145q
      refine GoW.step (T' := T145) (g' := (mkF m 358 #[.val (.int p0), .val (.int p1), .val (.int n), .val (.ref ra), .val (.int (0 : Int32)), .val (.long (own_L n)), .second, .val (.int (Int32.ofNat (own_nd (own_M n)))), .val (.int (0 : Int32)), .val (.int (1 : Int32)), .val (.int (Int32.ofNat NN)), .val (.int (1 : Int32)), .val (.int (Int32.ofNat (own_nd (own_M n) + 0)))] [(.int (121 : Int32))])) (fun _ k => st145.trans k) ?_
      refine GoW.step (T' := T145) (g' := (mkF m 360 #[.val (.int p0), .val (.int p1), .val (.int n), .val (.ref ra), .val (.int (0 : Int32)), .val (.long (own_L n)), .second, .val (.int (Int32.ofNat (own_nd (own_M n)))), .val (.int (0 : Int32)), .val (.int (1 : Int32)), .val (.int (Int32.ofNat NN)), .val (.int (1 : Int32)), .val (.int (Int32.ofNat (own_nd (own_M n) + 0)))] [(.int (121 : Int32)), (.int (121 : Int32))])) (fun _ k => XS.bipush X145.here hx rfl (hb hby at_358) k) ?_
      refine GoW.step (T' := T145) (g' := (mkF m 363 #[.val (.int p0), .val (.int p1), .val (.int n), .val (.ref ra), .val (.int (0 : Int32)), .val (.long (own_L n)), .second, .val (.int (Int32.ofNat (own_nd (own_M n)))), .val (.int (0 : Int32)), .val (.int (1 : Int32)), .val (.int (Int32.ofNat NN)), .val (.int (1 : Int32)), .val (.int (Int32.ofNat (own_nd (own_M n) + 0)))] [])) (fun _ k => XS.icmpNo X145.here hx rfl (hb hby at_360) rfl (teq (by decide : (121 : Int32) = (121 : Int32))).2 k) ?_
      refine GoW.step (T' := T145) (g' := (mkF m 364 #[.val (.int p0), .val (.int p1), .val (.int n), .val (.ref ra), .val (.int (0 : Int32)), .val (.long (own_L n)), .second, .val (.int (Int32.ofNat (own_nd (own_M n)))), .val (.int (0 : Int32)), .val (.int (1 : Int32)), .val (.int (Int32.ofNat NN)), .val (.int (1 : Int32)), .val (.int (Int32.ofNat (own_nd (own_M n) + 0)))] [(.int (1 : Int32))])) (fun _ k => XS.iconst X145.here hx rfl (hb hby at_363) k) ?_
      refine GoW.step (T' := T145) (g' := (mkF m 368 #[.val (.int p0), .val (.int p1), .val (.int n), .val (.ref ra), .val (.int (0 : Int32)), .val (.long (own_L n)), .second, .val (.int (Int32.ofNat (own_nd (own_M n)))), .val (.int (0 : Int32)), .val (.int (1 : Int32)), .val (.int (Int32.ofNat NN)), .val (.int (1 : Int32)), .val (.int (Int32.ofNat (own_nd (own_M n) + 0)))] [(.int (1 : Int32))])) (fun _ k => XS.goto X145.here hx rfl (pc0 := 364) (pc' := 368) rfl (hb hby at_364) (by decide) (by decide) k) ?_
      refine GoW.step (T' := T145) (g' := (mkF m 370 #[.val (.int p0), .val (.int p1), .val (.int n), .val (.ref ra), .val (.int (0 : Int32)), .val (.long (own_L n)), .second, .val (.int (Int32.ofNat (own_nd (own_M n)))), .val (.int (0 : Int32)), .val (.int (1 : Int32)), .val (.int (Int32.ofNat NN)), .val (.int (1 : Int32)), .val (.int (Int32.ofNat (own_nd (own_M n) + 0)))] [])) (fun _ k => XS.istore X145.here hx rfl (hb hby at_368) rfl (l' := #[.val (.int p0), .val (.int p1), .val (.int n), .val (.ref ra), .val (.int (0 : Int32)), .val (.long (own_L n)), .second, .val (.int (Int32.ofNat (own_nd (own_M n)))), .val (.int (0 : Int32)), .val (.int (1 : Int32)), .val (.int (Int32.ofNat NN)), .val (.int (1 : Int32)), .val (.int (Int32.ofNat (own_nd (own_M n) + 0)))]) rfl k) ?_
      refine GoW.step (T' := T145) (g' := (mkF m 372 #[.val (.int p0), .val (.int p1), .val (.int n), .val (.ref ra), .val (.int (0 : Int32)), .val (.long (own_L n)), .second, .val (.int (Int32.ofNat (own_nd (own_M n)))), .val (.int (0 : Int32)), .val (.int (1 : Int32)), .val (.int (Int32.ofNat NN)), .val (.int (1 : Int32)), .val (.int (Int32.ofNat (own_nd (own_M n) + 0)))] [(.int (1 : Int32))])) (fun _ k => XS.iload X145.here hx rfl (hb hby at_370) rfl  k) ?_
      refine GoW.step (T' := T145) (g' := (mkF m 400 #[.val (.int p0), .val (.int p1), .val (.int n), .val (.ref ra), .val (.int (0 : Int32)), .val (.long (own_L n)), .second, .val (.int (Int32.ofNat (own_nd (own_M n)))), .val (.int (0 : Int32)), .val (.int (1 : Int32)), .val (.int (Int32.ofNat NN)), .val (.int (1 : Int32)), .val (.int (Int32.ofNat (own_nd (own_M n) + 0)))] [])) (fun _ k => XS.ifYes X145.here hx rfl (pc0 := 372) (pc' := 400) rfl (hb hby at_372) rfl ((if0 _ _).trans (feq (by decide : ¬ ((1 : Int32) = (0 : Int32)))).2) (by decide) (by decide) k) ?_
      refine GoW.step (T' := T145) (g' := (mkF m 402 #[.val (.int p0), .val (.int p1), .val (.int n), .val (.ref ra), .val (.int (0 : Int32)), .val (.long (own_L n)), .second, .val (.int (Int32.ofNat (own_nd (own_M n)))), .val (.int (0 : Int32)), .val (.int (1 : Int32)), .val (.int (Int32.ofNat NN)), .val (.int (1 : Int32)), .val (.int (Int32.ofNat (own_nd (own_M n) + 0)))] [(.int (1 : Int32))])) (fun _ k => XS.iload X145.here hx rfl (hb hby at_400) rfl  k) ?_
      exact GoW.retN X145 hx hS hk hZ hEL CR eh145 (t := .boolean) hret hlk (by simp) (hb hby at_402) (⟨rfl, N145⟩) (by omega) (by omega)
    · skip
      refine GoW.step (T' := T129) (g' := (mkF m 69 #[.val (.int p0), .val (.int p1), .val (.int n), .val (.ref ra), .val (.int (0 : Int32)), .val (.long (own_L n)), .second, .val (.int (Int32.ofNat (own_nd (own_M n)))), .val (.int (0 : Int32)), .unset, .unset, .unset, .unset] [])) (fun _ k => XS.icmpYes X129.here hx rfl (pc0 := 62) (pc' := 69) rfl (hb hby at_62) rfl (feq hc130).2 (by decide) (by decide) k) ?_
      refine GoW.step (T' := T129) (g' := (mkF m 70 #[.val (.int p0), .val (.int p1), .val (.int n), .val (.ref ra), .val (.int (0 : Int32)), .val (.long (own_L n)), .second, .val (.int (Int32.ofNat (own_nd (own_M n)))), .val (.int (0 : Int32)), .unset, .unset, .unset, .unset] [(.int (0 : Int32))])) (fun _ k => XS.iconst X129.here hx rfl (hb hby at_69) k) ?_
      refine GoW.step (T' := T129) (g' := (mkF m 72 #[.val (.int p0), .val (.int p1), .val (.int n), .val (.ref ra), .val (.int (0 : Int32)), .val (.long (own_L n)), .second, .val (.int (Int32.ofNat (own_nd (own_M n)))), .val (.int (0 : Int32)), .val (.int (0 : Int32)), .unset, .unset, .unset] [])) (fun _ k => XS.istore X129.here hx rfl (hb hby at_70) rfl (l' := #[.val (.int p0), .val (.int p1), .val (.int n), .val (.ref ra), .val (.int (0 : Int32)), .val (.long (own_L n)), .second, .val (.int (Int32.ofNat (own_nd (own_M n)))), .val (.int (0 : Int32)), .val (.int (0 : Int32)), .unset, .unset, .unset]) rfl k) ?_
      refine GoW.step (T' := T129) (g' := (mkF m 74 #[.val (.int p0), .val (.int p1), .val (.int n), .val (.ref ra), .val (.int (0 : Int32)), .val (.long (own_L n)), .second, .val (.int (Int32.ofNat (own_nd (own_M n)))), .val (.int (0 : Int32)), .val (.int (0 : Int32)), .unset, .unset, .unset] [(.int (0 : Int32))])) (fun _ k => XS.iload X129.here hx rfl (hb hby at_72) rfl  k) ?_
      refine GoW.step (T' := T129) (g' := (mkF m 76 #[.val (.int p0), .val (.int p1), .val (.int n), .val (.ref ra), .val (.int (0 : Int32)), .val (.long (own_L n)), .second, .val (.int (Int32.ofNat (own_nd (own_M n)))), .val (.int (0 : Int32)), .val (.int (0 : Int32)), .unset, .unset, .unset] [(.int (Int32.ofNat (own_nd (own_M n)))), (.int (0 : Int32))])) (fun _ k => XS.iload X129.here hx rfl (hb hby at_74) rfl  k) ?_
      refine GoW.step (T' := T129) (g' := (mkF m 77 #[.val (.int p0), .val (.int p1), .val (.int n), .val (.ref ra), .val (.int (0 : Int32)), .val (.long (own_L n)), .second, .val (.int (Int32.ofNat (own_nd (own_M n)))), .val (.int (0 : Int32)), .val (.int (0 : Int32)), .unset, .unset, .unset] [(.int ((0 : Int32) + (Int32.ofNat (own_nd (own_M n)))))])) (fun _ k => XS.iadd X129.here hx rfl (hb hby at_76) rfl k) ?_
      refine GoW.step (T' := T129) (g' := (mkF m 79 #[.val (.int p0), .val (.int p1), .val (.int n), .val (.ref ra), .val (.int (0 : Int32)), .val (.long (own_L n)), .second, .val (.int (Int32.ofNat (own_nd (own_M n)))), .val (.int (0 : Int32)), .val (.int (0 : Int32)), .unset, .unset, .unset] [(.int (0 : Int32)), (.int ((0 : Int32) + (Int32.ofNat (own_nd (own_M n)))))])) (fun _ k => XS.iload X129.here hx rfl (hb hby at_77) rfl  k) ?_
      refine GoW.step (T' := T129) (g' := (mkF m 86 #[.val (.int p0), .val (.int p1), .val (.int n), .val (.ref ra), .val (.int (0 : Int32)), .val (.long (own_L n)), .second, .val (.int (Int32.ofNat (own_nd (own_M n)))), .val (.int (0 : Int32)), .val (.int (0 : Int32)), .unset, .unset, .unset] [(.int ((0 : Int32) + (Int32.ofNat (own_nd (own_M n)))))])) (fun _ k => XS.ifYes X129.here hx rfl (pc0 := 79) (pc' := 86) rfl (hb hby at_79) rfl ((if0 _ _).trans (teq (by decide : (0 : Int32) = (0 : Int32))).1) (by decide) (by decide) k) ?_
      refine GoW.step (T' := T129) (g' := (mkF m 87 #[.val (.int p0), .val (.int p1), .val (.int n), .val (.ref ra), .val (.int (0 : Int32)), .val (.long (own_L n)), .second, .val (.int (Int32.ofNat (own_nd (own_M n)))), .val (.int (0 : Int32)), .val (.int (0 : Int32)), .unset, .unset, .unset] [(.int (5 : Int32)), (.int ((0 : Int32) + (Int32.ofNat (own_nd (own_M n)))))])) (fun _ k => XS.iconst X129.here hx rfl (hb hby at_86) k) ?_
      refine GoW.step (T' := T129) (g' := (mkF m 88 #[.val (.int p0), .val (.int p1), .val (.int n), .val (.ref ra), .val (.int (0 : Int32)), .val (.long (own_L n)), .second, .val (.int (Int32.ofNat (own_nd (own_M n)))), .val (.int (0 : Int32)), .val (.int (0 : Int32)), .unset, .unset, .unset] [(.int (((0 : Int32) + (Int32.ofNat (own_nd (own_M n)))) + (5 : Int32)))])) (fun _ k => XS.iadd X129.here hx rfl (hb hby at_87) rfl k) ?_
      obtain ⟨hNN, dg, sx, s5⟩ := own_tS (s := 0) (e := 5) tx (own_sgF hc108) (if_neg hc130)
      have hn10 := own_nd_le (own_M n)
      have hlen : (((0 : Int32) + (Int32.ofNat (own_nd (own_M n)))) + (5 : Int32)) = Int32.ofNat NN := own_len3 (d := own_nd (own_M n)) (s := 0) (e := 5) hNN
      rw [hlen]
      refine GoW.step (T' := T129) (g' := (mkF m 90 #[.val (.int p0), .val (.int p1), .val (.int n), .val (.ref ra), .val (.int (0 : Int32)), .val (.long (own_L n)), .second, .val (.int (Int32.ofNat (own_nd (own_M n)))), .val (.int (0 : Int32)), .val (.int (0 : Int32)), .val (.int (Int32.ofNat NN)), .unset, .unset] [])) (fun _ k => XS.istore X129.here hx rfl (hb hby at_88) rfl (l' := #[.val (.int p0), .val (.int p1), .val (.int n), .val (.ref ra), .val (.int (0 : Int32)), .val (.long (own_L n)), .second, .val (.int (Int32.ofNat (own_nd (own_M n)))), .val (.int (0 : Int32)), .val (.int (0 : Int32)), .val (.int (Int32.ofNat NN)), .unset, .unset]) rfl k) ?_
      refine GoW.step (T' := T129) (g' := (mkF m 91 #[.val (.int p0), .val (.int p1), .val (.int n), .val (.ref ra), .val (.int (0 : Int32)), .val (.long (own_L n)), .second, .val (.int (Int32.ofNat (own_nd (own_M n)))), .val (.int (0 : Int32)), .val (.int (0 : Int32)), .val (.int (Int32.ofNat NN)), .unset, .unset] [(.ref ra)])) (fun _ k => XS.aloadN X129.here hx rfl (hb hby at_90) rfl rfl k) ?_
      refine GoW.step (T' := T129) (g' := (mkF m 94 #[.val (.int p0), .val (.int p1), .val (.int n), .val (.ref ra), .val (.int (0 : Int32)), .val (.long (own_L n)), .second, .val (.int (Int32.ofNat (own_nd (own_M n)))), .val (.int (0 : Int32)), .val (.int (0 : Int32)), .val (.int (Int32.ofNat NN)), .unset, .unset] [])) (fun _ k => XS.ifnullNo X129.here hx rfl (hb hby at_91) rfl k) ?_
      refine GoW.step (T' := T129) (g' := (mkF m 95 #[.val (.int p0), .val (.int p1), .val (.int n), .val (.ref ra), .val (.int (0 : Int32)), .val (.long (own_L n)), .second, .val (.int (Int32.ofNat (own_nd (own_M n)))), .val (.int (0 : Int32)), .val (.int (0 : Int32)), .val (.int (Int32.ofNat NN)), .unset, .unset] [(.ref ra)])) (fun _ k => XS.aloadN X129.here hx rfl (hb hby at_94) rfl rfl k) ?_
      obtain ⟨cq146, kq146, q146a, q146b, q146c⟩ := isOf hZ eh129 E101
      obtain ⟨_, _, ⟨T146, L146, k146, n146⟩, -, X146, ⟨Lc146, hQ146, l146, y146, z146⟩, st146⟩ := X129.virtualBack hx (y := (⟨"java/lang/String", "length", "()I"⟩ : MethodName)) (z := (⟨"java/lang/String", "length", "()I"⟩ : MethodName)) hown (mvT hZ (hwi hw 155 rfl)) (mvT hZ (hwi hw 72 rfl)) (notFace_of_selects (args := #[]) (mvT hZ (hwi hw 74 rfl))) (mvT hZ (hwi hw 74 rfl)) (mvT hZ (hwi hw 73 rfl)) (by decide) (backOf (W := 0) (Q := Qret (some (.int (Int32.ofNat NN))) T101.heap n0) (own_len_ l Z a0 hw [] ra gc rb rk (Int32.ofNat NN) tv T101.heap n0 Z101 F102 hgc E101 C101 B101 V101) hZ (hwi hw 75 rfl) (hwi hw 20 rfl) (by decide) (by decide)) q146a q146c (g := (mkF m 95 #[.val (.int p0), .val (.int p1), .val (.int n), .val (.ref ra), .val (.int (0 : Int32)), .val (.long (own_L n)), .second, .val (.int (Int32.ofNat (own_nd (own_M n)))), .val (.int (0 : Int32)), .val (.int (0 : Int32)), .val (.int (Int32.ofNat NN)), .unset, .unset] [(.ref ra)])) rfl (by rw [hml]; rfl) (Steps.refl _) (argsL := []) (rest := []) (lenOf own_pd5 rfl) rfl (by show 2 * 0 + _ ≤ _; exact Nat.le_of_eq rfl) (hb hby at_95) (fun _ _ => ⟨rfl, eh129, (by dsimp only [Pt.cells, Pt.slots, room_1]; omega), (by dsimp only [Pt.cells, Pt.slots, room_1]; omega)⟩)
      dsimp only [Pt.U, Pt.locs, Pt.cells, Pt.slots] at X146 l146 y146 z146 st146 hQ146
      subst l146 y146 z146
      obtain ⟨rfl, N146q, eh146⟩ := hQ146
      have N146 := Fr.app N129 N146q
      refine GoW.step (T' := T146) (g' := (mkF m 98 #[.val (.int p0), .val (.int p1), .val (.int n), .val (.ref ra), .val (.int (0 : Int32)), .val (.long (own_L n)), .second, .val (.int (Int32.ofNat (own_nd (own_M n)))), .val (.int (0 : Int32)), .val (.int (0 : Int32)), .val (.int (Int32.ofNat NN)), .unset, .unset] [(.int (Int32.ofNat NN))])) (fun _ k => st146.trans k) ?_
      refine GoW.step (T' := T146) (g' := (mkF m 100 #[.val (.int p0), .val (.int p1), .val (.int n), .val (.ref ra), .val (.int (0 : Int32)), .val (.long (own_L n)), .second, .val (.int (Int32.ofNat (own_nd (own_M n)))), .val (.int (0 : Int32)), .val (.int (0 : Int32)), .val (.int (Int32.ofNat NN)), .unset, .unset] [(.int (Int32.ofNat NN)), (.int (Int32.ofNat NN))])) (fun _ k => XS.iload X146.here hx rfl (hb hby at_98) rfl  k) ?_
      refine GoW.step (T' := T146) (g' := (mkF m 105 #[.val (.int p0), .val (.int p1), .val (.int n), .val (.ref ra), .val (.int (0 : Int32)), .val (.long (own_L n)), .second, .val (.int (Int32.ofNat (own_nd (own_M n)))), .val (.int (0 : Int32)), .val (.int (0 : Int32)), .val (.int (Int32.ofNat NN)), .unset, .unset] [])) (fun _ k => XS.icmpYes X146.here hx rfl (pc0 := 100) (pc' := 105) rfl (hb hby at_100) rfl (teq (rfl : (Int32.ofNat NN) = (Int32.ofNat NN))).1 (by decide) (by decide) k) ?_
      refine GoW.step (T' := T146) (g' := (mkF m 107 #[.val (.int p0), .val (.int p1), .val (.int n), .val (.ref ra), .val (.int (0 : Int32)), .val (.long (own_L n)), .second, .val (.int (Int32.ofNat (own_nd (own_M n)))), .val (.int (0 : Int32)), .val (.int (0 : Int32)), .val (.int (Int32.ofNat NN)), .unset, .unset] [(.int (0 : Int32))])) (fun _ k => XS.iload X146.here hx rfl (hb hby at_105) rfl  k) ?_
      refine GoW.step (T' := T146) (g' := (mkF m 122 #[.val (.int p0), .val (.int p1), .val (.int n), .val (.ref ra), .val (.int (0 : Int32)), .val (.long (own_L n)), .second, .val (.int (Int32.ofNat (own_nd (own_M n)))), .val (.int (0 : Int32)), .val (.int (0 : Int32)), .val (.int (Int32.ofNat NN)), .unset, .unset] [])) (fun _ k => XS.ifYes X146.here hx rfl (pc0 := 107) (pc' := 122) rfl (hb hby at_107) rfl ((if0 _ _).trans (teq (by decide : (0 : Int32) = (0 : Int32))).1) (by decide) (by decide) k) ?_
      refine GoW.step (T' := T146) (g' := (mkF m 123 #[.val (.int p0), .val (.int p1), .val (.int n), .val (.ref ra), .val (.int (0 : Int32)), .val (.long (own_L n)), .second, .val (.int (Int32.ofNat (own_nd (own_M n)))), .val (.int (0 : Int32)), .val (.int (0 : Int32)), .val (.int (Int32.ofNat NN)), .unset, .unset] [(.ref ra)])) (fun _ k => XS.aloadN X146.here hx rfl (hb hby at_122) rfl rfl k) ?_
      refine GoW.step (T' := T146) (g' := (mkF m 125 #[.val (.int p0), .val (.int p1), .val (.int n), .val (.ref ra), .val (.int (0 : Int32)), .val (.long (own_L n)), .second, .val (.int (Int32.ofNat (own_nd (own_M n)))), .val (.int (0 : Int32)), .val (.int (0 : Int32)), .val (.int (Int32.ofNat NN)), .unset, .unset] [(.int (0 : Int32)), (.ref ra)])) (fun _ k => XS.iload X146.here hx rfl (hb hby at_123) rfl  k) ?_
      refine GoW.step (T' := T146) (g' := (mkF m 127 #[.val (.int p0), .val (.int p1), .val (.int n), .val (.ref ra), .val (.int (0 : Int32)), .val (.long (own_L n)), .second, .val (.int (Int32.ofNat (own_nd (own_M n)))), .val (.int (0 : Int32)), .val (.int (0 : Int32)), .val (.int (Int32.ofNat NN)), .unset, .unset] [(.int (Int32.ofNat (own_nd (own_M n)))), (.int (0 : Int32)), (.ref ra)])) (fun _ k => XS.iload X146.here hx rfl (hb hby at_125) rfl  k) ?_
      refine GoW.step (T' := T146) (g' := (mkF m 129 #[.val (.int p0), .val (.int p1), .val (.int n), .val (.ref ra), .val (.int (0 : Int32)), .val (.long (own_L n)), .second, .val (.int (Int32.ofNat (own_nd (own_M n)))), .val (.int (0 : Int32)), .val (.int (0 : Int32)), .val (.int (Int32.ofNat NN)), .unset, .unset] [(.long (own_L n)), (.int (Int32.ofNat (own_nd (own_M n)))), (.int (0 : Int32)), (.ref ra)])) (fun _ k => XS.lload X146.here hx rfl (hb hby at_127) rfl  k) ?_
      refine GoW.step (T' := T146) (g' := (mkF m 130 #[.val (.int p0), .val (.int p1), .val (.int n), .val (.ref ra), .val (.int (0 : Int32)), .val (.long (own_L n)), .second, .val (.int (Int32.ofNat (own_nd (own_M n)))), .val (.int (0 : Int32)), .val (.int (0 : Int32)), .val (.int (Int32.ofNat NN)), .unset, .unset] [(.int (0 : Int32)), (.long (own_L n)), (.int (Int32.ofNat (own_nd (own_M n)))), (.int (0 : Int32)), (.ref ra)])) (fun _ k => XS.iconst X146.here hx rfl (hb hby at_129) k) ?_
      refine GoW.step (T' := T146) (g' := (mkF m 131 #[.val (.int p0), .val (.int p1), .val (.int n), .val (.ref ra), .val (.int (0 : Int32)), .val (.long (own_L n)), .second, .val (.int (Int32.ofNat (own_nd (own_M n)))), .val (.int (0 : Int32)), .val (.int (0 : Int32)), .val (.int (Int32.ofNat NN)), .unset, .unset] [(.long (1 : Int64)), (.int (0 : Int32)), (.long (own_L n)), (.int (Int32.ofNat (own_nd (own_M n)))), (.int (0 : Int32)), (.ref ra)])) (fun _ k => XS.lconst X146.here hx rfl (hb hby at_130) k) ?_
      obtain ⟨_, _, ⟨T147, L147, k147, n147⟩, -, X147, ⟨Lc147, hQ147, l147, y147, z147⟩, st147⟩ := Jvm.LawKit.callS X146 hx (y := (⟨"com/example/noteform/noteform/io/FiguresDaysPinLaw", "digitAt", "(Ljava/lang/String;IIJIJ)Z"⟩ : MethodName)) hown (mvT hZ (hwi hw 156 rfl)) (mvT hZ (hwi hw 157 rfl)) (mvT hZ (hwi hw 152 rfl)) (mvT hZ (hwi hw 158 rfl)) (by decide) (backOf (W := 0) (Q := Qret (some (.int (1 : Int32))) T101.heap n0) (own_da l Z a0 hw [] ra n (0 : Int32) (0 : Int32) (1 : Int64) 0 0 NN gc rb rk tv gf T101.heap n0 Z101 F102 hgc E101 C101 B101 V101 F107 cgf rfl rfl (by decide) (by decide) (by decide) dg (by omega) (by omega)) hZ (hwi hw 158 rfl) (hwi hw 152 rfl) (by decide) (by decide)) (g := (mkF m 131 #[.val (.int p0), .val (.int p1), .val (.int n), .val (.ref ra), .val (.int (0 : Int32)), .val (.long (own_L n)), .second, .val (.int (Int32.ofNat (own_nd (own_M n)))), .val (.int (0 : Int32)), .val (.int (0 : Int32)), .val (.int (Int32.ofNat NN)), .unset, .unset] [(.long (1 : Int64)), (.int (0 : Int32)), (.long (own_L n)), (.int (Int32.ofNat (own_nd (own_M n)))), (.int (0 : Int32)), (.ref ra)])) rfl (by rw [hml]; rfl) (argsL := [(.ref ra), (.int (0 : Int32)), (.int (Int32.ofNat (own_nd (own_M n)))), (.long (own_L n)), (.int (0 : Int32)), (.long (1 : Int64))]) (rest := []) (lenOf own_pd27 rfl) rfl (by show 2 * 0 + _ ≤ _; exact Nat.le_of_eq rfl) (hb hby at_131) (fun _ _ => ⟨rfl, eh146, (by dsimp only [Pt.cells, Pt.slots, room_1]; omega), (by dsimp only [Pt.cells, Pt.slots, room_1]; omega)⟩)
      dsimp only [Pt.U, Pt.locs, Pt.cells, Pt.slots] at X147 l147 y147 z147 st147 hQ147
      subst l147 y147 z147
      obtain ⟨rfl, N147q, eh147⟩ := hQ147
      have N147 := Fr.app N146 N147q
      refine GoW.step (T' := T147) (g' := (mkF m 134 #[.val (.int p0), .val (.int p1), .val (.int n), .val (.ref ra), .val (.int (0 : Int32)), .val (.long (own_L n)), .second, .val (.int (Int32.ofNat (own_nd (own_M n)))), .val (.int (0 : Int32)), .val (.int (0 : Int32)), .val (.int (Int32.ofNat NN)), .unset, .unset] [(.int (1 : Int32))])) (st147) ?_
      refine GoW.step (T' := T147) (g' := (mkF m 137 #[.val (.int p0), .val (.int p1), .val (.int n), .val (.ref ra), .val (.int (0 : Int32)), .val (.long (own_L n)), .second, .val (.int (Int32.ofNat (own_nd (own_M n)))), .val (.int (0 : Int32)), .val (.int (0 : Int32)), .val (.int (Int32.ofNat NN)), .unset, .unset] [])) (fun _ k => XS.ifNo X147.here hx rfl (hb hby at_134) rfl ((if0 _ _).trans (feq (by decide : ¬ ((1 : Int32) = (0 : Int32)))).1) k) ?_
      refine GoW.step (T' := T147) (g' := (mkF m 138 #[.val (.int p0), .val (.int p1), .val (.int n), .val (.ref ra), .val (.int (0 : Int32)), .val (.long (own_L n)), .second, .val (.int (Int32.ofNat (own_nd (own_M n)))), .val (.int (0 : Int32)), .val (.int (0 : Int32)), .val (.int (Int32.ofNat NN)), .unset, .unset] [(.ref ra)])) (fun _ k => XS.aloadN X147.here hx rfl (hb hby at_137) rfl rfl k) ?_
      refine GoW.step (T' := T147) (g' := (mkF m 140 #[.val (.int p0), .val (.int p1), .val (.int n), .val (.ref ra), .val (.int (0 : Int32)), .val (.long (own_L n)), .second, .val (.int (Int32.ofNat (own_nd (own_M n)))), .val (.int (0 : Int32)), .val (.int (0 : Int32)), .val (.int (Int32.ofNat NN)), .unset, .unset] [(.int (0 : Int32)), (.ref ra)])) (fun _ k => XS.iload X147.here hx rfl (hb hby at_138) rfl  k) ?_
      refine GoW.step (T' := T147) (g' := (mkF m 142 #[.val (.int p0), .val (.int p1), .val (.int n), .val (.ref ra), .val (.int (0 : Int32)), .val (.long (own_L n)), .second, .val (.int (Int32.ofNat (own_nd (own_M n)))), .val (.int (0 : Int32)), .val (.int (0 : Int32)), .val (.int (Int32.ofNat NN)), .unset, .unset] [(.int (Int32.ofNat (own_nd (own_M n)))), (.int (0 : Int32)), (.ref ra)])) (fun _ k => XS.iload X147.here hx rfl (hb hby at_140) rfl  k) ?_
      refine GoW.step (T' := T147) (g' := (mkF m 144 #[.val (.int p0), .val (.int p1), .val (.int n), .val (.ref ra), .val (.int (0 : Int32)), .val (.long (own_L n)), .second, .val (.int (Int32.ofNat (own_nd (own_M n)))), .val (.int (0 : Int32)), .val (.int (0 : Int32)), .val (.int (Int32.ofNat NN)), .unset, .unset] [(.long (own_L n)), (.int (Int32.ofNat (own_nd (own_M n)))), (.int (0 : Int32)), (.ref ra)])) (fun _ k => XS.lload X147.here hx rfl (hb hby at_142) rfl  k) ?_
      refine GoW.step (T' := T147) (g' := (mkF m 145 #[.val (.int p0), .val (.int p1), .val (.int n), .val (.ref ra), .val (.int (0 : Int32)), .val (.long (own_L n)), .second, .val (.int (Int32.ofNat (own_nd (own_M n)))), .val (.int (0 : Int32)), .val (.int (0 : Int32)), .val (.int (Int32.ofNat NN)), .unset, .unset] [(.int (1 : Int32)), (.long (own_L n)), (.int (Int32.ofNat (own_nd (own_M n)))), (.int (0 : Int32)), (.ref ra)])) (fun _ k => XS.iconst X147.here hx rfl (hb hby at_144) k) ?_
      refine GoW.step (T' := T147) (g' := (mkF m 148 #[.val (.int p0), .val (.int p1), .val (.int n), .val (.ref ra), .val (.int (0 : Int32)), .val (.long (own_L n)), .second, .val (.int (Int32.ofNat (own_nd (own_M n)))), .val (.int (0 : Int32)), .val (.int (0 : Int32)), .val (.int (Int32.ofNat NN)), .unset, .unset] [(.long (10 : Int64)), (.int (1 : Int32)), (.long (own_L n)), (.int (Int32.ofNat (own_nd (own_M n)))), (.int (0 : Int32)), (.ref ra)])) (fun _ k => Jvm.Stand.ldc2J (g := (mkF m 145 #[.val (.int p0), .val (.int p1), .val (.int n), .val (.ref ra), .val (.int (0 : Int32)), .val (.long (own_L n)), .second, .val (.int (Int32.ofNat (own_nd (own_M n)))), .val (.int (0 : Int32)), .val (.int (0 : Int32)), .val (.int (Int32.ofNat NN)), .unset, .unset] [(.int (1 : Int32)), (.long (own_L n)), (.int (Int32.ofNat (own_nd (own_M n)))), (.int (0 : Int32)), (.ref ra)])) X147 hx hown (mvT hZ (hwi hw 154 rfl)) rfl (hb hby at_145) k) ?_
      obtain ⟨_, _, ⟨T148, L148, k148, n148⟩, -, X148, ⟨Lc148, hQ148, l148, y148, z148⟩, st148⟩ := Jvm.LawKit.callS X147 hx (y := (⟨"com/example/noteform/noteform/io/FiguresDaysPinLaw", "digitAt", "(Ljava/lang/String;IIJIJ)Z"⟩ : MethodName)) hown (mvT hZ (hwi hw 156 rfl)) (mvT hZ (hwi hw 157 rfl)) (mvT hZ (hwi hw 152 rfl)) (mvT hZ (hwi hw 158 rfl)) (by decide) (backOf (W := 0) (Q := Qret (some (.int (1 : Int32))) T101.heap n0) (own_da l Z a0 hw [] ra n (0 : Int32) (1 : Int32) (10 : Int64) 0 1 NN gc rb rk tv gf T101.heap n0 Z101 F102 hgc E101 C101 B101 V101 F107 cgf rfl rfl (by decide) (by decide) (by decide) dg (by omega) (by omega)) hZ (hwi hw 158 rfl) (hwi hw 152 rfl) (by decide) (by decide)) (g := (mkF m 148 #[.val (.int p0), .val (.int p1), .val (.int n), .val (.ref ra), .val (.int (0 : Int32)), .val (.long (own_L n)), .second, .val (.int (Int32.ofNat (own_nd (own_M n)))), .val (.int (0 : Int32)), .val (.int (0 : Int32)), .val (.int (Int32.ofNat NN)), .unset, .unset] [(.long (10 : Int64)), (.int (1 : Int32)), (.long (own_L n)), (.int (Int32.ofNat (own_nd (own_M n)))), (.int (0 : Int32)), (.ref ra)])) rfl (by rw [hml]; rfl) (argsL := [(.ref ra), (.int (0 : Int32)), (.int (Int32.ofNat (own_nd (own_M n)))), (.long (own_L n)), (.int (1 : Int32)), (.long (10 : Int64))]) (rest := []) (lenOf own_pd27 rfl) rfl (by show 2 * 0 + _ ≤ _; exact Nat.le_of_eq rfl) (hb hby at_148) (fun _ _ => ⟨rfl, eh147, (by dsimp only [Pt.cells, Pt.slots, room_1]; omega), (by dsimp only [Pt.cells, Pt.slots, room_1]; omega)⟩)
      dsimp only [Pt.U, Pt.locs, Pt.cells, Pt.slots] at X148 l148 y148 z148 st148 hQ148
      subst l148 y148 z148
      obtain ⟨rfl, N148q, eh148⟩ := hQ148
      have N148 := Fr.app N147 N148q
      refine GoW.step (T' := T148) (g' := (mkF m 151 #[.val (.int p0), .val (.int p1), .val (.int n), .val (.ref ra), .val (.int (0 : Int32)), .val (.long (own_L n)), .second, .val (.int (Int32.ofNat (own_nd (own_M n)))), .val (.int (0 : Int32)), .val (.int (0 : Int32)), .val (.int (Int32.ofNat NN)), .unset, .unset] [(.int (1 : Int32))])) (st148) ?_
      refine GoW.step (T' := T148) (g' := (mkF m 154 #[.val (.int p0), .val (.int p1), .val (.int n), .val (.ref ra), .val (.int (0 : Int32)), .val (.long (own_L n)), .second, .val (.int (Int32.ofNat (own_nd (own_M n)))), .val (.int (0 : Int32)), .val (.int (0 : Int32)), .val (.int (Int32.ofNat NN)), .unset, .unset] [])) (fun _ k => XS.ifNo X148.here hx rfl (hb hby at_151) rfl ((if0 _ _).trans (feq (by decide : ¬ ((1 : Int32) = (0 : Int32)))).1) k) ?_
      refine GoW.step (T' := T148) (g' := (mkF m 155 #[.val (.int p0), .val (.int p1), .val (.int n), .val (.ref ra), .val (.int (0 : Int32)), .val (.long (own_L n)), .second, .val (.int (Int32.ofNat (own_nd (own_M n)))), .val (.int (0 : Int32)), .val (.int (0 : Int32)), .val (.int (Int32.ofNat NN)), .unset, .unset] [(.ref ra)])) (fun _ k => XS.aloadN X148.here hx rfl (hb hby at_154) rfl rfl k) ?_
      refine GoW.step (T' := T148) (g' := (mkF m 157 #[.val (.int p0), .val (.int p1), .val (.int n), .val (.ref ra), .val (.int (0 : Int32)), .val (.long (own_L n)), .second, .val (.int (Int32.ofNat (own_nd (own_M n)))), .val (.int (0 : Int32)), .val (.int (0 : Int32)), .val (.int (Int32.ofNat NN)), .unset, .unset] [(.int (0 : Int32)), (.ref ra)])) (fun _ k => XS.iload X148.here hx rfl (hb hby at_155) rfl  k) ?_
      refine GoW.step (T' := T148) (g' := (mkF m 159 #[.val (.int p0), .val (.int p1), .val (.int n), .val (.ref ra), .val (.int (0 : Int32)), .val (.long (own_L n)), .second, .val (.int (Int32.ofNat (own_nd (own_M n)))), .val (.int (0 : Int32)), .val (.int (0 : Int32)), .val (.int (Int32.ofNat NN)), .unset, .unset] [(.int (Int32.ofNat (own_nd (own_M n)))), (.int (0 : Int32)), (.ref ra)])) (fun _ k => XS.iload X148.here hx rfl (hb hby at_157) rfl  k) ?_
      refine GoW.step (T' := T148) (g' := (mkF m 161 #[.val (.int p0), .val (.int p1), .val (.int n), .val (.ref ra), .val (.int (0 : Int32)), .val (.long (own_L n)), .second, .val (.int (Int32.ofNat (own_nd (own_M n)))), .val (.int (0 : Int32)), .val (.int (0 : Int32)), .val (.int (Int32.ofNat NN)), .unset, .unset] [(.long (own_L n)), (.int (Int32.ofNat (own_nd (own_M n)))), (.int (0 : Int32)), (.ref ra)])) (fun _ k => XS.lload X148.here hx rfl (hb hby at_159) rfl  k) ?_
      refine GoW.step (T' := T148) (g' := (mkF m 162 #[.val (.int p0), .val (.int p1), .val (.int n), .val (.ref ra), .val (.int (0 : Int32)), .val (.long (own_L n)), .second, .val (.int (Int32.ofNat (own_nd (own_M n)))), .val (.int (0 : Int32)), .val (.int (0 : Int32)), .val (.int (Int32.ofNat NN)), .unset, .unset] [(.int (2 : Int32)), (.long (own_L n)), (.int (Int32.ofNat (own_nd (own_M n)))), (.int (0 : Int32)), (.ref ra)])) (fun _ k => XS.iconst X148.here hx rfl (hb hby at_161) k) ?_
      refine GoW.step (T' := T148) (g' := (mkF m 165 #[.val (.int p0), .val (.int p1), .val (.int n), .val (.ref ra), .val (.int (0 : Int32)), .val (.long (own_L n)), .second, .val (.int (Int32.ofNat (own_nd (own_M n)))), .val (.int (0 : Int32)), .val (.int (0 : Int32)), .val (.int (Int32.ofNat NN)), .unset, .unset] [(.long (100 : Int64)), (.int (2 : Int32)), (.long (own_L n)), (.int (Int32.ofNat (own_nd (own_M n)))), (.int (0 : Int32)), (.ref ra)])) (fun _ k => Jvm.Stand.ldc2J (g := (mkF m 162 #[.val (.int p0), .val (.int p1), .val (.int n), .val (.ref ra), .val (.int (0 : Int32)), .val (.long (own_L n)), .second, .val (.int (Int32.ofNat (own_nd (own_M n)))), .val (.int (0 : Int32)), .val (.int (0 : Int32)), .val (.int (Int32.ofNat NN)), .unset, .unset] [(.int (2 : Int32)), (.long (own_L n)), (.int (Int32.ofNat (own_nd (own_M n)))), (.int (0 : Int32)), (.ref ra)])) X148 hx hown (mvT hZ (hwi hw 181 rfl)) rfl (hb hby at_162) k) ?_
      obtain ⟨_, _, ⟨T149, L149, k149, n149⟩, -, X149, ⟨Lc149, hQ149, l149, y149, z149⟩, st149⟩ := Jvm.LawKit.callS X148 hx (y := (⟨"com/example/noteform/noteform/io/FiguresDaysPinLaw", "digitAt", "(Ljava/lang/String;IIJIJ)Z"⟩ : MethodName)) hown (mvT hZ (hwi hw 156 rfl)) (mvT hZ (hwi hw 157 rfl)) (mvT hZ (hwi hw 152 rfl)) (mvT hZ (hwi hw 158 rfl)) (by decide) (backOf (W := 0) (Q := Qret (some (.int (1 : Int32))) T101.heap n0) (own_da l Z a0 hw [] ra n (0 : Int32) (2 : Int32) (100 : Int64) 0 2 NN gc rb rk tv gf T101.heap n0 Z101 F102 hgc E101 C101 B101 V101 F107 cgf rfl rfl (by decide) (by decide) (by decide) dg (by omega) (by omega)) hZ (hwi hw 158 rfl) (hwi hw 152 rfl) (by decide) (by decide)) (g := (mkF m 165 #[.val (.int p0), .val (.int p1), .val (.int n), .val (.ref ra), .val (.int (0 : Int32)), .val (.long (own_L n)), .second, .val (.int (Int32.ofNat (own_nd (own_M n)))), .val (.int (0 : Int32)), .val (.int (0 : Int32)), .val (.int (Int32.ofNat NN)), .unset, .unset] [(.long (100 : Int64)), (.int (2 : Int32)), (.long (own_L n)), (.int (Int32.ofNat (own_nd (own_M n)))), (.int (0 : Int32)), (.ref ra)])) rfl (by rw [hml]; rfl) (argsL := [(.ref ra), (.int (0 : Int32)), (.int (Int32.ofNat (own_nd (own_M n)))), (.long (own_L n)), (.int (2 : Int32)), (.long (100 : Int64))]) (rest := []) (lenOf own_pd27 rfl) rfl (by show 2 * 0 + _ ≤ _; exact Nat.le_of_eq rfl) (hb hby at_165) (fun _ _ => ⟨rfl, eh148, (by dsimp only [Pt.cells, Pt.slots, room_1]; omega), (by dsimp only [Pt.cells, Pt.slots, room_1]; omega)⟩)
      dsimp only [Pt.U, Pt.locs, Pt.cells, Pt.slots] at X149 l149 y149 z149 st149 hQ149
      subst l149 y149 z149
      obtain ⟨rfl, N149q, eh149⟩ := hQ149
      have N149 := Fr.app N148 N149q
      refine GoW.step (T' := T149) (g' := (mkF m 168 #[.val (.int p0), .val (.int p1), .val (.int n), .val (.ref ra), .val (.int (0 : Int32)), .val (.long (own_L n)), .second, .val (.int (Int32.ofNat (own_nd (own_M n)))), .val (.int (0 : Int32)), .val (.int (0 : Int32)), .val (.int (Int32.ofNat NN)), .unset, .unset] [(.int (1 : Int32))])) (st149) ?_
      refine GoW.step (T' := T149) (g' := (mkF m 171 #[.val (.int p0), .val (.int p1), .val (.int n), .val (.ref ra), .val (.int (0 : Int32)), .val (.long (own_L n)), .second, .val (.int (Int32.ofNat (own_nd (own_M n)))), .val (.int (0 : Int32)), .val (.int (0 : Int32)), .val (.int (Int32.ofNat NN)), .unset, .unset] [])) (fun _ k => XS.ifNo X149.here hx rfl (hb hby at_168) rfl ((if0 _ _).trans (feq (by decide : ¬ ((1 : Int32) = (0 : Int32)))).1) k) ?_
      refine GoW.step (T' := T149) (g' := (mkF m 172 #[.val (.int p0), .val (.int p1), .val (.int n), .val (.ref ra), .val (.int (0 : Int32)), .val (.long (own_L n)), .second, .val (.int (Int32.ofNat (own_nd (own_M n)))), .val (.int (0 : Int32)), .val (.int (0 : Int32)), .val (.int (Int32.ofNat NN)), .unset, .unset] [(.ref ra)])) (fun _ k => XS.aloadN X149.here hx rfl (hb hby at_171) rfl rfl k) ?_
      refine GoW.step (T' := T149) (g' := (mkF m 174 #[.val (.int p0), .val (.int p1), .val (.int n), .val (.ref ra), .val (.int (0 : Int32)), .val (.long (own_L n)), .second, .val (.int (Int32.ofNat (own_nd (own_M n)))), .val (.int (0 : Int32)), .val (.int (0 : Int32)), .val (.int (Int32.ofNat NN)), .unset, .unset] [(.int (0 : Int32)), (.ref ra)])) (fun _ k => XS.iload X149.here hx rfl (hb hby at_172) rfl  k) ?_
      refine GoW.step (T' := T149) (g' := (mkF m 176 #[.val (.int p0), .val (.int p1), .val (.int n), .val (.ref ra), .val (.int (0 : Int32)), .val (.long (own_L n)), .second, .val (.int (Int32.ofNat (own_nd (own_M n)))), .val (.int (0 : Int32)), .val (.int (0 : Int32)), .val (.int (Int32.ofNat NN)), .unset, .unset] [(.int (Int32.ofNat (own_nd (own_M n)))), (.int (0 : Int32)), (.ref ra)])) (fun _ k => XS.iload X149.here hx rfl (hb hby at_174) rfl  k) ?_
      refine GoW.step (T' := T149) (g' := (mkF m 178 #[.val (.int p0), .val (.int p1), .val (.int n), .val (.ref ra), .val (.int (0 : Int32)), .val (.long (own_L n)), .second, .val (.int (Int32.ofNat (own_nd (own_M n)))), .val (.int (0 : Int32)), .val (.int (0 : Int32)), .val (.int (Int32.ofNat NN)), .unset, .unset] [(.long (own_L n)), (.int (Int32.ofNat (own_nd (own_M n)))), (.int (0 : Int32)), (.ref ra)])) (fun _ k => XS.lload X149.here hx rfl (hb hby at_176) rfl  k) ?_
      refine GoW.step (T' := T149) (g' := (mkF m 179 #[.val (.int p0), .val (.int p1), .val (.int n), .val (.ref ra), .val (.int (0 : Int32)), .val (.long (own_L n)), .second, .val (.int (Int32.ofNat (own_nd (own_M n)))), .val (.int (0 : Int32)), .val (.int (0 : Int32)), .val (.int (Int32.ofNat NN)), .unset, .unset] [(.int (3 : Int32)), (.long (own_L n)), (.int (Int32.ofNat (own_nd (own_M n)))), (.int (0 : Int32)), (.ref ra)])) (fun _ k => XS.iconst X149.here hx rfl (hb hby at_178) k) ?_
      refine GoW.step (T' := T149) (g' := (mkF m 182 #[.val (.int p0), .val (.int p1), .val (.int n), .val (.ref ra), .val (.int (0 : Int32)), .val (.long (own_L n)), .second, .val (.int (Int32.ofNat (own_nd (own_M n)))), .val (.int (0 : Int32)), .val (.int (0 : Int32)), .val (.int (Int32.ofNat NN)), .unset, .unset] [(.long (1000 : Int64)), (.int (3 : Int32)), (.long (own_L n)), (.int (Int32.ofNat (own_nd (own_M n)))), (.int (0 : Int32)), (.ref ra)])) (fun _ k => Jvm.Stand.ldc2J (g := (mkF m 179 #[.val (.int p0), .val (.int p1), .val (.int n), .val (.ref ra), .val (.int (0 : Int32)), .val (.long (own_L n)), .second, .val (.int (Int32.ofNat (own_nd (own_M n)))), .val (.int (0 : Int32)), .val (.int (0 : Int32)), .val (.int (Int32.ofNat NN)), .unset, .unset] [(.int (3 : Int32)), (.long (own_L n)), (.int (Int32.ofNat (own_nd (own_M n)))), (.int (0 : Int32)), (.ref ra)])) X149 hx hown (mvT hZ (hwi hw 182 rfl)) rfl (hb hby at_179) k) ?_
      obtain ⟨_, _, ⟨T150, L150, k150, n150⟩, -, X150, ⟨Lc150, hQ150, l150, y150, z150⟩, st150⟩ := Jvm.LawKit.callS X149 hx (y := (⟨"com/example/noteform/noteform/io/FiguresDaysPinLaw", "digitAt", "(Ljava/lang/String;IIJIJ)Z"⟩ : MethodName)) hown (mvT hZ (hwi hw 156 rfl)) (mvT hZ (hwi hw 157 rfl)) (mvT hZ (hwi hw 152 rfl)) (mvT hZ (hwi hw 158 rfl)) (by decide) (backOf (W := 0) (Q := Qret (some (.int (1 : Int32))) T101.heap n0) (own_da l Z a0 hw [] ra n (0 : Int32) (3 : Int32) (1000 : Int64) 0 3 NN gc rb rk tv gf T101.heap n0 Z101 F102 hgc E101 C101 B101 V101 F107 cgf rfl rfl (by decide) (by decide) (by decide) dg (by omega) (by omega)) hZ (hwi hw 158 rfl) (hwi hw 152 rfl) (by decide) (by decide)) (g := (mkF m 182 #[.val (.int p0), .val (.int p1), .val (.int n), .val (.ref ra), .val (.int (0 : Int32)), .val (.long (own_L n)), .second, .val (.int (Int32.ofNat (own_nd (own_M n)))), .val (.int (0 : Int32)), .val (.int (0 : Int32)), .val (.int (Int32.ofNat NN)), .unset, .unset] [(.long (1000 : Int64)), (.int (3 : Int32)), (.long (own_L n)), (.int (Int32.ofNat (own_nd (own_M n)))), (.int (0 : Int32)), (.ref ra)])) rfl (by rw [hml]; rfl) (argsL := [(.ref ra), (.int (0 : Int32)), (.int (Int32.ofNat (own_nd (own_M n)))), (.long (own_L n)), (.int (3 : Int32)), (.long (1000 : Int64))]) (rest := []) (lenOf own_pd27 rfl) rfl (by show 2 * 0 + _ ≤ _; exact Nat.le_of_eq rfl) (hb hby at_182) (fun _ _ => ⟨rfl, eh149, (by dsimp only [Pt.cells, Pt.slots, room_1]; omega), (by dsimp only [Pt.cells, Pt.slots, room_1]; omega)⟩)
      dsimp only [Pt.U, Pt.locs, Pt.cells, Pt.slots] at X150 l150 y150 z150 st150 hQ150
      subst l150 y150 z150
      obtain ⟨rfl, N150q, eh150⟩ := hQ150
      have N150 := Fr.app N149 N150q
      refine GoW.step (T' := T150) (g' := (mkF m 185 #[.val (.int p0), .val (.int p1), .val (.int n), .val (.ref ra), .val (.int (0 : Int32)), .val (.long (own_L n)), .second, .val (.int (Int32.ofNat (own_nd (own_M n)))), .val (.int (0 : Int32)), .val (.int (0 : Int32)), .val (.int (Int32.ofNat NN)), .unset, .unset] [(.int (1 : Int32))])) (st150) ?_
      refine GoW.step (T' := T150) (g' := (mkF m 188 #[.val (.int p0), .val (.int p1), .val (.int n), .val (.ref ra), .val (.int (0 : Int32)), .val (.long (own_L n)), .second, .val (.int (Int32.ofNat (own_nd (own_M n)))), .val (.int (0 : Int32)), .val (.int (0 : Int32)), .val (.int (Int32.ofNat NN)), .unset, .unset] [])) (fun _ k => XS.ifNo X150.here hx rfl (hb hby at_185) rfl ((if0 _ _).trans (feq (by decide : ¬ ((1 : Int32) = (0 : Int32)))).1) k) ?_
      refine GoW.step (T' := T150) (g' := (mkF m 189 #[.val (.int p0), .val (.int p1), .val (.int n), .val (.ref ra), .val (.int (0 : Int32)), .val (.long (own_L n)), .second, .val (.int (Int32.ofNat (own_nd (own_M n)))), .val (.int (0 : Int32)), .val (.int (0 : Int32)), .val (.int (Int32.ofNat NN)), .unset, .unset] [(.ref ra)])) (fun _ k => XS.aloadN X150.here hx rfl (hb hby at_188) rfl rfl k) ?_
      refine GoW.step (T' := T150) (g' := (mkF m 191 #[.val (.int p0), .val (.int p1), .val (.int n), .val (.ref ra), .val (.int (0 : Int32)), .val (.long (own_L n)), .second, .val (.int (Int32.ofNat (own_nd (own_M n)))), .val (.int (0 : Int32)), .val (.int (0 : Int32)), .val (.int (Int32.ofNat NN)), .unset, .unset] [(.int (0 : Int32)), (.ref ra)])) (fun _ k => XS.iload X150.here hx rfl (hb hby at_189) rfl  k) ?_
      refine GoW.step (T' := T150) (g' := (mkF m 193 #[.val (.int p0), .val (.int p1), .val (.int n), .val (.ref ra), .val (.int (0 : Int32)), .val (.long (own_L n)), .second, .val (.int (Int32.ofNat (own_nd (own_M n)))), .val (.int (0 : Int32)), .val (.int (0 : Int32)), .val (.int (Int32.ofNat NN)), .unset, .unset] [(.int (Int32.ofNat (own_nd (own_M n)))), (.int (0 : Int32)), (.ref ra)])) (fun _ k => XS.iload X150.here hx rfl (hb hby at_191) rfl  k) ?_
      refine GoW.step (T' := T150) (g' := (mkF m 195 #[.val (.int p0), .val (.int p1), .val (.int n), .val (.ref ra), .val (.int (0 : Int32)), .val (.long (own_L n)), .second, .val (.int (Int32.ofNat (own_nd (own_M n)))), .val (.int (0 : Int32)), .val (.int (0 : Int32)), .val (.int (Int32.ofNat NN)), .unset, .unset] [(.long (own_L n)), (.int (Int32.ofNat (own_nd (own_M n)))), (.int (0 : Int32)), (.ref ra)])) (fun _ k => XS.lload X150.here hx rfl (hb hby at_193) rfl  k) ?_
      refine GoW.step (T' := T150) (g' := (mkF m 196 #[.val (.int p0), .val (.int p1), .val (.int n), .val (.ref ra), .val (.int (0 : Int32)), .val (.long (own_L n)), .second, .val (.int (Int32.ofNat (own_nd (own_M n)))), .val (.int (0 : Int32)), .val (.int (0 : Int32)), .val (.int (Int32.ofNat NN)), .unset, .unset] [(.int (4 : Int32)), (.long (own_L n)), (.int (Int32.ofNat (own_nd (own_M n)))), (.int (0 : Int32)), (.ref ra)])) (fun _ k => XS.iconst X150.here hx rfl (hb hby at_195) k) ?_
      refine GoW.step (T' := T150) (g' := (mkF m 199 #[.val (.int p0), .val (.int p1), .val (.int n), .val (.ref ra), .val (.int (0 : Int32)), .val (.long (own_L n)), .second, .val (.int (Int32.ofNat (own_nd (own_M n)))), .val (.int (0 : Int32)), .val (.int (0 : Int32)), .val (.int (Int32.ofNat NN)), .unset, .unset] [(.long (10000 : Int64)), (.int (4 : Int32)), (.long (own_L n)), (.int (Int32.ofNat (own_nd (own_M n)))), (.int (0 : Int32)), (.ref ra)])) (fun _ k => Jvm.Stand.ldc2J (g := (mkF m 196 #[.val (.int p0), .val (.int p1), .val (.int n), .val (.ref ra), .val (.int (0 : Int32)), .val (.long (own_L n)), .second, .val (.int (Int32.ofNat (own_nd (own_M n)))), .val (.int (0 : Int32)), .val (.int (0 : Int32)), .val (.int (Int32.ofNat NN)), .unset, .unset] [(.int (4 : Int32)), (.long (own_L n)), (.int (Int32.ofNat (own_nd (own_M n)))), (.int (0 : Int32)), (.ref ra)])) X150 hx hown (mvT hZ (hwi hw 183 rfl)) rfl (hb hby at_196) k) ?_
      obtain ⟨_, _, ⟨T151, L151, k151, n151⟩, -, X151, ⟨Lc151, hQ151, l151, y151, z151⟩, st151⟩ := Jvm.LawKit.callS X150 hx (y := (⟨"com/example/noteform/noteform/io/FiguresDaysPinLaw", "digitAt", "(Ljava/lang/String;IIJIJ)Z"⟩ : MethodName)) hown (mvT hZ (hwi hw 156 rfl)) (mvT hZ (hwi hw 157 rfl)) (mvT hZ (hwi hw 152 rfl)) (mvT hZ (hwi hw 158 rfl)) (by decide) (backOf (W := 0) (Q := Qret (some (.int (1 : Int32))) T101.heap n0) (own_da l Z a0 hw [] ra n (0 : Int32) (4 : Int32) (10000 : Int64) 0 4 NN gc rb rk tv gf T101.heap n0 Z101 F102 hgc E101 C101 B101 V101 F107 cgf rfl rfl (by decide) (by decide) (by decide) dg (by omega) (by omega)) hZ (hwi hw 158 rfl) (hwi hw 152 rfl) (by decide) (by decide)) (g := (mkF m 199 #[.val (.int p0), .val (.int p1), .val (.int n), .val (.ref ra), .val (.int (0 : Int32)), .val (.long (own_L n)), .second, .val (.int (Int32.ofNat (own_nd (own_M n)))), .val (.int (0 : Int32)), .val (.int (0 : Int32)), .val (.int (Int32.ofNat NN)), .unset, .unset] [(.long (10000 : Int64)), (.int (4 : Int32)), (.long (own_L n)), (.int (Int32.ofNat (own_nd (own_M n)))), (.int (0 : Int32)), (.ref ra)])) rfl (by rw [hml]; rfl) (argsL := [(.ref ra), (.int (0 : Int32)), (.int (Int32.ofNat (own_nd (own_M n)))), (.long (own_L n)), (.int (4 : Int32)), (.long (10000 : Int64))]) (rest := []) (lenOf own_pd27 rfl) rfl (by show 2 * 0 + _ ≤ _; exact Nat.le_of_eq rfl) (hb hby at_199) (fun _ _ => ⟨rfl, eh150, (by dsimp only [Pt.cells, Pt.slots, room_1]; omega), (by dsimp only [Pt.cells, Pt.slots, room_1]; omega)⟩)
      dsimp only [Pt.U, Pt.locs, Pt.cells, Pt.slots] at X151 l151 y151 z151 st151 hQ151
      subst l151 y151 z151
      obtain ⟨rfl, N151q, eh151⟩ := hQ151
      have N151 := Fr.app N150 N151q
      refine GoW.step (T' := T151) (g' := (mkF m 202 #[.val (.int p0), .val (.int p1), .val (.int n), .val (.ref ra), .val (.int (0 : Int32)), .val (.long (own_L n)), .second, .val (.int (Int32.ofNat (own_nd (own_M n)))), .val (.int (0 : Int32)), .val (.int (0 : Int32)), .val (.int (Int32.ofNat NN)), .unset, .unset] [(.int (1 : Int32))])) (st151) ?_
      refine GoW.step (T' := T151) (g' := (mkF m 205 #[.val (.int p0), .val (.int p1), .val (.int n), .val (.ref ra), .val (.int (0 : Int32)), .val (.long (own_L n)), .second, .val (.int (Int32.ofNat (own_nd (own_M n)))), .val (.int (0 : Int32)), .val (.int (0 : Int32)), .val (.int (Int32.ofNat NN)), .unset, .unset] [])) (fun _ k => XS.ifNo X151.here hx rfl (hb hby at_202) rfl ((if0 _ _).trans (feq (by decide : ¬ ((1 : Int32) = (0 : Int32)))).1) k) ?_
      refine GoW.step (T' := T151) (g' := (mkF m 206 #[.val (.int p0), .val (.int p1), .val (.int n), .val (.ref ra), .val (.int (0 : Int32)), .val (.long (own_L n)), .second, .val (.int (Int32.ofNat (own_nd (own_M n)))), .val (.int (0 : Int32)), .val (.int (0 : Int32)), .val (.int (Int32.ofNat NN)), .unset, .unset] [(.ref ra)])) (fun _ k => XS.aloadN X151.here hx rfl (hb hby at_205) rfl rfl k) ?_
      refine GoW.step (T' := T151) (g' := (mkF m 208 #[.val (.int p0), .val (.int p1), .val (.int n), .val (.ref ra), .val (.int (0 : Int32)), .val (.long (own_L n)), .second, .val (.int (Int32.ofNat (own_nd (own_M n)))), .val (.int (0 : Int32)), .val (.int (0 : Int32)), .val (.int (Int32.ofNat NN)), .unset, .unset] [(.int (0 : Int32)), (.ref ra)])) (fun _ k => XS.iload X151.here hx rfl (hb hby at_206) rfl  k) ?_
      refine GoW.step (T' := T151) (g' := (mkF m 210 #[.val (.int p0), .val (.int p1), .val (.int n), .val (.ref ra), .val (.int (0 : Int32)), .val (.long (own_L n)), .second, .val (.int (Int32.ofNat (own_nd (own_M n)))), .val (.int (0 : Int32)), .val (.int (0 : Int32)), .val (.int (Int32.ofNat NN)), .unset, .unset] [(.int (Int32.ofNat (own_nd (own_M n)))), (.int (0 : Int32)), (.ref ra)])) (fun _ k => XS.iload X151.here hx rfl (hb hby at_208) rfl  k) ?_
      refine GoW.step (T' := T151) (g' := (mkF m 212 #[.val (.int p0), .val (.int p1), .val (.int n), .val (.ref ra), .val (.int (0 : Int32)), .val (.long (own_L n)), .second, .val (.int (Int32.ofNat (own_nd (own_M n)))), .val (.int (0 : Int32)), .val (.int (0 : Int32)), .val (.int (Int32.ofNat NN)), .unset, .unset] [(.long (own_L n)), (.int (Int32.ofNat (own_nd (own_M n)))), (.int (0 : Int32)), (.ref ra)])) (fun _ k => XS.lload X151.here hx rfl (hb hby at_210) rfl  k) ?_
      refine GoW.step (T' := T151) (g' := (mkF m 213 #[.val (.int p0), .val (.int p1), .val (.int n), .val (.ref ra), .val (.int (0 : Int32)), .val (.long (own_L n)), .second, .val (.int (Int32.ofNat (own_nd (own_M n)))), .val (.int (0 : Int32)), .val (.int (0 : Int32)), .val (.int (Int32.ofNat NN)), .unset, .unset] [(.int (5 : Int32)), (.long (own_L n)), (.int (Int32.ofNat (own_nd (own_M n)))), (.int (0 : Int32)), (.ref ra)])) (fun _ k => XS.iconst X151.here hx rfl (hb hby at_212) k) ?_
      refine GoW.step (T' := T151) (g' := (mkF m 216 #[.val (.int p0), .val (.int p1), .val (.int n), .val (.ref ra), .val (.int (0 : Int32)), .val (.long (own_L n)), .second, .val (.int (Int32.ofNat (own_nd (own_M n)))), .val (.int (0 : Int32)), .val (.int (0 : Int32)), .val (.int (Int32.ofNat NN)), .unset, .unset] [(.long (100000 : Int64)), (.int (5 : Int32)), (.long (own_L n)), (.int (Int32.ofNat (own_nd (own_M n)))), (.int (0 : Int32)), (.ref ra)])) (fun _ k => Jvm.Stand.ldc2J (g := (mkF m 213 #[.val (.int p0), .val (.int p1), .val (.int n), .val (.ref ra), .val (.int (0 : Int32)), .val (.long (own_L n)), .second, .val (.int (Int32.ofNat (own_nd (own_M n)))), .val (.int (0 : Int32)), .val (.int (0 : Int32)), .val (.int (Int32.ofNat NN)), .unset, .unset] [(.int (5 : Int32)), (.long (own_L n)), (.int (Int32.ofNat (own_nd (own_M n)))), (.int (0 : Int32)), (.ref ra)])) X151 hx hown (mvT hZ (hwi hw 184 rfl)) rfl (hb hby at_213) k) ?_
      obtain ⟨_, _, ⟨T152, L152, k152, n152⟩, -, X152, ⟨Lc152, hQ152, l152, y152, z152⟩, st152⟩ := Jvm.LawKit.callS X151 hx (y := (⟨"com/example/noteform/noteform/io/FiguresDaysPinLaw", "digitAt", "(Ljava/lang/String;IIJIJ)Z"⟩ : MethodName)) hown (mvT hZ (hwi hw 156 rfl)) (mvT hZ (hwi hw 157 rfl)) (mvT hZ (hwi hw 152 rfl)) (mvT hZ (hwi hw 158 rfl)) (by decide) (backOf (W := 0) (Q := Qret (some (.int (1 : Int32))) T101.heap n0) (own_da l Z a0 hw [] ra n (0 : Int32) (5 : Int32) (100000 : Int64) 0 5 NN gc rb rk tv gf T101.heap n0 Z101 F102 hgc E101 C101 B101 V101 F107 cgf rfl rfl (by decide) (by decide) (by decide) dg (by omega) (by omega)) hZ (hwi hw 158 rfl) (hwi hw 152 rfl) (by decide) (by decide)) (g := (mkF m 216 #[.val (.int p0), .val (.int p1), .val (.int n), .val (.ref ra), .val (.int (0 : Int32)), .val (.long (own_L n)), .second, .val (.int (Int32.ofNat (own_nd (own_M n)))), .val (.int (0 : Int32)), .val (.int (0 : Int32)), .val (.int (Int32.ofNat NN)), .unset, .unset] [(.long (100000 : Int64)), (.int (5 : Int32)), (.long (own_L n)), (.int (Int32.ofNat (own_nd (own_M n)))), (.int (0 : Int32)), (.ref ra)])) rfl (by rw [hml]; rfl) (argsL := [(.ref ra), (.int (0 : Int32)), (.int (Int32.ofNat (own_nd (own_M n)))), (.long (own_L n)), (.int (5 : Int32)), (.long (100000 : Int64))]) (rest := []) (lenOf own_pd27 rfl) rfl (by show 2 * 0 + _ ≤ _; exact Nat.le_of_eq rfl) (hb hby at_216) (fun _ _ => ⟨rfl, eh151, (by dsimp only [Pt.cells, Pt.slots, room_1]; omega), (by dsimp only [Pt.cells, Pt.slots, room_1]; omega)⟩)
      dsimp only [Pt.U, Pt.locs, Pt.cells, Pt.slots] at X152 l152 y152 z152 st152 hQ152
      subst l152 y152 z152
      obtain ⟨rfl, N152q, eh152⟩ := hQ152
      have N152 := Fr.app N151 N152q
      refine GoW.step (T' := T152) (g' := (mkF m 219 #[.val (.int p0), .val (.int p1), .val (.int n), .val (.ref ra), .val (.int (0 : Int32)), .val (.long (own_L n)), .second, .val (.int (Int32.ofNat (own_nd (own_M n)))), .val (.int (0 : Int32)), .val (.int (0 : Int32)), .val (.int (Int32.ofNat NN)), .unset, .unset] [(.int (1 : Int32))])) (st152) ?_
      refine GoW.step (T' := T152) (g' := (mkF m 222 #[.val (.int p0), .val (.int p1), .val (.int n), .val (.ref ra), .val (.int (0 : Int32)), .val (.long (own_L n)), .second, .val (.int (Int32.ofNat (own_nd (own_M n)))), .val (.int (0 : Int32)), .val (.int (0 : Int32)), .val (.int (Int32.ofNat NN)), .unset, .unset] [])) (fun _ k => XS.ifNo X152.here hx rfl (hb hby at_219) rfl ((if0 _ _).trans (feq (by decide : ¬ ((1 : Int32) = (0 : Int32)))).1) k) ?_
      refine GoW.step (T' := T152) (g' := (mkF m 223 #[.val (.int p0), .val (.int p1), .val (.int n), .val (.ref ra), .val (.int (0 : Int32)), .val (.long (own_L n)), .second, .val (.int (Int32.ofNat (own_nd (own_M n)))), .val (.int (0 : Int32)), .val (.int (0 : Int32)), .val (.int (Int32.ofNat NN)), .unset, .unset] [(.ref ra)])) (fun _ k => XS.aloadN X152.here hx rfl (hb hby at_222) rfl rfl k) ?_
      refine GoW.step (T' := T152) (g' := (mkF m 225 #[.val (.int p0), .val (.int p1), .val (.int n), .val (.ref ra), .val (.int (0 : Int32)), .val (.long (own_L n)), .second, .val (.int (Int32.ofNat (own_nd (own_M n)))), .val (.int (0 : Int32)), .val (.int (0 : Int32)), .val (.int (Int32.ofNat NN)), .unset, .unset] [(.int (0 : Int32)), (.ref ra)])) (fun _ k => XS.iload X152.here hx rfl (hb hby at_223) rfl  k) ?_
      refine GoW.step (T' := T152) (g' := (mkF m 227 #[.val (.int p0), .val (.int p1), .val (.int n), .val (.ref ra), .val (.int (0 : Int32)), .val (.long (own_L n)), .second, .val (.int (Int32.ofNat (own_nd (own_M n)))), .val (.int (0 : Int32)), .val (.int (0 : Int32)), .val (.int (Int32.ofNat NN)), .unset, .unset] [(.int (Int32.ofNat (own_nd (own_M n)))), (.int (0 : Int32)), (.ref ra)])) (fun _ k => XS.iload X152.here hx rfl (hb hby at_225) rfl  k) ?_
      refine GoW.step (T' := T152) (g' := (mkF m 229 #[.val (.int p0), .val (.int p1), .val (.int n), .val (.ref ra), .val (.int (0 : Int32)), .val (.long (own_L n)), .second, .val (.int (Int32.ofNat (own_nd (own_M n)))), .val (.int (0 : Int32)), .val (.int (0 : Int32)), .val (.int (Int32.ofNat NN)), .unset, .unset] [(.long (own_L n)), (.int (Int32.ofNat (own_nd (own_M n)))), (.int (0 : Int32)), (.ref ra)])) (fun _ k => XS.lload X152.here hx rfl (hb hby at_227) rfl  k) ?_
      refine GoW.step (T' := T152) (g' := (mkF m 231 #[.val (.int p0), .val (.int p1), .val (.int n), .val (.ref ra), .val (.int (0 : Int32)), .val (.long (own_L n)), .second, .val (.int (Int32.ofNat (own_nd (own_M n)))), .val (.int (0 : Int32)), .val (.int (0 : Int32)), .val (.int (Int32.ofNat NN)), .unset, .unset] [(.int (6 : Int32)), (.long (own_L n)), (.int (Int32.ofNat (own_nd (own_M n)))), (.int (0 : Int32)), (.ref ra)])) (fun _ k => XS.bipush X152.here hx rfl (hb hby at_229) k) ?_
      refine GoW.step (T' := T152) (g' := (mkF m 234 #[.val (.int p0), .val (.int p1), .val (.int n), .val (.ref ra), .val (.int (0 : Int32)), .val (.long (own_L n)), .second, .val (.int (Int32.ofNat (own_nd (own_M n)))), .val (.int (0 : Int32)), .val (.int (0 : Int32)), .val (.int (Int32.ofNat NN)), .unset, .unset] [(.long (1000000 : Int64)), (.int (6 : Int32)), (.long (own_L n)), (.int (Int32.ofNat (own_nd (own_M n)))), (.int (0 : Int32)), (.ref ra)])) (fun _ k => Jvm.Stand.ldc2J (g := (mkF m 231 #[.val (.int p0), .val (.int p1), .val (.int n), .val (.ref ra), .val (.int (0 : Int32)), .val (.long (own_L n)), .second, .val (.int (Int32.ofNat (own_nd (own_M n)))), .val (.int (0 : Int32)), .val (.int (0 : Int32)), .val (.int (Int32.ofNat NN)), .unset, .unset] [(.int (6 : Int32)), (.long (own_L n)), (.int (Int32.ofNat (own_nd (own_M n)))), (.int (0 : Int32)), (.ref ra)])) X152 hx hown (mvT hZ (hwi hw 185 rfl)) rfl (hb hby at_231) k) ?_
      obtain ⟨_, _, ⟨T153, L153, k153, n153⟩, -, X153, ⟨Lc153, hQ153, l153, y153, z153⟩, st153⟩ := Jvm.LawKit.callS X152 hx (y := (⟨"com/example/noteform/noteform/io/FiguresDaysPinLaw", "digitAt", "(Ljava/lang/String;IIJIJ)Z"⟩ : MethodName)) hown (mvT hZ (hwi hw 156 rfl)) (mvT hZ (hwi hw 157 rfl)) (mvT hZ (hwi hw 152 rfl)) (mvT hZ (hwi hw 158 rfl)) (by decide) (backOf (W := 0) (Q := Qret (some (.int (1 : Int32))) T101.heap n0) (own_da l Z a0 hw [] ra n (0 : Int32) (6 : Int32) (1000000 : Int64) 0 6 NN gc rb rk tv gf T101.heap n0 Z101 F102 hgc E101 C101 B101 V101 F107 cgf rfl rfl (by decide) (by decide) (by decide) dg (by omega) (by omega)) hZ (hwi hw 158 rfl) (hwi hw 152 rfl) (by decide) (by decide)) (g := (mkF m 234 #[.val (.int p0), .val (.int p1), .val (.int n), .val (.ref ra), .val (.int (0 : Int32)), .val (.long (own_L n)), .second, .val (.int (Int32.ofNat (own_nd (own_M n)))), .val (.int (0 : Int32)), .val (.int (0 : Int32)), .val (.int (Int32.ofNat NN)), .unset, .unset] [(.long (1000000 : Int64)), (.int (6 : Int32)), (.long (own_L n)), (.int (Int32.ofNat (own_nd (own_M n)))), (.int (0 : Int32)), (.ref ra)])) rfl (by rw [hml]; rfl) (argsL := [(.ref ra), (.int (0 : Int32)), (.int (Int32.ofNat (own_nd (own_M n)))), (.long (own_L n)), (.int (6 : Int32)), (.long (1000000 : Int64))]) (rest := []) (lenOf own_pd27 rfl) rfl (by show 2 * 0 + _ ≤ _; exact Nat.le_of_eq rfl) (hb hby at_234) (fun _ _ => ⟨rfl, eh152, (by dsimp only [Pt.cells, Pt.slots, room_1]; omega), (by dsimp only [Pt.cells, Pt.slots, room_1]; omega)⟩)
      dsimp only [Pt.U, Pt.locs, Pt.cells, Pt.slots] at X153 l153 y153 z153 st153 hQ153
      subst l153 y153 z153
      obtain ⟨rfl, N153q, eh153⟩ := hQ153
      have N153 := Fr.app N152 N153q
      refine GoW.step (T' := T153) (g' := (mkF m 237 #[.val (.int p0), .val (.int p1), .val (.int n), .val (.ref ra), .val (.int (0 : Int32)), .val (.long (own_L n)), .second, .val (.int (Int32.ofNat (own_nd (own_M n)))), .val (.int (0 : Int32)), .val (.int (0 : Int32)), .val (.int (Int32.ofNat NN)), .unset, .unset] [(.int (1 : Int32))])) (st153) ?_
      refine GoW.step (T' := T153) (g' := (mkF m 240 #[.val (.int p0), .val (.int p1), .val (.int n), .val (.ref ra), .val (.int (0 : Int32)), .val (.long (own_L n)), .second, .val (.int (Int32.ofNat (own_nd (own_M n)))), .val (.int (0 : Int32)), .val (.int (0 : Int32)), .val (.int (Int32.ofNat NN)), .unset, .unset] [])) (fun _ k => XS.ifNo X153.here hx rfl (hb hby at_237) rfl ((if0 _ _).trans (feq (by decide : ¬ ((1 : Int32) = (0 : Int32)))).1) k) ?_
      refine GoW.step (T' := T153) (g' := (mkF m 241 #[.val (.int p0), .val (.int p1), .val (.int n), .val (.ref ra), .val (.int (0 : Int32)), .val (.long (own_L n)), .second, .val (.int (Int32.ofNat (own_nd (own_M n)))), .val (.int (0 : Int32)), .val (.int (0 : Int32)), .val (.int (Int32.ofNat NN)), .unset, .unset] [(.ref ra)])) (fun _ k => XS.aloadN X153.here hx rfl (hb hby at_240) rfl rfl k) ?_
      refine GoW.step (T' := T153) (g' := (mkF m 243 #[.val (.int p0), .val (.int p1), .val (.int n), .val (.ref ra), .val (.int (0 : Int32)), .val (.long (own_L n)), .second, .val (.int (Int32.ofNat (own_nd (own_M n)))), .val (.int (0 : Int32)), .val (.int (0 : Int32)), .val (.int (Int32.ofNat NN)), .unset, .unset] [(.int (0 : Int32)), (.ref ra)])) (fun _ k => XS.iload X153.here hx rfl (hb hby at_241) rfl  k) ?_
      refine GoW.step (T' := T153) (g' := (mkF m 245 #[.val (.int p0), .val (.int p1), .val (.int n), .val (.ref ra), .val (.int (0 : Int32)), .val (.long (own_L n)), .second, .val (.int (Int32.ofNat (own_nd (own_M n)))), .val (.int (0 : Int32)), .val (.int (0 : Int32)), .val (.int (Int32.ofNat NN)), .unset, .unset] [(.int (Int32.ofNat (own_nd (own_M n)))), (.int (0 : Int32)), (.ref ra)])) (fun _ k => XS.iload X153.here hx rfl (hb hby at_243) rfl  k) ?_
      refine GoW.step (T' := T153) (g' := (mkF m 247 #[.val (.int p0), .val (.int p1), .val (.int n), .val (.ref ra), .val (.int (0 : Int32)), .val (.long (own_L n)), .second, .val (.int (Int32.ofNat (own_nd (own_M n)))), .val (.int (0 : Int32)), .val (.int (0 : Int32)), .val (.int (Int32.ofNat NN)), .unset, .unset] [(.long (own_L n)), (.int (Int32.ofNat (own_nd (own_M n)))), (.int (0 : Int32)), (.ref ra)])) (fun _ k => XS.lload X153.here hx rfl (hb hby at_245) rfl  k) ?_
      refine GoW.step (T' := T153) (g' := (mkF m 249 #[.val (.int p0), .val (.int p1), .val (.int n), .val (.ref ra), .val (.int (0 : Int32)), .val (.long (own_L n)), .second, .val (.int (Int32.ofNat (own_nd (own_M n)))), .val (.int (0 : Int32)), .val (.int (0 : Int32)), .val (.int (Int32.ofNat NN)), .unset, .unset] [(.int (7 : Int32)), (.long (own_L n)), (.int (Int32.ofNat (own_nd (own_M n)))), (.int (0 : Int32)), (.ref ra)])) (fun _ k => XS.bipush X153.here hx rfl (hb hby at_247) k) ?_
      refine GoW.step (T' := T153) (g' := (mkF m 252 #[.val (.int p0), .val (.int p1), .val (.int n), .val (.ref ra), .val (.int (0 : Int32)), .val (.long (own_L n)), .second, .val (.int (Int32.ofNat (own_nd (own_M n)))), .val (.int (0 : Int32)), .val (.int (0 : Int32)), .val (.int (Int32.ofNat NN)), .unset, .unset] [(.long (10000000 : Int64)), (.int (7 : Int32)), (.long (own_L n)), (.int (Int32.ofNat (own_nd (own_M n)))), (.int (0 : Int32)), (.ref ra)])) (fun _ k => Jvm.Stand.ldc2J (g := (mkF m 249 #[.val (.int p0), .val (.int p1), .val (.int n), .val (.ref ra), .val (.int (0 : Int32)), .val (.long (own_L n)), .second, .val (.int (Int32.ofNat (own_nd (own_M n)))), .val (.int (0 : Int32)), .val (.int (0 : Int32)), .val (.int (Int32.ofNat NN)), .unset, .unset] [(.int (7 : Int32)), (.long (own_L n)), (.int (Int32.ofNat (own_nd (own_M n)))), (.int (0 : Int32)), (.ref ra)])) X153 hx hown (mvT hZ (hwi hw 186 rfl)) rfl (hb hby at_249) k) ?_
      obtain ⟨_, _, ⟨T154, L154, k154, n154⟩, -, X154, ⟨Lc154, hQ154, l154, y154, z154⟩, st154⟩ := Jvm.LawKit.callS X153 hx (y := (⟨"com/example/noteform/noteform/io/FiguresDaysPinLaw", "digitAt", "(Ljava/lang/String;IIJIJ)Z"⟩ : MethodName)) hown (mvT hZ (hwi hw 156 rfl)) (mvT hZ (hwi hw 157 rfl)) (mvT hZ (hwi hw 152 rfl)) (mvT hZ (hwi hw 158 rfl)) (by decide) (backOf (W := 0) (Q := Qret (some (.int (1 : Int32))) T101.heap n0) (own_da l Z a0 hw [] ra n (0 : Int32) (7 : Int32) (10000000 : Int64) 0 7 NN gc rb rk tv gf T101.heap n0 Z101 F102 hgc E101 C101 B101 V101 F107 cgf rfl rfl (by decide) (by decide) (by decide) dg (by omega) (by omega)) hZ (hwi hw 158 rfl) (hwi hw 152 rfl) (by decide) (by decide)) (g := (mkF m 252 #[.val (.int p0), .val (.int p1), .val (.int n), .val (.ref ra), .val (.int (0 : Int32)), .val (.long (own_L n)), .second, .val (.int (Int32.ofNat (own_nd (own_M n)))), .val (.int (0 : Int32)), .val (.int (0 : Int32)), .val (.int (Int32.ofNat NN)), .unset, .unset] [(.long (10000000 : Int64)), (.int (7 : Int32)), (.long (own_L n)), (.int (Int32.ofNat (own_nd (own_M n)))), (.int (0 : Int32)), (.ref ra)])) rfl (by rw [hml]; rfl) (argsL := [(.ref ra), (.int (0 : Int32)), (.int (Int32.ofNat (own_nd (own_M n)))), (.long (own_L n)), (.int (7 : Int32)), (.long (10000000 : Int64))]) (rest := []) (lenOf own_pd27 rfl) rfl (by show 2 * 0 + _ ≤ _; exact Nat.le_of_eq rfl) (hb hby at_252) (fun _ _ => ⟨rfl, eh153, (by dsimp only [Pt.cells, Pt.slots, room_1]; omega), (by dsimp only [Pt.cells, Pt.slots, room_1]; omega)⟩)
      dsimp only [Pt.U, Pt.locs, Pt.cells, Pt.slots] at X154 l154 y154 z154 st154 hQ154
      subst l154 y154 z154
      obtain ⟨rfl, N154q, eh154⟩ := hQ154
      have N154 := Fr.app N153 N154q
      refine GoW.step (T' := T154) (g' := (mkF m 255 #[.val (.int p0), .val (.int p1), .val (.int n), .val (.ref ra), .val (.int (0 : Int32)), .val (.long (own_L n)), .second, .val (.int (Int32.ofNat (own_nd (own_M n)))), .val (.int (0 : Int32)), .val (.int (0 : Int32)), .val (.int (Int32.ofNat NN)), .unset, .unset] [(.int (1 : Int32))])) (st154) ?_
      refine GoW.step (T' := T154) (g' := (mkF m 258 #[.val (.int p0), .val (.int p1), .val (.int n), .val (.ref ra), .val (.int (0 : Int32)), .val (.long (own_L n)), .second, .val (.int (Int32.ofNat (own_nd (own_M n)))), .val (.int (0 : Int32)), .val (.int (0 : Int32)), .val (.int (Int32.ofNat NN)), .unset, .unset] [])) (fun _ k => XS.ifNo X154.here hx rfl (hb hby at_255) rfl ((if0 _ _).trans (feq (by decide : ¬ ((1 : Int32) = (0 : Int32)))).1) k) ?_
      refine GoW.step (T' := T154) (g' := (mkF m 259 #[.val (.int p0), .val (.int p1), .val (.int n), .val (.ref ra), .val (.int (0 : Int32)), .val (.long (own_L n)), .second, .val (.int (Int32.ofNat (own_nd (own_M n)))), .val (.int (0 : Int32)), .val (.int (0 : Int32)), .val (.int (Int32.ofNat NN)), .unset, .unset] [(.ref ra)])) (fun _ k => XS.aloadN X154.here hx rfl (hb hby at_258) rfl rfl k) ?_
      refine GoW.step (T' := T154) (g' := (mkF m 261 #[.val (.int p0), .val (.int p1), .val (.int n), .val (.ref ra), .val (.int (0 : Int32)), .val (.long (own_L n)), .second, .val (.int (Int32.ofNat (own_nd (own_M n)))), .val (.int (0 : Int32)), .val (.int (0 : Int32)), .val (.int (Int32.ofNat NN)), .unset, .unset] [(.int (0 : Int32)), (.ref ra)])) (fun _ k => XS.iload X154.here hx rfl (hb hby at_259) rfl  k) ?_
      refine GoW.step (T' := T154) (g' := (mkF m 263 #[.val (.int p0), .val (.int p1), .val (.int n), .val (.ref ra), .val (.int (0 : Int32)), .val (.long (own_L n)), .second, .val (.int (Int32.ofNat (own_nd (own_M n)))), .val (.int (0 : Int32)), .val (.int (0 : Int32)), .val (.int (Int32.ofNat NN)), .unset, .unset] [(.int (Int32.ofNat (own_nd (own_M n)))), (.int (0 : Int32)), (.ref ra)])) (fun _ k => XS.iload X154.here hx rfl (hb hby at_261) rfl  k) ?_
      refine GoW.step (T' := T154) (g' := (mkF m 265 #[.val (.int p0), .val (.int p1), .val (.int n), .val (.ref ra), .val (.int (0 : Int32)), .val (.long (own_L n)), .second, .val (.int (Int32.ofNat (own_nd (own_M n)))), .val (.int (0 : Int32)), .val (.int (0 : Int32)), .val (.int (Int32.ofNat NN)), .unset, .unset] [(.long (own_L n)), (.int (Int32.ofNat (own_nd (own_M n)))), (.int (0 : Int32)), (.ref ra)])) (fun _ k => XS.lload X154.here hx rfl (hb hby at_263) rfl  k) ?_
      refine GoW.step (T' := T154) (g' := (mkF m 267 #[.val (.int p0), .val (.int p1), .val (.int n), .val (.ref ra), .val (.int (0 : Int32)), .val (.long (own_L n)), .second, .val (.int (Int32.ofNat (own_nd (own_M n)))), .val (.int (0 : Int32)), .val (.int (0 : Int32)), .val (.int (Int32.ofNat NN)), .unset, .unset] [(.int (8 : Int32)), (.long (own_L n)), (.int (Int32.ofNat (own_nd (own_M n)))), (.int (0 : Int32)), (.ref ra)])) (fun _ k => XS.bipush X154.here hx rfl (hb hby at_265) k) ?_
      refine GoW.step (T' := T154) (g' := (mkF m 270 #[.val (.int p0), .val (.int p1), .val (.int n), .val (.ref ra), .val (.int (0 : Int32)), .val (.long (own_L n)), .second, .val (.int (Int32.ofNat (own_nd (own_M n)))), .val (.int (0 : Int32)), .val (.int (0 : Int32)), .val (.int (Int32.ofNat NN)), .unset, .unset] [(.long (100000000 : Int64)), (.int (8 : Int32)), (.long (own_L n)), (.int (Int32.ofNat (own_nd (own_M n)))), (.int (0 : Int32)), (.ref ra)])) (fun _ k => Jvm.Stand.ldc2J (g := (mkF m 267 #[.val (.int p0), .val (.int p1), .val (.int n), .val (.ref ra), .val (.int (0 : Int32)), .val (.long (own_L n)), .second, .val (.int (Int32.ofNat (own_nd (own_M n)))), .val (.int (0 : Int32)), .val (.int (0 : Int32)), .val (.int (Int32.ofNat NN)), .unset, .unset] [(.int (8 : Int32)), (.long (own_L n)), (.int (Int32.ofNat (own_nd (own_M n)))), (.int (0 : Int32)), (.ref ra)])) X154 hx hown (mvT hZ (hwi hw 187 rfl)) rfl (hb hby at_267) k) ?_
      obtain ⟨_, _, ⟨T155, L155, k155, n155⟩, -, X155, ⟨Lc155, hQ155, l155, y155, z155⟩, st155⟩ := Jvm.LawKit.callS X154 hx (y := (⟨"com/example/noteform/noteform/io/FiguresDaysPinLaw", "digitAt", "(Ljava/lang/String;IIJIJ)Z"⟩ : MethodName)) hown (mvT hZ (hwi hw 156 rfl)) (mvT hZ (hwi hw 157 rfl)) (mvT hZ (hwi hw 152 rfl)) (mvT hZ (hwi hw 158 rfl)) (by decide) (backOf (W := 0) (Q := Qret (some (.int (1 : Int32))) T101.heap n0) (own_da l Z a0 hw [] ra n (0 : Int32) (8 : Int32) (100000000 : Int64) 0 8 NN gc rb rk tv gf T101.heap n0 Z101 F102 hgc E101 C101 B101 V101 F107 cgf rfl rfl (by decide) (by decide) (by decide) dg (by omega) (by omega)) hZ (hwi hw 158 rfl) (hwi hw 152 rfl) (by decide) (by decide)) (g := (mkF m 270 #[.val (.int p0), .val (.int p1), .val (.int n), .val (.ref ra), .val (.int (0 : Int32)), .val (.long (own_L n)), .second, .val (.int (Int32.ofNat (own_nd (own_M n)))), .val (.int (0 : Int32)), .val (.int (0 : Int32)), .val (.int (Int32.ofNat NN)), .unset, .unset] [(.long (100000000 : Int64)), (.int (8 : Int32)), (.long (own_L n)), (.int (Int32.ofNat (own_nd (own_M n)))), (.int (0 : Int32)), (.ref ra)])) rfl (by rw [hml]; rfl) (argsL := [(.ref ra), (.int (0 : Int32)), (.int (Int32.ofNat (own_nd (own_M n)))), (.long (own_L n)), (.int (8 : Int32)), (.long (100000000 : Int64))]) (rest := []) (lenOf own_pd27 rfl) rfl (by show 2 * 0 + _ ≤ _; exact Nat.le_of_eq rfl) (hb hby at_270) (fun _ _ => ⟨rfl, eh154, (by dsimp only [Pt.cells, Pt.slots, room_1]; omega), (by dsimp only [Pt.cells, Pt.slots, room_1]; omega)⟩)
      dsimp only [Pt.U, Pt.locs, Pt.cells, Pt.slots] at X155 l155 y155 z155 st155 hQ155
      subst l155 y155 z155
      obtain ⟨rfl, N155q, eh155⟩ := hQ155
      have N155 := Fr.app N154 N155q
      refine GoW.step (T' := T155) (g' := (mkF m 273 #[.val (.int p0), .val (.int p1), .val (.int n), .val (.ref ra), .val (.int (0 : Int32)), .val (.long (own_L n)), .second, .val (.int (Int32.ofNat (own_nd (own_M n)))), .val (.int (0 : Int32)), .val (.int (0 : Int32)), .val (.int (Int32.ofNat NN)), .unset, .unset] [(.int (1 : Int32))])) (st155) ?_
      refine GoW.step (T' := T155) (g' := (mkF m 276 #[.val (.int p0), .val (.int p1), .val (.int n), .val (.ref ra), .val (.int (0 : Int32)), .val (.long (own_L n)), .second, .val (.int (Int32.ofNat (own_nd (own_M n)))), .val (.int (0 : Int32)), .val (.int (0 : Int32)), .val (.int (Int32.ofNat NN)), .unset, .unset] [])) (fun _ k => XS.ifNo X155.here hx rfl (hb hby at_273) rfl ((if0 _ _).trans (feq (by decide : ¬ ((1 : Int32) = (0 : Int32)))).1) k) ?_
      refine GoW.step (T' := T155) (g' := (mkF m 277 #[.val (.int p0), .val (.int p1), .val (.int n), .val (.ref ra), .val (.int (0 : Int32)), .val (.long (own_L n)), .second, .val (.int (Int32.ofNat (own_nd (own_M n)))), .val (.int (0 : Int32)), .val (.int (0 : Int32)), .val (.int (Int32.ofNat NN)), .unset, .unset] [(.ref ra)])) (fun _ k => XS.aloadN X155.here hx rfl (hb hby at_276) rfl rfl k) ?_
      refine GoW.step (T' := T155) (g' := (mkF m 279 #[.val (.int p0), .val (.int p1), .val (.int n), .val (.ref ra), .val (.int (0 : Int32)), .val (.long (own_L n)), .second, .val (.int (Int32.ofNat (own_nd (own_M n)))), .val (.int (0 : Int32)), .val (.int (0 : Int32)), .val (.int (Int32.ofNat NN)), .unset, .unset] [(.int (0 : Int32)), (.ref ra)])) (fun _ k => XS.iload X155.here hx rfl (hb hby at_277) rfl  k) ?_
      refine GoW.step (T' := T155) (g' := (mkF m 281 #[.val (.int p0), .val (.int p1), .val (.int n), .val (.ref ra), .val (.int (0 : Int32)), .val (.long (own_L n)), .second, .val (.int (Int32.ofNat (own_nd (own_M n)))), .val (.int (0 : Int32)), .val (.int (0 : Int32)), .val (.int (Int32.ofNat NN)), .unset, .unset] [(.int (Int32.ofNat (own_nd (own_M n)))), (.int (0 : Int32)), (.ref ra)])) (fun _ k => XS.iload X155.here hx rfl (hb hby at_279) rfl  k) ?_
      refine GoW.step (T' := T155) (g' := (mkF m 283 #[.val (.int p0), .val (.int p1), .val (.int n), .val (.ref ra), .val (.int (0 : Int32)), .val (.long (own_L n)), .second, .val (.int (Int32.ofNat (own_nd (own_M n)))), .val (.int (0 : Int32)), .val (.int (0 : Int32)), .val (.int (Int32.ofNat NN)), .unset, .unset] [(.long (own_L n)), (.int (Int32.ofNat (own_nd (own_M n)))), (.int (0 : Int32)), (.ref ra)])) (fun _ k => XS.lload X155.here hx rfl (hb hby at_281) rfl  k) ?_
      refine GoW.step (T' := T155) (g' := (mkF m 285 #[.val (.int p0), .val (.int p1), .val (.int n), .val (.ref ra), .val (.int (0 : Int32)), .val (.long (own_L n)), .second, .val (.int (Int32.ofNat (own_nd (own_M n)))), .val (.int (0 : Int32)), .val (.int (0 : Int32)), .val (.int (Int32.ofNat NN)), .unset, .unset] [(.int (9 : Int32)), (.long (own_L n)), (.int (Int32.ofNat (own_nd (own_M n)))), (.int (0 : Int32)), (.ref ra)])) (fun _ k => XS.bipush X155.here hx rfl (hb hby at_283) k) ?_
      refine GoW.step (T' := T155) (g' := (mkF m 288 #[.val (.int p0), .val (.int p1), .val (.int n), .val (.ref ra), .val (.int (0 : Int32)), .val (.long (own_L n)), .second, .val (.int (Int32.ofNat (own_nd (own_M n)))), .val (.int (0 : Int32)), .val (.int (0 : Int32)), .val (.int (Int32.ofNat NN)), .unset, .unset] [(.long (1000000000 : Int64)), (.int (9 : Int32)), (.long (own_L n)), (.int (Int32.ofNat (own_nd (own_M n)))), (.int (0 : Int32)), (.ref ra)])) (fun _ k => Jvm.Stand.ldc2J (g := (mkF m 285 #[.val (.int p0), .val (.int p1), .val (.int n), .val (.ref ra), .val (.int (0 : Int32)), .val (.long (own_L n)), .second, .val (.int (Int32.ofNat (own_nd (own_M n)))), .val (.int (0 : Int32)), .val (.int (0 : Int32)), .val (.int (Int32.ofNat NN)), .unset, .unset] [(.int (9 : Int32)), (.long (own_L n)), (.int (Int32.ofNat (own_nd (own_M n)))), (.int (0 : Int32)), (.ref ra)])) X155 hx hown (mvT hZ (hwi hw 188 rfl)) rfl (hb hby at_285) k) ?_
      obtain ⟨_, _, ⟨T156, L156, k156, n156⟩, -, X156, ⟨Lc156, hQ156, l156, y156, z156⟩, st156⟩ := Jvm.LawKit.callS X155 hx (y := (⟨"com/example/noteform/noteform/io/FiguresDaysPinLaw", "digitAt", "(Ljava/lang/String;IIJIJ)Z"⟩ : MethodName)) hown (mvT hZ (hwi hw 156 rfl)) (mvT hZ (hwi hw 157 rfl)) (mvT hZ (hwi hw 152 rfl)) (mvT hZ (hwi hw 158 rfl)) (by decide) (backOf (W := 0) (Q := Qret (some (.int (1 : Int32))) T101.heap n0) (own_da l Z a0 hw [] ra n (0 : Int32) (9 : Int32) (1000000000 : Int64) 0 9 NN gc rb rk tv gf T101.heap n0 Z101 F102 hgc E101 C101 B101 V101 F107 cgf rfl rfl (by decide) (by decide) (by decide) dg (by omega) (by omega)) hZ (hwi hw 158 rfl) (hwi hw 152 rfl) (by decide) (by decide)) (g := (mkF m 288 #[.val (.int p0), .val (.int p1), .val (.int n), .val (.ref ra), .val (.int (0 : Int32)), .val (.long (own_L n)), .second, .val (.int (Int32.ofNat (own_nd (own_M n)))), .val (.int (0 : Int32)), .val (.int (0 : Int32)), .val (.int (Int32.ofNat NN)), .unset, .unset] [(.long (1000000000 : Int64)), (.int (9 : Int32)), (.long (own_L n)), (.int (Int32.ofNat (own_nd (own_M n)))), (.int (0 : Int32)), (.ref ra)])) rfl (by rw [hml]; rfl) (argsL := [(.ref ra), (.int (0 : Int32)), (.int (Int32.ofNat (own_nd (own_M n)))), (.long (own_L n)), (.int (9 : Int32)), (.long (1000000000 : Int64))]) (rest := []) (lenOf own_pd27 rfl) rfl (by show 2 * 0 + _ ≤ _; exact Nat.le_of_eq rfl) (hb hby at_288) (fun _ _ => ⟨rfl, eh155, (by dsimp only [Pt.cells, Pt.slots, room_1]; omega), (by dsimp only [Pt.cells, Pt.slots, room_1]; omega)⟩)
      dsimp only [Pt.U, Pt.locs, Pt.cells, Pt.slots] at X156 l156 y156 z156 st156 hQ156
      subst l156 y156 z156
      obtain ⟨rfl, N156q, eh156⟩ := hQ156
      have N156 := Fr.app N155 N156q
      refine GoW.step (T' := T156) (g' := (mkF m 291 #[.val (.int p0), .val (.int p1), .val (.int n), .val (.ref ra), .val (.int (0 : Int32)), .val (.long (own_L n)), .second, .val (.int (Int32.ofNat (own_nd (own_M n)))), .val (.int (0 : Int32)), .val (.int (0 : Int32)), .val (.int (Int32.ofNat NN)), .unset, .unset] [(.int (1 : Int32))])) (st156) ?_
      refine GoW.step (T' := T156) (g' := (mkF m 294 #[.val (.int p0), .val (.int p1), .val (.int n), .val (.ref ra), .val (.int (0 : Int32)), .val (.long (own_L n)), .second, .val (.int (Int32.ofNat (own_nd (own_M n)))), .val (.int (0 : Int32)), .val (.int (0 : Int32)), .val (.int (Int32.ofNat NN)), .unset, .unset] [])) (fun _ k => XS.ifNo X156.here hx rfl (hb hby at_291) rfl ((if0 _ _).trans (feq (by decide : ¬ ((1 : Int32) = (0 : Int32)))).1) k) ?_
      refine GoW.step (T' := T156) (g' := (mkF m 295 #[.val (.int p0), .val (.int p1), .val (.int n), .val (.ref ra), .val (.int (0 : Int32)), .val (.long (own_L n)), .second, .val (.int (Int32.ofNat (own_nd (own_M n)))), .val (.int (0 : Int32)), .val (.int (0 : Int32)), .val (.int (Int32.ofNat NN)), .unset, .unset] [(.int (1 : Int32))])) (fun _ k => XS.iconst X156.here hx rfl (hb hby at_294) k) ?_
      refine GoW.step (T' := T156) (g' := (mkF m 299 #[.val (.int p0), .val (.int p1), .val (.int n), .val (.ref ra), .val (.int (0 : Int32)), .val (.long (own_L n)), .second, .val (.int (Int32.ofNat (own_nd (own_M n)))), .val (.int (0 : Int32)), .val (.int (0 : Int32)), .val (.int (Int32.ofNat NN)), .unset, .unset] [(.int (1 : Int32))])) (fun _ k => XS.goto X156.here hx rfl (pc0 := 295) (pc' := 299) rfl (hb hby at_295) (by decide) (by decide) k) ?_
      refine GoW.step (T' := T156) (g' := (mkF m 301 #[.val (.int p0), .val (.int p1), .val (.int n), .val (.ref ra), .val (.int (0 : Int32)), .val (.long (own_L n)), .second, .val (.int (Int32.ofNat (own_nd (own_M n)))), .val (.int (0 : Int32)), .val (.int (0 : Int32)), .val (.int (Int32.ofNat NN)), .val (.int (1 : Int32)), .unset] [])) (fun _ k => XS.istore X156.here hx rfl (hb hby at_299) rfl (l' := #[.val (.int p0), .val (.int p1), .val (.int n), .val (.ref ra), .val (.int (0 : Int32)), .val (.long (own_L n)), .second, .val (.int (Int32.ofNat (own_nd (own_M n)))), .val (.int (0 : Int32)), .val (.int (0 : Int32)), .val (.int (Int32.ofNat NN)), .val (.int (1 : Int32)), .unset]) rfl k) ?_
      refine GoW.step (T' := T156) (g' := (mkF m 303 #[.val (.int p0), .val (.int p1), .val (.int n), .val (.ref ra), .val (.int (0 : Int32)), .val (.long (own_L n)), .second, .val (.int (Int32.ofNat (own_nd (own_M n)))), .val (.int (0 : Int32)), .val (.int (0 : Int32)), .val (.int (Int32.ofNat NN)), .val (.int (1 : Int32)), .unset] [(.int (0 : Int32))])) (fun _ k => XS.iload X156.here hx rfl (hb hby at_301) rfl  k) ?_
      refine GoW.step (T' := T156) (g' := (mkF m 305 #[.val (.int p0), .val (.int p1), .val (.int n), .val (.ref ra), .val (.int (0 : Int32)), .val (.long (own_L n)), .second, .val (.int (Int32.ofNat (own_nd (own_M n)))), .val (.int (0 : Int32)), .val (.int (0 : Int32)), .val (.int (Int32.ofNat NN)), .val (.int (1 : Int32)), .unset] [(.int (Int32.ofNat (own_nd (own_M n)))), (.int (0 : Int32))])) (fun _ k => XS.iload X156.here hx rfl (hb hby at_303) rfl  k) ?_
      refine GoW.step (T' := T156) (g' := (mkF m 306 #[.val (.int p0), .val (.int p1), .val (.int n), .val (.ref ra), .val (.int (0 : Int32)), .val (.long (own_L n)), .second, .val (.int (Int32.ofNat (own_nd (own_M n)))), .val (.int (0 : Int32)), .val (.int (0 : Int32)), .val (.int (Int32.ofNat NN)), .val (.int (1 : Int32)), .unset] [(.int ((0 : Int32) + (Int32.ofNat (own_nd (own_M n)))))])) (fun _ k => XS.iadd X156.here hx rfl (hb hby at_305) rfl k) ?_
      rw [show ((0 : Int32) + (Int32.ofNat (own_nd (own_M n)))) = Int32.ofNat (own_nd (own_M n) + 0) from own_len2 (s := 0)]
      refine GoW.step (T' := T156) (g' := (mkF m 308 #[.val (.int p0), .val (.int p1), .val (.int n), .val (.ref ra), .val (.int (0 : Int32)), .val (.long (own_L n)), .second, .val (.int (Int32.ofNat (own_nd (own_M n)))), .val (.int (0 : Int32)), .val (.int (0 : Int32)), .val (.int (Int32.ofNat NN)), .val (.int (1 : Int32)), .val (.int (Int32.ofNat (own_nd (own_M n) + 0)))] [])) (fun _ k => XS.istore X156.here hx rfl (hb hby at_306) rfl (l' := #[.val (.int p0), .val (.int p1), .val (.int n), .val (.ref ra), .val (.int (0 : Int32)), .val (.long (own_L n)), .second, .val (.int (Int32.ofNat (own_nd (own_M n)))), .val (.int (0 : Int32)), .val (.int (0 : Int32)), .val (.int (Int32.ofNat NN)), .val (.int (1 : Int32)), .val (.int (Int32.ofNat (own_nd (own_M n) + 0)))]) rfl k) ?_
      refine GoW.step (T' := T156) (g' := (mkF m 310 #[.val (.int p0), .val (.int p1), .val (.int n), .val (.ref ra), .val (.int (0 : Int32)), .val (.long (own_L n)), .second, .val (.int (Int32.ofNat (own_nd (own_M n)))), .val (.int (0 : Int32)), .val (.int (0 : Int32)), .val (.int (Int32.ofNat NN)), .val (.int (1 : Int32)), .val (.int (Int32.ofNat (own_nd (own_M n) + 0)))] [(.int (1 : Int32))])) (fun _ k => XS.iload X156.here hx rfl (hb hby at_308) rfl  k) ?_
      refine GoW.step (T' := T156) (g' := (mkF m 313 #[.val (.int p0), .val (.int p1), .val (.int n), .val (.ref ra), .val (.int (0 : Int32)), .val (.long (own_L n)), .second, .val (.int (Int32.ofNat (own_nd (own_M n)))), .val (.int (0 : Int32)), .val (.int (0 : Int32)), .val (.int (Int32.ofNat NN)), .val (.int (1 : Int32)), .val (.int (Int32.ofNat (own_nd (own_M n) + 0)))] [])) (fun _ k => XS.ifNo X156.here hx rfl (hb hby at_310) rfl ((if0 _ _).trans (feq (by decide : ¬ ((1 : Int32) = (0 : Int32)))).1) k) ?_
      refine GoW.step (T' := T156) (g' := (mkF m 314 #[.val (.int p0), .val (.int p1), .val (.int n), .val (.ref ra), .val (.int (0 : Int32)), .val (.long (own_L n)), .second, .val (.int (Int32.ofNat (own_nd (own_M n)))), .val (.int (0 : Int32)), .val (.int (0 : Int32)), .val (.int (Int32.ofNat NN)), .val (.int (1 : Int32)), .val (.int (Int32.ofNat (own_nd (own_M n) + 0)))] [(.ref ra)])) (fun _ k => XS.aloadN X156.here hx rfl (hb hby at_313) rfl rfl k) ?_
      refine GoW.step (T' := T156) (g' := (mkF m 316 #[.val (.int p0), .val (.int p1), .val (.int n), .val (.ref ra), .val (.int (0 : Int32)), .val (.long (own_L n)), .second, .val (.int (Int32.ofNat (own_nd (own_M n)))), .val (.int (0 : Int32)), .val (.int (0 : Int32)), .val (.int (Int32.ofNat NN)), .val (.int (1 : Int32)), .val (.int (Int32.ofNat (own_nd (own_M n) + 0)))] [(.int (Int32.ofNat (own_nd (own_M n) + 0))), (.ref ra)])) (fun _ k => XS.iload X156.here hx rfl (hb hby at_314) rfl  k) ?_
      obtain ⟨cq157, kq157, q157a, q157b, q157c⟩ := isOf hZ eh156 E101
      obtain ⟨_, _, ⟨T157, L157, k157, n157⟩, -, X157, ⟨Lc157, hQ157, l157, y157, z157⟩, st157⟩ := X156.virtualBack hx (y := (⟨"java/lang/String", "charAt", "(I)C"⟩ : MethodName)) (z := (⟨"java/lang/String", "charAt", "(I)C"⟩ : MethodName)) hown (mvT hZ (hwi hw 159 rfl)) (mvT hZ (hwi hw 160 rfl)) (notFace_of_selects (args := #[]) (mvT hZ (hwi hw 162 rfl))) (mvT hZ (hwi hw 162 rfl)) (mvT hZ (hwi hw 161 rfl)) (by decide) (backOf (W := 0) (Q := Qret (some (.int (32 : Int32))) T101.heap n0) (own_ch_ l Z a0 hw [] ra (Int32.ofNat (own_nd (own_M n) + 0)) gc rb rk (Int32.ofNat NN) tv gf (32 : Int32) (32 : Int32) T101.heap n0 Z101 F102 hgc E101 C101 B101 V101 F107 cgf (own_ge0 (by omega)) (own_inb (n := NN) (by omega) (by omega)).2 (by rw [own_clamp (by omega)]; exact sx.1) (by decide) (by decide)) hZ (hwi hw 163 rfl) (hwi hw 20 rfl) (by decide) (by decide)) q157a q157c (g := (mkF m 316 #[.val (.int p0), .val (.int p1), .val (.int n), .val (.ref ra), .val (.int (0 : Int32)), .val (.long (own_L n)), .second, .val (.int (Int32.ofNat (own_nd (own_M n)))), .val (.int (0 : Int32)), .val (.int (0 : Int32)), .val (.int (Int32.ofNat NN)), .val (.int (1 : Int32)), .val (.int (Int32.ofNat (own_nd (own_M n) + 0)))] [(.int (Int32.ofNat (own_nd (own_M n) + 0))), (.ref ra)])) rfl (by rw [hml]; rfl) (Steps.refl _) (argsL := [(.int (Int32.ofNat (own_nd (own_M n) + 0)))]) (rest := []) (lenOf own_pd23 rfl) rfl (by show 2 * 0 + _ ≤ _; exact Nat.le_of_eq rfl) (hb hby at_316) (fun _ _ => ⟨rfl, eh156, (by dsimp only [Pt.cells, Pt.slots, room_1]; omega), (by dsimp only [Pt.cells, Pt.slots, room_1]; omega)⟩)
      dsimp only [Pt.U, Pt.locs, Pt.cells, Pt.slots] at X157 l157 y157 z157 st157 hQ157
      subst l157 y157 z157
      obtain ⟨rfl, N157q, eh157⟩ := hQ157
      have N157 := Fr.app N156 N157q
      refine GoW.step (T' := T157) (g' := (mkF m 319 #[.val (.int p0), .val (.int p1), .val (.int n), .val (.ref ra), .val (.int (0 : Int32)), .val (.long (own_L n)), .second, .val (.int (Int32.ofNat (own_nd (own_M n)))), .val (.int (0 : Int32)), .val (.int (0 : Int32)), .val (.int (Int32.ofNat NN)), .val (.int (1 : Int32)), .val (.int (Int32.ofNat (own_nd (own_M n) + 0)))] [(.int (32 : Int32))])) (fun _ k => st157.trans k) ?_
      refine GoW.step (T' := T157) (g' := (mkF m 321 #[.val (.int p0), .val (.int p1), .val (.int n), .val (.ref ra), .val (.int (0 : Int32)), .val (.long (own_L n)), .second, .val (.int (Int32.ofNat (own_nd (own_M n)))), .val (.int (0 : Int32)), .val (.int (0 : Int32)), .val (.int (Int32.ofNat NN)), .val (.int (1 : Int32)), .val (.int (Int32.ofNat (own_nd (own_M n) + 0)))] [(.int (32 : Int32)), (.int (32 : Int32))])) (fun _ k => XS.bipush X157.here hx rfl (hb hby at_319) k) ?_
      refine GoW.step (T' := T157) (g' := (mkF m 324 #[.val (.int p0), .val (.int p1), .val (.int n), .val (.ref ra), .val (.int (0 : Int32)), .val (.long (own_L n)), .second, .val (.int (Int32.ofNat (own_nd (own_M n)))), .val (.int (0 : Int32)), .val (.int (0 : Int32)), .val (.int (Int32.ofNat NN)), .val (.int (1 : Int32)), .val (.int (Int32.ofNat (own_nd (own_M n) + 0)))] [])) (fun _ k => XS.icmpNo X157.here hx rfl (hb hby at_321) rfl (teq (by decide : (32 : Int32) = (32 : Int32))).2 k) ?_
      refine GoW.step (T' := T157) (g' := (mkF m 325 #[.val (.int p0), .val (.int p1), .val (.int n), .val (.ref ra), .val (.int (0 : Int32)), .val (.long (own_L n)), .second, .val (.int (Int32.ofNat (own_nd (own_M n)))), .val (.int (0 : Int32)), .val (.int (0 : Int32)), .val (.int (Int32.ofNat NN)), .val (.int (1 : Int32)), .val (.int (Int32.ofNat (own_nd (own_M n) + 0)))] [(.ref ra)])) (fun _ k => XS.aloadN X157.here hx rfl (hb hby at_324) rfl rfl k) ?_
      refine GoW.step (T' := T157) (g' := (mkF m 327 #[.val (.int p0), .val (.int p1), .val (.int n), .val (.ref ra), .val (.int (0 : Int32)), .val (.long (own_L n)), .second, .val (.int (Int32.ofNat (own_nd (own_M n)))), .val (.int (0 : Int32)), .val (.int (0 : Int32)), .val (.int (Int32.ofNat NN)), .val (.int (1 : Int32)), .val (.int (Int32.ofNat (own_nd (own_M n) + 0)))] [(.int (Int32.ofNat (own_nd (own_M n) + 0))), (.ref ra)])) (fun _ k => XS.iload X157.here hx rfl (hb hby at_325) rfl  k) ?_
      refine GoW.step (T' := T157) (g' := (mkF m 328 #[.val (.int p0), .val (.int p1), .val (.int n), .val (.ref ra), .val (.int (0 : Int32)), .val (.long (own_L n)), .second, .val (.int (Int32.ofNat (own_nd (own_M n)))), .val (.int (0 : Int32)), .val (.int (0 : Int32)), .val (.int (Int32.ofNat NN)), .val (.int (1 : Int32)), .val (.int (Int32.ofNat (own_nd (own_M n) + 0)))] [(.int (1 : Int32)), (.int (Int32.ofNat (own_nd (own_M n) + 0))), (.ref ra)])) (fun _ k => XS.iconst X157.here hx rfl (hb hby at_327) k) ?_
      refine GoW.step (T' := T157) (g' := (mkF m 329 #[.val (.int p0), .val (.int p1), .val (.int n), .val (.ref ra), .val (.int (0 : Int32)), .val (.long (own_L n)), .second, .val (.int (Int32.ofNat (own_nd (own_M n)))), .val (.int (0 : Int32)), .val (.int (0 : Int32)), .val (.int (Int32.ofNat NN)), .val (.int (1 : Int32)), .val (.int (Int32.ofNat (own_nd (own_M n) + 0)))] [(.int ((Int32.ofNat (own_nd (own_M n) + 0)) + (1 : Int32))), (.ref ra)])) (fun _ k => XS.iadd X157.here hx rfl (hb hby at_328) rfl k) ?_
      rw [show ((Int32.ofNat (own_nd (own_M n) + 0)) + (1 : Int32)) = Int32.ofNat (own_nd (own_M n) + 0 + 1) from own_addN _ 1]
      obtain ⟨cq158, kq158, q158a, q158b, q158c⟩ := isOf hZ eh157 E101
      obtain ⟨_, _, ⟨T158, L158, k158, n158⟩, -, X158, ⟨Lc158, hQ158, l158, y158, z158⟩, st158⟩ := X157.virtualBack hx (y := (⟨"java/lang/String", "charAt", "(I)C"⟩ : MethodName)) (z := (⟨"java/lang/String", "charAt", "(I)C"⟩ : MethodName)) hown (mvT hZ (hwi hw 159 rfl)) (mvT hZ (hwi hw 160 rfl)) (notFace_of_selects (args := #[]) (mvT hZ (hwi hw 162 rfl))) (mvT hZ (hwi hw 162 rfl)) (mvT hZ (hwi hw 161 rfl)) (by decide) (backOf (W := 0) (Q := Qret (some (.int (100 : Int32))) T101.heap n0) (own_ch_ l Z a0 hw [] ra (Int32.ofNat (own_nd (own_M n) + 0 + 1)) gc rb rk (Int32.ofNat NN) tv gf (100 : Int32) (100 : Int32) T101.heap n0 Z101 F102 hgc E101 C101 B101 V101 F107 cgf (own_ge0 (by omega)) (own_inb (n := NN) (by omega) (by omega)).2 (by rw [own_clamp (by omega)]; exact sx.2.1) (by decide) (by decide)) hZ (hwi hw 163 rfl) (hwi hw 20 rfl) (by decide) (by decide)) q158a q158c (g := (mkF m 329 #[.val (.int p0), .val (.int p1), .val (.int n), .val (.ref ra), .val (.int (0 : Int32)), .val (.long (own_L n)), .second, .val (.int (Int32.ofNat (own_nd (own_M n)))), .val (.int (0 : Int32)), .val (.int (0 : Int32)), .val (.int (Int32.ofNat NN)), .val (.int (1 : Int32)), .val (.int (Int32.ofNat (own_nd (own_M n) + 0)))] [(.int (Int32.ofNat (own_nd (own_M n) + 0 + 1))), (.ref ra)])) rfl (by rw [hml]; rfl) (Steps.refl _) (argsL := [(.int (Int32.ofNat (own_nd (own_M n) + 0 + 1)))]) (rest := []) (lenOf own_pd23 rfl) rfl (by show 2 * 0 + _ ≤ _; exact Nat.le_of_eq rfl) (hb hby at_329) (fun _ _ => ⟨rfl, eh157, (by dsimp only [Pt.cells, Pt.slots, room_1]; omega), (by dsimp only [Pt.cells, Pt.slots, room_1]; omega)⟩)
      dsimp only [Pt.U, Pt.locs, Pt.cells, Pt.slots] at X158 l158 y158 z158 st158 hQ158
      subst l158 y158 z158
      obtain ⟨rfl, N158q, eh158⟩ := hQ158
      have N158 := Fr.app N157 N158q
      refine GoW.step (T' := T158) (g' := (mkF m 332 #[.val (.int p0), .val (.int p1), .val (.int n), .val (.ref ra), .val (.int (0 : Int32)), .val (.long (own_L n)), .second, .val (.int (Int32.ofNat (own_nd (own_M n)))), .val (.int (0 : Int32)), .val (.int (0 : Int32)), .val (.int (Int32.ofNat NN)), .val (.int (1 : Int32)), .val (.int (Int32.ofNat (own_nd (own_M n) + 0)))] [(.int (100 : Int32))])) (fun _ k => st158.trans k) ?_
      refine GoW.step (T' := T158) (g' := (mkF m 334 #[.val (.int p0), .val (.int p1), .val (.int n), .val (.ref ra), .val (.int (0 : Int32)), .val (.long (own_L n)), .second, .val (.int (Int32.ofNat (own_nd (own_M n)))), .val (.int (0 : Int32)), .val (.int (0 : Int32)), .val (.int (Int32.ofNat NN)), .val (.int (1 : Int32)), .val (.int (Int32.ofNat (own_nd (own_M n) + 0)))] [(.int (100 : Int32)), (.int (100 : Int32))])) (fun _ k => XS.bipush X158.here hx rfl (hb hby at_332) k) ?_
      refine GoW.step (T' := T158) (g' := (mkF m 337 #[.val (.int p0), .val (.int p1), .val (.int n), .val (.ref ra), .val (.int (0 : Int32)), .val (.long (own_L n)), .second, .val (.int (Int32.ofNat (own_nd (own_M n)))), .val (.int (0 : Int32)), .val (.int (0 : Int32)), .val (.int (Int32.ofNat NN)), .val (.int (1 : Int32)), .val (.int (Int32.ofNat (own_nd (own_M n) + 0)))] [])) (fun _ k => XS.icmpNo X158.here hx rfl (hb hby at_334) rfl (teq (by decide : (100 : Int32) = (100 : Int32))).2 k) ?_
      refine GoW.step (T' := T158) (g' := (mkF m 338 #[.val (.int p0), .val (.int p1), .val (.int n), .val (.ref ra), .val (.int (0 : Int32)), .val (.long (own_L n)), .second, .val (.int (Int32.ofNat (own_nd (own_M n)))), .val (.int (0 : Int32)), .val (.int (0 : Int32)), .val (.int (Int32.ofNat NN)), .val (.int (1 : Int32)), .val (.int (Int32.ofNat (own_nd (own_M n) + 0)))] [(.ref ra)])) (fun _ k => XS.aloadN X158.here hx rfl (hb hby at_337) rfl rfl k) ?_
      refine GoW.step (T' := T158) (g' := (mkF m 340 #[.val (.int p0), .val (.int p1), .val (.int n), .val (.ref ra), .val (.int (0 : Int32)), .val (.long (own_L n)), .second, .val (.int (Int32.ofNat (own_nd (own_M n)))), .val (.int (0 : Int32)), .val (.int (0 : Int32)), .val (.int (Int32.ofNat NN)), .val (.int (1 : Int32)), .val (.int (Int32.ofNat (own_nd (own_M n) + 0)))] [(.int (Int32.ofNat (own_nd (own_M n) + 0))), (.ref ra)])) (fun _ k => XS.iload X158.here hx rfl (hb hby at_338) rfl  k) ?_
      refine GoW.step (T' := T158) (g' := (mkF m 341 #[.val (.int p0), .val (.int p1), .val (.int n), .val (.ref ra), .val (.int (0 : Int32)), .val (.long (own_L n)), .second, .val (.int (Int32.ofNat (own_nd (own_M n)))), .val (.int (0 : Int32)), .val (.int (0 : Int32)), .val (.int (Int32.ofNat NN)), .val (.int (1 : Int32)), .val (.int (Int32.ofNat (own_nd (own_M n) + 0)))] [(.int (2 : Int32)), (.int (Int32.ofNat (own_nd (own_M n) + 0))), (.ref ra)])) (fun _ k => XS.iconst X158.here hx rfl (hb hby at_340) k) ?_
      refine GoW.step (T' := T158) (g' := (mkF m 342 #[.val (.int p0), .val (.int p1), .val (.int n), .val (.ref ra), .val (.int (0 : Int32)), .val (.long (own_L n)), .second, .val (.int (Int32.ofNat (own_nd (own_M n)))), .val (.int (0 : Int32)), .val (.int (0 : Int32)), .val (.int (Int32.ofNat NN)), .val (.int (1 : Int32)), .val (.int (Int32.ofNat (own_nd (own_M n) + 0)))] [(.int ((Int32.ofNat (own_nd (own_M n) + 0)) + (2 : Int32))), (.ref ra)])) (fun _ k => XS.iadd X158.here hx rfl (hb hby at_341) rfl k) ?_
      rw [show ((Int32.ofNat (own_nd (own_M n) + 0)) + (2 : Int32)) = Int32.ofNat (own_nd (own_M n) + 0 + 2) from own_addN _ 2]
      obtain ⟨cq159, kq159, q159a, q159b, q159c⟩ := isOf hZ eh158 E101
      obtain ⟨_, _, ⟨T159, L159, k159, n159⟩, -, X159, ⟨Lc159, hQ159, l159, y159, z159⟩, st159⟩ := X158.virtualBack hx (y := (⟨"java/lang/String", "charAt", "(I)C"⟩ : MethodName)) (z := (⟨"java/lang/String", "charAt", "(I)C"⟩ : MethodName)) hown (mvT hZ (hwi hw 159 rfl)) (mvT hZ (hwi hw 160 rfl)) (notFace_of_selects (args := #[]) (mvT hZ (hwi hw 162 rfl))) (mvT hZ (hwi hw 162 rfl)) (mvT hZ (hwi hw 161 rfl)) (by decide) (backOf (W := 0) (Q := Qret (some (.int (97 : Int32))) T101.heap n0) (own_ch_ l Z a0 hw [] ra (Int32.ofNat (own_nd (own_M n) + 0 + 2)) gc rb rk (Int32.ofNat NN) tv gf (97 : Int32) (97 : Int32) T101.heap n0 Z101 F102 hgc E101 C101 B101 V101 F107 cgf (own_ge0 (by omega)) (own_inb (n := NN) (by omega) (by omega)).2 (by rw [own_clamp (by omega)]; exact sx.2.2.1) (by decide) (by decide)) hZ (hwi hw 163 rfl) (hwi hw 20 rfl) (by decide) (by decide)) q159a q159c (g := (mkF m 342 #[.val (.int p0), .val (.int p1), .val (.int n), .val (.ref ra), .val (.int (0 : Int32)), .val (.long (own_L n)), .second, .val (.int (Int32.ofNat (own_nd (own_M n)))), .val (.int (0 : Int32)), .val (.int (0 : Int32)), .val (.int (Int32.ofNat NN)), .val (.int (1 : Int32)), .val (.int (Int32.ofNat (own_nd (own_M n) + 0)))] [(.int (Int32.ofNat (own_nd (own_M n) + 0 + 2))), (.ref ra)])) rfl (by rw [hml]; rfl) (Steps.refl _) (argsL := [(.int (Int32.ofNat (own_nd (own_M n) + 0 + 2)))]) (rest := []) (lenOf own_pd23 rfl) rfl (by show 2 * 0 + _ ≤ _; exact Nat.le_of_eq rfl) (hb hby at_342) (fun _ _ => ⟨rfl, eh158, (by dsimp only [Pt.cells, Pt.slots, room_1]; omega), (by dsimp only [Pt.cells, Pt.slots, room_1]; omega)⟩)
      dsimp only [Pt.U, Pt.locs, Pt.cells, Pt.slots] at X159 l159 y159 z159 st159 hQ159
      subst l159 y159 z159
      obtain ⟨rfl, N159q, eh159⟩ := hQ159
      have N159 := Fr.app N158 N159q
      refine GoW.step (T' := T159) (g' := (mkF m 345 #[.val (.int p0), .val (.int p1), .val (.int n), .val (.ref ra), .val (.int (0 : Int32)), .val (.long (own_L n)), .second, .val (.int (Int32.ofNat (own_nd (own_M n)))), .val (.int (0 : Int32)), .val (.int (0 : Int32)), .val (.int (Int32.ofNat NN)), .val (.int (1 : Int32)), .val (.int (Int32.ofNat (own_nd (own_M n) + 0)))] [(.int (97 : Int32))])) (fun _ k => st159.trans k) ?_
      refine GoW.step (T' := T159) (g' := (mkF m 347 #[.val (.int p0), .val (.int p1), .val (.int n), .val (.ref ra), .val (.int (0 : Int32)), .val (.long (own_L n)), .second, .val (.int (Int32.ofNat (own_nd (own_M n)))), .val (.int (0 : Int32)), .val (.int (0 : Int32)), .val (.int (Int32.ofNat NN)), .val (.int (1 : Int32)), .val (.int (Int32.ofNat (own_nd (own_M n) + 0)))] [(.int (97 : Int32)), (.int (97 : Int32))])) (fun _ k => XS.bipush X159.here hx rfl (hb hby at_345) k) ?_
      refine GoW.step (T' := T159) (g' := (mkF m 350 #[.val (.int p0), .val (.int p1), .val (.int n), .val (.ref ra), .val (.int (0 : Int32)), .val (.long (own_L n)), .second, .val (.int (Int32.ofNat (own_nd (own_M n)))), .val (.int (0 : Int32)), .val (.int (0 : Int32)), .val (.int (Int32.ofNat NN)), .val (.int (1 : Int32)), .val (.int (Int32.ofNat (own_nd (own_M n) + 0)))] [])) (fun _ k => XS.icmpNo X159.here hx rfl (hb hby at_347) rfl (teq (by decide : (97 : Int32) = (97 : Int32))).2 k) ?_
      refine GoW.step (T' := T159) (g' := (mkF m 351 #[.val (.int p0), .val (.int p1), .val (.int n), .val (.ref ra), .val (.int (0 : Int32)), .val (.long (own_L n)), .second, .val (.int (Int32.ofNat (own_nd (own_M n)))), .val (.int (0 : Int32)), .val (.int (0 : Int32)), .val (.int (Int32.ofNat NN)), .val (.int (1 : Int32)), .val (.int (Int32.ofNat (own_nd (own_M n) + 0)))] [(.ref ra)])) (fun _ k => XS.aloadN X159.here hx rfl (hb hby at_350) rfl rfl k) ?_
      refine GoW.step (T' := T159) (g' := (mkF m 353 #[.val (.int p0), .val (.int p1), .val (.int n), .val (.ref ra), .val (.int (0 : Int32)), .val (.long (own_L n)), .second, .val (.int (Int32.ofNat (own_nd (own_M n)))), .val (.int (0 : Int32)), .val (.int (0 : Int32)), .val (.int (Int32.ofNat NN)), .val (.int (1 : Int32)), .val (.int (Int32.ofNat (own_nd (own_M n) + 0)))] [(.int (Int32.ofNat (own_nd (own_M n) + 0))), (.ref ra)])) (fun _ k => XS.iload X159.here hx rfl (hb hby at_351) rfl  k) ?_
      refine GoW.step (T' := T159) (g' := (mkF m 354 #[.val (.int p0), .val (.int p1), .val (.int n), .val (.ref ra), .val (.int (0 : Int32)), .val (.long (own_L n)), .second, .val (.int (Int32.ofNat (own_nd (own_M n)))), .val (.int (0 : Int32)), .val (.int (0 : Int32)), .val (.int (Int32.ofNat NN)), .val (.int (1 : Int32)), .val (.int (Int32.ofNat (own_nd (own_M n) + 0)))] [(.int (3 : Int32)), (.int (Int32.ofNat (own_nd (own_M n) + 0))), (.ref ra)])) (fun _ k => XS.iconst X159.here hx rfl (hb hby at_353) k) ?_
      refine GoW.step (T' := T159) (g' := (mkF m 355 #[.val (.int p0), .val (.int p1), .val (.int n), .val (.ref ra), .val (.int (0 : Int32)), .val (.long (own_L n)), .second, .val (.int (Int32.ofNat (own_nd (own_M n)))), .val (.int (0 : Int32)), .val (.int (0 : Int32)), .val (.int (Int32.ofNat NN)), .val (.int (1 : Int32)), .val (.int (Int32.ofNat (own_nd (own_M n) + 0)))] [(.int ((Int32.ofNat (own_nd (own_M n) + 0)) + (3 : Int32))), (.ref ra)])) (fun _ k => XS.iadd X159.here hx rfl (hb hby at_354) rfl k) ?_
      rw [show ((Int32.ofNat (own_nd (own_M n) + 0)) + (3 : Int32)) = Int32.ofNat (own_nd (own_M n) + 0 + 3) from own_addN _ 3]
      obtain ⟨cq160, kq160, q160a, q160b, q160c⟩ := isOf hZ eh159 E101
      obtain ⟨_, _, ⟨T160, L160, k160, n160⟩, -, X160, ⟨Lc160, hQ160, l160, y160, z160⟩, st160⟩ := X159.virtualBack hx (y := (⟨"java/lang/String", "charAt", "(I)C"⟩ : MethodName)) (z := (⟨"java/lang/String", "charAt", "(I)C"⟩ : MethodName)) hown (mvT hZ (hwi hw 159 rfl)) (mvT hZ (hwi hw 160 rfl)) (notFace_of_selects (args := #[]) (mvT hZ (hwi hw 162 rfl))) (mvT hZ (hwi hw 162 rfl)) (mvT hZ (hwi hw 161 rfl)) (by decide) (backOf (W := 0) (Q := Qret (some (.int (121 : Int32))) T101.heap n0) (own_ch_ l Z a0 hw [] ra (Int32.ofNat (own_nd (own_M n) + 0 + 3)) gc rb rk (Int32.ofNat NN) tv gf (121 : Int32) (121 : Int32) T101.heap n0 Z101 F102 hgc E101 C101 B101 V101 F107 cgf (own_ge0 (by omega)) (own_inb (n := NN) (by omega) (by omega)).2 (by rw [own_clamp (by omega)]; exact sx.2.2.2) (by decide) (by decide)) hZ (hwi hw 163 rfl) (hwi hw 20 rfl) (by decide) (by decide)) q160a q160c (g := (mkF m 355 #[.val (.int p0), .val (.int p1), .val (.int n), .val (.ref ra), .val (.int (0 : Int32)), .val (.long (own_L n)), .second, .val (.int (Int32.ofNat (own_nd (own_M n)))), .val (.int (0 : Int32)), .val (.int (0 : Int32)), .val (.int (Int32.ofNat NN)), .val (.int (1 : Int32)), .val (.int (Int32.ofNat (own_nd (own_M n) + 0)))] [(.int (Int32.ofNat (own_nd (own_M n) + 0 + 3))), (.ref ra)])) rfl (by rw [hml]; rfl) (Steps.refl _) (argsL := [(.int (Int32.ofNat (own_nd (own_M n) + 0 + 3)))]) (rest := []) (lenOf own_pd23 rfl) rfl (by show 2 * 0 + _ ≤ _; exact Nat.le_of_eq rfl) (hb hby at_355) (fun _ _ => ⟨rfl, eh159, (by dsimp only [Pt.cells, Pt.slots, room_1]; omega), (by dsimp only [Pt.cells, Pt.slots, room_1]; omega)⟩)
      dsimp only [Pt.U, Pt.locs, Pt.cells, Pt.slots] at X160 l160 y160 z160 st160 hQ160
      subst l160 y160 z160
      obtain ⟨rfl, N160q, eh160⟩ := hQ160
      have N160 := Fr.app N159 N160q
      refine GoW.step (T' := T160) (g' := (mkF m 358 #[.val (.int p0), .val (.int p1), .val (.int n), .val (.ref ra), .val (.int (0 : Int32)), .val (.long (own_L n)), .second, .val (.int (Int32.ofNat (own_nd (own_M n)))), .val (.int (0 : Int32)), .val (.int (0 : Int32)), .val (.int (Int32.ofNat NN)), .val (.int (1 : Int32)), .val (.int (Int32.ofNat (own_nd (own_M n) + 0)))] [(.int (121 : Int32))])) (fun _ k => st160.trans k) ?_
      refine GoW.step (T' := T160) (g' := (mkF m 360 #[.val (.int p0), .val (.int p1), .val (.int n), .val (.ref ra), .val (.int (0 : Int32)), .val (.long (own_L n)), .second, .val (.int (Int32.ofNat (own_nd (own_M n)))), .val (.int (0 : Int32)), .val (.int (0 : Int32)), .val (.int (Int32.ofNat NN)), .val (.int (1 : Int32)), .val (.int (Int32.ofNat (own_nd (own_M n) + 0)))] [(.int (121 : Int32)), (.int (121 : Int32))])) (fun _ k => XS.bipush X160.here hx rfl (hb hby at_358) k) ?_
      refine GoW.step (T' := T160) (g' := (mkF m 363 #[.val (.int p0), .val (.int p1), .val (.int n), .val (.ref ra), .val (.int (0 : Int32)), .val (.long (own_L n)), .second, .val (.int (Int32.ofNat (own_nd (own_M n)))), .val (.int (0 : Int32)), .val (.int (0 : Int32)), .val (.int (Int32.ofNat NN)), .val (.int (1 : Int32)), .val (.int (Int32.ofNat (own_nd (own_M n) + 0)))] [])) (fun _ k => XS.icmpNo X160.here hx rfl (hb hby at_360) rfl (teq (by decide : (121 : Int32) = (121 : Int32))).2 k) ?_
      refine GoW.step (T' := T160) (g' := (mkF m 364 #[.val (.int p0), .val (.int p1), .val (.int n), .val (.ref ra), .val (.int (0 : Int32)), .val (.long (own_L n)), .second, .val (.int (Int32.ofNat (own_nd (own_M n)))), .val (.int (0 : Int32)), .val (.int (0 : Int32)), .val (.int (Int32.ofNat NN)), .val (.int (1 : Int32)), .val (.int (Int32.ofNat (own_nd (own_M n) + 0)))] [(.int (1 : Int32))])) (fun _ k => XS.iconst X160.here hx rfl (hb hby at_363) k) ?_
      refine GoW.step (T' := T160) (g' := (mkF m 368 #[.val (.int p0), .val (.int p1), .val (.int n), .val (.ref ra), .val (.int (0 : Int32)), .val (.long (own_L n)), .second, .val (.int (Int32.ofNat (own_nd (own_M n)))), .val (.int (0 : Int32)), .val (.int (0 : Int32)), .val (.int (Int32.ofNat NN)), .val (.int (1 : Int32)), .val (.int (Int32.ofNat (own_nd (own_M n) + 0)))] [(.int (1 : Int32))])) (fun _ k => XS.goto X160.here hx rfl (pc0 := 364) (pc' := 368) rfl (hb hby at_364) (by decide) (by decide) k) ?_
      refine GoW.step (T' := T160) (g' := (mkF m 370 #[.val (.int p0), .val (.int p1), .val (.int n), .val (.ref ra), .val (.int (0 : Int32)), .val (.long (own_L n)), .second, .val (.int (Int32.ofNat (own_nd (own_M n)))), .val (.int (0 : Int32)), .val (.int (0 : Int32)), .val (.int (Int32.ofNat NN)), .val (.int (1 : Int32)), .val (.int (Int32.ofNat (own_nd (own_M n) + 0)))] [])) (fun _ k => XS.istore X160.here hx rfl (hb hby at_368) rfl (l' := #[.val (.int p0), .val (.int p1), .val (.int n), .val (.ref ra), .val (.int (0 : Int32)), .val (.long (own_L n)), .second, .val (.int (Int32.ofNat (own_nd (own_M n)))), .val (.int (0 : Int32)), .val (.int (0 : Int32)), .val (.int (Int32.ofNat NN)), .val (.int (1 : Int32)), .val (.int (Int32.ofNat (own_nd (own_M n) + 0)))]) rfl k) ?_
      refine GoW.step (T' := T160) (g' := (mkF m 372 #[.val (.int p0), .val (.int p1), .val (.int n), .val (.ref ra), .val (.int (0 : Int32)), .val (.long (own_L n)), .second, .val (.int (Int32.ofNat (own_nd (own_M n)))), .val (.int (0 : Int32)), .val (.int (0 : Int32)), .val (.int (Int32.ofNat NN)), .val (.int (1 : Int32)), .val (.int (Int32.ofNat (own_nd (own_M n) + 0)))] [(.int (0 : Int32))])) (fun _ k => XS.iload X160.here hx rfl (hb hby at_370) rfl  k) ?_
      refine GoW.step (T' := T160) (g' := (mkF m 375 #[.val (.int p0), .val (.int p1), .val (.int n), .val (.ref ra), .val (.int (0 : Int32)), .val (.long (own_L n)), .second, .val (.int (Int32.ofNat (own_nd (own_M n)))), .val (.int (0 : Int32)), .val (.int (0 : Int32)), .val (.int (Int32.ofNat NN)), .val (.int (1 : Int32)), .val (.int (Int32.ofNat (own_nd (own_M n) + 0)))] [])) (fun _ k => XS.ifNo X160.here hx rfl (hb hby at_372) rfl ((if0 _ _).trans (teq (by decide : (0 : Int32) = (0 : Int32))).2) k) ?_
      refine GoW.step (T' := T160) (g' := (mkF m 377 #[.val (.int p0), .val (.int p1), .val (.int n), .val (.ref ra), .val (.int (0 : Int32)), .val (.long (own_L n)), .second, .val (.int (Int32.ofNat (own_nd (own_M n)))), .val (.int (0 : Int32)), .val (.int (0 : Int32)), .val (.int (Int32.ofNat NN)), .val (.int (1 : Int32)), .val (.int (Int32.ofNat (own_nd (own_M n) + 0)))] [(.int (1 : Int32))])) (fun _ k => XS.iload X160.here hx rfl (hb hby at_375) rfl  k) ?_
      refine GoW.step (T' := T160) (g' := (mkF m 380 #[.val (.int p0), .val (.int p1), .val (.int n), .val (.ref ra), .val (.int (0 : Int32)), .val (.long (own_L n)), .second, .val (.int (Int32.ofNat (own_nd (own_M n)))), .val (.int (0 : Int32)), .val (.int (0 : Int32)), .val (.int (Int32.ofNat NN)), .val (.int (1 : Int32)), .val (.int (Int32.ofNat (own_nd (own_M n) + 0)))] [])) (fun _ k => XS.ifNo X160.here hx rfl (hb hby at_377) rfl ((if0 _ _).trans (feq (by decide : ¬ ((1 : Int32) = (0 : Int32)))).1) k) ?_
      refine GoW.step (T' := T160) (g' := (mkF m 381 #[.val (.int p0), .val (.int p1), .val (.int n), .val (.ref ra), .val (.int (0 : Int32)), .val (.long (own_L n)), .second, .val (.int (Int32.ofNat (own_nd (own_M n)))), .val (.int (0 : Int32)), .val (.int (0 : Int32)), .val (.int (Int32.ofNat NN)), .val (.int (1 : Int32)), .val (.int (Int32.ofNat (own_nd (own_M n) + 0)))] [(.ref ra)])) (fun _ k => XS.aloadN X160.here hx rfl (hb hby at_380) rfl rfl k) ?_
      refine GoW.step (T' := T160) (g' := (mkF m 383 #[.val (.int p0), .val (.int p1), .val (.int n), .val (.ref ra), .val (.int (0 : Int32)), .val (.long (own_L n)), .second, .val (.int (Int32.ofNat (own_nd (own_M n)))), .val (.int (0 : Int32)), .val (.int (0 : Int32)), .val (.int (Int32.ofNat NN)), .val (.int (1 : Int32)), .val (.int (Int32.ofNat (own_nd (own_M n) + 0)))] [(.int (Int32.ofNat (own_nd (own_M n) + 0))), (.ref ra)])) (fun _ k => XS.iload X160.here hx rfl (hb hby at_381) rfl  k) ?_
      refine GoW.step (T' := T160) (g' := (mkF m 384 #[.val (.int p0), .val (.int p1), .val (.int n), .val (.ref ra), .val (.int (0 : Int32)), .val (.long (own_L n)), .second, .val (.int (Int32.ofNat (own_nd (own_M n)))), .val (.int (0 : Int32)), .val (.int (0 : Int32)), .val (.int (Int32.ofNat NN)), .val (.int (1 : Int32)), .val (.int (Int32.ofNat (own_nd (own_M n) + 0)))] [(.int (4 : Int32)), (.int (Int32.ofNat (own_nd (own_M n) + 0))), (.ref ra)])) (fun _ k => XS.iconst X160.here hx rfl (hb hby at_383) k) ?_
      refine GoW.step (T' := T160) (g' := (mkF m 385 #[.val (.int p0), .val (.int p1), .val (.int n), .val (.ref ra), .val (.int (0 : Int32)), .val (.long (own_L n)), .second, .val (.int (Int32.ofNat (own_nd (own_M n)))), .val (.int (0 : Int32)), .val (.int (0 : Int32)), .val (.int (Int32.ofNat NN)), .val (.int (1 : Int32)), .val (.int (Int32.ofNat (own_nd (own_M n) + 0)))] [(.int ((Int32.ofNat (own_nd (own_M n) + 0)) + (4 : Int32))), (.ref ra)])) (fun _ k => XS.iadd X160.here hx rfl (hb hby at_384) rfl k) ?_
      rw [show ((Int32.ofNat (own_nd (own_M n) + 0)) + (4 : Int32)) = Int32.ofNat (own_nd (own_M n) + 0 + 4) from own_addN _ 4]
      obtain ⟨cq161, kq161, q161a, q161b, q161c⟩ := isOf hZ eh160 E101
      obtain ⟨_, _, ⟨T161, L161, k161, n161⟩, -, X161, ⟨Lc161, hQ161, l161, y161, z161⟩, st161⟩ := X160.virtualBack hx (y := (⟨"java/lang/String", "charAt", "(I)C"⟩ : MethodName)) (z := (⟨"java/lang/String", "charAt", "(I)C"⟩ : MethodName)) hown (mvT hZ (hwi hw 159 rfl)) (mvT hZ (hwi hw 160 rfl)) (notFace_of_selects (args := #[]) (mvT hZ (hwi hw 162 rfl))) (mvT hZ (hwi hw 162 rfl)) (mvT hZ (hwi hw 161 rfl)) (by decide) (backOf (W := 0) (Q := Qret (some (.int (115 : Int32))) T101.heap n0) (own_ch_ l Z a0 hw [] ra (Int32.ofNat (own_nd (own_M n) + 0 + 4)) gc rb rk (Int32.ofNat NN) tv gf (115 : Int32) (115 : Int32) T101.heap n0 Z101 F102 hgc E101 C101 B101 V101 F107 cgf (own_ge0 (by omega)) (own_inb (n := NN) (by omega) (by omega)).2 (by rw [own_clamp (by omega)]; exact s5 hc130) (by decide) (by decide)) hZ (hwi hw 163 rfl) (hwi hw 20 rfl) (by decide) (by decide)) q161a q161c (g := (mkF m 385 #[.val (.int p0), .val (.int p1), .val (.int n), .val (.ref ra), .val (.int (0 : Int32)), .val (.long (own_L n)), .second, .val (.int (Int32.ofNat (own_nd (own_M n)))), .val (.int (0 : Int32)), .val (.int (0 : Int32)), .val (.int (Int32.ofNat NN)), .val (.int (1 : Int32)), .val (.int (Int32.ofNat (own_nd (own_M n) + 0)))] [(.int (Int32.ofNat (own_nd (own_M n) + 0 + 4))), (.ref ra)])) rfl (by rw [hml]; rfl) (Steps.refl _) (argsL := [(.int (Int32.ofNat (own_nd (own_M n) + 0 + 4)))]) (rest := []) (lenOf own_pd23 rfl) rfl (by show 2 * 0 + _ ≤ _; exact Nat.le_of_eq rfl) (hb hby at_385) (fun _ _ => ⟨rfl, eh160, (by dsimp only [Pt.cells, Pt.slots, room_1]; omega), (by dsimp only [Pt.cells, Pt.slots, room_1]; omega)⟩)
      dsimp only [Pt.U, Pt.locs, Pt.cells, Pt.slots] at X161 l161 y161 z161 st161 hQ161
      subst l161 y161 z161
      obtain ⟨rfl, N161q, eh161⟩ := hQ161
      have N161 := Fr.app N160 N161q
      refine GoW.step (T' := T161) (g' := (mkF m 388 #[.val (.int p0), .val (.int p1), .val (.int n), .val (.ref ra), .val (.int (0 : Int32)), .val (.long (own_L n)), .second, .val (.int (Int32.ofNat (own_nd (own_M n)))), .val (.int (0 : Int32)), .val (.int (0 : Int32)), .val (.int (Int32.ofNat NN)), .val (.int (1 : Int32)), .val (.int (Int32.ofNat (own_nd (own_M n) + 0)))] [(.int (115 : Int32))])) (fun _ k => st161.trans k) ?_
      refine GoW.step (T' := T161) (g' := (mkF m 390 #[.val (.int p0), .val (.int p1), .val (.int n), .val (.ref ra), .val (.int (0 : Int32)), .val (.long (own_L n)), .second, .val (.int (Int32.ofNat (own_nd (own_M n)))), .val (.int (0 : Int32)), .val (.int (0 : Int32)), .val (.int (Int32.ofNat NN)), .val (.int (1 : Int32)), .val (.int (Int32.ofNat (own_nd (own_M n) + 0)))] [(.int (115 : Int32)), (.int (115 : Int32))])) (fun _ k => XS.bipush X161.here hx rfl (hb hby at_388) k) ?_
      refine GoW.step (T' := T161) (g' := (mkF m 393 #[.val (.int p0), .val (.int p1), .val (.int n), .val (.ref ra), .val (.int (0 : Int32)), .val (.long (own_L n)), .second, .val (.int (Int32.ofNat (own_nd (own_M n)))), .val (.int (0 : Int32)), .val (.int (0 : Int32)), .val (.int (Int32.ofNat NN)), .val (.int (1 : Int32)), .val (.int (Int32.ofNat (own_nd (own_M n) + 0)))] [])) (fun _ k => XS.icmpNo X161.here hx rfl (hb hby at_390) rfl (teq (by decide : (115 : Int32) = (115 : Int32))).2 k) ?_
      refine GoW.step (T' := T161) (g' := (mkF m 394 #[.val (.int p0), .val (.int p1), .val (.int n), .val (.ref ra), .val (.int (0 : Int32)), .val (.long (own_L n)), .second, .val (.int (Int32.ofNat (own_nd (own_M n)))), .val (.int (0 : Int32)), .val (.int (0 : Int32)), .val (.int (Int32.ofNat NN)), .val (.int (1 : Int32)), .val (.int (Int32.ofNat (own_nd (own_M n) + 0)))] [(.int (1 : Int32))])) (fun _ k => XS.iconst X161.here hx rfl (hb hby at_393) k) ?_
      refine GoW.step (T' := T161) (g' := (mkF m 398 #[.val (.int p0), .val (.int p1), .val (.int n), .val (.ref ra), .val (.int (0 : Int32)), .val (.long (own_L n)), .second, .val (.int (Int32.ofNat (own_nd (own_M n)))), .val (.int (0 : Int32)), .val (.int (0 : Int32)), .val (.int (Int32.ofNat NN)), .val (.int (1 : Int32)), .val (.int (Int32.ofNat (own_nd (own_M n) + 0)))] [(.int (1 : Int32))])) (fun _ k => XS.goto X161.here hx rfl (pc0 := 394) (pc' := 398) rfl (hb hby at_394) (by decide) (by decide) k) ?_
      refine GoW.step (T' := T161) (g' := (mkF m 400 #[.val (.int p0), .val (.int p1), .val (.int n), .val (.ref ra), .val (.int (0 : Int32)), .val (.long (own_L n)), .second, .val (.int (Int32.ofNat (own_nd (own_M n)))), .val (.int (0 : Int32)), .val (.int (0 : Int32)), .val (.int (Int32.ofNat NN)), .val (.int (1 : Int32)), .val (.int (Int32.ofNat (own_nd (own_M n) + 0)))] [])) (fun _ k => XS.istore X161.here hx rfl (hb hby at_398) rfl (l' := #[.val (.int p0), .val (.int p1), .val (.int n), .val (.ref ra), .val (.int (0 : Int32)), .val (.long (own_L n)), .second, .val (.int (Int32.ofNat (own_nd (own_M n)))), .val (.int (0 : Int32)), .val (.int (0 : Int32)), .val (.int (Int32.ofNat NN)), .val (.int (1 : Int32)), .val (.int (Int32.ofNat (own_nd (own_M n) + 0)))]) rfl k) ?_
      refine GoW.step (T' := T161) (g' := (mkF m 402 #[.val (.int p0), .val (.int p1), .val (.int n), .val (.ref ra), .val (.int (0 : Int32)), .val (.long (own_L n)), .second, .val (.int (Int32.ofNat (own_nd (own_M n)))), .val (.int (0 : Int32)), .val (.int (0 : Int32)), .val (.int (Int32.ofNat NN)), .val (.int (1 : Int32)), .val (.int (Int32.ofNat (own_nd (own_M n) + 0)))] [(.int (1 : Int32))])) (fun _ k => XS.iload X161.here hx rfl (hb hby at_400) rfl  k) ?_
      exact GoW.retN X161 hx hS hk hZ hEL CR eh161 (t := .boolean) hret hlk (by simp) (hb hby at_402) (⟨rfl, N161⟩) (by omega) (by omega)
theorem own_ef_code_II (m : MethodId) (x0 : Int32) (x1 : Int32) : entryFrame m #[(.int x0), (.int x1)] maxLocals = mkF m 0 #[.val (.int x0), .val (.int x1), .unset, .unset, .unset, .unset, .unset, .unset, .unset, .unset, .unset, .unset, .unset] [] := by first | (simp [entryFrame, mkF, argsToLocals, Value.category, maxLocals]; done) | rfl | (simp [entryFrame, mkF, argsToLocals, own_cI, own_cJ, own_cR, own_cN, maxLocals]; done)
set_option maxRecDepth 65536 in
set_option maxHeartbeats 40000000 in
theorem rm0 (l : Launch) (Z : State) (a0 : Array Value) (hw : ∀ d ∈ tables_1, d.before a0 Z = true) (ws : List Jvm.Cond) (p0 p1 : Int32) (gc : Int32) (gf : Value) (d1 d2 : Addr) (kd1 kd2 : ClassId) (hEL : EW Z a0 own_EL) (h0 : Heap) (n0 : Nat) (Z0 : n0 ≤ h0.size) (Sc : Sta Z h0 "java/lang/String" "COMPACT_STRINGS" "Z" (.int gc)) (hgc : ¬ gc = (0 : Int32)) (Sf : Sta Z h0 "jdk/internal/util/Preconditions" "SIOOBE_FORMATTER" "Ljava/util/function/BiFunction;" gf) (cgf : gf.category = 1) (t0 : Sta Z h0 "java/lang/Integer" "DigitOnes" "[B" (.ref d1)) (t1 : Sta Z h0 "java/lang/Integer" "DigitTens" "[B" (.ref d2)) (t2 : Arv Z h0 d1 kd1 .byte (100 : Int32) own_ones (.int (0 : Int32))) (t3 : Arv Z h0 d2 kd2 .byte (100 : Int32) own_tens (.int (0 : Int32))) :
    ConW l Z own_EL x code maxLocals ret room_1 ws #[(.int p0), (.int p1)] h0 (Q0 n0) 24 2240 := by
  refine ConW.of (plainFor_of_name own_pn_FiguresDaysPinLaw) ?_
  intro pgm e s m below meth c s₁ k0 X0 hx hZ hby hml hown hnm hret hlk e0 hs0 hS hk CR
  have N0 := Fr.nil n0
  have hnm : meth.name = "law" := hnm
  refine GoW.cast (own_ef_code_II m p0 p1) ?_
  refine GoW.step (T' := s₁) (g' := (mkF m 1 #[.val (.int p0), .val (.int p1), .unset, .unset, .unset, .unset, .unset, .unset, .unset, .unset, .unset, .unset, .unset] [(.int p1)])) (fun _ k => XS.iloadN X0.here hx rfl (hb hby at_0) rfl  k) ?_
  refine GoW.step (T' := s₁) (g' := (mkF m 2 #[.val (.int p0), .val (.int p1), .unset, .unset, .unset, .unset, .unset, .unset, .unset, .unset, .unset, .unset, .unset] [(.int (1 : Int32)), (.int p1)])) (fun _ k => XS.iconst X0.here hx rfl (hb hby at_1) k) ?_
  refine GoW.step (T' := s₁) (g' := (mkF m 3 #[.val (.int p0), .val (.int p1), .unset, .unset, .unset, .unset, .unset, .unset, .unset, .unset, .unset, .unset, .unset] [(.int (p1 &&& (1 : Int32)))])) (fun _ k => XS.iand X0.here hx rfl (hb hby at_2) rfl k) ?_
  by_cases hc101 : (p1 &&& (1 : Int32)) = (0 : Int32)
  · skip
    refine GoW.step (T' := s₁) (g' := (mkF m 16 #[.val (.int p0), .val (.int p1), .unset, .unset, .unset, .unset, .unset, .unset, .unset, .unset, .unset, .unset, .unset] [])) (fun _ k => XS.ifYes X0.here hx rfl (pc0 := 3) (pc' := 16) rfl (hb hby at_3) rfl ((if0 _ _).trans (teq hc101).1) (by decide) (by decide) k) ?_
    refine GoW.step (T' := s₁) (g' := (mkF m 17 #[.val (.int p0), .val (.int p1), .unset, .unset, .unset, .unset, .unset, .unset, .unset, .unset, .unset, .unset, .unset] [(.int p0)])) (fun _ k => XS.iloadN X0.here hx rfl (hb hby at_16) rfl  k) ?_
    refine GoW.step (T' := s₁) (g' := (mkF m 18 #[.val (.int p0), .val (.int p1), .val (.int p0), .unset, .unset, .unset, .unset, .unset, .unset, .unset, .unset, .unset, .unset] [])) (fun _ k => XS.istoreN X0.here hx rfl (hb hby at_17) rfl (l' := #[.val (.int p0), .val (.int p1), .val (.int p0), .unset, .unset, .unset, .unset, .unset, .unset, .unset, .unset, .unset, .unset]) rfl k) ?_
    exact own_law p0 p1 p0 gc gf d1 d2 kd1 kd2 X0 hx hZ hw hby hml hown hret hlk e0 N0 Z0 (by decide) (by decide) hS hk hEL CR Sc t0 t1 t2 t3 Sf hgc cgf
  · skip
    refine GoW.step (T' := s₁) (g' := (mkF m 6 #[.val (.int p0), .val (.int p1), .unset, .unset, .unset, .unset, .unset, .unset, .unset, .unset, .unset, .unset, .unset] [])) (fun _ k => XS.ifNo X0.here hx rfl (hb hby at_3) rfl ((if0 _ _).trans (feq hc101).1) k) ?_
    refine GoW.step (T' := s₁) (g' := (mkF m 7 #[.val (.int p0), .val (.int p1), .unset, .unset, .unset, .unset, .unset, .unset, .unset, .unset, .unset, .unset, .unset] [(.int p1)])) (fun _ k => XS.iloadN X0.here hx rfl (hb hby at_6) rfl  k) ?_
    refine GoW.step (T' := s₁) (g' := (mkF m 8 #[.val (.int p0), .val (.int p1), .unset, .unset, .unset, .unset, .unset, .unset, .unset, .unset, .unset, .unset, .unset] [(.int (1 : Int32)), (.int p1)])) (fun _ k => XS.iconst X0.here hx rfl (hb hby at_7) k) ?_
    refine GoW.step (T' := s₁) (g' := (mkF m 9 #[.val (.int p0), .val (.int p1), .unset, .unset, .unset, .unset, .unset, .unset, .unset, .unset, .unset, .unset, .unset] [(.int (p1 >>> ((1 : Int32) &&& 31)))])) (fun _ k => XS.ishr X0.here hx rfl (hb hby at_8) rfl k) ?_
    refine GoW.step (T' := s₁) (g' := (mkF m 10 #[.val (.int p0), .val (.int p1), .unset, .unset, .unset, .unset, .unset, .unset, .unset, .unset, .unset, .unset, .unset] [(.int (3 : Int32)), (.int (p1 >>> ((1 : Int32) &&& 31)))])) (fun _ k => XS.iconst X0.here hx rfl (hb hby at_9) k) ?_
    refine GoW.step (T' := s₁) (g' := (mkF m 11 #[.val (.int p0), .val (.int p1), .unset, .unset, .unset, .unset, .unset, .unset, .unset, .unset, .unset, .unset, .unset] [(.int ((p1 >>> ((1 : Int32) &&& 31)) &&& (3 : Int32)))])) (fun _ k => XS.iand X0.here hx rfl (hb hby at_10) rfl k) ?_
    refine GoW.step (T' := s₁) (g' := (mkF m 12 #[.val (.int p0), .val (.int p1), .unset, .unset, .unset, .unset, .unset, .unset, .unset, .unset, .unset, .unset, .unset] [(.int (1 : Int32)), (.int ((p1 >>> ((1 : Int32) &&& 31)) &&& (3 : Int32)))])) (fun _ k => XS.iconst X0.here hx rfl (hb hby at_11) k) ?_
    refine GoW.step (T' := s₁) (g' := (mkF m 13 #[.val (.int p0), .val (.int p1), .unset, .unset, .unset, .unset, .unset, .unset, .unset, .unset, .unset, .unset, .unset] [(.int (((p1 >>> ((1 : Int32) &&& 31)) &&& (3 : Int32)) - (1 : Int32)))])) (fun _ k => XS.isub X0.here hx rfl (hb hby at_12) rfl k) ?_
    refine GoW.step (T' := s₁) (g' := (mkF m 17 #[.val (.int p0), .val (.int p1), .unset, .unset, .unset, .unset, .unset, .unset, .unset, .unset, .unset, .unset, .unset] [(.int (((p1 >>> ((1 : Int32) &&& 31)) &&& (3 : Int32)) - (1 : Int32)))])) (fun _ k => XS.goto X0.here hx rfl (pc0 := 13) (pc' := 17) rfl (hb hby at_13) (by decide) (by decide) k) ?_
    refine GoW.step (T' := s₁) (g' := (mkF m 18 #[.val (.int p0), .val (.int p1), .val (.int (((p1 >>> ((1 : Int32) &&& 31)) &&& (3 : Int32)) - (1 : Int32))), .unset, .unset, .unset, .unset, .unset, .unset, .unset, .unset, .unset, .unset] [])) (fun _ k => XS.istoreN X0.here hx rfl (hb hby at_17) rfl (l' := #[.val (.int p0), .val (.int p1), .val (.int (((p1 >>> ((1 : Int32) &&& 31)) &&& (3 : Int32)) - (1 : Int32))), .unset, .unset, .unset, .unset, .unset, .unset, .unset, .unset, .unset, .unset]) rfl k) ?_
    exact own_law p0 p1 (((p1 >>> ((1 : Int32) &&& 31)) &&& (3 : Int32)) - (1 : Int32)) gc gf d1 d2 kd1 kd2 X0 hx hZ hw hby hml hown hret hlk e0 N0 Z0 (by decide) (by decide) hS hk hEL CR Sc t0 t1 t2 t3 Sf hgc cgf
theorem own_tab {Z : State} {a0 args : Array Value} {t rhs : Term} {F : Nat → Nat} {vs : List Value} (hti : ∀ idx, t.eval args Z none idx Z = t.eval args Z none [] Z) (hx : (Jvm.Cond.exactly t "[B").before args Z = true) (hl : (Jvm.Cond.eq (Jvm.Term.length t) (Jvm.Term.int 100)).before args Z = true) (hal : (Jvm.Cond.all t (Jvm.Cond.eq (Jvm.Term.elem t (Jvm.Term.index 0)) rhs)).before args Z = true) (harr : (Jvm.Cond.arrayClass .byte).before a0 Z = true) (hrhs : ∀ r, r < 100 → rhs.eval args Z none [r] Z = some (.int (Int32.ofNat (F r)))) (hvs : ∀ r, r < 100 → vs.getD r (.int (0 : Int32)) = .int (Int32.ofNat (F r))) (hF : ∀ r, r < 100 → fits .byte (.int (Int32.ofNat (F r))) = true) : ∃ (d : Addr) (k : ClassId), t.eval args Z none [] Z = some (.ref d) ∧ Arv Z Z.heap d k .byte (100 : Int32) vs (.int (0 : Int32)) := by
  obtain ⟨d, cB, D, kB, hev, hfcB, hcellD, hkB, hstatD, hclsD, -⟩ := Cond.exactly_spec hx
  have hl' := own_eqI (Cond.before_iff.mp hl)
  obtain ⟨d', D', hev', harrAt, hlen⟩ := Term.length_spec hl'
  cases hev.symm.trans hev'
  obtain ⟨hcellD', hknD, -, -⟩ := State.arrayAt?_spec harrAt
  cases hcellD.symm.trans hcellD'
  obtain ⟨cB', kB', comp, hnameB, hkB', hkindB⟩ := Cond.arrayClass_spec harr
  have eBA : ("[" ++ FieldType.toString .byte) = "[B" := by decide
  rw [eBA] at hnameB
  cases hfcB.symm.trans hnameB
  cases hkB.symm.trans hkB'
  have A : Arr Z Z.heap d D .byte := ⟨hcellD, ⟨(fun q h => by rw [h] at hstatD; cases hstatD), kB, (by rw [hclsD]; exact hkB), comp, hkindB⟩, hknD⟩
  obtain ⟨q31, qsz⟩ := own_len hev A hl'
  have hsz : D.slots.size = 100 := by
    have q := congrArg Int32.toInt qsz
    rw [len_toInt q31] at q
    have : (100 : Int32).toInt = 100 := rfl
    omega
  refine ⟨d, D.cls, hev, D, A, rfl, hsz, by decide, fun r hr => ?_, fun r hr => ?_⟩
  · rw [hsz] at hr
    have h := Cond.all_elim hev harrAt (Cond.before_iff.mp hal) r (by omega)
    have nj : ¬ (Int32.ofNat r) < 0 := own_ge0 (by omega)
    have ej : (Int32.ofNat r).toNatClampNeg = r := own_clamp (by omega)
    have ix : (Jvm.Term.index 0).eval args Z none [r] Z = some (.int (Int32.ofNat r)) := by
      have q := idx_at (args := args) (s := Z) (first := Z) (o := none) nj
      rwa [ej] at q
    have el := elem_f ((hti [r]).trans hev) ix harrAt nj
    rw [ej] at el
    rw [← el, eqv_i (hrhs r hr) h, hvs r hr]
  · rw [hsz] at hr
    rw [hvs r hr]; exact hF r hr
theorem own_fits48 : ∀ r, r < 100 → fits .byte (.int (Int32.ofNat (48 + r % 10))) = true := by decide +kernel
theorem own_fits48' : ∀ r, r < 100 → fits .byte (.int (Int32.ofNat (48 + r / 10))) = true := by decide +kernel
theorem own_n1 : ∀ r, r < 100 → (48 : Int32) + Int32.ofNat r % 10 = Int32.ofNat (48 + r % 10) := by decide +kernel
theorem own_n2 : ∀ r, r < 100 → (48 : Int32) + Int32.ofNat r / 10 = Int32.ofNat (48 + r / 10) := by decide +kernel
set_option maxRecDepth 65536 in
set_option maxHeartbeats 40000000 in
theorem comes_1 {Post : Tables → Env → Array Value → State → Outcome → State → Prop} (hpost : ∀ tb e args s v u, (limb_1_1.after args s (.returned v) u = true ∧ limb_1_2.after args s (.returned v) u = true ∧ True) → ReturnedEndW s (.returned v) u (Jvm.fieldLocs frame_1_writes args s ++ Jvm.arrayLocs frame_1_arrays args s ++ Jvm.staticLocs frame_1_statics s) 24 2240 → Post tb e args s (.returned v) u) :
    ArmFor flags0 classFile x code maxLocals ret World_1 tables_1 room_1 Calls_1 rest_1 Pre_1 Post := by
  intro l hfl _ _ p e ha hc hk s m args below hf hA hF happ hP
  obtain ⟨hcalls, hrest, hpre⟩ := hP
  obtain ⟨-, -, -, hnamed, -, -, -, hat⟩ := (Spec.applies_iff hf).mp happ
  obtain ⟨hg, hn⟩ := and_e (Cond.before_iff.mp (show (Jvm.Cond.and given_1 narrow_1).before args s = true from hpre))
  obtain ⟨g0a, g0b⟩ := and_e hg
  obtain ⟨g1a, g1b⟩ := and_e g0b
  obtain ⟨vw0, vw1, rfl⟩ : ∃ vw0 vw1 : Value, args = #[vw0, vw1] := by
    have hs : args.size = 2 := by simpa [Cond.value, given_1] using g0a
    obtain ⟨L⟩ := args
    match L, hs with
    | [vw0, vw1], _ => exact ⟨vw0, vw1, rfl⟩
  have hw := fun d (hd : d ∈ tables_1) => atoms_spec (ws := Jvm.Cond.code x code maxLocals ret :: tables_1) hat d (List.mem_cons_of_mem _ hd)
  have hfit : Fit s := fun {y c} hc i hi => by
    obtain ⟨ha, rfl⟩ := Array.getElem?_eq_some_iff.mp hc
    have q := List.all_eq_true.mp ((Array.all_eq_true_iff_forall_mem.mp hF) _ (Array.getElem_mem ha)) i (List.mem_range.mpr hi)
    simpa [Array.getElem?_eq_getElem hi] using q
  obtain ⟨hsets, hown0⟩ := atoms_of _ (rest_1_c_eq ▸ (show rest_1_c.before _ s = true from hrest))
  obtain ⟨i0, ei0⟩ := is_v g1a
  obtain rfl : vw0 = (.int i0) := Option.some.inj ei0
  obtain ⟨i1, ei1⟩ := is_v g1b
  obtain rfl : vw1 = (.int i1) := Option.some.inj ei1
  obtain ⟨d1, kd1, ev1, Vd1⟩ := own_tab (F := fun r => 48 + r % 10) (vs := own_ones) (fun _ => by simp only [Term.eval]) (hsets _ (List.mem_of_getElem? (i := 12) rfl)) (hsets _ (List.mem_of_getElem? (i := 13) rfl)) (hsets _ (List.mem_of_getElem? (i := 14) rfl)) (hwi hw 21 rfl) (fun r hr => by rw [← own_n1 r hr]; rfl) (fun r hr => own_ones_at hr) own_fits48
  have S1 := Sta.start ev1 (Or.inl (hsets _ (List.mem_of_getElem? (i := 11) rfl)))
  obtain ⟨d2, kd2, ev2, Vd2⟩ := own_tab (F := fun r => 48 + r / 10) (vs := own_tens) (fun _ => by simp only [Term.eval]) (hsets _ (List.mem_of_getElem? (i := 17) rfl)) (hsets _ (List.mem_of_getElem? (i := 18) rfl)) (hsets _ (List.mem_of_getElem? (i := 19) rfl)) (hwi hw 21 rfl) (fun r hr => by rw [← own_n2 r hr]; rfl) (fun r hr => own_tens_at hr) own_fits48'
  have S2 := Sta.start ev2 (Or.inl (hsets _ (List.mem_of_getElem? (i := 16) rfl)))
  obtain ⟨gc, evc⟩ := is_v (Cond.before_iff.mp (hsets _ (List.mem_of_getElem? (i := 1) rfl)))
  have Sc := Sta.start evc (Or.inl (hsets _ (List.mem_of_getElem? (i := 0) rfl)))
  have hgc : ¬ gc = (0 : Int32) := gotF (Cond.eq_ints evc (Term.int_eval (0))) (not_v (Cond.before_iff.mp (hsets _ (List.mem_of_getElem? (i := 2) rfl))))
  obtain ⟨gf, evf, rgf⟩ := isR_v (Cond.before_iff.mp (hsets _ (List.mem_of_getElem? (i := 8) rfl)))
  have Sf := Sta.start evf (Or.inl (hsets _ (List.mem_of_getElem? (i := 7) rfl)))
  have cgf : gf.category = 1 := by rcases ref_cases rgf with rfl | ⟨_, rfl⟩ <;> rfl
  have hEL : EW s _ own_EL := (EW.cons (hwi hw 199 rfl) (by decide) (EW.cons (hwi hw 56 rfl) (by decide) EW.nil))
  have H0 : CHv s own_EL s.vm s.heap := CHv.start hEL hcalls.1 (hsets _ (List.mem_of_getElem? (i := 2) rfl)) (hwi hw 21 rfl) (hwi hw 57 rfl)
  obtain ⟨n, o, h1, h2, h3, _, L, rfl, ⟨rfl, N⟩, -, hq⟩ := rm0 l s _ hw tables_1 i0 i1 gc gf d1 d2 kd1 kd2 hEL s.heap s.heap.size (Nat.le_refl _) Sc hgc Sf cgf S1 S2 Vd1 Vd2 p e ha hc hk s m _ below hf ((Spec.applies_iff_loose hf).mp happ).1 ⟨rfl, State.Warmed39.refl s, rfl, H0⟩ trivial
  refine ⟨n, _, h1, h2, h3, hpost _ _ _ _ _ _ ⟨Cond.after_iff.mpr rfl, Cond.after_iff.mpr (eq_i res_at (Term.int_eval (1)) rfl), trivial⟩ ⟨hq.1, hq.2.1, hq.2.2.1, (hq.2.2.2.sift fun y hy => Or.inr (N y hy)).mono (by decide) (by decide)⟩⟩
theorem main_1_1 : Claimed_1_1 := comes_1 fun _ _ _ _ _ _ h hF => ⟨h.1, hF⟩
theorem main_1_2 : Claimed_1_2 := comes_1 fun _ _ _ _ _ _ h hF => ⟨h.2.1, hF⟩
end Jvm.Pilot.@@N@@
namespace Jvm.Pilot.@@N@@
open Jvm Jvm.ClassFile Sem Op Lib Jvm.Free Jvm.Stand Jvm.Pilot.@@N@@.Jvm.D
/-! MADE BY PROGRAM (witnessworld.py) out of the Statement's table words and the real class files: 25 classes; the members and pool entries that the words name. The judged class is class 1, her method 1. -/
namespace start1
open Jvm.ClassFile
def u (s : String) : CpInfo := .utf8 (stringToUtf16 s)
/-- a pool by its gaps: so many unusable entries, then the entry; so many at the end -/
def gap : Nat → List CpInfo → List CpInfo
  | 0, r => r
  | n + 1, r => .unusable :: gap n r
def poolList (es : List (Nat × CpInfo)) (last : Nat) : List CpInfo := es.foldr (fun e r => gap e.1 (e.2 :: r)) (gap last [])
def pool (es : List (Nat × CpInfo)) (last : Nat) : Array CpInfo := ⟨poolList es last⟩
def fileOf (pool : Array CpInfo) (this : Nat) (attrs : Array Attribute := #[]) (ms : Array MethodInfo := #[]) (fl : Nat := 33) (sup : Nat := 0) (ifs : Array Nat := #[]) (fds : Array FieldInfo := #[]) : ClassFile where
  minorVersion := 0
  majorVersion := 65
  constantPool := pool
  accessFlags := fl
  thisClass := this
  superClass := sup
  interfaces := ifs
  fields := fds
  methods := ms
  attributes := attrs
def plain (name : String) (sup : Option ClassId) : Class where
  name := name
  kind := .ordinary
  loader := none
  accessFlags := 33
  super := sup
  interfaces := #[]
  cf := none
  fields := #[]
  methods := #[]
  instanceTypes := #[]
  staticTypes := #[]
  resolved := #[]
  callSites := []
  init := .initialized
  statics := none
  mirror := none

def pool0 : Array CpInfo := pool [(5, u "<init>"), (0, u "()V"), (1, .class_ 10), (1, u "java/lang/Object"), (85, u "clone"), (0, u "()Ljava/lang/Object;")] 26

def k0c0 : Code := { maxStack := 0, maxLocals := 1, code := object_method_1_code, exceptionTable := #[], attributes := #[] }
def k0m0 : Method := { name := "<init>", desc := "()V", sig := { parameters := [], returnType := none }, accessFlags := 1, code := some k0c0 }
def k0m1 : Method := { name := "clone", desc := "()Ljava/lang/Object;", sig := { parameters := [], returnType := some (.object "java/lang/Object") }, accessFlags := 260, code := none }
/-- java/lang/Object -/
def k0 : Class := { plain "java/lang/Object" none with
  accessFlags := 33
  interfaces := #[]
  cf := some (fileOf pool0 8 #[] #[{ accessFlags := 1, nameIndex := 5, descriptorIndex := 6, attributes := #[] }, { accessFlags := 260, nameIndex := 96, descriptorIndex := 97, attributes := #[] }] 33 0 #[] #[])
  fields := #[]
  methods := #[k0m0, k0m1]
  instanceTypes := #[]
  staticTypes := #[]
  resolved := Array.replicate 124 none
  statics := none }

def pool1 : Array CpInfo := pool [(2, .class_ 4), (1, u "java/lang/Object"), (0, u "<init>"), (0, u "()V"), (0, .methodref 8 9), (0, .class_ 10), (0, .nameAndType 11 12), (0, u "com/example/noteform/noteform/io/Figures"), (0, u "days"), (0, u "(I)Ljava/lang/String;"), (0, .methodref 14 15), (0, .class_ 16), (0, .nameAndType 17 18), (0, u "java/lang/Math"), (0, u "abs"), (0, u "(J)J"), (0, .methodref 20 21), (0, .class_ 22), (0, .nameAndType 23 24), (0, u "com/example/noteform/noteform/io/FiguresDaysPinLaw"), (0, u "digitCount"), (0, u "(J)I"), (0, .methodref 26 27), (0, .class_ 28), (0, .nameAndType 29 30), (0, u "java/lang/String"), (0, u "length"), (0, u "()I"), (0, .methodref 26 32), (0, .nameAndType 33 34), (0, u "charAt"), (0, u "(I)C"), (0, .methodref 20 36), (0, .nameAndType 37 38), (0, u "digitAt"), (0, u "(Ljava/lang/String;IIJIJ)Z"), (0, .long 10), (1, .long 100), (1, .long 1000), (1, .long 10000), (1, .long 100000), (1, .long 1000000), (1, .long 10000000), (1, .long 100000000), (1, .long 1000000000), (3, u "law"), (0, u "(II)Z")] 3

def k1m0 : Method := { name := "<init>", desc := "()V", sig := { parameters := [], returnType := none }, accessFlags := 2, code := none }
def k1c1 : Code := { maxStack := 8, maxLocals := 13, code := code, exceptionTable := #[], attributes := #[] }
def k1m1 : Method := { name := "law", desc := "(II)Z", sig := { parameters := [.int, .int], returnType := some .boolean }, accessFlags := 9, code := some k1c1 }
def k1c2 : Code := { maxStack := 4, maxLocals := 2, code := method_3_code, exceptionTable := #[], attributes := #[] }
def k1m2 : Method := { name := "digitCount", desc := "(J)I", sig := { parameters := [.long], returnType := some .int }, accessFlags := 10, code := some k1c2 }
def k1c3 : Code := { maxStack := 5, maxLocals := 10, code := method_4_code, exceptionTable := #[], attributes := #[] }
def k1m3 : Method := { name := "digitAt", desc := "(Ljava/lang/String;IIJIJ)Z", sig := { parameters := [(.object "java/lang/String"), .int, .int, .long, .int, .long], returnType := some .boolean }, accessFlags := 10, code := some k1c3 }
/-- com/example/noteform/noteform/io/FiguresDaysPinLaw -/
def k1 : Class := { plain "com/example/noteform/noteform/io/FiguresDaysPinLaw" (some 0) with
  accessFlags := 49
  interfaces := #[]
  cf := some (fileOf pool1 20 #[] #[{ accessFlags := 2, nameIndex := 5, descriptorIndex := 6, attributes := #[] }, { accessFlags := 9, nameIndex := 59, descriptorIndex := 60, attributes := #[] }, { accessFlags := 10, nameIndex := 23, descriptorIndex := 24, attributes := #[] }, { accessFlags := 10, nameIndex := 37, descriptorIndex := 38, attributes := #[] }] 49 2 #[] #[])
  fields := #[]
  methods := #[k1m0, k1m1, k1m2, k1m3]
  instanceTypes := #[]
  staticTypes := #[]
  resolved := Array.replicate 64 none
  statics := none }

def pool2 : Array CpInfo := pool [(2, .class_ 4), (0, .nameAndType 5 6), (0, u "java/lang/Object"), (0, u "<init>"), (0, u "()V"), (0, .class_ 8), (0, u "java/lang/StringBuilder"), (0, .methodref 7 3), (0, .methodref 7 11), (0, .nameAndType 12 13), (0, u "append"), (0, u "(Ljava/lang/String;)Ljava/lang/StringBuilder;"), (4, .methodref 7 19), (0, .nameAndType 20 21), (0, u "toString"), (0, u "()Ljava/lang/String;"), (0, .string 23), (0, u "1 day"), (0, .methodref 7 25), (0, .nameAndType 12 26), (0, u "(I)Ljava/lang/StringBuilder;"), (0, .string 28), (0, u " days"), (33, .class_ 64), (1, u "com/example/noteform/noteform/io/Figures"), (134, u "days"), (2, u "(I)Ljava/lang/String;"), (3, u "PERCENT_DECIMALS"), (0, u "I")] 40

def k2m0 : Method := { name := "<init>", desc := "()V", sig := { parameters := [], returnType := none }, accessFlags := 2, code := none }
def k2c1 : Code := { maxStack := 2, maxLocals := 1, code := prog_39_method_3_code, exceptionTable := #[], attributes := #[] }
def k2m1 : Method := { name := "days", desc := "(I)Ljava/lang/String;", sig := { parameters := [.int], returnType := some (.object "java/lang/String") }, accessFlags := 8, code := some k2c1 }
/-- com/example/noteform/noteform/io/Figures -/
def k2 : Class := { plain "com/example/noteform/noteform/io/Figures" (some 0) with
  accessFlags := 49
  interfaces := #[]
  cf := some (fileOf pool2 62 #[] #[{ accessFlags := 2, nameIndex := 5, descriptorIndex := 6, attributes := #[] }, { accessFlags := 8, nameIndex := 199, descriptorIndex := 202, attributes := #[] }] 49 2 #[] #[{ accessFlags := 26, nameIndex := 206, descriptorIndex := 207, attributes := #[] }])
  fields := #[{ name := "PERCENT_DECIMALS", type := .int, accessFlags := 26, slot := 0, constantValue := 0 }]
  methods := #[k2m0, k2m1]
  instanceTypes := #[]
  staticTypes := #[.int]
  resolved := Array.replicate 248 none
  statics := none }

def pool3 : Array CpInfo := pool [(1, .class_ 2), (0, u "java/lang/Appendable"), (0, .class_ 4), (0, u "java/lang/Object")] 9

/-- java/lang/Appendable -/
def k3 : Class := { plain "java/lang/Appendable" (some 0) with
  accessFlags := 1537
  interfaces := #[]
  cf := some (fileOf pool3 1 #[] #[] 1537 3 #[] #[])
  fields := #[]
  methods := #[]
  instanceTypes := #[]
  staticTypes := #[]
  resolved := Array.replicate 14 none
  statics := none }

def pool4 : Array CpInfo := pool [(2, .class_ 4), (1, u "java/lang/CharSequence"), (42, .class_ 48), (0, u "java/lang/CharSequence$1CodePointIterator"), (10, .class_ 60), (0, u "java/lang/CharSequence$1CharIterator"), (5, .class_ 67), (0, u "java/lang/Object")] 63

/-- java/lang/CharSequence -/
def k4 : Class := { plain "java/lang/CharSequence" (some 0) with
  accessFlags := 1537
  interfaces := #[]
  cf := some (fileOf pool4 2 #[.nestMembers #[47, 59]] #[] 1537 66 #[] #[])
  fields := #[]
  methods := #[]
  instanceTypes := #[]
  staticTypes := #[]
  resolved := Array.replicate 131 none
  statics := none }

def pool5 : Array CpInfo := pool [(1, .class_ 2), (0, u "java/lang/String"), (0, .methodref 4 5), (0, .class_ 6), (0, .nameAndType 7 8), (0, u "java/lang/Object"), (0, u "<init>"), (0, u "()V"), (1, .class_ 12), (1, u "java/lang/AbstractStringBuilder"), (0, u "EMPTYVALUE"), (0, u "[B"), (0, .fieldref 10 16), (0, .nameAndType 17 14), (0, u "value"), (0, .fieldref 1 19), (0, .nameAndType 20 21), (0, u "COMPACT_STRINGS"), (0, u "Z"), (0, .fieldref 10 23), (0, .nameAndType 24 25), (0, u "coder"), (0, u "B"), (6, .methodref 1 33), (0, .nameAndType 34 35), (0, u "length"), (0, u "()I"), (0, .class_ 37), (0, u "java/lang/Integer"), (2, .methodref 1 41), (0, .nameAndType 24 42), (0, u "()B"), (2, u "append"), (0, u "(Ljava/lang/String;)Ljava/lang/AbstractStringBuilder;"), (1, .class_ 49), (0, u "java/lang/CharSequence"), (19, u "(Ljava/lang/String;)V"), (5, u "maybeLatin1"), (3, .fieldref 10 80), (0, .nameAndType 81 82), (0, u "count"), (0, u "I"), (0, .methodref 10 84), (0, .nameAndType 85 86), (0, u "isLatin1"), (0, u "()Z"), (13, .methodref 10 101), (0, .nameAndType 102 103), (0, u "ensureCapacityInternal"), (0, u "(I)V"), (3, u "(I)I"), (80, u "getChars"), (19, .methodref 10 209), (0, .nameAndType 210 211), (0, u "putStringAt"), (0, u "(ILjava/lang/String;)V"), (5, u "inflateIfNeededFor"), (2, .nameAndType 221 222), (0, u "getBytes"), (0, u "([BIB)V"), (22, .methodref 36 246), (0, .nameAndType 247 107), (0, u "stringSize"), (0, .methodref 36 249), (0, .nameAndType 188 250), (0, u "(II[B)I"), (146, .methodref 10 398), (0, .nameAndType 217 69), (0, .methodref 1 220), (3, u "()[B"), (40, .class_ 445), (0, u "java/lang/Appendable"), (65, u "(I)Ljava/lang/AbstractStringBuilder;"), (40, u "getValue")] 56

def k5m0 : Method := { name := "<init>", desc := "()V", sig := { parameters := [], returnType := none }, accessFlags := 0, code := none }
def k5c1 : Code := { maxStack := 2, maxLocals := 2, code := jdk_68_method_2_code, exceptionTable := #[], attributes := #[] }
def k5m1 : Method := { name := "<init>", desc := "(I)V", sig := { parameters := [.int], returnType := none }, accessFlags := 0, code := some k5c1 }
def k5c2 : Code := { maxStack := 1, maxLocals := 1, code := jdk_68_method_6_code, exceptionTable := #[], attributes := #[] }
def k5m2 : Method := { name := "length", desc := "()I", sig := { parameters := [], returnType := some .int }, accessFlags := 1, code := some k5c2 }
def k5c3 : Code := { maxStack := 4, maxLocals := 3, code := jdk_68_method_9_code, exceptionTable := #[], attributes := #[] }
def k5m3 : Method := { name := "ensureCapacityInternal", desc := "(I)V", sig := { parameters := [.int], returnType := none }, accessFlags := 2, code := some k5c3 }
def k5c4 : Code := { maxStack := 3, maxLocals := 3, code := jdk_68_method_22_code, exceptionTable := #[], attributes := #[] }
def k5m4 : Method := { name := "append", desc := "(Ljava/lang/String;)Ljava/lang/AbstractStringBuilder;", sig := { parameters := [(.object "java/lang/String")], returnType := some (.object "java/lang/AbstractStringBuilder") }, accessFlags := 1, code := some k5c4 }
def k5c5 : Code := { maxStack := 4, maxLocals := 4, code := jdk_68_method_32_code, exceptionTable := #[], attributes := #[] }
def k5m5 : Method := { name := "append", desc := "(I)Ljava/lang/AbstractStringBuilder;", sig := { parameters := [.int], returnType := some (.object "java/lang/AbstractStringBuilder") }, accessFlags := 1, code := some k5c5 }
def k5c6 : Code := { maxStack := 1, maxLocals := 1, code := jdk_68_method_64_code, exceptionTable := #[], attributes := #[] }
def k5m6 : Method := { name := "getValue", desc := "()[B", sig := { parameters := [], returnType := some (.array .byte) }, accessFlags := 16, code := some k5c6 }
def k5c7 : Code := { maxStack := 1, maxLocals := 1, code := jdk_68_method_68_code, exceptionTable := #[], attributes := #[] }
def k5m7 : Method := { name := "isLatin1", desc := "()Z", sig := { parameters := [], returnType := some .boolean }, accessFlags := 16, code := some k5c7 }
def k5c8 : Code := { maxStack := 2, maxLocals := 2, code := jdk_68_method_71_code, exceptionTable := #[], attributes := #[] }
def k5m8 : Method := { name := "inflateIfNeededFor", desc := "(Ljava/lang/String;)V", sig := { parameters := [(.object "java/lang/String")], returnType := none }, accessFlags := 2, code := some k5c8 }
def k5c9 : Code := { maxStack := 4, maxLocals := 3, code := jdk_68_method_73_code, exceptionTable := #[], attributes := #[] }
def k5m9 : Method := { name := "putStringAt", desc := "(ILjava/lang/String;)V", sig := { parameters := [.int, (.object "java/lang/String")], returnType := none }, accessFlags := 2, code := some k5c9 }
/-- java/lang/AbstractStringBuilder -/
def k5 : Class := { plain "java/lang/AbstractStringBuilder" (some 0) with
  accessFlags := 1056
  interfaces := #[3, 4]
  cf := some (fileOf pool5 10 #[] #[{ accessFlags := 0, nameIndex := 7, descriptorIndex := 8, attributes := #[] }, { accessFlags := 0, nameIndex := 7, descriptorIndex := 103, attributes := #[] }, { accessFlags := 1, nameIndex := 34, descriptorIndex := 35, attributes := #[] }, { accessFlags := 2, nameIndex := 102, descriptorIndex := 103, attributes := #[] }, { accessFlags := 1, nameIndex := 45, descriptorIndex := 46, attributes := #[] }, { accessFlags := 1, nameIndex := 45, descriptorIndex := 511, attributes := #[] }, { accessFlags := 16, nameIndex := 552, descriptorIndex := 403, attributes := #[] }, { accessFlags := 16, nameIndex := 85, descriptorIndex := 86, attributes := #[] }, { accessFlags := 2, nameIndex := 217, descriptorIndex := 69, attributes := #[] }, { accessFlags := 2, nameIndex := 210, descriptorIndex := 211, attributes := #[] }] 1056 4 #[444, 48] #[{ accessFlags := 0, nameIndex := 17, descriptorIndex := 14, attributes := #[] }, { accessFlags := 0, nameIndex := 24, descriptorIndex := 25, attributes := #[] }, { accessFlags := 0, nameIndex := 75, descriptorIndex := 21, attributes := #[] }, { accessFlags := 0, nameIndex := 81, descriptorIndex := 82, attributes := #[] }, { accessFlags := 26, nameIndex := 13, descriptorIndex := 14, attributes := #[] }])
  fields := #[{ name := "value", type := (.array .byte), accessFlags := 0, slot := 0, constantValue := 0 }, { name := "coder", type := .byte, accessFlags := 0, slot := 1, constantValue := 0 }, { name := "maybeLatin1", type := .boolean, accessFlags := 0, slot := 2, constantValue := 0 }, { name := "count", type := .int, accessFlags := 0, slot := 3, constantValue := 0 }, { name := "EMPTYVALUE", type := (.array .byte), accessFlags := 26, slot := 0, constantValue := 0 }]
  methods := #[k5m0, k5m1, k5m2, k5m3, k5m4, k5m5, k5m6, k5m7, k5m8, k5m9]
  instanceTypes := #[(.array .byte), .byte, .boolean, .int]
  staticTypes := #[(.array .byte)]
  resolved := Array.replicate 609 none
  statics := none }

def pool6 : Array CpInfo := pool [(1, .class_ 2), (0, u "java/io/Serializable"), (0, .class_ 4), (0, u "java/lang/Object")] 2

/-- java/io/Serializable -/
def k6 : Class := { plain "java/io/Serializable" (some 0) with
  accessFlags := 1537
  interfaces := #[]
  cf := some (fileOf pool6 1 #[] #[] 1537 3 #[] #[])
  fields := #[]
  methods := #[]
  instanceTypes := #[]
  staticTypes := #[]
  resolved := Array.replicate 7 none
  statics := none }

def pool7 : Array CpInfo := pool [(1, .class_ 2), (0, u "java/lang/Comparable"), (0, .class_ 4), (0, u "java/lang/Object")] 7

/-- java/lang/Comparable -/
def k7 : Class := { plain "java/lang/Comparable" (some 0) with
  accessFlags := 1537
  interfaces := #[]
  cf := some (fileOf pool7 1 #[] #[] 1537 3 #[] #[])
  fields := #[]
  methods := #[]
  instanceTypes := #[]
  staticTypes := #[]
  resolved := Array.replicate 12 none
  statics := none }

def pool8 : Array CpInfo := pool [(1, .methodref 2 3), (0, .class_ 4), (0, .nameAndType 5 6), (0, u "java/lang/AbstractStringBuilder"), (0, u "<init>"), (0, u "(I)V"), (11, .class_ 20), (1, u "java/lang/String"), (3, .class_ 26), (1, u "java/lang/StringBuilder"), (0, u "append"), (0, u "(Ljava/lang/String;)Ljava/lang/StringBuilder;"), (0, .methodref 2 30), (0, .nameAndType 27 31), (0, u "(Ljava/lang/String;)Ljava/lang/AbstractStringBuilder;"), (21, .methodref 2 54), (0, .nameAndType 27 55), (0, u "(I)Ljava/lang/AbstractStringBuilder;"), (81, .methodref 18 138), (0, .nameAndType 5 139), (0, u "(Ljava/lang/StringBuilder;)V"), (5, u "()V"), (10, u "()I"), (111, u "(I)Ljava/lang/StringBuilder;"), (74, .methodref 2 344), (0, .nameAndType 345 156), (0, u "length"), (3, .class_ 350), (0, u "java/lang/Appendable"), (0, .class_ 352), (0, u "java/io/Serializable"), (0, .class_ 354), (0, u "java/lang/Comparable"), (0, .class_ 356), (0, u "java/lang/CharSequence"), (0, u "serialVersionUID"), (0, u "J"), (40, u "toString"), (0, u "()Ljava/lang/String;")] 21

def k8c0 : Code := { maxStack := 2, maxLocals := 1, code := jdk_67_method_1_code, exceptionTable := #[], attributes := #[] }
def k8m0 : Method := { name := "<init>", desc := "()V", sig := { parameters := [], returnType := none }, accessFlags := 1, code := some k8c0 }
def k8c1 : Code := { maxStack := 2, maxLocals := 2, code := jdk_67_method_7_code, exceptionTable := #[], attributes := #[] }
def k8m1 : Method := { name := "append", desc := "(Ljava/lang/String;)Ljava/lang/StringBuilder;", sig := { parameters := [(.object "java/lang/String")], returnType := some (.object "java/lang/StringBuilder") }, accessFlags := 1, code := some k8c1 }
def k8c2 : Code := { maxStack := 2, maxLocals := 2, code := jdk_67_method_15_code, exceptionTable := #[], attributes := #[] }
def k8m2 : Method := { name := "append", desc := "(I)Ljava/lang/StringBuilder;", sig := { parameters := [.int], returnType := some (.object "java/lang/StringBuilder") }, accessFlags := 1, code := some k8c2 }
def k8c3 : Code := { maxStack := 3, maxLocals := 1, code := jdk_67_method_42_code, exceptionTable := #[], attributes := #[] }
def k8m3 : Method := { name := "toString", desc := "()Ljava/lang/String;", sig := { parameters := [], returnType := some (.object "java/lang/String") }, accessFlags := 1, code := some k8c3 }
def k8c4 : Code := { maxStack := 1, maxLocals := 1, code := jdk_67_method_93_code, exceptionTable := #[], attributes := #[] }
def k8m4 : Method := { name := "length", desc := "()I", sig := { parameters := [], returnType := some .int }, accessFlags := 4161, code := some k8c4 }
/-- java/lang/StringBuilder -/
def k8 : Class := { plain "java/lang/StringBuilder" (some 5) with
  accessFlags := 49
  interfaces := #[3, 6, 7, 4]
  cf := some (fileOf pool8 24 #[] #[{ accessFlags := 1, nameIndex := 5, descriptorIndex := 145, attributes := #[] }, { accessFlags := 1, nameIndex := 27, descriptorIndex := 28, attributes := #[] }, { accessFlags := 1, nameIndex := 27, descriptorIndex := 268, attributes := #[] }, { accessFlags := 1, nameIndex := 399, descriptorIndex := 400, attributes := #[] }, { accessFlags := 4161, nameIndex := 345, descriptorIndex := 156, attributes := #[] }] 49 2 #[349, 351, 353, 355] #[{ accessFlags := 24, nameIndex := 357, descriptorIndex := 358, attributes := #[] }])
  fields := #[{ name := "serialVersionUID", type := .long, accessFlags := 24, slot := 0, constantValue := 0 }]
  methods := #[k8m0, k8m1, k8m2, k8m3, k8m4]
  instanceTypes := #[(.array .byte), .byte, .boolean, .int]
  staticTypes := #[.long]
  resolved := Array.replicate 422 none
  statics := none }

def pool9 : Array CpInfo := pool [(1, .class_ 2), (0, u "java/lang/constant/Constable"), (0, .class_ 4), (0, u "java/lang/Object")] 6

/-- java/lang/constant/Constable -/
def k9 : Class := { plain "java/lang/constant/Constable" (some 0) with
  accessFlags := 1537
  interfaces := #[]
  cf := some (fileOf pool9 1 #[] #[] 1537 3 #[] #[])
  fields := #[]
  methods := #[]
  instanceTypes := #[]
  staticTypes := #[]
  resolved := Array.replicate 11 none
  statics := none }

def pool10 : Array CpInfo := pool [(1, .class_ 2), (0, u "java/lang/constant/ConstantDesc"), (0, .class_ 4), (0, u "java/lang/Object")] 32

/-- java/lang/constant/ConstantDesc -/
def k10 : Class := { plain "java/lang/constant/ConstantDesc" (some 0) with
  accessFlags := 1537
  interfaces := #[]
  cf := some (fileOf pool10 1 #[] #[] 1537 3 #[] #[])
  fields := #[]
  methods := #[]
  instanceTypes := #[]
  staticTypes := #[]
  resolved := Array.replicate 37 none
  statics := none }

def pool11 : Array CpInfo := pool [(1, .methodref 2 3), (0, .class_ 4), (0, .nameAndType 5 6), (0, u "java/lang/Object"), (0, u "<init>"), (0, u "()V"), (2, .fieldref 10 11), (0, .class_ 12), (0, .nameAndType 13 14), (0, u "java/lang/String"), (0, u "value"), (0, u "[B"), (0, .fieldref 10 16), (0, .nameAndType 17 18), (0, u "coder"), (0, u "B"), (2, u "hash"), (0, u "I"), (2, u "hashIsZero"), (0, u "Z"), (11, .fieldref 10 39), (0, .nameAndType 40 26), (0, u "COMPACT_STRINGS"), (13, .methodref 55 56), (0, .class_ 57), (0, .nameAndType 58 59), (0, u "java/util/Arrays"), (0, u "copyOfRange"), (0, u "([BII)[B"), (47, .class_ 109), (1, u "java/lang/StringLatin1"), (32, u "()Z"), (50, .class_ 195), (1, u "java/lang/System"), (16, .methodref 193 213), (0, .nameAndType 214 215), (0, u "arraycopy"), (0, u "(Ljava/lang/Object;ILjava/lang/Object;II)V"), (118, u "()I"), (0, .methodref 10 336), (0, .nameAndType 17 337), (0, u "()B"), (2, u "()[B"), (22, u "([BI)C"), (27, u "(II)V"), (35, u "(I)C"), (61, .methodref 10 490), (0, .nameAndType 5 491), (0, u "(Ljava/lang/AbstractStringBuilder;Ljava/lang/Void;)V"), (0, .methodref 10 493), (0, .nameAndType 494 142), (0, u "isLatin1"), (0, .methodref 107 496), (0, .nameAndType 497 363), (0, u "charAt"), (3, u "checkIndex"), (4, .nameAndType 507 334), (0, u "length"), (24, u "getBytes"), (16, .methodref 550 506), (0, .class_ 551), (0, u "java/lang/AbstractStringBuilder"), (0, .methodref 550 553), (0, .nameAndType 554 340), (0, u "getValue"), (20, .class_ 576), (0, u "java/lang/CharSequence"), (22, u "CASE_INSENSITIVE_ORDER"), (0, u "Ljava/util/Comparator;"), (220, u "([BIB)V"), (225, .methodref 550 493), (5, .fieldref 1054 1055), (0, .class_ 1056), (0, .nameAndType 1057 1058), (0, u "jdk/internal/util/Preconditions"), (0, u "SIOOBE_FORMATTER"), (0, u "Ljava/util/function/BiFunction;"), (0, .methodref 1054 1060), (0, .nameAndType 501 1061), (0, u "(IILjava/util/function/BiFunction;)I"), (39, u "serialPersistentFields"), (0, u "[Ljava/io/ObjectStreamField;"), (0, .class_ 1104), (0, u "java/lang/String$CaseInsensitiveComparator"), (1, .class_ 1107), (0, u "java/io/Serializable"), (0, .class_ 1109), (0, u "java/lang/Comparable"), (0, .class_ 1111), (0, u "java/lang/constant/Constable"), (0, .class_ 1113), (0, u "java/lang/constant/ConstantDesc"), (2, u "serialVersionUID"), (0, u "J"), (3, u "REPL"), (0, u "C"), (2, u "LATIN1"), (1, u "UTF16"), (105, u "(Ljava/lang/StringBuilder;)V")] 217

def k11m0 : Method := { name := "<init>", desc := "()V", sig := { parameters := [], returnType := none }, accessFlags := 1, code := none }
def k11c1 : Code := { maxStack := 3, maxLocals := 2, code := jdk_42_method_53_code, exceptionTable := #[], attributes := #[] }
def k11m1 : Method := { name := "<init>", desc := "(Ljava/lang/StringBuilder;)V", sig := { parameters := [(.object "java/lang/StringBuilder")], returnType := none }, accessFlags := 1, code := some k11c1 }
def k11c2 : Code := { maxStack := 2, maxLocals := 1, code := jdk_42_method_54_code, exceptionTable := #[], attributes := #[] }
def k11m2 : Method := { name := "length", desc := "()I", sig := { parameters := [], returnType := some .int }, accessFlags := 1, code := some k11c2 }
def k11c3 : Code := { maxStack := 2, maxLocals := 2, code := jdk_42_method_56_code, exceptionTable := #[], attributes := #[] }
def k11m3 : Method := { name := "charAt", desc := "(I)C", sig := { parameters := [.int], returnType := some .char }, accessFlags := 1, code := some k11c3 }
def k11c4 : Code := { maxStack := 5, maxLocals := 4, code := jdk_42_method_147_code, exceptionTable := #[], attributes := #[] }
def k11m4 : Method := { name := "getBytes", desc := "([BIB)V", sig := { parameters := [(.array .byte), .int, .byte], returnType := none }, accessFlags := 0, code := some k11c4 }
def k11c5 : Code := { maxStack := 5, maxLocals := 5, code := jdk_42_method_150_code, exceptionTable := #[], attributes := #[] }
def k11m5 : Method := { name := "<init>", desc := "(Ljava/lang/AbstractStringBuilder;Ljava/lang/Void;)V", sig := { parameters := [(.object "java/lang/AbstractStringBuilder"), (.object "java/lang/Void")], returnType := none }, accessFlags := 0, code := some k11c5 }
def k11c6 : Code := { maxStack := 1, maxLocals := 1, code := jdk_42_method_152_code, exceptionTable := #[], attributes := #[] }
def k11m6 : Method := { name := "coder", desc := "()B", sig := { parameters := [], returnType := some .byte }, accessFlags := 0, code := some k11c6 }
def k11c7 : Code := { maxStack := 1, maxLocals := 1, code := jdk_42_method_154_code, exceptionTable := #[], attributes := #[] }
def k11m7 : Method := { name := "isLatin1", desc := "()Z", sig := { parameters := [], returnType := some .boolean }, accessFlags := 0, code := some k11c7 }
def k11c8 : Code := { maxStack := 3, maxLocals := 2, code := jdk_42_method_155_code, exceptionTable := #[], attributes := #[] }
def k11m8 : Method := { name := "checkIndex", desc := "(II)V", sig := { parameters := [.int, .int], returnType := none }, accessFlags := 8, code := some k11c8 }
/-- java/lang/String -/
def k11 : Class := { plain "java/lang/String" (some 0) with
  accessFlags := 49
  interfaces := #[6, 7, 4, 9, 10]
  cf := some (fileOf pool11 10 #[.nestMembers #[1103]] #[{ accessFlags := 1, nameIndex := 5, descriptorIndex := 6, attributes := #[] }, { accessFlags := 1, nameIndex := 5, descriptorIndex := 1233, attributes := #[] }, { accessFlags := 1, nameIndex := 507, descriptorIndex := 334, attributes := #[] }, { accessFlags := 1, nameIndex := 497, descriptorIndex := 427, attributes := #[] }, { accessFlags := 0, nameIndex := 532, descriptorIndex := 821, attributes := #[] }, { accessFlags := 0, nameIndex := 5, descriptorIndex := 491, attributes := #[] }, { accessFlags := 0, nameIndex := 17, descriptorIndex := 337, attributes := #[] }, { accessFlags := 0, nameIndex := 494, descriptorIndex := 142, attributes := #[] }, { accessFlags := 8, nameIndex := 501, descriptorIndex := 391, attributes := #[] }] 49 2 #[1106, 1108, 575, 1110, 1112] #[{ accessFlags := 18, nameIndex := 13, descriptorIndex := 14, attributes := #[] }, { accessFlags := 18, nameIndex := 17, descriptorIndex := 18, attributes := #[] }, { accessFlags := 2, nameIndex := 21, descriptorIndex := 22, attributes := #[] }, { accessFlags := 2, nameIndex := 25, descriptorIndex := 26, attributes := #[] }, { accessFlags := 26, nameIndex := 1116, descriptorIndex := 1117, attributes := #[] }, { accessFlags := 24, nameIndex := 40, descriptorIndex := 26, attributes := #[] }, { accessFlags := 26, nameIndex := 1101, descriptorIndex := 1102, attributes := #[] }, { accessFlags := 26, nameIndex := 1121, descriptorIndex := 1122, attributes := #[] }, { accessFlags := 25, nameIndex := 599, descriptorIndex := 600, attributes := #[] }, { accessFlags := 24, nameIndex := 1125, descriptorIndex := 18, attributes := #[] }, { accessFlags := 24, nameIndex := 1127, descriptorIndex := 18, attributes := #[] }])
  fields := #[{ name := "value", type := (.array .byte), accessFlags := 18, slot := 0, constantValue := 0 }, { name := "coder", type := .byte, accessFlags := 18, slot := 1, constantValue := 0 }, { name := "hash", type := .int, accessFlags := 2, slot := 2, constantValue := 0 }, { name := "hashIsZero", type := .boolean, accessFlags := 2, slot := 3, constantValue := 0 }, { name := "serialVersionUID", type := .long, accessFlags := 26, slot := 0, constantValue := 0 }, { name := "COMPACT_STRINGS", type := .boolean, accessFlags := 24, slot := 1, constantValue := 0 }, { name := "serialPersistentFields", type := (.array (.object "java/io/ObjectStreamField")), accessFlags := 26, slot := 2, constantValue := 0 }, { name := "REPL", type := .char, accessFlags := 26, slot := 3, constantValue := 0 }, { name := "CASE_INSENSITIVE_ORDER", type := (.object "java/util/Comparator"), accessFlags := 25, slot := 4, constantValue := 0 }, { name := "LATIN1", type := .byte, accessFlags := 24, slot := 5, constantValue := 0 }, { name := "UTF16", type := .byte, accessFlags := 24, slot := 6, constantValue := 0 }]
  methods := #[k11m0, k11m1, k11m2, k11m3, k11m4, k11m5, k11m6, k11m7, k11m8]
  instanceTypes := #[(.array .byte), .byte, .int, .boolean]
  staticTypes := #[.long, .boolean, (.array (.object "java/io/ObjectStreamField")), .char, (.object "java/util/Comparator"), .byte, .byte]
  resolved := Array.replicate 1451 none
  statics := some 0 }

def pool12 : Array CpInfo := pool [(2, .class_ 4), (1, u "java/lang/Object"), (0, u "<init>"), (0, u "()V"), (1, .class_ 10), (1, u "java/lang/Number"), (2, .class_ 14), (0, u "java/io/Serializable"), (0, u "serialVersionUID"), (0, u "J")] 20

def k12m0 : Method := { name := "<init>", desc := "()V", sig := { parameters := [], returnType := none }, accessFlags := 1, code := none }
/-- java/lang/Number -/
def k12 : Class := { plain "java/lang/Number" (some 0) with
  accessFlags := 1057
  interfaces := #[6]
  cf := some (fileOf pool12 8 #[] #[{ accessFlags := 1, nameIndex := 5, descriptorIndex := 6, attributes := #[] }] 1057 2 #[13] #[{ accessFlags := 26, nameIndex := 15, descriptorIndex := 16, attributes := #[] }])
  fields := #[{ name := "serialVersionUID", type := .long, accessFlags := 26, slot := 0, constantValue := 0 }]
  methods := #[k12m0]
  instanceTypes := #[]
  staticTypes := #[.long]
  resolved := Array.replicate 37 none
  statics := none }

def pool13 : Array CpInfo := pool [(1, .class_ 2), (0, u "java/lang/Integer"), (16, u "digits"), (0, u "[C"), (33, u "(I)I"), (19, u "stringSize"), (2, u "getChars"), (0, u "(II[B)I"), (4, .fieldref 1 84), (0, .nameAndType 85 86), (0, u "DigitOnes"), (0, u "[B"), (0, .fieldref 1 88), (0, .nameAndType 89 86), (0, u "DigitTens"), (99, .class_ 190), (0, u "java/lang/Integer$IntegerCache"), (3, u "I"), (8, .class_ 204), (0, u "java/lang/Number"), (2, u "value"), (94, u "TYPE"), (0, u "Ljava/lang/Class;"), (0, .class_ 305), (0, u "java/lang/Comparable"), (0, .class_ 307), (0, u "java/lang/constant/Constable"), (0, .class_ 309), (0, u "java/lang/constant/ConstantDesc"), (0, u "MIN_VALUE"), (1, u "MAX_VALUE"), (3, u "SIZE"), (1, u "BYTES"), (1, u "serialVersionUID"), (0, u "J")] 131

def k13c0 : Code := { maxStack := 4, maxLocals := 7, code := jdk_33_method_12_code, exceptionTable := #[], attributes := #[] }
def k13m0 : Method := { name := "getChars", desc := "(II[B)I", sig := { parameters := [.int, .int, (.array .byte)], returnType := some .int }, accessFlags := 8, code := some k13c0 }
def k13c1 : Code := { maxStack := 2, maxLocals := 4, code := jdk_33_method_13_code, exceptionTable := #[], attributes := #[] }
def k13m1 : Method := { name := "stringSize", desc := "(I)I", sig := { parameters := [.int], returnType := some .int }, accessFlags := 8, code := some k13c1 }
/-- java/lang/Integer -/
def k13 : Class := { plain "java/lang/Integer" (some 12) with
  accessFlags := 49
  interfaces := #[7, 9, 10]
  cf := some (fileOf pool13 1 #[.nestMembers #[189]] #[{ accessFlags := 8, nameIndex := 77, descriptorIndex := 78, attributes := #[] }, { accessFlags := 8, nameIndex := 74, descriptorIndex := 54, attributes := #[] }] 49 203 #[304, 306, 308] #[{ accessFlags := 25, nameIndex := 310, descriptorIndex := 194, attributes := #[] }, { accessFlags := 25, nameIndex := 312, descriptorIndex := 194, attributes := #[] }, { accessFlags := 25, nameIndex := 302, descriptorIndex := 303, attributes := #[] }, { accessFlags := 24, nameIndex := 19, descriptorIndex := 20, attributes := #[] }, { accessFlags := 24, nameIndex := 89, descriptorIndex := 86, attributes := #[] }, { accessFlags := 24, nameIndex := 85, descriptorIndex := 86, attributes := #[] }, { accessFlags := 18, nameIndex := 207, descriptorIndex := 194, attributes := #[] }, { accessFlags := 25, nameIndex := 316, descriptorIndex := 194, attributes := #[] }, { accessFlags := 25, nameIndex := 318, descriptorIndex := 194, attributes := #[] }, { accessFlags := 26, nameIndex := 320, descriptorIndex := 321, attributes := #[] }])
  fields := #[{ name := "MIN_VALUE", type := .int, accessFlags := 25, slot := 0, constantValue := 0 }, { name := "MAX_VALUE", type := .int, accessFlags := 25, slot := 1, constantValue := 0 }, { name := "TYPE", type := (.object "java/lang/Class"), accessFlags := 25, slot := 2, constantValue := 0 }, { name := "digits", type := (.array .char), accessFlags := 24, slot := 3, constantValue := 0 }, { name := "DigitTens", type := (.array .byte), accessFlags := 24, slot := 4, constantValue := 0 }, { name := "DigitOnes", type := (.array .byte), accessFlags := 24, slot := 5, constantValue := 0 }, { name := "value", type := .int, accessFlags := 18, slot := 0, constantValue := 0 }, { name := "SIZE", type := .int, accessFlags := 25, slot := 6, constantValue := 0 }, { name := "BYTES", type := .int, accessFlags := 25, slot := 7, constantValue := 0 }, { name := "serialVersionUID", type := .long, accessFlags := 26, slot := 8, constantValue := 0 }]
  methods := #[k13m0, k13m1]
  instanceTypes := #[.int]
  staticTypes := #[.int, .int, (.object "java/lang/Class"), (.array .char), (.array .byte), (.array .byte), .int, .int, .long]
  resolved := Array.replicate 453 none
  statics := some 1 }

def pool14 : Array CpInfo := pool [(2, .class_ 4), (1, u "java/lang/Object"), (0, u "<init>"), (0, u "()V"), (1, .class_ 10), (1, u "java/lang/System"), (0, u "allowSecurityManager"), (0, u "I"), (16, u "cons"), (0, u "Ljava/io/Console;"), (77, .class_ 110), (1, u "java/lang/System$CallersHolder"), (43, u "initialErrStream"), (0, u "Ljava/io/PrintStream;"), (19, u "security"), (0, u "Ljava/lang/SecurityManager;"), (31, .class_ 209), (0, u "java/lang/System$1"), (7, u "props"), (0, u "Ljava/util/Properties;"), (2, u "lineSeparator"), (0, u "Ljava/lang/String;"), (96, .class_ 321), (1, u "java/lang/System$LoggerFinder"), (5, .class_ 328), (0, u "java/lang/System$Logger"), (67, u "err"), (2, u "out"), (91, u "notSupportedJnuEncoding"), (15, u "in"), (17, u "initialIn"), (0, u "Ljava/io/InputStream;"), (35, u "bootLayer"), (0, u "Ljava/lang/ModuleLayer;"), (99, .class_ 664), (0, u "java/lang/System$2"), (9, u "NEVER"), (2, u "MAYBE"), (49, u "arraycopy"), (0, u "(Ljava/lang/Object;ILjava/lang/Object;II)V"), (72, .class_ 802), (0, u "java/lang/System$Logger$Level")] 31

def k14m0 : Method := { name := "<init>", desc := "()V", sig := { parameters := [], returnType := none }, accessFlags := 2, code := none }
def k14m1 : Method := { name := "arraycopy", desc := "(Ljava/lang/Object;ILjava/lang/Object;II)V", sig := { parameters := [(.object "java/lang/Object"), .int, (.object "java/lang/Object"), .int, .int], returnType := none }, accessFlags := 265, code := none }
/-- java/lang/System -/
def k14 : Class := { plain "java/lang/System" (some 0) with
  accessFlags := 49
  interfaces := #[]
  cf := some (fileOf pool14 8 #[.nestMembers #[319, 327, 801, 108, 663, 208]] #[{ accessFlags := 2, nameIndex := 5, descriptorIndex := 6, attributes := #[] }, { accessFlags := 265, nameIndex := 727, descriptorIndex := 728, attributes := #[] }] 49 2 #[] #[{ accessFlags := 25, nameIndex := 507, descriptorIndex := 526, attributes := #[] }, { accessFlags := 25, nameIndex := 399, descriptorIndex := 155, attributes := #[] }, { accessFlags := 25, nameIndex := 396, descriptorIndex := 155, attributes := #[] }, { accessFlags := 10, nameIndex := 525, descriptorIndex := 526, attributes := #[] }, { accessFlags := 26, nameIndex := 674, descriptorIndex := 12, attributes := #[] }, { accessFlags := 26, nameIndex := 677, descriptorIndex := 12, attributes := #[] }, { accessFlags := 10, nameIndex := 11, descriptorIndex := 12, attributes := #[] }, { accessFlags := 74, nameIndex := 175, descriptorIndex := 176, attributes := #[] }, { accessFlags := 10, nameIndex := 491, descriptorIndex := 222, attributes := #[] }, { accessFlags := 74, nameIndex := 29, descriptorIndex := 30, attributes := #[] }, { accessFlags := 74, nameIndex := 154, descriptorIndex := 155, attributes := #[] }, { accessFlags := 10, nameIndex := 217, descriptorIndex := 218, attributes := #[] }, { accessFlags := 10, nameIndex := 221, descriptorIndex := 222, attributes := #[] }, { accessFlags := 8, nameIndex := 562, descriptorIndex := 563, attributes := #[] }])
  fields := #[{ name := "in", type := (.object "java/io/InputStream"), accessFlags := 25, slot := 0, constantValue := 0 }, { name := "out", type := (.object "java/io/PrintStream"), accessFlags := 25, slot := 1, constantValue := 0 }, { name := "err", type := (.object "java/io/PrintStream"), accessFlags := 25, slot := 2, constantValue := 0 }, { name := "initialIn", type := (.object "java/io/InputStream"), accessFlags := 10, slot := 3, constantValue := 0 }, { name := "NEVER", type := .int, accessFlags := 26, slot := 4, constantValue := 0 }, { name := "MAYBE", type := .int, accessFlags := 26, slot := 5, constantValue := 0 }, { name := "allowSecurityManager", type := .int, accessFlags := 10, slot := 6, constantValue := 0 }, { name := "security", type := (.object "java/lang/SecurityManager"), accessFlags := 74, slot := 7, constantValue := 0 }, { name := "notSupportedJnuEncoding", type := (.object "java/lang/String"), accessFlags := 10, slot := 8, constantValue := 0 }, { name := "cons", type := (.object "java/io/Console"), accessFlags := 74, slot := 9, constantValue := 0 }, { name := "initialErrStream", type := (.object "java/io/PrintStream"), accessFlags := 74, slot := 10, constantValue := 0 }, { name := "props", type := (.object "java/util/Properties"), accessFlags := 10, slot := 11, constantValue := 0 }, { name := "lineSeparator", type := (.object "java/lang/String"), accessFlags := 10, slot := 12, constantValue := 0 }, { name := "bootLayer", type := (.object "java/lang/ModuleLayer"), accessFlags := 8, slot := 13, constantValue := 0 }]
  methods := #[k14m0, k14m1]
  instanceTypes := #[]
  staticTypes := #[(.object "java/io/InputStream"), (.object "java/io/PrintStream"), (.object "java/io/PrintStream"), (.object "java/io/InputStream"), .int, .int, .int, (.object "java/lang/SecurityManager"), (.object "java/lang/String"), (.object "java/io/Console"), (.object "java/io/PrintStream"), (.object "java/util/Properties"), (.object "java/lang/String"), (.object "java/lang/ModuleLayer")]
  resolved := Array.replicate 834 none
  statics := none }

def pool15 : Array CpInfo := pool [(2, .class_ 4), (1, u "java/lang/Object"), (0, u "<init>"), (0, u "()V"), (7, .class_ 16), (1, u "java/util/Arrays"), (57, .class_ 76), (1, u "java/util/Arrays$NaturalOrder"), (32, u "()Ljava/lang/Object;"), (3, .class_ 115), (1, u "java/util/Arrays$LegacyMergeSort"), (1, u "Z"), (10, .nameAndType 129 109), (0, u "clone"), (9, u "copyOfRange"), (10, .methodref 151 152), (0, .class_ 153), (0, .nameAndType 154 155), (0, u "java/lang/System"), (0, u "arraycopy"), (0, u "(Ljava/lang/Object;ILjava/lang/Object;II)V"), (148, .methodref 305 306), (0, .class_ 307), (0, .nameAndType 308 309), (0, u "java/lang/Math"), (0, u "min"), (0, u "(II)I"), (0, .methodref 311 128), (0, .class_ 312), (0, u "[B"), (26, .methodref 14 340), (0, .nameAndType 341 342), (0, u "copyOfRangeByte"), (0, u "([BII)[B"), (0, .methodref 14 344), (0, .nameAndType 345 346), (0, u "checkLength"), (0, u "(II)V"), (28, .class_ 376), (0, u "java/util/Arrays$ArrayList"), (68, u "$assertionsDisabled"), (269, u "MIN_ARRAY_SORT_GRAN"), (0, u "I"), (2, u "INSERTIONSORT_THRESHOLD"), (255, .class_ 976), (0, u "java/util/Arrays$ArrayItr")] 52

def k15m0 : Method := { name := "<init>", desc := "()V", sig := { parameters := [], returnType := none }, accessFlags := 2, code := none }
def k15c1 : Code := { maxStack := 4, maxLocals := 2, code := jdk_65_method_131_code, exceptionTable := #[], attributes := #[] }
def k15m1 : Method := { name := "checkLength", desc := "(II)V", sig := { parameters := [.int, .int], returnType := none }, accessFlags := 10, code := some k15c1 }
def k15c2 : Code := { maxStack := 3, maxLocals := 3, code := jdk_65_method_132_code, exceptionTable := #[], attributes := #[] }
def k15m2 : Method := { name := "copyOfRange", desc := "([BII)[B", sig := { parameters := [(.array .byte), .int, .int], returnType := some (.array .byte) }, accessFlags := 9, code := some k15c2 }
def k15c3 : Code := { maxStack := 6, maxLocals := 5, code := jdk_65_method_133_code, exceptionTable := #[], attributes := #[] }
def k15m3 : Method := { name := "copyOfRangeByte", desc := "([BII)[B", sig := { parameters := [(.array .byte), .int, .int], returnType := some (.array .byte) }, accessFlags := 10, code := some k15c3 }
/-- java/util/Arrays -/
def k15 : Class := { plain "java/util/Arrays" (some 0) with
  accessFlags := 49
  interfaces := #[]
  cf := some (fileOf pool15 14 #[.nestMembers #[975, 375, 113, 74]] #[{ accessFlags := 2, nameIndex := 5, descriptorIndex := 6, attributes := #[] }, { accessFlags := 10, nameIndex := 345, descriptorIndex := 346, attributes := #[] }, { accessFlags := 9, nameIndex := 139, descriptorIndex := 342, attributes := #[] }, { accessFlags := 10, nameIndex := 341, descriptorIndex := 342, attributes := #[] }] 49 2 #[] #[{ accessFlags := 26, nameIndex := 715, descriptorIndex := 716, attributes := #[] }, { accessFlags := 26, nameIndex := 719, descriptorIndex := 716, attributes := #[] }, { accessFlags := 4120, nameIndex := 445, descriptorIndex := 117, attributes := #[] }])
  fields := #[{ name := "MIN_ARRAY_SORT_GRAN", type := .int, accessFlags := 26, slot := 0, constantValue := 0 }, { name := "INSERTIONSORT_THRESHOLD", type := .int, accessFlags := 26, slot := 1, constantValue := 0 }, { name := "$assertionsDisabled", type := .boolean, accessFlags := 4120, slot := 2, constantValue := 0 }]
  methods := #[k15m0, k15m1, k15m2, k15m3]
  instanceTypes := #[]
  staticTypes := #[.int, .int, .boolean]
  resolved := Array.replicate 1029 none
  statics := none }

def pool16 : Array CpInfo := pool [(1, .class_ 2), (0, u "java/lang/Math"), (1, .class_ 6), (1, u "java/lang/Object"), (0, u "<init>"), (0, u "()V"), (89, .class_ 100), (1, u "java/lang/Math$RandomNumberGeneratorHolder"), (23, u "abs"), (0, u "(J)J"), (46, u "negativeZeroFloatBits"), (0, u "J"), (2, u "negativeZeroDoubleBits"), (24, u "min"), (43, u "$assertionsDisabled"), (0, u "Z"), (88, u "(II)I"), (2, u "twoToTheDoubleScaleDown"), (0, u "D"), (4, u "twoToTheDoubleScaleUp"), (9, u "E"), (3, u "PI"), (2, u "TAU"), (2, u "DEGREES_TO_RADIANS"), (0, u "RADIANS_TO_DEGREES")] 94

def k16m0 : Method := { name := "<init>", desc := "()V", sig := { parameters := [], returnType := none }, accessFlags := 2, code := none }
def k16c1 : Code := { maxStack := 4, maxLocals := 2, code := jdk_29_method_61_code, exceptionTable := #[], attributes := #[] }
def k16m1 : Method := { name := "abs", desc := "(J)J", sig := { parameters := [.long], returnType := some .long }, accessFlags := 9, code := some k16c1 }
def k16c2 : Code := { maxStack := 2, maxLocals := 2, code := jdk_29_method_69_code, exceptionTable := #[], attributes := #[] }
def k16m2 : Method := { name := "min", desc := "(II)I", sig := { parameters := [.int, .int], returnType := some .int }, accessFlags := 9, code := some k16c2 }
/-- java/lang/Math -/
def k16 : Class := { plain "java/lang/Math" (some 0) with
  accessFlags := 49
  interfaces := #[]
  cf := some (fileOf pool16 1 #[.nestMembers #[98]] #[{ accessFlags := 2, nameIndex := 7, descriptorIndex := 8, attributes := #[] }, { accessFlags := 9, nameIndex := 124, descriptorIndex := 125, attributes := #[] }, { accessFlags := 9, nameIndex := 201, descriptorIndex := 335, attributes := #[] }] 49 4 #[] #[{ accessFlags := 25, nameIndex := 354, descriptorIndex := 339, attributes := #[] }, { accessFlags := 25, nameIndex := 358, descriptorIndex := 339, attributes := #[] }, { accessFlags := 25, nameIndex := 361, descriptorIndex := 339, attributes := #[] }, { accessFlags := 26, nameIndex := 364, descriptorIndex := 339, attributes := #[] }, { accessFlags := 26, nameIndex := 365, descriptorIndex := 339, attributes := #[] }, { accessFlags := 26, nameIndex := 172, descriptorIndex := 173, attributes := #[] }, { accessFlags := 26, nameIndex := 176, descriptorIndex := 173, attributes := #[] }, { accessFlags := 8, nameIndex := 344, descriptorIndex := 339, attributes := #[] }, { accessFlags := 8, nameIndex := 338, descriptorIndex := 339, attributes := #[] }, { accessFlags := 4120, nameIndex := 245, descriptorIndex := 246, attributes := #[] }])
  fields := #[{ name := "E", type := .double, accessFlags := 25, slot := 0, constantValue := 0 }, { name := "PI", type := .double, accessFlags := 25, slot := 1, constantValue := 0 }, { name := "TAU", type := .double, accessFlags := 25, slot := 2, constantValue := 0 }, { name := "DEGREES_TO_RADIANS", type := .double, accessFlags := 26, slot := 3, constantValue := 0 }, { name := "RADIANS_TO_DEGREES", type := .double, accessFlags := 26, slot := 4, constantValue := 0 }, { name := "negativeZeroFloatBits", type := .long, accessFlags := 26, slot := 5, constantValue := 0 }, { name := "negativeZeroDoubleBits", type := .long, accessFlags := 26, slot := 6, constantValue := 0 }, { name := "twoToTheDoubleScaleUp", type := .double, accessFlags := 8, slot := 7, constantValue := 0 }, { name := "twoToTheDoubleScaleDown", type := .double, accessFlags := 8, slot := 8, constantValue := 0 }, { name := "$assertionsDisabled", type := .boolean, accessFlags := 4120, slot := 9, constantValue := 0 }]
  methods := #[k16m0, k16m1, k16m2]
  instanceTypes := #[]
  staticTypes := #[.double, .double, .double, .double, .double, .long, .long, .double, .double, .boolean]
  resolved := Array.replicate 460 none
  statics := none }

def pool17 : Array CpInfo := pool [(1, .class_ 2), (0, u "java/lang/String"), (1, .class_ 6), (1, u "java/lang/Object"), (0, u "<init>"), (0, u "()V"), (0, .methodref 1 10), (0, .nameAndType 11 12), (0, u "checkIndex"), (0, u "(II)V"), (1, .class_ 16), (1, u "java/lang/StringLatin1"), (36, u "([BI)C"), (67, u "$assertionsDisabled"), (0, u "Z"), (98, .class_ 223), (1, u "java/lang/StringLatin1$LinesSpliterator"), (28, u "charAt"), (137, .class_ 391), (0, u "java/lang/StringLatin1$CharsSpliterator")] 3

def k17m0 : Method := { name := "<init>", desc := "()V", sig := { parameters := [], returnType := none }, accessFlags := 0, code := none }
def k17c1 : Code := { maxStack := 2, maxLocals := 2, code := jdk_43_method_2_code, exceptionTable := #[], attributes := #[] }
def k17m1 : Method := { name := "charAt", desc := "([BI)C", sig := { parameters := [(.array .byte), .int], returnType := some .char }, accessFlags := 9, code := some k17c1 }
/-- java/lang/StringLatin1 -/
def k17 : Class := { plain "java/lang/StringLatin1" (some 0) with
  accessFlags := 48
  interfaces := #[]
  cf := some (fileOf pool17 14 #[.nestMembers #[390, 221]] #[{ accessFlags := 0, nameIndex := 7, descriptorIndex := 8, attributes := #[] }, { accessFlags := 9, nameIndex := 252, descriptorIndex := 53, attributes := #[] }] 48 4 #[] #[{ accessFlags := 4120, nameIndex := 121, descriptorIndex := 122, attributes := #[] }])
  fields := #[{ name := "$assertionsDisabled", type := .boolean, accessFlags := 4120, slot := 0, constantValue := 0 }]
  methods := #[k17m0, k17m1]
  instanceTypes := #[]
  staticTypes := #[.boolean]
  resolved := Array.replicate 395 none
  statics := none }

def pool18 : Array CpInfo := pool [(2, .class_ 4), (1, u "java/lang/Object"), (0, u "<init>"), (0, u "()V"), (17, .class_ 26), (1, u "jdk/internal/util/Preconditions"), (6, u "checkIndex"), (21, .class_ 56), (0, u "jdk/internal/util/Preconditions$4"), (57, .class_ 115), (0, u "jdk/internal/util/Preconditions$1"), (7, u "SIOOBE_FORMATTER"), (0, u "Ljava/util/function/BiFunction;"), (0, .class_ 126), (0, u "jdk/internal/util/Preconditions$2"), (3, u "AIOOBE_FORMATTER"), (0, .class_ 132), (0, u "jdk/internal/util/Preconditions$3"), (3, u "IOOBE_FORMATTER"), (41, u "(IILjava/util/function/BiFunction;)I")] 15

def k18m0 : Method := { name := "<init>", desc := "()V", sig := { parameters := [], returnType := none }, accessFlags := 1, code := none }
def k18c1 : Code := { maxStack := 3, maxLocals := 3, code := jdk_41_method_11_code, exceptionTable := #[], attributes := #[] }
def k18m1 : Method := { name := "checkIndex", desc := "(IILjava/util/function/BiFunction;)I", sig := { parameters := [.int, .int, (.object "java/util/function/BiFunction")], returnType := some .int }, accessFlags := 9, code := some k18c1 }
/-- jdk/internal/util/Preconditions -/
def k18 : Class := { plain "jdk/internal/util/Preconditions" (some 0) with
  accessFlags := 33
  interfaces := #[]
  cf := some (fileOf pool18 24 #[.nestMembers #[55, 131, 125, 114]] #[{ accessFlags := 1, nameIndex := 5, descriptorIndex := 6, attributes := #[] }, { accessFlags := 9, nameIndex := 33, descriptorIndex := 178, attributes := #[] }] 33 2 #[] #[{ accessFlags := 25, nameIndex := 123, descriptorIndex := 124, attributes := #[] }, { accessFlags := 25, nameIndex := 130, descriptorIndex := 124, attributes := #[] }, { accessFlags := 25, nameIndex := 136, descriptorIndex := 124, attributes := #[] }])
  fields := #[{ name := "SIOOBE_FORMATTER", type := (.object "java/util/function/BiFunction"), accessFlags := 25, slot := 0, constantValue := 0 }, { name := "AIOOBE_FORMATTER", type := (.object "java/util/function/BiFunction"), accessFlags := 25, slot := 1, constantValue := 0 }, { name := "IOOBE_FORMATTER", type := (.object "java/util/function/BiFunction"), accessFlags := 25, slot := 2, constantValue := 0 }]
  methods := #[k18m0, k18m1]
  instanceTypes := #[]
  staticTypes := #[(.object "java/util/function/BiFunction"), (.object "java/util/function/BiFunction"), (.object "java/util/function/BiFunction")]
  resolved := Array.replicate 194 none
  statics := some 2 }

def pool19 : Array CpInfo := pool [(1, .class_ 2), (0, u "java/lang/Cloneable"), (0, .class_ 4), (0, u "java/lang/Object")] 2

/-- java/lang/Cloneable -/
def k19 : Class := { plain "java/lang/Cloneable" (some 0) with
  accessFlags := 1537
  interfaces := #[]
  cf := some (fileOf pool19 1 #[] #[] 1537 3 #[] #[])
  fields := #[]
  methods := #[]
  instanceTypes := #[]
  staticTypes := #[]
  resolved := Array.replicate 7 none
  statics := none }

def pool20 : Array CpInfo := pool [(9, u "<init>"), (6, .class_ 18), (1, u "java/lang/Object"), (0, u "()V"), (1, .class_ 23), (1, u "jdk/internal/util/ArraysSupport"), (0, u "LOG2_ARRAY_LONG_INDEX_SCALE"), (0, u "I"), (2, u "U"), (0, u "Ljdk/internal/misc/Unsafe;"), (8, u "BIG_ENDIAN"), (0, u "Z"), (8, u "LOG2_BYTE_BIT_SIZE"), (4, u "LOG2_ARRAY_INT_INDEX_SCALE"), (54, u "JLA"), (0, u "Ljdk/internal/access/JavaLangAccess;"), (11, u "LOG2_ARRAY_BOOLEAN_INDEX_SCALE"), (9, u "LOG2_ARRAY_BYTE_INDEX_SCALE"), (5, u "LOG2_ARRAY_CHAR_INDEX_SCALE"), (5, u "LOG2_ARRAY_SHORT_INDEX_SCALE"), (18, u "LOG2_ARRAY_FLOAT_INDEX_SCALE"), (24, u "LOG2_ARRAY_DOUBLE_INDEX_SCALE"), (89, u "T_BOOLEAN"), (2, u "T_CHAR"), (1, u "T_FLOAT"), (1, u "T_DOUBLE"), (1, u "T_BYTE"), (1, u "T_SHORT"), (1, u "T_INT"), (1, u "T_LONG"), (1, u "SOFT_MAX_ARRAY_LENGTH")] 83

def k20m0 : Method := { name := "<init>", desc := "()V", sig := { parameters := [], returnType := none }, accessFlags := 2, code := none }
/-- jdk/internal/util/ArraysSupport -/
def k20 : Class := { plain "jdk/internal/util/ArraysSupport" (some 0) with
  accessFlags := 33
  interfaces := #[]
  cf := some (fileOf pool20 21 #[] #[{ accessFlags := 2, nameIndex := 9, descriptorIndex := 19, attributes := #[] }] 33 16 #[] #[{ accessFlags := 24, nameIndex := 28, descriptorIndex := 29, attributes := #[] }, { accessFlags := 26, nameIndex := 38, descriptorIndex := 39, attributes := #[] }, { accessFlags := 25, nameIndex := 121, descriptorIndex := 25, attributes := #[] }, { accessFlags := 25, nameIndex := 131, descriptorIndex := 25, attributes := #[] }, { accessFlags := 25, nameIndex := 137, descriptorIndex := 25, attributes := #[] }, { accessFlags := 25, nameIndex := 143, descriptorIndex := 25, attributes := #[] }, { accessFlags := 25, nameIndex := 53, descriptorIndex := 25, attributes := #[] }, { accessFlags := 25, nameIndex := 24, descriptorIndex := 25, attributes := #[] }, { accessFlags := 25, nameIndex := 162, descriptorIndex := 25, attributes := #[] }, { accessFlags := 25, nameIndex := 187, descriptorIndex := 25, attributes := #[] }, { accessFlags := 26, nameIndex := 48, descriptorIndex := 25, attributes := #[] }, { accessFlags := 25, nameIndex := 277, descriptorIndex := 25, attributes := #[] }, { accessFlags := 25, nameIndex := 280, descriptorIndex := 25, attributes := #[] }, { accessFlags := 25, nameIndex := 282, descriptorIndex := 25, attributes := #[] }, { accessFlags := 25, nameIndex := 284, descriptorIndex := 25, attributes := #[] }, { accessFlags := 25, nameIndex := 286, descriptorIndex := 25, attributes := #[] }, { accessFlags := 25, nameIndex := 288, descriptorIndex := 25, attributes := #[] }, { accessFlags := 25, nameIndex := 290, descriptorIndex := 25, attributes := #[] }, { accessFlags := 25, nameIndex := 292, descriptorIndex := 25, attributes := #[] }, { accessFlags := 26, nameIndex := 108, descriptorIndex := 109, attributes := #[] }, { accessFlags := 25, nameIndex := 294, descriptorIndex := 25, attributes := #[] }])
  fields := #[{ name := "U", type := (.object "jdk/internal/misc/Unsafe"), accessFlags := 24, slot := 0, constantValue := 0 }, { name := "BIG_ENDIAN", type := .boolean, accessFlags := 26, slot := 1, constantValue := 0 }, { name := "LOG2_ARRAY_BOOLEAN_INDEX_SCALE", type := .int, accessFlags := 25, slot := 2, constantValue := 0 }, { name := "LOG2_ARRAY_BYTE_INDEX_SCALE", type := .int, accessFlags := 25, slot := 3, constantValue := 0 }, { name := "LOG2_ARRAY_CHAR_INDEX_SCALE", type := .int, accessFlags := 25, slot := 4, constantValue := 0 }, { name := "LOG2_ARRAY_SHORT_INDEX_SCALE", type := .int, accessFlags := 25, slot := 5, constantValue := 0 }, { name := "LOG2_ARRAY_INT_INDEX_SCALE", type := .int, accessFlags := 25, slot := 6, constantValue := 0 }, { name := "LOG2_ARRAY_LONG_INDEX_SCALE", type := .int, accessFlags := 25, slot := 7, constantValue := 0 }, { name := "LOG2_ARRAY_FLOAT_INDEX_SCALE", type := .int, accessFlags := 25, slot := 8, constantValue := 0 }, { name := "LOG2_ARRAY_DOUBLE_INDEX_SCALE", type := .int, accessFlags := 25, slot := 9, constantValue := 0 }, { name := "LOG2_BYTE_BIT_SIZE", type := .int, accessFlags := 26, slot := 10, constantValue := 0 }, { name := "T_BOOLEAN", type := .int, accessFlags := 25, slot := 11, constantValue := 0 }, { name := "T_CHAR", type := .int, accessFlags := 25, slot := 12, constantValue := 0 }, { name := "T_FLOAT", type := .int, accessFlags := 25, slot := 13, constantValue := 0 }, { name := "T_DOUBLE", type := .int, accessFlags := 25, slot := 14, constantValue := 0 }, { name := "T_BYTE", type := .int, accessFlags := 25, slot := 15, constantValue := 0 }, { name := "T_SHORT", type := .int, accessFlags := 25, slot := 16, constantValue := 0 }, { name := "T_INT", type := .int, accessFlags := 25, slot := 17, constantValue := 0 }, { name := "T_LONG", type := .int, accessFlags := 25, slot := 18, constantValue := 0 }, { name := "JLA", type := (.object "jdk/internal/access/JavaLangAccess"), accessFlags := 26, slot := 19, constantValue := 0 }, { name := "SOFT_MAX_ARRAY_LENGTH", type := .int, accessFlags := 25, slot := 20, constantValue := 0 }]
  methods := #[k20m0]
  instanceTypes := #[]
  staticTypes := #[(.object "jdk/internal/misc/Unsafe"), .boolean, .int, .int, .int, .int, .int, .int, .int, .int, .int, .int, .int, .int, .int, .int, .int, .int, .int, (.object "jdk/internal/access/JavaLangAccess"), .int]
  resolved := Array.replicate 378 none
  statics := none }

/-- the primitive byte -/
def k21 : Class := { plain "byte" none with kind := .primitive 'B', accessFlags := 0x411 }
/-- [B -/
def k22 : Class := { plain "[B" (some 0) with kind := .array 21 .byte, interfaces := #[19, 6], accessFlags := 1041 }

/-- the primitive int -/
def k23 : Class := { plain "int" none with kind := .primitive 'I', accessFlags := 0x411 }
/-- [I -/
def k24 : Class := { plain "[I" (some 0) with kind := .array 23 .int, interfaces := #[19, 6], accessFlags := 1041 }

def heap : Heap := #[{ cls := 11, slots := #[.long 0, .int 1, .null, .int 0, .null, .int 0, .int 0], vm := .statics 11 },
  { cls := 13, slots := #[.int 0, .int 0, .null, .null, .ref 4, .ref 3, .int 0, .int 0, .long 0], vm := .statics 13 },
  { cls := 18, slots := #[.null, .null, .null], vm := .statics 18 },
  { cls := 22, slots := #[.int 48, .int 49, .int 50, .int 51, .int 52, .int 53, .int 54, .int 55, .int 56, .int 57, .int 48, .int 49, .int 50, .int 51, .int 52, .int 53, .int 54, .int 55, .int 56, .int 57, .int 48, .int 49, .int 50, .int 51, .int 52, .int 53, .int 54, .int 55, .int 56, .int 57, .int 48, .int 49, .int 50, .int 51, .int 52, .int 53, .int 54, .int 55, .int 56, .int 57, .int 48, .int 49, .int 50, .int 51, .int 52, .int 53, .int 54, .int 55, .int 56, .int 57, .int 48, .int 49, .int 50, .int 51, .int 52, .int 53, .int 54, .int 55, .int 56, .int 57, .int 48, .int 49, .int 50, .int 51, .int 52, .int 53, .int 54, .int 55, .int 56, .int 57, .int 48, .int 49, .int 50, .int 51, .int 52, .int 53, .int 54, .int 55, .int 56, .int 57, .int 48, .int 49, .int 50, .int 51, .int 52, .int 53, .int 54, .int 55, .int 56, .int 57, .int 48, .int 49, .int 50, .int 51, .int 52, .int 53, .int 54, .int 55, .int 56, .int 57], vm := .none },
  { cls := 22, slots := #[.int 48, .int 48, .int 48, .int 48, .int 48, .int 48, .int 48, .int 48, .int 48, .int 48, .int 49, .int 49, .int 49, .int 49, .int 49, .int 49, .int 49, .int 49, .int 49, .int 49, .int 50, .int 50, .int 50, .int 50, .int 50, .int 50, .int 50, .int 50, .int 50, .int 50, .int 51, .int 51, .int 51, .int 51, .int 51, .int 51, .int 51, .int 51, .int 51, .int 51, .int 52, .int 52, .int 52, .int 52, .int 52, .int 52, .int 52, .int 52, .int 52, .int 52, .int 53, .int 53, .int 53, .int 53, .int 53, .int 53, .int 53, .int 53, .int 53, .int 53, .int 54, .int 54, .int 54, .int 54, .int 54, .int 54, .int 54, .int 54, .int 54, .int 54, .int 55, .int 55, .int 55, .int 55, .int 55, .int 55, .int 55, .int 55, .int 55, .int 55, .int 56, .int 56, .int 56, .int 56, .int 56, .int 56, .int 56, .int 56, .int 56, .int 56, .int 57, .int 57, .int 57, .int 57, .int 57, .int 57, .int 57, .int 57, .int 57, .int 57], vm := .none }]
def classes : Array Class := #[k0, k1, k2, k3, k4, k5, k6, k7, k8, k9, k10, k11, k12, k13, k14, k15, k16, k17, k18, k19, k20, k21, k22, k23, k24]
def interned : List (Array UInt16 × Addr) := []
def slotsUsed : Nat := 219
def theMethod : MethodId := ⟨1, 1⟩
def args0 : Array Value := #[.int 1, .int 2]
def aboutOver (below : List Frame) : State where
  vm := { classes := classes, interned := interned.toArray }
  heap := heap
  slotsUsed := slotsUsed
  threads := #[{ frames := .invoking theMethod args0 :: below }]
def below0 : List Frame := [.native { method := ⟨0, 0⟩, args := #[] }]
def about1 : State := aboutOver below0
def p0 : Program := .bare "" "" ""
def e0 : Env := launch0.env 0 0 0
theorem w_frames : about1.frames = Frame.invoking theMethod args0 :: below0 := rfl
set_option maxRecDepth 65536 in
theorem w_args : argsFit about1.vm theMethod args0 = true := by decide +kernel
set_option maxRecDepth 65536 in
theorem w_heap : heapFits about1 = true := by decide +kernel
set_option maxRecDepth 65536 in
theorem w_runnable : about1.curStatus? = some .runnable := by decide +kernel
set_option maxRecDepth 65536 in
theorem w_alone : about1.alone = true := by decide +kernel
set_option maxRecDepth 65536 in
theorem w_named : about1.methodNamed? x = some theMethod := by decide +kernel
set_option maxRecDepth 65536 in
theorem w_hears : about1.hears theMethod below0 = true := by decide +kernel
set_option maxRecDepth 65536 in
theorem w_ripe : about1.ripe theMethod args0 below0 = true := by decide +kernel
theorem w_running : about1.status = .running := rfl
set_option maxRecDepth 65536 in
theorem w_room : about1.hasRoom e0.platform room_1 = true :=
  launch0.hasRoom_least _ room_1 (by decide +kernel) (by decide +kernel) (by decide +kernel) (by decide +kernel) (by decide +kernel) (by decide +kernel)
theorem allAtoms_all (ts : List Jvm.Cond) (a : Array Jvm.Value) (st : Jvm.State) : (allAtoms ts).before a st = ts.all (fun c => c.before a st) := by
  induction ts with
  | nil => rfl
  | cons c t ih =>
    show (Jvm.Cond.and c (allAtoms t)).before a st = _
    rw [Jvm.Cond.before_and, ih, List.all_cons]
def words1 : List Jvm.Cond := Jvm.Cond.code x code maxLocals ret :: tables_1
/-- a 'code' word, met by the world's own term for the bytes: nothing is compared byte by byte -/
theorem code_word {y : MethodName} {bytes : ByteArray} {mx : Nat} {rt : Option FieldType} {a : Array Value} {s : State} {m : MethodId} {meth : Method} {c : Code} (h1 : s.methodNamed? y = some m) (h2 : s.vm.method? m = some meth) (h3 : meth.code = some c) (h4 : c.code = bytes)
    (h5 : (c.maxLocals == mx && c.exceptionTable.isEmpty && decide (c.maxStack ≤ mostOperands) && decide (meth.sig.returnType = rt) && !meth.locks && decide (parseMethodDescriptor y.desc = some meth.sig)) = true) : (Jvm.Cond.code y bytes mx rt).before a s = true := by
  simp only [Bool.and_eq_true, beq_iff_eq, Bool.not_eq_true', decide_eq_true_eq] at h5
  obtain ⟨⟨⟨⟨⟨g1, g2⟩, g3⟩, g4⟩, g5⟩, g6⟩ := h5
  simp [Cond.before, Cond.holds, Cond.value, h1, h2, h3, h4, g1, g2, g3, g4, g5, g6]
def isCode : Jvm.Cond → Bool
  | .code _ _ _ _ => true
  | _ => false
theorem all_split {L : List Jvm.Cond} {P : Jvm.Cond → Bool} (h1 : L.all (fun c => isCode c || P c) = true) (h2 : ∀ c ∈ L.filter isCode, P c = true) : L.all P = true := by
  refine List.all_eq_true.mpr fun c hc => ?_
  have h := List.all_eq_true.mp h1 c hc
  rcases Bool.eq_false_or_eq_true (isCode c) with hi | hi
  · exact h2 c (List.mem_filter.mpr ⟨hc, hi⟩)
  · simpa [hi] using h
set_option maxRecDepth 65536 in
theorem w_c0 : (Jvm.Cond.code x code maxLocals ret).before args0 about1 = true := code_word (m := ⟨1, 1⟩) (meth := k1m1) (c := k1c1) (by decide +kernel) rfl rfl rfl (by decide +kernel)
set_option maxRecDepth 65536 in
theorem w_c1 : (Jvm.Cond.code ({ cls := "com/example/noteform/noteform/io/Figures", name := "days", desc := "(I)Ljava/lang/String;" } : Jvm.MethodName) prog_39_method_3_code (1 : Nat) (Option.some (Jvm.ClassFile.FieldType.object "java/lang/String"))).before args0 about1 = true := code_word (m := ⟨2, 1⟩) (meth := k2m1) (c := k2c1) (by decide +kernel) rfl rfl rfl (by decide +kernel)
set_option maxRecDepth 65536 in
theorem w_c2 : (Jvm.Cond.code ({ cls := "java/lang/StringBuilder", name := "<init>", desc := "()V" } : Jvm.MethodName) jdk_67_method_1_code (1 : Nat) (Option.none : Option Jvm.ClassFile.FieldType)).before args0 about1 = true := code_word (m := ⟨8, 0⟩) (meth := k8m0) (c := k8c0) (by decide +kernel) rfl rfl rfl (by decide +kernel)
set_option maxRecDepth 65536 in
theorem w_c3 : (Jvm.Cond.code ({ cls := "java/lang/AbstractStringBuilder", name := "<init>", desc := "(I)V" } : Jvm.MethodName) jdk_68_method_2_code (2 : Nat) (Option.none : Option Jvm.ClassFile.FieldType)).before args0 about1 = true := code_word (m := ⟨5, 1⟩) (meth := k5m1) (c := k5c1) (by decide +kernel) rfl rfl rfl (by decide +kernel)
set_option maxRecDepth 65536 in
theorem w_c4 : (Jvm.Cond.code ({ cls := "java/lang/Object", name := "<init>", desc := "()V" } : Jvm.MethodName) object_method_1_code (1 : Nat) (Option.none : Option Jvm.ClassFile.FieldType)).before args0 about1 = true := code_word (m := ⟨0, 0⟩) (meth := k0m0) (c := k0c0) (by decide +kernel) rfl rfl rfl (by decide +kernel)
set_option maxRecDepth 65536 in
theorem w_c5 : (Jvm.Cond.code ({ cls := "java/lang/StringBuilder", name := "append", desc := "(I)Ljava/lang/StringBuilder;" } : Jvm.MethodName) jdk_67_method_15_code (2 : Nat) (Option.some (Jvm.ClassFile.FieldType.object "java/lang/StringBuilder"))).before args0 about1 = true := code_word (m := ⟨8, 2⟩) (meth := k8m2) (c := k8c2) (by decide +kernel) rfl rfl rfl (by decide +kernel)
set_option maxRecDepth 65536 in
theorem w_c6 : (Jvm.Cond.code ({ cls := "java/lang/AbstractStringBuilder", name := "append", desc := "(I)Ljava/lang/AbstractStringBuilder;" } : Jvm.MethodName) jdk_68_method_32_code (4 : Nat) (Option.some (Jvm.ClassFile.FieldType.object "java/lang/AbstractStringBuilder"))).before args0 about1 = true := code_word (m := ⟨5, 5⟩) (meth := k5m5) (c := k5c5) (by decide +kernel) rfl rfl rfl (by decide +kernel)
set_option maxRecDepth 65536 in
theorem w_c7 : (Jvm.Cond.code ({ cls := "java/lang/Integer", name := "stringSize", desc := "(I)I" } : Jvm.MethodName) jdk_33_method_13_code (4 : Nat) (Option.some Jvm.ClassFile.FieldType.int)).before args0 about1 = true := code_word (m := ⟨13, 1⟩) (meth := k13m1) (c := k13c1) (by decide +kernel) rfl rfl rfl (by decide +kernel)
set_option maxRecDepth 65536 in
theorem w_c8 : (Jvm.Cond.code ({ cls := "java/lang/AbstractStringBuilder", name := "ensureCapacityInternal", desc := "(I)V" } : Jvm.MethodName) jdk_68_method_9_code (3 : Nat) (Option.none : Option Jvm.ClassFile.FieldType)).before args0 about1 = true := code_word (m := ⟨5, 3⟩) (meth := k5m3) (c := k5c3) (by decide +kernel) rfl rfl rfl (by decide +kernel)
set_option maxRecDepth 65536 in
theorem w_c9 : (Jvm.Cond.code ({ cls := "java/lang/AbstractStringBuilder", name := "isLatin1", desc := "()Z" } : Jvm.MethodName) jdk_68_method_68_code (1 : Nat) (Option.some Jvm.ClassFile.FieldType.boolean)).before args0 about1 = true := code_word (m := ⟨5, 7⟩) (meth := k5m7) (c := k5c7) (by decide +kernel) rfl rfl rfl (by decide +kernel)
set_option maxRecDepth 65536 in
theorem w_c10 : (Jvm.Cond.code ({ cls := "java/lang/Integer", name := "getChars", desc := "(II[B)I" } : Jvm.MethodName) jdk_33_method_12_code (7 : Nat) (Option.some Jvm.ClassFile.FieldType.int)).before args0 about1 = true := code_word (m := ⟨13, 0⟩) (meth := k13m0) (c := k13c0) (by decide +kernel) rfl rfl rfl (by decide +kernel)
set_option maxRecDepth 65536 in
theorem w_c11 : (Jvm.Cond.code ({ cls := "java/lang/StringBuilder", name := "append", desc := "(Ljava/lang/String;)Ljava/lang/StringBuilder;" } : Jvm.MethodName) jdk_67_method_7_code (2 : Nat) (Option.some (Jvm.ClassFile.FieldType.object "java/lang/StringBuilder"))).before args0 about1 = true := code_word (m := ⟨8, 1⟩) (meth := k8m1) (c := k8c1) (by decide +kernel) rfl rfl rfl (by decide +kernel)
set_option maxRecDepth 65536 in
theorem w_c12 : (Jvm.Cond.code ({ cls := "java/lang/AbstractStringBuilder", name := "append", desc := "(Ljava/lang/String;)Ljava/lang/AbstractStringBuilder;" } : Jvm.MethodName) jdk_68_method_22_code (3 : Nat) (Option.some (Jvm.ClassFile.FieldType.object "java/lang/AbstractStringBuilder"))).before args0 about1 = true := code_word (m := ⟨5, 4⟩) (meth := k5m4) (c := k5c4) (by decide +kernel) rfl rfl rfl (by decide +kernel)
set_option maxRecDepth 65536 in
theorem w_c13 : (Jvm.Cond.code ({ cls := "java/lang/String", name := "length", desc := "()I" } : Jvm.MethodName) jdk_42_method_54_code (1 : Nat) (Option.some Jvm.ClassFile.FieldType.int)).before args0 about1 = true := code_word (m := ⟨11, 2⟩) (meth := k11m2) (c := k11c2) (by decide +kernel) rfl rfl rfl (by decide +kernel)
set_option maxRecDepth 65536 in
theorem w_c14 : (Jvm.Cond.code ({ cls := "java/lang/String", name := "coder", desc := "()B" } : Jvm.MethodName) jdk_42_method_152_code (1 : Nat) (Option.some Jvm.ClassFile.FieldType.byte)).before args0 about1 = true := code_word (m := ⟨11, 6⟩) (meth := k11m6) (c := k11c6) (by decide +kernel) rfl rfl rfl (by decide +kernel)
set_option maxRecDepth 65536 in
theorem w_c15 : (Jvm.Cond.code ({ cls := "java/lang/AbstractStringBuilder", name := "putStringAt", desc := "(ILjava/lang/String;)V" } : Jvm.MethodName) jdk_68_method_73_code (3 : Nat) (Option.none : Option Jvm.ClassFile.FieldType)).before args0 about1 = true := code_word (m := ⟨5, 9⟩) (meth := k5m9) (c := k5c9) (by decide +kernel) rfl rfl rfl (by decide +kernel)
set_option maxRecDepth 65536 in
theorem w_c16 : (Jvm.Cond.code ({ cls := "java/lang/AbstractStringBuilder", name := "inflateIfNeededFor", desc := "(Ljava/lang/String;)V" } : Jvm.MethodName) jdk_68_method_71_code (2 : Nat) (Option.none : Option Jvm.ClassFile.FieldType)).before args0 about1 = true := code_word (m := ⟨5, 8⟩) (meth := k5m8) (c := k5c8) (by decide +kernel) rfl rfl rfl (by decide +kernel)
set_option maxRecDepth 65536 in
theorem w_c17 : (Jvm.Cond.code ({ cls := "java/lang/String", name := "getBytes", desc := "([BIB)V" } : Jvm.MethodName) jdk_42_method_147_code (4 : Nat) (Option.none : Option Jvm.ClassFile.FieldType)).before args0 about1 = true := code_word (m := ⟨11, 4⟩) (meth := k11m4) (c := k11c4) (by decide +kernel) rfl rfl rfl (by decide +kernel)
set_option maxRecDepth 65536 in
theorem w_c18 : (Jvm.Cond.code ({ cls := "java/lang/StringBuilder", name := "toString", desc := "()Ljava/lang/String;" } : Jvm.MethodName) jdk_67_method_42_code (1 : Nat) (Option.some (Jvm.ClassFile.FieldType.object "java/lang/String"))).before args0 about1 = true := code_word (m := ⟨8, 3⟩) (meth := k8m3) (c := k8c3) (by decide +kernel) rfl rfl rfl (by decide +kernel)
set_option maxRecDepth 65536 in
theorem w_c19 : (Jvm.Cond.code ({ cls := "java/lang/String", name := "<init>", desc := "(Ljava/lang/StringBuilder;)V" } : Jvm.MethodName) jdk_42_method_53_code (2 : Nat) (Option.none : Option Jvm.ClassFile.FieldType)).before args0 about1 = true := code_word (m := ⟨11, 1⟩) (meth := k11m1) (c := k11c1) (by decide +kernel) rfl rfl rfl (by decide +kernel)
set_option maxRecDepth 65536 in
theorem w_c20 : (Jvm.Cond.code ({ cls := "java/lang/String", name := "<init>", desc := "(Ljava/lang/AbstractStringBuilder;Ljava/lang/Void;)V" } : Jvm.MethodName) jdk_42_method_150_code (5 : Nat) (Option.none : Option Jvm.ClassFile.FieldType)).before args0 about1 = true := code_word (m := ⟨11, 5⟩) (meth := k11m5) (c := k11c5) (by decide +kernel) rfl rfl rfl (by decide +kernel)
set_option maxRecDepth 65536 in
theorem w_c21 : (Jvm.Cond.code ({ cls := "java/lang/AbstractStringBuilder", name := "getValue", desc := "()[B" } : Jvm.MethodName) jdk_68_method_64_code (1 : Nat) (Option.some (Jvm.ClassFile.FieldType.array Jvm.ClassFile.FieldType.byte))).before args0 about1 = true := code_word (m := ⟨5, 6⟩) (meth := k5m6) (c := k5c6) (by decide +kernel) rfl rfl rfl (by decide +kernel)
set_option maxRecDepth 65536 in
theorem w_c22 : (Jvm.Cond.code ({ cls := "java/lang/StringBuilder", name := "length", desc := "()I" } : Jvm.MethodName) jdk_67_method_93_code (1 : Nat) (Option.some Jvm.ClassFile.FieldType.int)).before args0 about1 = true := code_word (m := ⟨8, 4⟩) (meth := k8m4) (c := k8c4) (by decide +kernel) rfl rfl rfl (by decide +kernel)
set_option maxRecDepth 65536 in
theorem w_c23 : (Jvm.Cond.code ({ cls := "java/lang/AbstractStringBuilder", name := "length", desc := "()I" } : Jvm.MethodName) jdk_68_method_6_code (1 : Nat) (Option.some Jvm.ClassFile.FieldType.int)).before args0 about1 = true := code_word (m := ⟨5, 2⟩) (meth := k5m2) (c := k5c2) (by decide +kernel) rfl rfl rfl (by decide +kernel)
set_option maxRecDepth 65536 in
theorem w_c24 : (Jvm.Cond.code ({ cls := "java/util/Arrays", name := "copyOfRange", desc := "([BII)[B" } : Jvm.MethodName) jdk_65_method_132_code (3 : Nat) (Option.some (Jvm.ClassFile.FieldType.array Jvm.ClassFile.FieldType.byte))).before args0 about1 = true := code_word (m := ⟨15, 2⟩) (meth := k15m2) (c := k15c2) (by decide +kernel) rfl rfl rfl (by decide +kernel)
set_option maxRecDepth 65536 in
theorem w_c25 : (Jvm.Cond.code ({ cls := "java/util/Arrays", name := "copyOfRangeByte", desc := "([BII)[B" } : Jvm.MethodName) jdk_65_method_133_code (5 : Nat) (Option.some (Jvm.ClassFile.FieldType.array Jvm.ClassFile.FieldType.byte))).before args0 about1 = true := code_word (m := ⟨15, 3⟩) (meth := k15m3) (c := k15c3) (by decide +kernel) rfl rfl rfl (by decide +kernel)
set_option maxRecDepth 65536 in
theorem w_c26 : (Jvm.Cond.code ({ cls := "java/util/Arrays", name := "checkLength", desc := "(II)V" } : Jvm.MethodName) jdk_65_method_131_code (2 : Nat) (Option.none : Option Jvm.ClassFile.FieldType)).before args0 about1 = true := code_word (m := ⟨15, 1⟩) (meth := k15m1) (c := k15c1) (by decide +kernel) rfl rfl rfl (by decide +kernel)
set_option maxRecDepth 65536 in
theorem w_c27 : (Jvm.Cond.code ({ cls := "java/lang/Math", name := "min", desc := "(II)I" } : Jvm.MethodName) jdk_29_method_69_code (2 : Nat) (Option.some Jvm.ClassFile.FieldType.int)).before args0 about1 = true := code_word (m := ⟨16, 2⟩) (meth := k16m2) (c := k16c2) (by decide +kernel) rfl rfl rfl (by decide +kernel)
set_option maxRecDepth 65536 in
theorem w_c28 : (Jvm.Cond.code ({ cls := "java/lang/Math", name := "abs", desc := "(J)J" } : Jvm.MethodName) jdk_29_method_61_code (2 : Nat) (Option.some Jvm.ClassFile.FieldType.long)).before args0 about1 = true := code_word (m := ⟨16, 1⟩) (meth := k16m1) (c := k16c1) (by decide +kernel) rfl rfl rfl (by decide +kernel)
set_option maxRecDepth 65536 in
theorem w_c29 : (Jvm.Cond.code ({ cls := "com/example/noteform/noteform/io/FiguresDaysPinLaw", name := "digitCount", desc := "(J)I" } : Jvm.MethodName) method_3_code (2 : Nat) (Option.some Jvm.ClassFile.FieldType.int)).before args0 about1 = true := code_word (m := ⟨1, 2⟩) (meth := k1m2) (c := k1c2) (by decide +kernel) rfl rfl rfl (by decide +kernel)
set_option maxRecDepth 65536 in
theorem w_c30 : (Jvm.Cond.code ({ cls := "com/example/noteform/noteform/io/FiguresDaysPinLaw", name := "digitAt", desc := "(Ljava/lang/String;IIJIJ)Z" } : Jvm.MethodName) method_4_code (10 : Nat) (Option.some Jvm.ClassFile.FieldType.boolean)).before args0 about1 = true := code_word (m := ⟨1, 3⟩) (meth := k1m3) (c := k1c3) (by decide +kernel) rfl rfl rfl (by decide +kernel)
set_option maxRecDepth 65536 in
theorem w_c31 : (Jvm.Cond.code ({ cls := "java/lang/String", name := "charAt", desc := "(I)C" } : Jvm.MethodName) jdk_42_method_56_code (2 : Nat) (Option.some Jvm.ClassFile.FieldType.char)).before args0 about1 = true := code_word (m := ⟨11, 3⟩) (meth := k11m3) (c := k11c3) (by decide +kernel) rfl rfl rfl (by decide +kernel)
set_option maxRecDepth 65536 in
theorem w_c32 : (Jvm.Cond.code ({ cls := "java/lang/String", name := "isLatin1", desc := "()Z" } : Jvm.MethodName) jdk_42_method_154_code (1 : Nat) (Option.some Jvm.ClassFile.FieldType.boolean)).before args0 about1 = true := code_word (m := ⟨11, 7⟩) (meth := k11m7) (c := k11c7) (by decide +kernel) rfl rfl rfl (by decide +kernel)
set_option maxRecDepth 65536 in
theorem w_c33 : (Jvm.Cond.code ({ cls := "java/lang/StringLatin1", name := "charAt", desc := "([BI)C" } : Jvm.MethodName) jdk_43_method_2_code (2 : Nat) (Option.some Jvm.ClassFile.FieldType.char)).before args0 about1 = true := code_word (m := ⟨17, 1⟩) (meth := k17m1) (c := k17c1) (by decide +kernel) rfl rfl rfl (by decide +kernel)
set_option maxRecDepth 65536 in
theorem w_c34 : (Jvm.Cond.code ({ cls := "java/lang/String", name := "checkIndex", desc := "(II)V" } : Jvm.MethodName) jdk_42_method_155_code (2 : Nat) (Option.none : Option Jvm.ClassFile.FieldType)).before args0 about1 = true := code_word (m := ⟨11, 8⟩) (meth := k11m8) (c := k11c8) (by decide +kernel) rfl rfl rfl (by decide +kernel)
set_option maxRecDepth 65536 in
theorem w_c35 : (Jvm.Cond.code ({ cls := "jdk/internal/util/Preconditions", name := "checkIndex", desc := "(IILjava/util/function/BiFunction;)I" } : Jvm.MethodName) jdk_41_method_11_code (3 : Nat) (Option.some Jvm.ClassFile.FieldType.int)).before args0 about1 = true := code_word (m := ⟨18, 1⟩) (meth := k18m1) (c := k18c1) (by decide +kernel) rfl rfl rfl (by decide +kernel)
def codes1 : List Jvm.Cond := [Jvm.Cond.code x code maxLocals ret, Jvm.Cond.code ({ cls := "com/example/noteform/noteform/io/Figures", name := "days", desc := "(I)Ljava/lang/String;" } : Jvm.MethodName) prog_39_method_3_code (1 : Nat) (Option.some (Jvm.ClassFile.FieldType.object "java/lang/String")), Jvm.Cond.code ({ cls := "java/lang/StringBuilder", name := "<init>", desc := "()V" } : Jvm.MethodName) jdk_67_method_1_code (1 : Nat) (Option.none : Option Jvm.ClassFile.FieldType), Jvm.Cond.code ({ cls := "java/lang/AbstractStringBuilder", name := "<init>", desc := "(I)V" } : Jvm.MethodName) jdk_68_method_2_code (2 : Nat) (Option.none : Option Jvm.ClassFile.FieldType), Jvm.Cond.code ({ cls := "java/lang/Object", name := "<init>", desc := "()V" } : Jvm.MethodName) object_method_1_code (1 : Nat) (Option.none : Option Jvm.ClassFile.FieldType), Jvm.Cond.code ({ cls := "java/lang/StringBuilder", name := "append", desc := "(I)Ljava/lang/StringBuilder;" } : Jvm.MethodName) jdk_67_method_15_code (2 : Nat) (Option.some (Jvm.ClassFile.FieldType.object "java/lang/StringBuilder")), Jvm.Cond.code ({ cls := "java/lang/AbstractStringBuilder", name := "append", desc := "(I)Ljava/lang/AbstractStringBuilder;" } : Jvm.MethodName) jdk_68_method_32_code (4 : Nat) (Option.some (Jvm.ClassFile.FieldType.object "java/lang/AbstractStringBuilder")), Jvm.Cond.code ({ cls := "java/lang/Integer", name := "stringSize", desc := "(I)I" } : Jvm.MethodName) jdk_33_method_13_code (4 : Nat) (Option.some Jvm.ClassFile.FieldType.int), Jvm.Cond.code ({ cls := "java/lang/AbstractStringBuilder", name := "ensureCapacityInternal", desc := "(I)V" } : Jvm.MethodName) jdk_68_method_9_code (3 : Nat) (Option.none : Option Jvm.ClassFile.FieldType), Jvm.Cond.code ({ cls := "java/lang/AbstractStringBuilder", name := "isLatin1", desc := "()Z" } : Jvm.MethodName) jdk_68_method_68_code (1 : Nat) (Option.some Jvm.ClassFile.FieldType.boolean), Jvm.Cond.code ({ cls := "java/lang/Integer", name := "getChars", desc := "(II[B)I" } : Jvm.MethodName) jdk_33_method_12_code (7 : Nat) (Option.some Jvm.ClassFile.FieldType.int), Jvm.Cond.code ({ cls := "java/lang/StringBuilder", name := "append", desc := "(Ljava/lang/String;)Ljava/lang/StringBuilder;" } : Jvm.MethodName) jdk_67_method_7_code (2 : Nat) (Option.some (Jvm.ClassFile.FieldType.object "java/lang/StringBuilder")), Jvm.Cond.code ({ cls := "java/lang/AbstractStringBuilder", name := "append", desc := "(Ljava/lang/String;)Ljava/lang/AbstractStringBuilder;" } : Jvm.MethodName) jdk_68_method_22_code (3 : Nat) (Option.some (Jvm.ClassFile.FieldType.object "java/lang/AbstractStringBuilder")), Jvm.Cond.code ({ cls := "java/lang/String", name := "length", desc := "()I" } : Jvm.MethodName) jdk_42_method_54_code (1 : Nat) (Option.some Jvm.ClassFile.FieldType.int), Jvm.Cond.code ({ cls := "java/lang/String", name := "coder", desc := "()B" } : Jvm.MethodName) jdk_42_method_152_code (1 : Nat) (Option.some Jvm.ClassFile.FieldType.byte), Jvm.Cond.code ({ cls := "java/lang/AbstractStringBuilder", name := "putStringAt", desc := "(ILjava/lang/String;)V" } : Jvm.MethodName) jdk_68_method_73_code (3 : Nat) (Option.none : Option Jvm.ClassFile.FieldType), Jvm.Cond.code ({ cls := "java/lang/AbstractStringBuilder", name := "inflateIfNeededFor", desc := "(Ljava/lang/String;)V" } : Jvm.MethodName) jdk_68_method_71_code (2 : Nat) (Option.none : Option Jvm.ClassFile.FieldType), Jvm.Cond.code ({ cls := "java/lang/String", name := "getBytes", desc := "([BIB)V" } : Jvm.MethodName) jdk_42_method_147_code (4 : Nat) (Option.none : Option Jvm.ClassFile.FieldType), Jvm.Cond.code ({ cls := "java/lang/StringBuilder", name := "toString", desc := "()Ljava/lang/String;" } : Jvm.MethodName) jdk_67_method_42_code (1 : Nat) (Option.some (Jvm.ClassFile.FieldType.object "java/lang/String")), Jvm.Cond.code ({ cls := "java/lang/String", name := "<init>", desc := "(Ljava/lang/StringBuilder;)V" } : Jvm.MethodName) jdk_42_method_53_code (2 : Nat) (Option.none : Option Jvm.ClassFile.FieldType), Jvm.Cond.code ({ cls := "java/lang/String", name := "<init>", desc := "(Ljava/lang/AbstractStringBuilder;Ljava/lang/Void;)V" } : Jvm.MethodName) jdk_42_method_150_code (5 : Nat) (Option.none : Option Jvm.ClassFile.FieldType), Jvm.Cond.code ({ cls := "java/lang/AbstractStringBuilder", name := "getValue", desc := "()[B" } : Jvm.MethodName) jdk_68_method_64_code (1 : Nat) (Option.some (Jvm.ClassFile.FieldType.array Jvm.ClassFile.FieldType.byte)), Jvm.Cond.code ({ cls := "java/lang/StringBuilder", name := "length", desc := "()I" } : Jvm.MethodName) jdk_67_method_93_code (1 : Nat) (Option.some Jvm.ClassFile.FieldType.int), Jvm.Cond.code ({ cls := "java/lang/AbstractStringBuilder", name := "length", desc := "()I" } : Jvm.MethodName) jdk_68_method_6_code (1 : Nat) (Option.some Jvm.ClassFile.FieldType.int), Jvm.Cond.code ({ cls := "java/util/Arrays", name := "copyOfRange", desc := "([BII)[B" } : Jvm.MethodName) jdk_65_method_132_code (3 : Nat) (Option.some (Jvm.ClassFile.FieldType.array Jvm.ClassFile.FieldType.byte)), Jvm.Cond.code ({ cls := "java/util/Arrays", name := "copyOfRangeByte", desc := "([BII)[B" } : Jvm.MethodName) jdk_65_method_133_code (5 : Nat) (Option.some (Jvm.ClassFile.FieldType.array Jvm.ClassFile.FieldType.byte)), Jvm.Cond.code ({ cls := "java/util/Arrays", name := "checkLength", desc := "(II)V" } : Jvm.MethodName) jdk_65_method_131_code (2 : Nat) (Option.none : Option Jvm.ClassFile.FieldType), Jvm.Cond.code ({ cls := "java/lang/Math", name := "min", desc := "(II)I" } : Jvm.MethodName) jdk_29_method_69_code (2 : Nat) (Option.some Jvm.ClassFile.FieldType.int), Jvm.Cond.code ({ cls := "java/lang/Math", name := "abs", desc := "(J)J" } : Jvm.MethodName) jdk_29_method_61_code (2 : Nat) (Option.some Jvm.ClassFile.FieldType.long), Jvm.Cond.code ({ cls := "com/example/noteform/noteform/io/FiguresDaysPinLaw", name := "digitCount", desc := "(J)I" } : Jvm.MethodName) method_3_code (2 : Nat) (Option.some Jvm.ClassFile.FieldType.int), Jvm.Cond.code ({ cls := "com/example/noteform/noteform/io/FiguresDaysPinLaw", name := "digitAt", desc := "(Ljava/lang/String;IIJIJ)Z" } : Jvm.MethodName) method_4_code (10 : Nat) (Option.some Jvm.ClassFile.FieldType.boolean), Jvm.Cond.code ({ cls := "java/lang/String", name := "charAt", desc := "(I)C" } : Jvm.MethodName) jdk_42_method_56_code (2 : Nat) (Option.some Jvm.ClassFile.FieldType.char), Jvm.Cond.code ({ cls := "java/lang/String", name := "isLatin1", desc := "()Z" } : Jvm.MethodName) jdk_42_method_154_code (1 : Nat) (Option.some Jvm.ClassFile.FieldType.boolean), Jvm.Cond.code ({ cls := "java/lang/StringLatin1", name := "charAt", desc := "([BI)C" } : Jvm.MethodName) jdk_43_method_2_code (2 : Nat) (Option.some Jvm.ClassFile.FieldType.char), Jvm.Cond.code ({ cls := "java/lang/String", name := "checkIndex", desc := "(II)V" } : Jvm.MethodName) jdk_42_method_155_code (2 : Nat) (Option.none : Option Jvm.ClassFile.FieldType), Jvm.Cond.code ({ cls := "jdk/internal/util/Preconditions", name := "checkIndex", desc := "(IILjava/util/function/BiFunction;)I" } : Jvm.MethodName) jdk_41_method_11_code (3 : Nat) (Option.some Jvm.ClassFile.FieldType.int)]
set_option maxRecDepth 65536 in
theorem codes_eq : words1.filter isCode = codes1 := rfl
theorem w_codes : ∀ c ∈ words1.filter isCode, c.before args0 about1 = true := by
  rw [codes_eq]
  intro c hc
  simp only [codes1, List.mem_cons, List.not_mem_nil, or_false] at hc
  rcases hc with rfl | rfl | rfl | rfl | rfl | rfl | rfl | rfl | rfl | rfl | rfl | rfl | rfl | rfl | rfl | rfl | rfl | rfl | rfl | rfl | rfl | rfl | rfl | rfl | rfl | rfl | rfl | rfl | rfl | rfl | rfl | rfl | rfl | rfl | rfl | rfl
  · exact w_c0
  · exact w_c1
  · exact w_c2
  · exact w_c3
  · exact w_c4
  · exact w_c5
  · exact w_c6
  · exact w_c7
  · exact w_c8
  · exact w_c9
  · exact w_c10
  · exact w_c11
  · exact w_c12
  · exact w_c13
  · exact w_c14
  · exact w_c15
  · exact w_c16
  · exact w_c17
  · exact w_c18
  · exact w_c19
  · exact w_c20
  · exact w_c21
  · exact w_c22
  · exact w_c23
  · exact w_c24
  · exact w_c25
  · exact w_c26
  · exact w_c27
  · exact w_c28
  · exact w_c29
  · exact w_c30
  · exact w_c31
  · exact w_c32
  · exact w_c33
  · exact w_c34
  · exact w_c35
set_option maxRecDepth 65536 in
theorem w_t1 : (words1.take 24).all (fun c => isCode c || c.before args0 about1) = true := by decide +kernel
set_option maxRecDepth 65536 in
theorem w_t2 : ((words1.drop 24).take 24).all (fun c => isCode c || c.before args0 about1) = true := by decide +kernel
set_option maxRecDepth 65536 in
theorem w_t3 : (((words1.drop 24).drop 24).take 24).all (fun c => isCode c || c.before args0 about1) = true := by decide +kernel
set_option maxRecDepth 65536 in
theorem w_t4 : ((((words1.drop 24).drop 24).drop 24).take 24).all (fun c => isCode c || c.before args0 about1) = true := by decide +kernel
set_option maxRecDepth 65536 in
theorem w_t5 : (((((words1.drop 24).drop 24).drop 24).drop 24).take 24).all (fun c => isCode c || c.before args0 about1) = true := by decide +kernel
set_option maxRecDepth 65536 in
theorem w_t6 : ((((((words1.drop 24).drop 24).drop 24).drop 24).drop 24).take 24).all (fun c => isCode c || c.before args0 about1) = true := by decide +kernel
set_option maxRecDepth 65536 in
theorem w_t7 : (((((((words1.drop 24).drop 24).drop 24).drop 24).drop 24).drop 24).take 24).all (fun c => isCode c || c.before args0 about1) = true := by decide +kernel
set_option maxRecDepth 65536 in
theorem w_t8 : ((((((((words1.drop 24).drop 24).drop 24).drop 24).drop 24).drop 24).drop 24).take 24).all (fun c => isCode c || c.before args0 about1) = true := by decide +kernel
set_option maxRecDepth 65536 in
theorem w_t9 : ((((((((words1.drop 24).drop 24).drop 24).drop 24).drop 24).drop 24).drop 24).drop 24).all (fun c => isCode c || c.before args0 about1) = true := by decide +kernel
theorem w_tables : (allAtoms (Jvm.Cond.code x code maxLocals ret :: tables_1)).before args0 about1 = true := by
  rw [allAtoms_all]
  show words1.all (fun c => c.before args0 about1) = true
  refine all_split ?_ w_codes
  rw [← List.take_append_drop 24 words1, List.all_append, w_t1, ← List.take_append_drop 24 (words1.drop 24), List.all_append, w_t2, ← List.take_append_drop 24 ((words1.drop 24).drop 24), List.all_append, w_t3, ← List.take_append_drop 24 (((words1.drop 24).drop 24).drop 24), List.all_append, w_t4, ← List.take_append_drop 24 ((((words1.drop 24).drop 24).drop 24).drop 24), List.all_append, w_t5, ← List.take_append_drop 24 (((((words1.drop 24).drop 24).drop 24).drop 24).drop 24), List.all_append, w_t6, ← List.take_append_drop 24 ((((((words1.drop 24).drop 24).drop 24).drop 24).drop 24).drop 24), List.all_append, w_t7, ← List.take_append_drop 24 (((((((words1.drop 24).drop 24).drop 24).drop 24).drop 24).drop 24).drop 24), List.all_append, w_t8, w_t9]
  rfl
set_option maxRecDepth 65536 in
theorem w_rest : rest_1_c.before args0 about1 = true := by decide +kernel
set_option maxRecDepth 65536 in
theorem w_case : (Jvm.Cond.and given_1 narrow_1).before args0 about1 = true := by decide +kernel
set_option maxRecDepth 65536 in
theorem w_consts : constsHeld consts_1 about1 := Jvm.Lit.constsHeldB_iff.mp (by decide +kernel)
theorem w_applies : (headSpec (Jvm.Cond.code x code maxLocals ret :: tables_1) room_1).applies x e0.platform about1 = true :=
  (Spec.applies_iff w_frames).mpr ⟨w_running, w_runnable, w_alone, w_named, w_hears, w_ripe, w_room, w_tables⟩
theorem atStart : AtStart classFile x code maxLocals ret World_1 tables_1 room_1 Calls_1 rest_1 Pre_1 launch0 p0 e0 about1 theMethod args0 below0 :=
  ⟨lists_1, trivial, launch0.admits_env _ _ _, launch0.least_env, fairChoices_fair.cas, fairChoices_fair.clock, w_frames, w_args, w_heap, w_applies, ⟨w_consts, trivial⟩, w_rest, w_case⟩
end start1
theorem witness_1 : WitnessClaimed_1 := ⟨start1.p0, start1.e0, start1.about1, start1.theMethod, start1.args0, start1.below0, start1.atStart⟩
end Jvm.Pilot.@@N@@
