import JvmDerived
import JvmDerived.Pilot.@@N@@Statement
import JvmDerived.Pilot.@@N@@Code
set_option linter.unusedVariables false
set_option linter.unusedSimpArgs false
namespace Jvm.Pilot.@@N@@
open Jvm Jvm.ClassFile Sem Op Lib Jvm.Free Jvm.Stand Jvm.LawKit Jvm.RoadKit Bundle Jvm.Pilot.@@N@@.Jvm.D
/-- from the frame g over the state T the run comes to a return that Q allows, with at most kc new cells and ks new slots -/
def Go (p : Program) (e : Env) (below : List Frame) (s : State) (Q : Option Value → Heap → List Loc → Prop) (kc ks : Nat) (T : State) (g : JFrame) : Prop :=
  ∃ s₂ o, Steps p.tables e below (T.setTop g) s₂ ∧ s₂.status = .running ∧ Ended s₂ below o ∧ ∃ v L, o = .returned v ∧ Q v s₂.heap L ∧ FrameEnd s o s₂ L kc ks
/-- a body's contract in this family: called with these arguments over the heap h0 it returns what Q says -/
def Con (l : Launch) (Z : State) (y : MethodName) (bytes : ByteArray) (maxL : Nat) (ret : Option FieldType) (rm : Room) (ws : List Jvm.Cond) (as' : Array Value) (h0 : Heap) (Q : Option Value → Heap → List Loc → Prop) (kc ks : Nat) : Prop :=
  MetFree l y (head1 (Jvm.Cond.code y bytes maxL ret :: ws) rm) (fun a U => a = as' ∧ Z.Warmed39 U.vm ∧ U.heap = h0) (fun _ _ _ _ _ => True) (fun _ U o U' => ∃ v L, o = .returned v ∧ Q v U'.heap L ∧ FrameEnd U o U' L kc ks)
/-- it returns r and leaves the heap as it was -/
def Qret (r : Option Value) (h0 : Heap) (n0 : Nat) (v : Option Value) (h : Heap) (L : List Loc) : Prop := v = r ∧ Fr n0 L ∧ h = h0
/-- the law's own end: true; nothing old written -/
def Q0 (n0 : Nat) (v : Option Value) (h : Heap) (L : List Loc) : Prop := v = some (.int 1) ∧ Fr n0 L
theorem own_cI (x : Int32) : (Value.int x).category = 1 := rfl
theorem own_cJ (x : Int64) : (Value.long x).category = 2 := rfl
theorem own_cR (x : Addr) : (Value.ref x).category = 1 := rfl
theorem own_cN : (Value.null).category = 1 := rfl
section Own
variable {p : Program} {l : Launch} {e : Env} {R : Room} {s Z : State} {m : MethodId} {args : Array Value} {below : List Frame} {meth : Method} {c : Code} {T T' : State} {locs : List Loc} {cells slots kc ks : Nat} {Q : Option Value → Heap → List Loc → Prop} {g g' : JFrame} {h h' : Heap} {a : Addr} {C n d : String} {v : Value} {ws : List Addr}
theorem Con.of {y : MethodName} {bytes : ByteArray} {maxL : Nat} {ret : Option FieldType} {rm : Room} {cs : List Jvm.Cond} {as' : Array Value} {h0 : Heap} (hp : plainFor y = true)
    (body : ∀ p e s m below meth c s₁, Stand p l e rm s m as' below meth c s₁ [] 0 0 → p.tables.exec = Jvm.exec → Z.Warmed39 s.vm → c.code = bytes → c.maxLocals = maxL → s.vm.findClass y.cls = some m.cls → meth.name = y.name → meth.sig.returnType = ret → meth.locks = false → s₁.heap = h0 → s.heap = h0 → Go p e below s Q kc ks s₁ (entryFrame m as' maxL)) :
    Con l Z y bytes maxL ret rm cs as' h0 Q kc ks := by
  refine MetFree.of_bodySF hp hisR ?_
  intro p e s m args below meth c s₁ Bd hml0 hP hK
  obtain ⟨rfl, hZ, hh⟩ := hP
  exact body p e s m below meth c s₁ (Stand.of_body Bd) Bd.exec hZ Bd.bytes hml0 (findClass_of_methodNamed Bd.named) (name_of_methodNamed Bd.named Bd.method).1 Bd.returns Bd.notSynchronized (by rw [← hh, Bd.state]; rfl) hh
theorem Go.step (st : ∀ target, Steps p.tables e below (T'.setTop g') target → Steps p.tables e below (T.setTop g) target) (k : Go p e below s Q kc ks T' g') : Go p e below s Q kc ks T g := by
  obtain ⟨s₂, o, h1, h2⟩ := k
  exact ⟨s₂, o, st _ h1, h2⟩
theorem Go.cast (q : g = g') (k : Go p e below s Q kc ks T g') : Go p e below s Q kc ks T g := q ▸ k
theorem Go.ret (X : Stand p l e R s m args below meth c T locs cells slots) {v : Option Value} (hv : meth.sig.returnType = none → v = none) (hlk : meth.locks = false) (hq : Q v T.heap locs) (hc : cells ≤ kc) (hs : slots ≤ ks)
    (st : ∀ fs, (∀ (f : JFrame) (acts : List Action), f.method = m → f.locked = none → f.entered = [] → (doReturn e (T.setTop f) acts v).1 = T.setFrames fs) → Steps p.tables e below (T.setTop g) (T.setFrames fs)) : Go p e below s Q kc ks T g := by
  obtain ⟨fs, hr, hrun, hended, hW, hsame⟩ := X.leave (v := v) hv hlk
  exact ⟨_, _, st fs hr, hrun, hended, v, locs, rfl, hq, ⟨_, rfl⟩, hW, hsame.mono hc hs⟩
theorem Go.retN (X : Stand p l e R s m args below meth c T locs cells slots) (hx : p.tables.exec = Jvm.exec) {pc : Nat} {Ls : Array Slot} {z : Int32} {t : FieldType} {rest : List Value} (hret : meth.sig.returnType = some t) (hlk : meth.locks = false) (ht : t = .boolean ∨ t = .byte ∨ t = .char ∨ t = .short)
    (hd : decode c.code pc = .ok (.ireturn, 1)) (hq : Q (some (.int (nar t z))) T.heap locs) (hc : cells ≤ kc) (hs : slots ≤ ks) : Go p e below s Q kc ks T (mkF m pc Ls (.int z :: rest)) :=
  Go.ret X (fun q => by rw [hret] at q; cases q) hlk hq hc hs fun fs hr => Jvm.RoadKit.retN X hx hret ht hd hr
theorem Go.retI (X : Stand p l e R s m args below meth c T locs cells slots) (hx : p.tables.exec = Jvm.exec) {pc : Nat} {Ls : Array Slot} {z : Int32} {rest : List Value} (hret : meth.sig.returnType = some .int) (hlk : meth.locks = false)
    (hd : decode c.code pc = .ok (.ireturn, 1)) (hq : Q (some (.int z)) T.heap locs) (hc : cells ≤ kc) (hs : slots ≤ ks) : Go p e below s Q kc ks T (mkF m pc Ls (.int z :: rest)) :=
  Go.ret X (fun q => by rw [hret] at q; cases q) hlk hq hc hs fun fs hr => retOut X hx hret rfl (Or.inl ⟨rfl, Or.inl rfl, z, rfl⟩) hd hr
theorem Go.retJ (X : Stand p l e R s m args below meth c T locs cells slots) (hx : p.tables.exec = Jvm.exec) {pc : Nat} {Ls : Array Slot} {z : Int64} {rest : List Value} (hret : meth.sig.returnType = some .long) (hlk : meth.locks = false)
    (hd : decode c.code pc = .ok (.lreturn, 1)) (hq : Q (some (.long z)) T.heap locs) (hc : cells ≤ kc) (hs : slots ≤ ks) : Go p e below s Q kc ks T (mkF m pc Ls (.long z :: rest)) :=
  Go.ret X (fun q => by rw [hret] at q; cases q) hlk hq hc hs fun fs hr => retOut X hx hret rfl (Or.inr (Or.inl ⟨rfl, rfl, z, rfl⟩)) hd hr
theorem Go.retA (X : Stand p l e R s m args below meth c T locs cells slots) (hx : p.tables.exec = Jvm.exec) {pc : Nat} {Ls : Array Slot} {w : Value} {t : FieldType} {rest : List Value} (hret : meth.sig.returnType = some t) (ht : t.isReference = true) (hlk : meth.locks = false) (hw : w.isRef = true)
    (hd : decode c.code pc = .ok (.areturn, 1)) (hq : Q (some w) T.heap locs) (hc : cells ≤ kc) (hs : slots ≤ ks) : Go p e below s Q kc ks T (mkF m pc Ls (w :: rest)) :=
  Go.ret X (fun q => by rw [hret] at q; cases q) hlk hq hc hs fun fs hr => retOut X hx hret (by cases t <;> first | (cases ht; done) | (cases w <;> first | rfl | (cases hw; done))) (Or.inr (Or.inr (Or.inr (Or.inr ⟨rfl, ht, hw⟩)))) hd hr
theorem Go.retV (X : Stand p l e R s m args below meth c T locs cells slots) (hx : p.tables.exec = Jvm.exec) {pc : Nat} {Ls : Array Slot} (hret : meth.sig.returnType = none) (hlk : meth.locks = false)
    (hd : decode c.code pc = .ok (.return_, 1)) (hq : Q none T.heap locs) (hc : cells ≤ kc) (hs : slots ≤ ks) : Go p e below s Q kc ks T (mkF m pc Ls []) :=
  Go.ret X (fun _ => rfl) hlk hq hc hs fun fs hr => X.returnOut hx hret hd hr
theorem own_sta_keep (F : Sta Z h C n d v) (K : Keep h h' ws) (q : ∀ x ∈ ws, ∀ c : Cell, h[x]? = some c → c.vm.isStatics = false) : Sta Z h' C n d v := by
  obtain ⟨cf, i, k, f, st, cell, h1, h2, h3, h4, h5, h6, h7⟩ := F
  refine ⟨cf, i, k, f, st, cell, h1, h2, h3, h4, K.2.1 _ _ h5 (fun hm => ?_), h6, h7⟩
  have := q _ hm _ h5
  rw [h6] at this; cases this
theorem own_plain (E : Exa Z h a C) : ∀ c : Cell, h[a]? = some c → c.vm.isStatics = false := fun c hc => by
  obtain ⟨cell, k, h1, -, -, h4, -⟩ := E
  cases h1.symm.trans hc; exact h4
theorem own_eqI {args : Array Value} {s : State} {t : Term} {k : Int32} (q : (Jvm.Cond.eq t (Jvm.Term.int k)).value args s none s [] = some true) : t.eval args s none [] s = some (.int k) := by
  obtain ⟨x, y, hx, hy, kin, kin'⟩ := cmp_v (Or.inl q)
  have hy' : y = .int k := (Option.some.inj hy).symm
  subst hy'
  obtain ⟨z, rfl⟩ := kin'
  have e : (Jvm.Cond.eq t (Jvm.Term.int k)).value args s none s [] = some (decide (z = k)) := by simp [Cond.value, hx, hy]
  rw [hx, gotT e q]
theorem Con.ret {y : MethodName} {bytes : ByteArray} {maxL n0 : Nat} {ret : Option FieldType} {rm : Room} {cs : List Jvm.Cond} {as' : Array Value} {h0 h1 : Heap} {r r' : Int32} (q : r = r') (k : Con l Z y bytes maxL ret rm cs as' h0 (Qret (some (.int r)) h1 n0) kc ks) : Con l Z y bytes maxL ret rm cs as' h0 (Qret (some (.int r')) h1 n0) kc ks := q ▸ k
theorem own_arr_keep {cl : Cell} {ty : FieldType} (F : Arr Z h a cl ty) (K : Keep h h' ws) (q : a ∉ ws) : Arr Z h' a cl ty := ⟨K.2.1 a cl F.1 q, F.2⟩
/-- an object whose chain of classes lacks the class K is no K -/
theorem own_noins {a0 : Array Value} {K : String} {t : List String} {k : Nat} (E : Exa Z h a C) (hw : ∀ w ∈ Cond.chainWords (C :: t), w.before a0 Z = true) (wi : (Jvm.Cond.instantiable K k).before a0 Z = true) (hn : K ∉ C :: t) : Ins Z h a K false := by
  obtain ⟨cell, kc, h1, h2, -, h4, -⟩ := E
  obtain ⟨cy, ky, y1, y2, y3, y4, -⟩ := Cond.instantiable_spec wi
  have y5 : ky.isInterface = false := by simp only [Bool.or_eq_false_iff] at y4; exact y4.1
  exact ⟨cell, cy, h1, y1, by rw [Vm.notAssignable_of_chain h2 y1 y2 y3 y5 hw hn]; simp⟩
theorem own_len {args : Array Value} {t : Term} {cl : Cell} {ty : FieldType} {z : Int32} (ev : t.eval args Z none [] Z = some (.ref a)) (A : Arr Z Z.heap a cl ty) (el : (Jvm.Term.length t).eval args Z none [] Z = some (.int z)) : cl.slots.size < 2 ^ 31 ∧ cl.slots.size.toInt32 = z := by
  have ha := A.fin (Vm.Alike.refl _)
  by_cases q : cl.slots.size < 2 ^ 31
  · rw [len_f ev ha q] at el
    exact ⟨q, Value.int.inj (Option.some.inj el)⟩
  · simp [Term.eval, ev, ha, q] at el
theorem own_sub_at {args : Array Value} {t : Term} {idx : List Nat} {y k : Int32} (q : t.eval args Z none idx Z = some (.int y)) : (Jvm.Term.sub t (Jvm.Term.int k)).eval args Z none idx Z = some (.int (y - k)) := by simp [Term.eval, q]
theorem own_ifc {P P' : Prop} [Decidable P] [Decidable P'] (q : P ↔ P') : (if P then (1 : Int32) else 0) = if P' then 1 else 0 := by
  by_cases r : P
  · rw [if_pos r, if_pos (q.mp r)]
  · rw [if_neg r, if_neg (fun t => r (q.mpr t))]
theorem own_nf {a0 : Array Value} {y y' : MethodName} (w : (Cond.selects C y' y').before a0 Z = true) (q : y'.cls = y.cls) (hi : (Cond.instanceMethod y').before a0 Z = true) : NotFace Z y := fun r0 h0 => by
  obtain ⟨mk, meth', hn, -⟩ := Cond.instanceMethod_spec hi
  obtain ⟨k, hk, hki⟩ := notFace_of_selects w mk hn
  have t : mk.cls = r0.cls := Option.some.inj ((findClass_of_methodNamed hn).symm.trans (q ▸ findClass_of_methodNamed h0))
  rw [t] at hk; exact ⟨k, hk, hki⟩
theorem own_samem {a0 : Array Value} {y : MethodName} (d : (Cond.declares y).before a0 Z = true) (nf : NotFace Z y) (hy : y.cls ≠ "java/lang/invoke/MethodHandle" ∧ y.cls ≠ "java/lang/invoke/VarHandle") : (Cond.sameMethod y.cls y.cls y.name y.desc).before a0 Z = true := by
  obtain ⟨mm, meth', hn, -⟩ := Cond.declares_spec d
  obtain ⟨k, hk, hki⟩ := nf mm hn
  have hf := State.methodFound?_of_named hn hy
  have hc := findClass_of_methodNamed hn
  have hn' : Z.methodNamed? ⟨y.cls, y.name, y.desc⟩ = some mm := hn
  simp [Cond.before, Cond.holds, Cond.value, hc, hf, hn', hk, hki]
theorem own_selP {a0 : Array Value} {y : MethodName} (w : (Cond.selects C y y).before a0 Z = true) (hp : (Cond.privateMethod y).before a0 Z = true) (hi : (Cond.instanceMethod y).before a0 Z = true) (hy : y.cls ≠ "java/lang/invoke/MethodHandle" ∧ y.cls ≠ "java/lang/invoke/VarHandle") : (Cond.selects y.cls y y).before a0 Z = true := by
  obtain ⟨mk, meth', hn, -⟩ := Cond.instanceMethod_spec hi
  obtain ⟨k, hk, hki⟩ := notFace_of_selects w mk hn
  exact selects_self_of_private (findClass_of_methodNamed hn) hk hki (Cond.privateMethod_at hp) hi hy
theorem own_nfs {y : MethodName} (hZ : Z.Warmed39 s.vm) (nf : NotFace Z y) : NotFace s y := NotFace.move hZ.alike nf
theorem own_padr (n : Nat) {d : Value} : ∀ i, (List.replicate n d).getD i d = ([] : List Value).getD i d := fun i => by
  simp only [List.getD_eq_getElem?_getD, List.getElem?_replicate]
  split <;> rfl
end Own
/-- as Go, in a walk that may load String constants: the tables may have grown; whatever is booked for an entry of EL says its text -/
def GoW (p : Program) (e : Env) (below : List Frame) (s : State) (Z : State) (EL : List (String × Nat)) (Q : Option Value → Heap → List Loc → Prop) (kc ks : Nat) (T : State) (g : JFrame) : Prop :=
  ∃ s₂ o, Steps p.tables e below (T.setTop g) s₂ ∧ s₂.status = .running ∧ Ended s₂ below o ∧ ∃ v L, o = .returned v ∧ Q v s₂.heap L ∧ CHr Z EL s.vm s.heap s₂.vm s₂.heap ∧ ReturnedEndW s o s₂ L kc ks
def ConW (l : Launch) (Z : State) (EL : List (String × Nat)) (y : MethodName) (bytes : ByteArray) (maxL : Nat) (ret : Option FieldType) (rm : Room) (ws : List Jvm.Cond) (as' : Array Value) (h0 : Heap) (Q : Option Value → Heap → List Loc → Prop) (kc ks : Nat) : Prop :=
  MetFree l y (head1 (Jvm.Cond.code y bytes maxL ret :: ws) rm) (fun a U => a = as' ∧ Z.Warmed39 U.vm ∧ U.heap = h0 ∧ CHv Z EL U.vm h0) (fun _ _ _ _ _ => True) (fun _ U o U' => ∃ v L, o = .returned v ∧ Q v U'.heap L ∧ CHr Z EL U.vm U.heap U'.vm U'.heap ∧ ReturnedEndW U o U' L kc ks)
section OwnW
variable {p : Program} {l : Launch} {e : Env} {R : Room} {s Z : State} {m : MethodId} {args a0 : Array Value} {below : List Frame} {meth : Method} {c : Code} {T T' : State} {locs : List Loc} {cells slots kc ks k0 : Nat} {Q : Option Value → Heap → List Loc → Prop} {g g' : JFrame} {h h' : Heap} {vm0 : Vm} {EL : List (String × Nat)}
theorem ConW.of {y : MethodName} {bytes : ByteArray} {maxL : Nat} {ret : Option FieldType} {rm : Room} {cs : List Jvm.Cond} {as' : Array Value} {h0 : Heap} (hp : plainFor y = true)
    (body : ∀ p e s m below meth c s₁ k0, Stand p l e rm (s.setVm s.vm) m as' below meth c s₁ [] 0 0 → p.tables.exec = Jvm.exec → Z.Warmed39 (s.setVm s.vm).vm → c.code = bytes → c.maxLocals = maxL → (s.setVm s.vm).vm.findClass y.cls = some m.cls → meth.name = y.name → meth.sig.returnType = ret → meth.locks = false → s₁.heap = h0 → s.heap = h0 → s.Since s.vm k0 → k0 ≤ h0.size → CHr Z EL s.vm s.heap s.vm h0 → GoW p e below s Z EL Q kc ks s₁ (entryFrame m as' maxL)) :
    ConW l Z EL y bytes maxL ret rm cs as' h0 Q kc ks := by
  refine MetFree.of_bodySF hp hisR ?_
  intro p e s m args below meth c s₁ Bd hml0 hP hK
  obtain ⟨rfl, hZ, hh, H⟩ := hP
  have X : Stand p l e rm s m args below meth c s₁ [] 0 0 := Stand.of_body Bd
  have ev : s₁.vm = s.vm := by rw [Bd.state]; rfl
  have hS : s.Since s.vm 0 := ev ▸ X.warmed.since 0
  exact body p e s m below meth c s₁ 0 X Bd.exec hZ Bd.bytes hml0 (findClass_of_methodNamed Bd.named) (name_of_methodNamed Bd.named Bd.method).1 Bd.returns Bd.notSynchronized (by rw [← hh, Bd.state]; rfl) hh hS (Nat.zero_le _) (by rw [hh]; exact CHr.refl H)
theorem GoW.step (st : ∀ target, Steps p.tables e below (T'.setTop g') target → Steps p.tables e below (T.setTop g) target) (k : GoW p e below s Z EL Q kc ks T' g') : GoW p e below s Z EL Q kc ks T g := by
  obtain ⟨s₂, o, h1, h2⟩ := k
  exact ⟨s₂, o, st _ h1, h2⟩
theorem GoW.cast (q : g = g') (k : GoW p e below s Z EL Q kc ks T g') : GoW p e below s Z EL Q kc ks T g := q ▸ k
theorem GoW.ret (X : Stand p l e R (s.setVm vm0) m args below meth c T locs cells slots) (hS : s.Since vm0 k0) (hk : k0 ≤ h.size) (hZ : Z.Warmed39 (s.setVm vm0).vm) (hEL : EW Z a0 EL) (CR : CHr Z EL s.vm s.heap vm0 h) (eT : T.heap = h) {v : Option Value} (hv : meth.sig.returnType = none → v = none) (hlk : meth.locks = false) (hq : Q v T.heap locs) (hc : cells ≤ kc) (hs : slots ≤ ks)
    (st : ∀ fs, (∀ (f : JFrame) (acts : List Action), f.method = m → f.locked = none → f.entered = [] → (doReturn e (T.setTop f) acts v).1 = T.setFrames fs) → Steps p.tables e below (T.setTop g) (T.setFrames fs)) : GoW p e below s Z EL Q kc ks T g := by
  obtain ⟨fs, hr, hrun, hended, hE⟩ := X.leaveW hS (by rw [eT]; exact hk) (v := v) hv hlk
  have A := CHv.at X hZ hEL CR.1
  refine ⟨_, _, st fs hr, hrun, hended, v, locs, rfl, hq, ?_, hE.1, hE.2.1, hE.2.2.1, hE.2.2.2.mono hc hs⟩
  show CHr Z EL s.vm s.heap T.vm T.heap
  rw [eT]; exact CR.trans A
theorem GoW.retN (X : Stand p l e R (s.setVm vm0) m args below meth c T locs cells slots) (hx : p.tables.exec = Jvm.exec) (hS : s.Since vm0 k0) (hk : k0 ≤ h.size) (hZ : Z.Warmed39 (s.setVm vm0).vm) (hEL : EW Z a0 EL) (CR : CHr Z EL s.vm s.heap vm0 h) (eT : T.heap = h) {pc : Nat} {Ls : Array Slot} {z : Int32} {t : FieldType} {rest : List Value} (hret : meth.sig.returnType = some t) (hlk : meth.locks = false) (ht : t = .boolean ∨ t = .byte ∨ t = .char ∨ t = .short)
    (hd : decode c.code pc = .ok (.ireturn, 1)) (hq : Q (some (.int (nar t z))) T.heap locs) (hc : cells ≤ kc) (hs : slots ≤ ks) : GoW p e below s Z EL Q kc ks T (mkF m pc Ls (.int z :: rest)) :=
  GoW.ret X hS hk hZ hEL CR eT (fun q => by rw [hret] at q; cases q) hlk hq hc hs fun fs hr => Jvm.RoadKit.retN X hx hret ht hd hr
theorem GoW.retI (X : Stand p l e R (s.setVm vm0) m args below meth c T locs cells slots) (hx : p.tables.exec = Jvm.exec) (hS : s.Since vm0 k0) (hk : k0 ≤ h.size) (hZ : Z.Warmed39 (s.setVm vm0).vm) (hEL : EW Z a0 EL) (CR : CHr Z EL s.vm s.heap vm0 h) (eT : T.heap = h) {pc : Nat} {Ls : Array Slot} {z : Int32} {rest : List Value} (hret : meth.sig.returnType = some .int) (hlk : meth.locks = false)
    (hd : decode c.code pc = .ok (.ireturn, 1)) (hq : Q (some (.int z)) T.heap locs) (hc : cells ≤ kc) (hs : slots ≤ ks) : GoW p e below s Z EL Q kc ks T (mkF m pc Ls (.int z :: rest)) :=
  GoW.ret X hS hk hZ hEL CR eT (fun q => by rw [hret] at q; cases q) hlk hq hc hs fun fs hr => retOut X hx hret rfl (Or.inl ⟨rfl, Or.inl rfl, z, rfl⟩) hd hr
theorem GoW.retA (X : Stand p l e R (s.setVm vm0) m args below meth c T locs cells slots) (hx : p.tables.exec = Jvm.exec) (hS : s.Since vm0 k0) (hk : k0 ≤ h.size) (hZ : Z.Warmed39 (s.setVm vm0).vm) (hEL : EW Z a0 EL) (CR : CHr Z EL s.vm s.heap vm0 h) (eT : T.heap = h) {pc : Nat} {Ls : Array Slot} {w : Value} {t : FieldType} {rest : List Value} (hret : meth.sig.returnType = some t) (ht : t.isReference = true) (hlk : meth.locks = false) (hw : w.isRef = true)
    (hd : decode c.code pc = .ok (.areturn, 1)) (hq : Q (some w) T.heap locs) (hc : cells ≤ kc) (hs : slots ≤ ks) : GoW p e below s Z EL Q kc ks T (mkF m pc Ls (w :: rest)) :=
  GoW.ret X hS hk hZ hEL CR eT (fun q => by rw [hret] at q; cases q) hlk hq hc hs fun fs hr => retOut X hx hret (by cases t <;> first | (cases ht; done) | (cases w <;> first | rfl | (cases hw; done))) (Or.inr (Or.inr (Or.inr (Or.inr ⟨rfl, ht, hw⟩)))) hd hr
theorem GoW.retV (X : Stand p l e R (s.setVm vm0) m args below meth c T locs cells slots) (hx : p.tables.exec = Jvm.exec) (hS : s.Since vm0 k0) (hk : k0 ≤ h.size) (hZ : Z.Warmed39 (s.setVm vm0).vm) (hEL : EW Z a0 EL) (CR : CHr Z EL s.vm s.heap vm0 h) (eT : T.heap = h) {pc : Nat} {Ls : Array Slot} (hret : meth.sig.returnType = none) (hlk : meth.locks = false)
    (hd : decode c.code pc = .ok (.return_, 1)) (hq : Q none T.heap locs) (hc : cells ≤ kc) (hs : slots ≤ ks) : GoW p e below s Z EL Q kc ks T (mkF m pc Ls []) :=
  GoW.ret X hS hk hZ hEL CR eT (fun _ => rfl) hlk hq hc hs fun fs hr => X.returnOut hx hret hd hr
end OwnW
theorem own_shr0 (n : Int32) : n >>> ((0 : Int32) &&& 31) = n := Int32.toInt_inj.mp (by rw [c_ishr n 0 0 rfl]; simp)
theorem own_idx {n : Int32} (h : (2 : Int32) < n) : (¬ (0 : Int32) < 0 ∧ (0 : Int32) < n) ∧ (¬ (1 : Int32) < 0 ∧ (1 : Int32) < n) ∧ (¬ (2 : Int32) < 0 ∧ (2 : Int32) < n) ∧ (¬ (n - (1 : Int32)) < 0 ∧ n - (1 : Int32) < n) := by
  have e0 : (0 : Int32).toInt = 0 := rfl
  have e1 : (1 : Int32).toInt = 1 := rfl
  have e2 : (2 : Int32).toInt = 2 := rfl
  have e3 := c_isub n 1
  have r1 := rng32 n
  have r2 := rng32 (n - 1)
  simp only [Int32.lt_iff_toInt_lt] at *
  omega
theorem own_ch {b : Int32} (h1 : ¬ b < (97 : Int32)) (h2 : ¬ (122 : Int32) < b) : nar .char ((b &&& (255 : Int32)).toUInt32.toUInt16.toUInt32.toInt32) = b := by
  have t : ∀ k : Fin 128, nar .char ((Int32.ofNat k.val &&& (255 : Int32)).toUInt32.toUInt16.toUInt32.toInt32) = Int32.ofNat k.val := by decide +kernel
  have e1 : (97 : Int32).toInt = 97 := rfl
  have e2 : (122 : Int32).toInt = 122 := rfl
  rw [Int32.lt_iff_toInt_lt] at h1 h2
  have e : b = Int32.ofNat b.toNatClampNeg := (Int32.ofNat_toNatClampNeg b (by rw [Int32.le_iff_toInt_le]; show (0 : Int) ≤ _; omega)).symm
  have l : b.toNatClampNeg < 128 := by simp only [Int32.toNatClampNeg]; omega
  rw [e]; exact t ⟨_, l⟩
theorem own_char {b : Int32} (h1 : ¬ b < (97 : Int32)) (h2 : ¬ (122 : Int32) < b) : nar .char b = b := by
  have t : ∀ k : Fin 128, nar .char (Int32.ofNat k.val) = Int32.ofNat k.val := by decide +kernel
  have e1 : (97 : Int32).toInt = 97 := rfl
  have e2 : (122 : Int32).toInt = 122 := rfl
  rw [Int32.lt_iff_toInt_lt] at h1 h2
  have e : b = Int32.ofNat b.toNatClampNeg := (Int32.ofNat_toNatClampNeg b (by rw [Int32.le_iff_toInt_le]; show (0 : Int) ≤ _; omega)).symm
  have l : b.toNatClampNeg < 128 := by simp only [Int32.toNatClampNeg]; omega
  rw [e]; exact t ⟨_, l⟩
theorem own_ef_jdk_37_method_2_code_R (m : MethodId) (x0 : Addr) : entryFrame m #[(.ref x0)] 1 = mkF m 0 #[.val (.ref x0)] [] := by first | (simp [entryFrame, mkF, argsToLocals, Value.category]; done) | rfl | (simp [entryFrame, mkF, argsToLocals, own_cI, own_cJ, own_cR, own_cN]; done)
theorem own_pn_Enum : plainName "java/lang/Enum" = true := by first | (simp [plainName, overriddenIn]; done) | decide +kernel
theorem d_jdk_37_method_2_0 : decode jdk_37_method_2_code 0 = .ok (.aload_n 0, 1) := by decide +kernel
theorem d_jdk_37_method_2_1 : decode jdk_37_method_2_code 1 = .ok (.getfield 7, 3) := by decide +kernel
theorem d_jdk_37_method_2_4 : decode jdk_37_method_2_code 4 = .ok (.ireturn, 1) := by decide +kernel
set_option maxRecDepth 65536 in
set_option maxHeartbeats 40000000 in
theorem own_ord (l : Launch) (Z : State) (a0 : Array Value) (hw : ∀ d ∈ tables_1, d.before a0 Z = true) (ws : List Jvm.Cond) (a1 : Addr) (q1 : Int32) (h0 : Heap) (n0 : Nat) (Z0 : n0 ≤ h0.size) (F1 : Fld Z h0 a1 "java/lang/Enum" "ordinal" "I" (.int q1)) :
    Con l Z (⟨"java/lang/Enum", "ordinal", "()I"⟩ : MethodName) jdk_37_method_2_code 1 (some .int) ({ frames := 0, cells := 0, slots := 0, locals := 0 } : Room) ws #[(.ref a1)] h0 (Qret (some (.int q1)) h0 n0) 0 0 := by
  refine Con.of (plainFor_of_name own_pn_Enum) ?_
  intro pgm e s m below meth c s₁ X0 hx hZ hby hml hown hnm hret hlk e0 hs0
  have N0 := Fr.nil n0
  have hown : s.vm.findClass "java/lang/Enum" = some m.cls := hown
  have hnm : meth.name = "ordinal" := hnm
  refine Go.cast (own_ef_jdk_37_method_2_code_R m a1) ?_
  refine Go.step (T' := s₁) (g' := (mkF m 1 #[.val (.ref a1)] [(.ref a1)])) (fun _ k => XS.aloadN X0.here hx rfl (hb hby d_jdk_37_method_2_0) rfl rfl k) ?_
  obtain ⟨T101, X101, e101, st101⟩ := getF X0 hx hZ hown (host := "") (Or.inl (hw _ (List.mem_of_getElem? (i := 24) rfl))) Via.refl e0 F1 (g := (mkF m 1 #[.val (.ref a1)] [(.ref a1)])) rfl rfl (hb hby d_jdk_37_method_2_1)
  refine Go.step (T' := T101) (g' := (mkF m 4 #[.val (.ref a1)] [(.int q1)])) st101 ?_
  exact Go.retI X101 hx hret hlk (hb hby d_jdk_37_method_2_4) (⟨rfl, N0, e101⟩) (by decide) (by decide)
theorem own_ef_jdk_42_method_152_code_R (m : MethodId) (x0 : Addr) : entryFrame m #[(.ref x0)] 1 = mkF m 0 #[.val (.ref x0)] [] := by first | (simp [entryFrame, mkF, argsToLocals, Value.category]; done) | rfl | (simp [entryFrame, mkF, argsToLocals, own_cI, own_cJ, own_cR, own_cN]; done)
theorem own_pn_String : plainName "java/lang/String" = true := by first | (simp [plainName, overriddenIn]; done) | decide +kernel
theorem d_jdk_42_method_152_0 : decode jdk_42_method_152_code 0 = .ok (.getstatic 38, 3) := by decide +kernel
theorem d_jdk_42_method_152_3 : decode jdk_42_method_152_code 3 = .ok (.ifCond .eq 10, 3) := by decide +kernel
theorem d_jdk_42_method_152_6 : decode jdk_42_method_152_code 6 = .ok (.aload_n 0, 1) := by decide +kernel
theorem d_jdk_42_method_152_7 : decode jdk_42_method_152_code 7 = .ok (.getfield 15, 3) := by decide +kernel
theorem d_jdk_42_method_152_10 : decode jdk_42_method_152_code 10 = .ok (.goto 4, 3) := by decide +kernel
theorem d_jdk_42_method_152_14 : decode jdk_42_method_152_code 14 = .ok (.ireturn, 1) := by decide +kernel
set_option maxRecDepth 65536 in
set_option maxHeartbeats 40000000 in
theorem own_cod (l : Launch) (Z : State) (a0 : Array Value) (hw : ∀ d ∈ tables_1, d.before a0 Z = true) (ws : List Jvm.Cond) (a1 : Addr) (gc : Int32) (h0 : Heap) (n0 : Nat) (Z0 : n0 ≤ h0.size) (Sc : Sta Z h0 "java/lang/String" "COMPACT_STRINGS" "Z" (.int gc)) (hgc : ¬ gc = (0 : Int32)) (C1 : Fld Z h0 a1 "java/lang/String" "coder" "B" (.int (0 : Int32))) :
    Con l Z (⟨"java/lang/String", "coder", "()B"⟩ : MethodName) jdk_42_method_152_code 1 (some .byte) ({ frames := 0, cells := 0, slots := 0, locals := 0 } : Room) ws #[(.ref a1)] h0 (Qret (some (.int (0 : Int32))) h0 n0) 0 0 := by
  refine Con.of (plainFor_of_name own_pn_String) ?_
  intro pgm e s m below meth c s₁ X0 hx hZ hby hml hown hnm hret hlk e0 hs0
  have N0 := Fr.nil n0
  have hown : s.vm.findClass "java/lang/String" = some m.cls := hown
  have hnm : meth.name = "coder" := hnm
  refine Go.cast (own_ef_jdk_42_method_152_code_R m a1) ?_
  obtain ⟨T101, X101, e101, st101⟩ := getS2 X0 hx hZ hown (host := "") (Or.inl (hw _ (List.mem_of_getElem? (i := 49) rfl))) Via.refl e0 Sc (g := (mkF m 0 #[.val (.ref a1)] [])) rfl (hb hby d_jdk_42_method_152_0)
  refine Go.step (T' := T101) (g' := (mkF m 3 #[.val (.ref a1)] [(.int gc)])) st101 ?_
  refine Go.step (T' := T101) (g' := (mkF m 6 #[.val (.ref a1)] [])) (fun _ k => XS.ifNo X101.here hx rfl (hb hby d_jdk_42_method_152_3) rfl ((if0 _ _).trans (feq hgc).1) k) ?_
  refine Go.step (T' := T101) (g' := (mkF m 7 #[.val (.ref a1)] [(.ref a1)])) (fun _ k => XS.aloadN X101.here hx rfl (hb hby d_jdk_42_method_152_6) rfl rfl k) ?_
  obtain ⟨T102, X102, e102, st102⟩ := getF X101 hx hZ hown (host := "") (Or.inl (hw _ (List.mem_of_getElem? (i := 50) rfl))) Via.refl e101 C1 (g := (mkF m 7 #[.val (.ref a1)] [(.ref a1)])) rfl rfl (hb hby d_jdk_42_method_152_7)
  refine Go.step (T' := T102) (g' := (mkF m 10 #[.val (.ref a1)] [(.int (0 : Int32))])) st102 ?_
  refine Go.step (T' := T102) (g' := (mkF m 14 #[.val (.ref a1)] [(.int (0 : Int32))])) (fun _ k => XS.goto X102.here hx rfl (pc0 := 10) (pc' := 14) rfl (hb hby d_jdk_42_method_152_10) (by decide) (by decide) k) ?_
  exact Go.retN X102 hx (t := .byte) hret hlk (by simp) (hb hby d_jdk_42_method_152_14) (⟨rfl, N0, e102⟩) (by decide) (by decide)
theorem own_ef_jdk_42_method_154_code_R (m : MethodId) (x0 : Addr) : entryFrame m #[(.ref x0)] 1 = mkF m 0 #[.val (.ref x0)] [] := by first | (simp [entryFrame, mkF, argsToLocals, Value.category]; done) | rfl | (simp [entryFrame, mkF, argsToLocals, own_cI, own_cJ, own_cR, own_cN]; done)
theorem d_jdk_42_method_154_0 : decode jdk_42_method_154_code 0 = .ok (.getstatic 38, 3) := by decide +kernel
theorem d_jdk_42_method_154_3 : decode jdk_42_method_154_code 3 = .ok (.ifCond .eq 14, 3) := by decide +kernel
theorem d_jdk_42_method_154_6 : decode jdk_42_method_154_code 6 = .ok (.aload_n 0, 1) := by decide +kernel
theorem d_jdk_42_method_154_7 : decode jdk_42_method_154_code 7 = .ok (.getfield 15, 3) := by decide +kernel
theorem d_jdk_42_method_154_10 : decode jdk_42_method_154_code 10 = .ok (.ifCond .ne 7, 3) := by decide +kernel
theorem d_jdk_42_method_154_13 : decode jdk_42_method_154_code 13 = .ok (.iconst 1, 1) := by decide +kernel
theorem d_jdk_42_method_154_14 : decode jdk_42_method_154_code 14 = .ok (.goto 4, 3) := by decide +kernel
theorem d_jdk_42_method_154_18 : decode jdk_42_method_154_code 18 = .ok (.ireturn, 1) := by decide +kernel
set_option maxRecDepth 65536 in
set_option maxHeartbeats 40000000 in
theorem own_lat (l : Launch) (Z : State) (a0 : Array Value) (hw : ∀ d ∈ tables_1, d.before a0 Z = true) (ws : List Jvm.Cond) (a1 : Addr) (gc : Int32) (h0 : Heap) (n0 : Nat) (Z0 : n0 ≤ h0.size) (Sc : Sta Z h0 "java/lang/String" "COMPACT_STRINGS" "Z" (.int gc)) (hgc : ¬ gc = (0 : Int32)) (C1 : Fld Z h0 a1 "java/lang/String" "coder" "B" (.int (0 : Int32))) :
    Con l Z (⟨"java/lang/String", "isLatin1", "()Z"⟩ : MethodName) jdk_42_method_154_code 1 (some .boolean) ({ frames := 0, cells := 0, slots := 0, locals := 0 } : Room) ws #[(.ref a1)] h0 (Qret (some (.int (1 : Int32))) h0 n0) 0 0 := by
  refine Con.of (plainFor_of_name own_pn_String) ?_
  intro pgm e s m below meth c s₁ X0 hx hZ hby hml hown hnm hret hlk e0 hs0
  have N0 := Fr.nil n0
  have hown : s.vm.findClass "java/lang/String" = some m.cls := hown
  have hnm : meth.name = "isLatin1" := hnm
  refine Go.cast (own_ef_jdk_42_method_154_code_R m a1) ?_
  obtain ⟨T101, X101, e101, st101⟩ := getS2 X0 hx hZ hown (host := "") (Or.inl (hw _ (List.mem_of_getElem? (i := 49) rfl))) Via.refl e0 Sc (g := (mkF m 0 #[.val (.ref a1)] [])) rfl (hb hby d_jdk_42_method_154_0)
  refine Go.step (T' := T101) (g' := (mkF m 3 #[.val (.ref a1)] [(.int gc)])) st101 ?_
  refine Go.step (T' := T101) (g' := (mkF m 6 #[.val (.ref a1)] [])) (fun _ k => XS.ifNo X101.here hx rfl (hb hby d_jdk_42_method_154_3) rfl ((if0 _ _).trans (feq hgc).1) k) ?_
  refine Go.step (T' := T101) (g' := (mkF m 7 #[.val (.ref a1)] [(.ref a1)])) (fun _ k => XS.aloadN X101.here hx rfl (hb hby d_jdk_42_method_154_6) rfl rfl k) ?_
  obtain ⟨T102, X102, e102, st102⟩ := getF X101 hx hZ hown (host := "") (Or.inl (hw _ (List.mem_of_getElem? (i := 50) rfl))) Via.refl e101 C1 (g := (mkF m 7 #[.val (.ref a1)] [(.ref a1)])) rfl rfl (hb hby d_jdk_42_method_154_7)
  refine Go.step (T' := T102) (g' := (mkF m 10 #[.val (.ref a1)] [(.int (0 : Int32))])) st102 ?_
  refine Go.step (T' := T102) (g' := (mkF m 13 #[.val (.ref a1)] [])) (fun _ k => XS.ifNo X102.here hx rfl (hb hby d_jdk_42_method_154_10) rfl ((if0 _ _).trans (teq (by decide : (0 : Int32) = (0 : Int32))).2) k) ?_
  refine Go.step (T' := T102) (g' := (mkF m 14 #[.val (.ref a1)] [(.int (1 : Int32))])) (fun _ k => XS.iconst X102.here hx rfl (hb hby d_jdk_42_method_154_13) k) ?_
  refine Go.step (T' := T102) (g' := (mkF m 18 #[.val (.ref a1)] [(.int (1 : Int32))])) (fun _ k => XS.goto X102.here hx rfl (pc0 := 14) (pc' := 18) rfl (hb hby d_jdk_42_method_154_14) (by decide) (by decide) k) ?_
  exact Go.retN X102 hx (t := .boolean) hret hlk (by simp) (hb hby d_jdk_42_method_154_18) (⟨rfl, N0, e102⟩) (by decide) (by decide)
theorem own_ef_jdk_42_method_54_code_R (m : MethodId) (x0 : Addr) : entryFrame m #[(.ref x0)] 1 = mkF m 0 #[.val (.ref x0)] [] := by first | (simp [entryFrame, mkF, argsToLocals, Value.category]; done) | rfl | (simp [entryFrame, mkF, argsToLocals, own_cI, own_cJ, own_cR, own_cN]; done)
theorem d_jdk_42_method_54_0 : decode jdk_42_method_54_code 0 = .ok (.aload_n 0, 1) := by decide +kernel
theorem d_jdk_42_method_54_1 : decode jdk_42_method_54_code 1 = .ok (.getfield 9, 3) := by decide +kernel
theorem d_jdk_42_method_54_4 : decode jdk_42_method_54_code 4 = .ok (.arraylength, 1) := by decide +kernel
theorem d_jdk_42_method_54_5 : decode jdk_42_method_54_code 5 = .ok (.aload_n 0, 1) := by decide +kernel
theorem d_jdk_42_method_54_6 : decode jdk_42_method_54_code 6 = .ok (.invokevirtual 335, 3) := by decide +kernel
theorem own_pd0 : parseMethodDescriptor "()B" = some ⟨[], some .byte⟩ := by decide +kernel
theorem d_jdk_42_method_54_9 : decode jdk_42_method_54_code 9 = .ok (.ishr, 1) := by decide +kernel
theorem d_jdk_42_method_54_10 : decode jdk_42_method_54_code 10 = .ok (.ireturn, 1) := by decide +kernel
set_option maxRecDepth 65536 in
set_option maxHeartbeats 40000000 in
theorem own_len_ (l : Launch) (Z : State) (a0 : Array Value) (hw : ∀ d ∈ tables_1, d.before a0 Z = true) (ws : List Jvm.Cond) (a1 : Addr) (gc : Int32) (b1 : Addr) (k1 : ClassId) (n : Int32) (vs : List Value) (h0 : Heap) (n0 : Nat) (Z0 : n0 ≤ h0.size) (Sc : Sta Z h0 "java/lang/String" "COMPACT_STRINGS" "Z" (.int gc)) (hgc : ¬ gc = (0 : Int32)) (E1 : Exa Z h0 a1 "java/lang/String") (C1 : Fld Z h0 a1 "java/lang/String" "coder" "B" (.int (0 : Int32))) (B1 : Fld Z h0 a1 "java/lang/String" "value" "[B" (.ref b1)) (V1 : Arv Z h0 b1 k1 .byte n vs (.int (0 : Int32))) :
    Con l Z (⟨"java/lang/String", "length", "()I"⟩ : MethodName) jdk_42_method_54_code 1 (some .int) ({ frames := 1, cells := 0, slots := 0, locals := 13 } : Room) ws #[(.ref a1)] h0 (Qret (some (.int n)) h0 n0) 0 0 := by
  refine Con.of (plainFor_of_name own_pn_String) ?_
  intro pgm e s m below meth c s₁ X0 hx hZ hby hml hown hnm hret hlk e0 hs0
  have N0 := Fr.nil n0
  have hown : s.vm.findClass "java/lang/String" = some m.cls := hown
  have hnm : meth.name = "length" := hnm
  refine Go.cast (own_ef_jdk_42_method_54_code_R m a1) ?_
  refine Go.step (T' := s₁) (g' := (mkF m 1 #[.val (.ref a1)] [(.ref a1)])) (fun _ k => XS.aloadN X0.here hx rfl (hb hby d_jdk_42_method_54_0) rfl rfl k) ?_
  obtain ⟨T101, X101, e101, st101⟩ := getF X0 hx hZ hown (host := "") (Or.inl (hw _ (List.mem_of_getElem? (i := 43) rfl))) Via.refl e0 B1 (g := (mkF m 1 #[.val (.ref a1)] [(.ref a1)])) rfl rfl (hb hby d_jdk_42_method_54_1)
  refine Go.step (T' := T101) (g' := (mkF m 4 #[.val (.ref a1)] [(.ref b1)])) st101 ?_
  obtain ⟨cl102, Ar102, -, S102, M102, -, -⟩ := id V1
  refine Go.step (T' := T101) (g' := (mkF m 5 #[.val (.ref a1)] [(.int n)])) (fun _ k => X101.arraylength hx (cell := cl102) (by rw [e101]; exact Ar102.1) (State.isArrayOf_alike hZ.alike Ar102.2.1) (g := (mkF m 4 #[.val (.ref a1)] [(.ref b1)])) rfl (rest := []) rfl (hb hby d_jdk_42_method_54_4) _ (by rw [len_of S102 M102]; exact k)) ?_
  refine Go.step (T' := T101) (g' := (mkF m 6 #[.val (.ref a1)] [(.ref a1), (.int n)])) (fun _ k => XS.aloadN X101.here hx rfl (hb hby d_jdk_42_method_54_5) rfl rfl k) ?_
  obtain ⟨cq103, kq103, q103a, q103b, q103c⟩ := isOf hZ e101 E1
  obtain ⟨_, _, ⟨T103, L103, k103, n103⟩, -, X103, ⟨Lc103, hQ103, l103, y103, z103⟩, st103⟩ := X101.virtualBack hx (y := (⟨"java/lang/String", "coder", "()B"⟩ : MethodName)) (z := (⟨"java/lang/String", "coder", "()B"⟩ : MethodName)) hown (mvT hZ (hw _ (List.mem_of_getElem? (i := 44) rfl))) (mvT hZ (hw _ (List.mem_of_getElem? (i := 45) rfl))) (notFace_of_selects (args := #[]) (mvT hZ (hw _ (List.mem_of_getElem? (i := 47) rfl)))) (mvT hZ (hw _ (List.mem_of_getElem? (i := 47) rfl))) (mvT hZ (hw _ (List.mem_of_getElem? (i := 46) rfl))) (by decide) (backOf (W := 1) (Q := Qret (some (.int (0 : Int32))) h0 n0) (own_cod l Z a0 hw [] a1 gc h0 n0 Z0 Sc hgc C1) hZ (hw _ (List.mem_of_getElem? (i := 48) rfl)) (hw _ (List.mem_of_getElem? (i := 27) rfl)) (by decide) (by decide)) q103a q103c (g := (mkF m 6 #[.val (.ref a1)] [(.ref a1), (.int n)])) rfl (by rw [hml]; rfl) (Steps.refl _) (argsL := []) (rest := [(.int n)]) (lenOf own_pd0 rfl) rfl (by show 2 * 0 + _ ≤ _; exact Nat.le_of_eq rfl) (hb hby d_jdk_42_method_54_6) (fun _ _ => ⟨rfl, e101, (by decide : 0 + 0 ≤ _), (by decide : 0 + 0 ≤ _)⟩)
  dsimp only [Pt.U, Pt.locs, Pt.cells, Pt.slots] at X103 l103 y103 z103 st103 hQ103
  subst l103 y103 z103
  obtain ⟨rfl, N103q, eh103⟩ := hQ103
  have N103 := Fr.app N0 N103q
  refine Go.step (T' := T103) (g' := (mkF m 9 #[.val (.ref a1)] [(.int (0 : Int32)), (.int n)])) (fun _ k => st103.trans k) ?_
  refine Go.step (T' := T103) (g' := (mkF m 10 #[.val (.ref a1)] [(.int (n >>> ((0 : Int32) &&& 31)))])) (fun _ k => XS.ishr X103.here hx rfl (hb hby d_jdk_42_method_54_9) rfl k) ?_
  exact Go.retI X103 hx hret hlk (hb hby d_jdk_42_method_54_10) (⟨by rw [own_shr0], N103, eh103⟩) (by decide) (by decide)
theorem own_ef_jdk_41_method_11_code_IIV (m : MethodId) (x0 : Int32) (x1 : Int32) (x2 : Value) (c2 : x2.category = 1) : entryFrame m #[(.int x0), (.int x1), x2] 3 = mkF m 0 #[.val (.int x0), .val (.int x1), .val x2] [] := by first | (simp [entryFrame, mkF, argsToLocals, Value.category, c2]; done) | rfl | (simp [entryFrame, mkF, argsToLocals, own_cI, own_cJ, own_cR, own_cN, c2]; done)
theorem own_pn_Preconditions : plainName "jdk/internal/util/Preconditions" = true := by first | (simp [plainName, overriddenIn]; done) | decide +kernel
theorem d_jdk_41_method_11_0 : decode jdk_41_method_11_code 0 = .ok (.iload_n 0, 1) := by decide +kernel
theorem d_jdk_41_method_11_1 : decode jdk_41_method_11_code 1 = .ok (.ifCond .lt 8, 3) := by decide +kernel
theorem d_jdk_41_method_11_4 : decode jdk_41_method_11_code 4 = .ok (.iload_n 0, 1) := by decide +kernel
theorem d_jdk_41_method_11_5 : decode jdk_41_method_11_code 5 = .ok (.iload_n 1, 1) := by decide +kernel
theorem d_jdk_41_method_11_6 : decode jdk_41_method_11_code 6 = .ok (.if_icmp .lt 10, 3) := by decide +kernel
theorem d_jdk_41_method_11_16 : decode jdk_41_method_11_code 16 = .ok (.iload_n 0, 1) := by decide +kernel
theorem d_jdk_41_method_11_17 : decode jdk_41_method_11_code 17 = .ok (.ireturn, 1) := by decide +kernel
set_option maxRecDepth 65536 in
set_option maxHeartbeats 40000000 in
theorem own_pci (l : Launch) (Z : State) (a0 : Array Value) (hw : ∀ d ∈ tables_1, d.before a0 Z = true) (ws : List Jvm.Cond) (p0 p1 : Int32) (gf : Value) (h0 : Heap) (n0 : Nat) (Z0 : n0 ≤ h0.size) (i1 : ¬ p0 < (0 : Int32)) (i2 : p0 < p1) (cgf : gf.category = 1) :
    Con l Z (⟨"jdk/internal/util/Preconditions", "checkIndex", "(IILjava/util/function/BiFunction;)I"⟩ : MethodName) jdk_41_method_11_code 3 (some .int) ({ frames := 0, cells := 0, slots := 0, locals := 0 } : Room) ws #[(.int p0), (.int p1), gf] h0 (Qret (some (.int p0)) h0 n0) 0 0 := by
  refine Con.of (plainFor_of_name own_pn_Preconditions) ?_
  intro pgm e s m below meth c s₁ X0 hx hZ hby hml hown hnm hret hlk e0 hs0
  have N0 := Fr.nil n0
  have hown : s.vm.findClass "jdk/internal/util/Preconditions" = some m.cls := hown
  have hnm : meth.name = "checkIndex" := hnm
  refine Go.cast (own_ef_jdk_41_method_11_code_IIV m p0 p1 gf cgf) ?_
  refine Go.step (T' := s₁) (g' := (mkF m 1 #[.val (.int p0), .val (.int p1), .val gf] [(.int p0)])) (fun _ k => XS.iloadN X0.here hx rfl (hb hby d_jdk_41_method_11_0) rfl  k) ?_
  refine Go.step (T' := s₁) (g' := (mkF m 4 #[.val (.int p0), .val (.int p1), .val gf] [])) (fun _ k => XS.ifNo X0.here hx rfl (hb hby d_jdk_41_method_11_1) rfl ((if0 _ _).trans (flt i1).1) k) ?_
  refine Go.step (T' := s₁) (g' := (mkF m 5 #[.val (.int p0), .val (.int p1), .val gf] [(.int p0)])) (fun _ k => XS.iloadN X0.here hx rfl (hb hby d_jdk_41_method_11_4) rfl  k) ?_
  refine Go.step (T' := s₁) (g' := (mkF m 6 #[.val (.int p0), .val (.int p1), .val gf] [(.int p1), (.int p0)])) (fun _ k => XS.iloadN X0.here hx rfl (hb hby d_jdk_41_method_11_5) rfl  k) ?_
  refine Go.step (T' := s₁) (g' := (mkF m 16 #[.val (.int p0), .val (.int p1), .val gf] [])) (fun _ k => XS.icmpYes X0.here hx rfl (pc0 := 6) (pc' := 16) rfl (hb hby d_jdk_41_method_11_6) rfl (tlt i2).1 (by decide) (by decide) k) ?_
  refine Go.step (T' := s₁) (g' := (mkF m 17 #[.val (.int p0), .val (.int p1), .val gf] [(.int p0)])) (fun _ k => XS.iloadN X0.here hx rfl (hb hby d_jdk_41_method_11_16) rfl  k) ?_
  exact Go.retI X0 hx hret hlk (hb hby d_jdk_41_method_11_17) (⟨rfl, N0, e0⟩) (by decide) (by decide)
theorem own_ef_jdk_42_method_155_code_II (m : MethodId) (x0 : Int32) (x1 : Int32) : entryFrame m #[(.int x0), (.int x1)] 2 = mkF m 0 #[.val (.int x0), .val (.int x1)] [] := by first | (simp [entryFrame, mkF, argsToLocals, Value.category]; done) | rfl | (simp [entryFrame, mkF, argsToLocals, own_cI, own_cJ, own_cR, own_cN]; done)
theorem d_jdk_42_method_155_0 : decode jdk_42_method_155_code 0 = .ok (.iload_n 0, 1) := by decide +kernel
theorem d_jdk_42_method_155_1 : decode jdk_42_method_155_code 1 = .ok (.iload_n 1, 1) := by decide +kernel
theorem d_jdk_42_method_155_2 : decode jdk_42_method_155_code 2 = .ok (.getstatic 1053, 3) := by decide +kernel
theorem d_jdk_42_method_155_5 : decode jdk_42_method_155_code 5 = .ok (.invokestatic 1059, 3) := by decide +kernel
theorem own_pd1 : parseMethodDescriptor "(IILjava/util/function/BiFunction;)I" = some ⟨[.int, .int, (.object "java/util/function/BiFunction")], some .int⟩ := by decide +kernel
theorem d_jdk_42_method_155_8 : decode jdk_42_method_155_code 8 = .ok (.pop, 1) := by decide +kernel
theorem d_jdk_42_method_155_9 : decode jdk_42_method_155_code 9 = .ok (.return_, 1) := by decide +kernel
set_option maxRecDepth 65536 in
set_option maxHeartbeats 40000000 in
theorem own_ci (l : Launch) (Z : State) (a0 : Array Value) (hw : ∀ d ∈ tables_1, d.before a0 Z = true) (ws : List Jvm.Cond) (p0 p1 : Int32) (gf : Value) (h0 : Heap) (n0 : Nat) (Z0 : n0 ≤ h0.size) (i1 : ¬ p0 < (0 : Int32)) (i2 : p0 < p1) (Sf : Sta Z h0 "jdk/internal/util/Preconditions" "SIOOBE_FORMATTER" "Ljava/util/function/BiFunction;" gf) (cgf : gf.category = 1) :
    Con l Z (⟨"java/lang/String", "checkIndex", "(II)V"⟩ : MethodName) jdk_42_method_155_code 2 none ({ frames := 1, cells := 0, slots := 0, locals := 14 } : Room) ws #[(.int p0), (.int p1)] h0 (Qret none h0 n0) 0 0 := by
  refine Con.of (plainFor_of_name own_pn_String) ?_
  intro pgm e s m below meth c s₁ X0 hx hZ hby hml hown hnm hret hlk e0 hs0
  have N0 := Fr.nil n0
  have hown : s.vm.findClass "java/lang/String" = some m.cls := hown
  have hnm : meth.name = "checkIndex" := hnm
  refine Go.cast (own_ef_jdk_42_method_155_code_II m p0 p1) ?_
  refine Go.step (T' := s₁) (g' := (mkF m 1 #[.val (.int p0), .val (.int p1)] [(.int p0)])) (fun _ k => XS.iloadN X0.here hx rfl (hb hby d_jdk_42_method_155_0) rfl  k) ?_
  refine Go.step (T' := s₁) (g' := (mkF m 2 #[.val (.int p0), .val (.int p1)] [(.int p1), (.int p0)])) (fun _ k => XS.iloadN X0.here hx rfl (hb hby d_jdk_42_method_155_1) rfl  k) ?_
  obtain ⟨T101, X101, e101, st101⟩ := getS2 X0 hx hZ hown (host := "") (Or.inl (hw _ (List.mem_of_getElem? (i := 68) rfl))) Via.refl e0 Sf (g := (mkF m 2 #[.val (.int p0), .val (.int p1)] [(.int p1), (.int p0)])) rfl (hb hby d_jdk_42_method_155_2)
  refine Go.step (T' := T101) (g' := (mkF m 5 #[.val (.int p0), .val (.int p1)] [gf, (.int p1), (.int p0)])) st101 ?_
  obtain ⟨_, _, ⟨T102, L102, k102, n102⟩, -, X102, ⟨Lc102, hQ102, l102, y102, z102⟩, st102⟩ := Jvm.LawKit.callS X101 hx (y := (⟨"jdk/internal/util/Preconditions", "checkIndex", "(IILjava/util/function/BiFunction;)I"⟩ : MethodName)) hown (mvT hZ (hw _ (List.mem_of_getElem? (i := 70) rfl))) (mvT hZ (hw _ (List.mem_of_getElem? (i := 71) rfl))) (mvT hZ (hw _ (List.mem_of_getElem? (i := 69) rfl))) (mvT hZ (hw _ (List.mem_of_getElem? (i := 72) rfl))) (by decide) (backOf (W := 0) (Q := Qret (some (.int p0)) h0 n0) (own_pci l Z a0 hw [] p0 p1 gf h0 n0 Z0 i1 i2 cgf) hZ (hw _ (List.mem_of_getElem? (i := 72) rfl)) (hw _ (List.mem_of_getElem? (i := 69) rfl)) (by decide) (by decide)) (g := (mkF m 5 #[.val (.int p0), .val (.int p1)] [gf, (.int p1), (.int p0)])) rfl (by rw [hml]; rfl) (argsL := [(.int p0), (.int p1), gf]) (rest := []) (lenOf own_pd1 rfl) rfl (by show 2 * 0 + _ ≤ _; exact Nat.le_of_eq rfl) (hb hby d_jdk_42_method_155_5) (fun _ _ => ⟨rfl, e101, (by decide : 0 + 0 ≤ _), (by decide : 0 + 0 ≤ _)⟩)
  dsimp only [Pt.U, Pt.locs, Pt.cells, Pt.slots] at X102 l102 y102 z102 st102 hQ102
  subst l102 y102 z102
  obtain ⟨rfl, N102q, eh102⟩ := hQ102
  have N102 := Fr.app N0 N102q
  refine Go.step (T' := T102) (g' := (mkF m 8 #[.val (.int p0), .val (.int p1)] [(.int p0)])) (st102) ?_
  refine Go.step (T' := T102) (g' := (mkF m 9 #[.val (.int p0), .val (.int p1)] [])) (fun _ k => XS.pop X102.here hx rfl (hb hby d_jdk_42_method_155_8) rfl rfl k) ?_
  exact Go.retV X102 hx hret hlk (hb hby d_jdk_42_method_155_9) (⟨rfl, N102, eh102⟩) (by decide) (by decide)
theorem own_ef_jdk_43_method_2_code_RI (m : MethodId) (x0 : Addr) (x1 : Int32) : entryFrame m #[(.ref x0), (.int x1)] 2 = mkF m 0 #[.val (.ref x0), .val (.int x1)] [] := by first | (simp [entryFrame, mkF, argsToLocals, Value.category]; done) | rfl | (simp [entryFrame, mkF, argsToLocals, own_cI, own_cJ, own_cR, own_cN]; done)
theorem own_pn_StringLatin1 : plainName "java/lang/StringLatin1" = true := by first | (simp [plainName, overriddenIn]; done) | decide +kernel
theorem d_jdk_43_method_2_0 : decode jdk_43_method_2_code 0 = .ok (.iload_n 1, 1) := by decide +kernel
theorem d_jdk_43_method_2_1 : decode jdk_43_method_2_code 1 = .ok (.aload_n 0, 1) := by decide +kernel
theorem d_jdk_43_method_2_2 : decode jdk_43_method_2_code 2 = .ok (.arraylength, 1) := by decide +kernel
theorem d_jdk_43_method_2_3 : decode jdk_43_method_2_code 3 = .ok (.invokestatic 9, 3) := by decide +kernel
theorem own_pd2 : parseMethodDescriptor "(II)V" = some ⟨[.int, .int], none⟩ := by decide +kernel
theorem d_jdk_43_method_2_6 : decode jdk_43_method_2_code 6 = .ok (.aload_n 0, 1) := by decide +kernel
theorem d_jdk_43_method_2_7 : decode jdk_43_method_2_code 7 = .ok (.iload_n 1, 1) := by decide +kernel
theorem d_jdk_43_method_2_8 : decode jdk_43_method_2_code 8 = .ok (.baload, 1) := by decide +kernel
theorem d_jdk_43_method_2_9 : decode jdk_43_method_2_code 9 = .ok (.sipush 255, 3) := by decide +kernel
theorem d_jdk_43_method_2_12 : decode jdk_43_method_2_code 12 = .ok (.iand, 1) := by decide +kernel
theorem d_jdk_43_method_2_13 : decode jdk_43_method_2_code 13 = .ok (.i2c, 1) := by decide +kernel
theorem d_jdk_43_method_2_14 : decode jdk_43_method_2_code 14 = .ok (.ireturn, 1) := by decide +kernel
set_option maxRecDepth 65536 in
set_option maxHeartbeats 40000000 in
theorem own_lch (l : Launch) (Z : State) (a0 : Array Value) (hw : ∀ d ∈ tables_1, d.before a0 Z = true) (ws : List Jvm.Cond) (b1 : Addr) (i : Int32) (k1 : ClassId) (n : Int32) (vs : List Value) (gf : Value) (bb cc : Int32) (h0 : Heap) (n0 : Nat) (Z0 : n0 ≤ h0.size) (V1 : Arv Z h0 b1 k1 .byte n vs (.int (0 : Int32))) (Sf : Sta Z h0 "jdk/internal/util/Preconditions" "SIOOBE_FORMATTER" "Ljava/util/function/BiFunction;" gf) (cgf : gf.category = 1) (i1 : ¬ i < (0 : Int32)) (i2 : i < n) (u : vs.getD i.toNatClampNeg (.int (0 : Int32)) = .int bb) (hc : nar .char ((bb &&& (255 : Int32)).toUInt32.toUInt16.toUInt32.toInt32) = cc) :
    Con l Z (⟨"java/lang/StringLatin1", "charAt", "([BI)C"⟩ : MethodName) jdk_43_method_2_code 2 (some .char) ({ frames := 2, cells := 0, slots := 0, locals := 27 } : Room) ws #[(.ref b1), (.int i)] h0 (Qret (some (.int cc)) h0 n0) 0 0 := by
  refine Con.of (plainFor_of_name own_pn_StringLatin1) ?_
  intro pgm e s m below meth c s₁ X0 hx hZ hby hml hown hnm hret hlk e0 hs0
  have N0 := Fr.nil n0
  have hown : s.vm.findClass "java/lang/StringLatin1" = some m.cls := hown
  have hnm : meth.name = "charAt" := hnm
  refine Go.cast (own_ef_jdk_43_method_2_code_RI m b1 i) ?_
  refine Go.step (T' := s₁) (g' := (mkF m 1 #[.val (.ref b1), .val (.int i)] [(.int i)])) (fun _ k => XS.iloadN X0.here hx rfl (hb hby d_jdk_43_method_2_0) rfl  k) ?_
  refine Go.step (T' := s₁) (g' := (mkF m 2 #[.val (.ref b1), .val (.int i)] [(.ref b1), (.int i)])) (fun _ k => XS.aloadN X0.here hx rfl (hb hby d_jdk_43_method_2_1) rfl rfl k) ?_
  obtain ⟨cl101, Ar101, -, S101, M101, -, -⟩ := id V1
  refine Go.step (T' := s₁) (g' := (mkF m 3 #[.val (.ref b1), .val (.int i)] [(.int n), (.int i)])) (fun _ k => X0.arraylength hx (cell := cl101) (by rw [e0]; exact Ar101.1) (State.isArrayOf_alike hZ.alike Ar101.2.1) (g := (mkF m 2 #[.val (.ref b1), .val (.int i)] [(.ref b1), (.int i)])) rfl (rest := [(.int i)]) rfl (hb hby d_jdk_43_method_2_2) _ (by rw [len_of S101 M101]; exact k)) ?_
  obtain ⟨_, _, ⟨T102, L102, k102, n102⟩, -, X102, ⟨Lc102, hQ102, l102, y102, z102⟩, st102⟩ := Jvm.LawKit.callS X0 hx (y := (⟨"java/lang/String", "checkIndex", "(II)V"⟩ : MethodName)) hown (mvT hZ (hw _ (List.mem_of_getElem? (i := 65) rfl))) (mvT hZ (hw _ (List.mem_of_getElem? (i := 66) rfl))) (mvT hZ (hw _ (List.mem_of_getElem? (i := 27) rfl))) (mvT hZ (hw _ (List.mem_of_getElem? (i := 67) rfl))) (by decide) (backOf (W := 0) (Q := Qret none h0 n0) (own_ci l Z a0 hw [] i n gf h0 n0 Z0 i1 i2 Sf cgf) hZ (hw _ (List.mem_of_getElem? (i := 67) rfl)) (hw _ (List.mem_of_getElem? (i := 27) rfl)) (by decide) (by decide)) (g := (mkF m 3 #[.val (.ref b1), .val (.int i)] [(.int n), (.int i)])) rfl (by rw [hml]; rfl) (argsL := [(.int i), (.int n)]) (rest := []) (lenOf own_pd2 rfl) rfl (by show 2 * 0 + _ ≤ _; exact Nat.le_of_eq rfl) (hb hby d_jdk_43_method_2_3) (fun _ _ => ⟨rfl, e0, (by decide : 0 + 0 ≤ _), (by decide : 0 + 0 ≤ _)⟩)
  dsimp only [Pt.U, Pt.locs, Pt.cells, Pt.slots] at X102 l102 y102 z102 st102 hQ102
  subst l102 y102 z102
  obtain ⟨rfl, N102q, eh102⟩ := hQ102
  have N102 := Fr.app N0 N102q
  refine Go.step (T' := T102) (g' := (mkF m 6 #[.val (.ref b1), .val (.int i)] [])) (st102) ?_
  refine Go.step (T' := T102) (g' := (mkF m 7 #[.val (.ref b1), .val (.int i)] [(.ref b1)])) (fun _ k => XS.aloadN X102.here hx rfl (hb hby d_jdk_43_method_2_6) rfl rfl k) ?_
  refine Go.step (T' := T102) (g' := (mkF m 8 #[.val (.ref b1), .val (.int i)] [(.int i), (.ref b1)])) (fun _ k => XS.iloadN X102.here hx rfl (hb hby d_jdk_43_method_2_7) rfl  k) ?_
  obtain ⟨cl103, Ar103, q103, S103, M103, H103, G103⟩ := id V1
  have I103 := inb_of (j := i) S103 ⟨i1, i2⟩
  refine Go.step (T' := T102) (g' := (mkF m 9 #[.val (.ref b1), .val (.int i)] [(.int bb)])) (fun _ k => X102.baloadBytes hx (j := i) (v := (.int bb)) (by rw [eh102]; exact Ar103.1) (State.isArrayOf_alike hZ.alike Ar103.2.1) Ar103.2.2 I103 (Has.at H103 I103 u) (g := (mkF m 8 #[.val (.ref b1), .val (.int i)] [(.int i), (.ref b1)])) rfl rfl (hb hby d_jdk_43_method_2_8) _ k) ?_
  refine Go.step (T' := T102) (g' := (mkF m 12 #[.val (.ref b1), .val (.int i)] [(.int (255 : Int32)), (.int bb)])) (fun _ k => XS.sipush X102.here hx rfl (hb hby d_jdk_43_method_2_9) k) ?_
  refine Go.step (T' := T102) (g' := (mkF m 13 #[.val (.ref b1), .val (.int i)] [(.int (bb &&& (255 : Int32)))])) (fun _ k => XS.iand X102.here hx rfl (hb hby d_jdk_43_method_2_12) rfl k) ?_
  refine Go.step (T' := T102) (g' := (mkF m 14 #[.val (.ref b1), .val (.int i)] [(.int ((bb &&& (255 : Int32)).toUInt32.toUInt16.toUInt32.toInt32))])) (fun _ k => XS.i2c X102.here hx rfl (hb hby d_jdk_43_method_2_13) rfl k) ?_
  exact Go.retN X102 hx (t := .char) hret hlk (by simp) (hb hby d_jdk_43_method_2_14) (⟨by rw [hc], N102, eh102⟩) (by decide) (by decide)
theorem own_ef_jdk_42_method_56_code_RI (m : MethodId) (x0 : Addr) (x1 : Int32) : entryFrame m #[(.ref x0), (.int x1)] 2 = mkF m 0 #[.val (.ref x0), .val (.int x1)] [] := by first | (simp [entryFrame, mkF, argsToLocals, Value.category]; done) | rfl | (simp [entryFrame, mkF, argsToLocals, own_cI, own_cJ, own_cR, own_cN]; done)
theorem d_jdk_42_method_56_0 : decode jdk_42_method_56_code 0 = .ok (.aload_n 0, 1) := by decide +kernel
theorem d_jdk_42_method_56_1 : decode jdk_42_method_56_code 1 = .ok (.invokevirtual 492, 3) := by decide +kernel
theorem own_pd3 : parseMethodDescriptor "()Z" = some ⟨[], some .boolean⟩ := by decide +kernel
theorem d_jdk_42_method_56_4 : decode jdk_42_method_56_code 4 = .ok (.ifCond .eq 12, 3) := by decide +kernel
theorem d_jdk_42_method_56_7 : decode jdk_42_method_56_code 7 = .ok (.aload_n 0, 1) := by decide +kernel
theorem d_jdk_42_method_56_8 : decode jdk_42_method_56_code 8 = .ok (.getfield 9, 3) := by decide +kernel
theorem d_jdk_42_method_56_11 : decode jdk_42_method_56_code 11 = .ok (.iload_n 1, 1) := by decide +kernel
theorem d_jdk_42_method_56_12 : decode jdk_42_method_56_code 12 = .ok (.invokestatic 495, 3) := by decide +kernel
theorem own_pd4 : parseMethodDescriptor "([BI)C" = some ⟨[(.array .byte), .int], some .char⟩ := by decide +kernel
theorem d_jdk_42_method_56_15 : decode jdk_42_method_56_code 15 = .ok (.ireturn, 1) := by decide +kernel
set_option maxRecDepth 65536 in
set_option maxHeartbeats 40000000 in
theorem own_ch_ (l : Launch) (Z : State) (a0 : Array Value) (hw : ∀ d ∈ tables_1, d.before a0 Z = true) (ws : List Jvm.Cond) (a1 : Addr) (i : Int32) (gc : Int32) (b1 : Addr) (k1 : ClassId) (n : Int32) (vs : List Value) (gf : Value) (bb cc : Int32) (h0 : Heap) (n0 : Nat) (Z0 : n0 ≤ h0.size) (Sc : Sta Z h0 "java/lang/String" "COMPACT_STRINGS" "Z" (.int gc)) (hgc : ¬ gc = (0 : Int32)) (E1 : Exa Z h0 a1 "java/lang/String") (C1 : Fld Z h0 a1 "java/lang/String" "coder" "B" (.int (0 : Int32))) (B1 : Fld Z h0 a1 "java/lang/String" "value" "[B" (.ref b1)) (V1 : Arv Z h0 b1 k1 .byte n vs (.int (0 : Int32))) (Sf : Sta Z h0 "jdk/internal/util/Preconditions" "SIOOBE_FORMATTER" "Ljava/util/function/BiFunction;" gf) (cgf : gf.category = 1) (i1 : ¬ i < (0 : Int32)) (i2 : i < n) (u : vs.getD i.toNatClampNeg (.int (0 : Int32)) = .int bb) (hc : nar .char ((bb &&& (255 : Int32)).toUInt32.toUInt16.toUInt32.toInt32) = cc) (hcc : nar .char cc = cc) :
    Con l Z (⟨"java/lang/String", "charAt", "(I)C"⟩ : MethodName) jdk_42_method_56_code 2 (some .char) ({ frames := 3, cells := 0, slots := 0, locals := 40 } : Room) ws #[(.ref a1), (.int i)] h0 (Qret (some (.int cc)) h0 n0) 0 0 := by
  refine Con.of (plainFor_of_name own_pn_String) ?_
  intro pgm e s m below meth c s₁ X0 hx hZ hby hml hown hnm hret hlk e0 hs0
  have N0 := Fr.nil n0
  have hown : s.vm.findClass "java/lang/String" = some m.cls := hown
  have hnm : meth.name = "charAt" := hnm
  refine Go.cast (own_ef_jdk_42_method_56_code_RI m a1 i) ?_
  refine Go.step (T' := s₁) (g' := (mkF m 1 #[.val (.ref a1), .val (.int i)] [(.ref a1)])) (fun _ k => XS.aloadN X0.here hx rfl (hb hby d_jdk_42_method_56_0) rfl rfl k) ?_
  obtain ⟨cq101, kq101, q101a, q101b, q101c⟩ := isOf hZ e0 E1
  obtain ⟨_, _, ⟨T101, L101, k101, n101⟩, -, X101, ⟨Lc101, hQ101, l101, y101, z101⟩, st101⟩ := X0.virtualBack hx (y := (⟨"java/lang/String", "isLatin1", "()Z"⟩ : MethodName)) (z := (⟨"java/lang/String", "isLatin1", "()Z"⟩ : MethodName)) hown (mvT hZ (hw _ (List.mem_of_getElem? (i := 56) rfl))) (mvT hZ (hw _ (List.mem_of_getElem? (i := 57) rfl))) (notFace_of_selects (args := #[]) (mvT hZ (hw _ (List.mem_of_getElem? (i := 59) rfl)))) (mvT hZ (hw _ (List.mem_of_getElem? (i := 59) rfl))) (mvT hZ (hw _ (List.mem_of_getElem? (i := 58) rfl))) (by decide) (backOf (W := 0) (Q := Qret (some (.int (1 : Int32))) h0 n0) (own_lat l Z a0 hw [] a1 gc h0 n0 Z0 Sc hgc C1) hZ (hw _ (List.mem_of_getElem? (i := 60) rfl)) (hw _ (List.mem_of_getElem? (i := 27) rfl)) (by decide) (by decide)) q101a q101c (g := (mkF m 1 #[.val (.ref a1), .val (.int i)] [(.ref a1)])) rfl (by rw [hml]; rfl) (Steps.refl _) (argsL := []) (rest := []) (lenOf own_pd3 rfl) rfl (by show 2 * 0 + _ ≤ _; exact Nat.le_of_eq rfl) (hb hby d_jdk_42_method_56_1) (fun _ _ => ⟨rfl, e0, (by decide : 0 + 0 ≤ _), (by decide : 0 + 0 ≤ _)⟩)
  dsimp only [Pt.U, Pt.locs, Pt.cells, Pt.slots] at X101 l101 y101 z101 st101 hQ101
  subst l101 y101 z101
  obtain ⟨rfl, N101q, eh101⟩ := hQ101
  have N101 := Fr.app N0 N101q
  refine Go.step (T' := T101) (g' := (mkF m 4 #[.val (.ref a1), .val (.int i)] [(.int (1 : Int32))])) (fun _ k => st101.trans k) ?_
  refine Go.step (T' := T101) (g' := (mkF m 7 #[.val (.ref a1), .val (.int i)] [])) (fun _ k => XS.ifNo X101.here hx rfl (hb hby d_jdk_42_method_56_4) rfl ((if0 _ _).trans (feq (by decide : ¬ ((1 : Int32) = (0 : Int32)))).1) k) ?_
  refine Go.step (T' := T101) (g' := (mkF m 8 #[.val (.ref a1), .val (.int i)] [(.ref a1)])) (fun _ k => XS.aloadN X101.here hx rfl (hb hby d_jdk_42_method_56_7) rfl rfl k) ?_
  obtain ⟨T102, X102, e102, st102⟩ := getF X101 hx hZ hown (host := "") (Or.inl (hw _ (List.mem_of_getElem? (i := 43) rfl))) Via.refl eh101 B1 (g := (mkF m 8 #[.val (.ref a1), .val (.int i)] [(.ref a1)])) rfl rfl (hb hby d_jdk_42_method_56_8)
  refine Go.step (T' := T102) (g' := (mkF m 11 #[.val (.ref a1), .val (.int i)] [(.ref b1)])) st102 ?_
  refine Go.step (T' := T102) (g' := (mkF m 12 #[.val (.ref a1), .val (.int i)] [(.int i), (.ref b1)])) (fun _ k => XS.iloadN X102.here hx rfl (hb hby d_jdk_42_method_56_11) rfl  k) ?_
  obtain ⟨_, _, ⟨T103, L103, k103, n103⟩, -, X103, ⟨Lc103, hQ103, l103, y103, z103⟩, st103⟩ := Jvm.LawKit.callS X102 hx (y := (⟨"java/lang/StringLatin1", "charAt", "([BI)C"⟩ : MethodName)) hown (mvT hZ (hw _ (List.mem_of_getElem? (i := 61) rfl))) (mvT hZ (hw _ (List.mem_of_getElem? (i := 62) rfl))) (mvT hZ (hw _ (List.mem_of_getElem? (i := 63) rfl))) (mvT hZ (hw _ (List.mem_of_getElem? (i := 64) rfl))) (by decide) (backOf (W := 0) (Q := Qret (some (.int cc)) h0 n0) (own_lch l Z a0 hw [] b1 i k1 n vs gf bb cc h0 n0 Z0 V1 Sf cgf i1 i2 u hc) hZ (hw _ (List.mem_of_getElem? (i := 64) rfl)) (hw _ (List.mem_of_getElem? (i := 63) rfl)) (by decide) (by decide)) (g := (mkF m 12 #[.val (.ref a1), .val (.int i)] [(.int i), (.ref b1)])) rfl (by rw [hml]; rfl) (argsL := [(.ref b1), (.int i)]) (rest := []) (lenOf own_pd4 rfl) rfl (by show 2 * 0 + _ ≤ _; exact Nat.le_of_eq rfl) (hb hby d_jdk_42_method_56_12) (fun _ _ => ⟨rfl, e102, (by decide : 0 + 0 ≤ _), (by decide : 0 + 0 ≤ _)⟩)
  dsimp only [Pt.U, Pt.locs, Pt.cells, Pt.slots] at X103 l103 y103 z103 st103 hQ103
  subst l103 y103 z103
  obtain ⟨rfl, N103q, eh103⟩ := hQ103
  have N103 := Fr.app N101 N103q
  refine Go.step (T' := T103) (g' := (mkF m 15 #[.val (.ref a1), .val (.int i)] [(.int cc)])) (st103) ?_
  exact Go.retN X103 hx (t := .char) hret hlk (by simp) (hb hby d_jdk_42_method_56_15) (⟨by rw [hcc], N103, eh103⟩) (by decide) (by decide)
theorem own_ef_method_3_code_I (m : MethodId) (x0 : Int32) : entryFrame m #[(.int x0)] 1 = mkF m 0 #[.val (.int x0)] [] := by first | (simp [entryFrame, mkF, argsToLocals, Value.category]; done) | rfl | (simp [entryFrame, mkF, argsToLocals, own_cI, own_cJ, own_cR, own_cN]; done)
theorem own_pn_OptionsOfPinLaw : plainName "com/example/noteform/noteform/cli/OptionsOfPinLaw" = true := by first | (simp [plainName, overriddenIn]; done) | decide +kernel
theorem d_method_3_0 : decode method_3_code 0 = .ok (.iload_n 0, 1) := by decide +kernel
theorem d_method_3_1 : decode method_3_code 1 = .ok (.bipush 97, 2) := by decide +kernel
theorem d_method_3_3 : decode method_3_code 3 = .ok (.if_icmp .lt 13, 3) := by decide +kernel
theorem d_method_3_6 : decode method_3_code 6 = .ok (.iload_n 0, 1) := by decide +kernel
theorem d_method_3_7 : decode method_3_code 7 = .ok (.bipush 122, 2) := by decide +kernel
theorem d_method_3_9 : decode method_3_code 9 = .ok (.if_icmp .gt 7, 3) := by decide +kernel
theorem d_method_3_12 : decode method_3_code 12 = .ok (.iconst 1, 1) := by decide +kernel
theorem d_method_3_13 : decode method_3_code 13 = .ok (.goto 4, 3) := by decide +kernel
theorem d_method_3_17 : decode method_3_code 17 = .ok (.ireturn, 1) := by decide +kernel
set_option maxRecDepth 65536 in
set_option maxHeartbeats 40000000 in
theorem own_low (l : Launch) (Z : State) (a0 : Array Value) (hw : ∀ d ∈ tables_1, d.before a0 Z = true) (ws : List Jvm.Cond) (p : Int32) (h0 : Heap) (n0 : Nat) (Z0 : n0 ≤ h0.size) (r1 : ¬ p < (97 : Int32)) (r2 : ¬ (122 : Int32) < p) :
    Con l Z (⟨"com/example/noteform/noteform/cli/OptionsOfPinLaw", "lower", "(C)Z"⟩ : MethodName) method_3_code 1 (some .boolean) ({ frames := 0, cells := 0, slots := 0, locals := 0 } : Room) ws #[(.int p)] h0 (Qret (some (.int (1 : Int32))) h0 n0) 0 0 := by
  refine Con.of (plainFor_of_name own_pn_OptionsOfPinLaw) ?_
  intro pgm e s m below meth c s₁ X0 hx hZ hby hml hown hnm hret hlk e0 hs0
  have N0 := Fr.nil n0
  have hown : s.vm.findClass "com/example/noteform/noteform/cli/OptionsOfPinLaw" = some m.cls := hown
  have hnm : meth.name = "lower" := hnm
  refine Go.cast (own_ef_method_3_code_I m p) ?_
  refine Go.step (T' := s₁) (g' := (mkF m 1 #[.val (.int p)] [(.int p)])) (fun _ k => XS.iloadN X0.here hx rfl (hb hby d_method_3_0) rfl  k) ?_
  refine Go.step (T' := s₁) (g' := (mkF m 3 #[.val (.int p)] [(.int (97 : Int32)), (.int p)])) (fun _ k => XS.bipush X0.here hx rfl (hb hby d_method_3_1) k) ?_
  refine Go.step (T' := s₁) (g' := (mkF m 6 #[.val (.int p)] [])) (fun _ k => XS.icmpNo X0.here hx rfl (hb hby d_method_3_3) rfl (flt r1).1 k) ?_
  refine Go.step (T' := s₁) (g' := (mkF m 7 #[.val (.int p)] [(.int p)])) (fun _ k => XS.iloadN X0.here hx rfl (hb hby d_method_3_6) rfl  k) ?_
  refine Go.step (T' := s₁) (g' := (mkF m 9 #[.val (.int p)] [(.int (122 : Int32)), (.int p)])) (fun _ k => XS.bipush X0.here hx rfl (hb hby d_method_3_7) k) ?_
  refine Go.step (T' := s₁) (g' := (mkF m 12 #[.val (.int p)] [])) (fun _ k => XS.icmpNo X0.here hx rfl (hb hby d_method_3_9) rfl (flt r2).2.2.1 k) ?_
  refine Go.step (T' := s₁) (g' := (mkF m 13 #[.val (.int p)] [(.int (1 : Int32))])) (fun _ k => XS.iconst X0.here hx rfl (hb hby d_method_3_12) k) ?_
  refine Go.step (T' := s₁) (g' := (mkF m 17 #[.val (.int p)] [(.int (1 : Int32))])) (fun _ k => XS.goto X0.here hx rfl (pc0 := 13) (pc' := 17) rfl (hb hby d_method_3_13) (by decide) (by decide) k) ?_
  exact Go.retN X0 hx (t := .boolean) hret hlk (by simp) (hb hby d_method_3_17) (⟨rfl, N0, e0⟩) (by decide) (by decide)
theorem own_ef_method_4_code_R (m : MethodId) (x0 : Addr) : entryFrame m #[(.ref x0)] 1 = mkF m 0 #[.val (.ref x0)] [] := by first | (simp [entryFrame, mkF, argsToLocals, Value.category]; done) | rfl | (simp [entryFrame, mkF, argsToLocals, own_cI, own_cJ, own_cR, own_cN]; done)
theorem d_method_4_0 : decode method_4_code 0 = .ok (.aload_n 0, 1) := by decide +kernel
theorem d_method_4_1 : decode method_4_code 1 = .ok (.ifnonnull 5, 3) := by decide +kernel
theorem d_method_4_6 : decode method_4_code 6 = .ok (.aload_n 0, 1) := by decide +kernel
theorem d_method_4_7 : decode method_4_code 7 = .ok (.invokevirtual 37, 3) := by decide +kernel
theorem own_pd5 : parseMethodDescriptor "()I" = some ⟨[], some .int⟩ := by decide +kernel
theorem d_method_4_10 : decode method_4_code 10 = .ok (.iconst 2, 1) := by decide +kernel
theorem d_method_4_11 : decode method_4_code 11 = .ok (.if_icmp .gt 5, 3) := by decide +kernel
theorem d_method_4_16 : decode method_4_code 16 = .ok (.aload_n 0, 1) := by decide +kernel
theorem d_method_4_17 : decode method_4_code 17 = .ok (.iconst 0, 1) := by decide +kernel
theorem d_method_4_18 : decode method_4_code 18 = .ok (.invokevirtual 43, 3) := by decide +kernel
theorem own_pd6 : parseMethodDescriptor "(I)C" = some ⟨[.int], some .char⟩ := by decide +kernel
theorem d_method_4_21 : decode method_4_code 21 = .ok (.bipush 45, 2) := by decide +kernel
theorem d_method_4_23 : decode method_4_code 23 = .ok (.if_icmp .ne 13, 3) := by decide +kernel
theorem d_method_4_26 : decode method_4_code 26 = .ok (.aload_n 0, 1) := by decide +kernel
theorem d_method_4_27 : decode method_4_code 27 = .ok (.iconst 1, 1) := by decide +kernel
theorem d_method_4_28 : decode method_4_code 28 = .ok (.invokevirtual 43, 3) := by decide +kernel
theorem d_method_4_31 : decode method_4_code 31 = .ok (.bipush 45, 2) := by decide +kernel
theorem d_method_4_33 : decode method_4_code 33 = .ok (.if_icmp .eq 5, 3) := by decide +kernel
theorem d_method_4_38 : decode method_4_code 38 = .ok (.aload_n 0, 1) := by decide +kernel
theorem d_method_4_39 : decode method_4_code 39 = .ok (.iconst 2, 1) := by decide +kernel
theorem d_method_4_40 : decode method_4_code 40 = .ok (.invokevirtual 43, 3) := by decide +kernel
theorem d_method_4_43 : decode method_4_code 43 = .ok (.invokestatic 47, 3) := by decide +kernel
theorem own_pd7 : parseMethodDescriptor "(C)Z" = some ⟨[.char], some .boolean⟩ := by decide +kernel
theorem d_method_4_46 : decode method_4_code 46 = .ok (.ifCond .eq 23, 3) := by decide +kernel
theorem d_method_4_49 : decode method_4_code 49 = .ok (.aload_n 0, 1) := by decide +kernel
theorem d_method_4_50 : decode method_4_code 50 = .ok (.aload_n 0, 1) := by decide +kernel
theorem d_method_4_51 : decode method_4_code 51 = .ok (.invokevirtual 37, 3) := by decide +kernel
theorem d_method_4_54 : decode method_4_code 54 = .ok (.iconst 1, 1) := by decide +kernel
theorem d_method_4_55 : decode method_4_code 55 = .ok (.isub, 1) := by decide +kernel
theorem d_method_4_56 : decode method_4_code 56 = .ok (.invokevirtual 43, 3) := by decide +kernel
theorem d_method_4_59 : decode method_4_code 59 = .ok (.invokestatic 47, 3) := by decide +kernel
theorem d_method_4_62 : decode method_4_code 62 = .ok (.ifCond .eq 7, 3) := by decide +kernel
theorem d_method_4_65 : decode method_4_code 65 = .ok (.iconst 1, 1) := by decide +kernel
theorem d_method_4_66 : decode method_4_code 66 = .ok (.goto 4, 3) := by decide +kernel
theorem d_method_4_70 : decode method_4_code 70 = .ok (.ireturn, 1) := by decide +kernel
set_option maxRecDepth 65536 in
set_option maxHeartbeats 40000000 in
theorem own_wf (l : Launch) (Z : State) (a0 : Array Value) (hw : ∀ d ∈ tables_1, d.before a0 Z = true) (ws : List Jvm.Cond) (a1 : Addr) (gc : Int32) (b1 : Addr) (k1 : ClassId) (n : Int32) (vs : List Value) (gf : Value) (c2 cL : Int32) (h0 : Heap) (n0 : Nat) (Z0 : n0 ≤ h0.size) (Sc : Sta Z h0 "java/lang/String" "COMPACT_STRINGS" "Z" (.int gc)) (hgc : ¬ gc = (0 : Int32)) (E1 : Exa Z h0 a1 "java/lang/String") (C1 : Fld Z h0 a1 "java/lang/String" "coder" "B" (.int (0 : Int32))) (B1 : Fld Z h0 a1 "java/lang/String" "value" "[B" (.ref b1)) (V1 : Arv Z h0 b1 k1 .byte n vs (.int (0 : Int32))) (Sf : Sta Z h0 "jdk/internal/util/Preconditions" "SIOOBE_FORMATTER" "Ljava/util/function/BiFunction;" gf) (cgf : gf.category = 1) (hn : (2 : Int32) < n) (u0 : vs.getD 0 (.int (0 : Int32)) = .int (45 : Int32)) (u1 : vs.getD 1 (.int (0 : Int32)) = .int (45 : Int32)) (u2 : vs.getD 2 (.int (0 : Int32)) = .int c2) (uL : vs.getD (n - (1 : Int32)).toNatClampNeg (.int (0 : Int32)) = .int cL) (r2 : ¬ c2 < (97 : Int32) ∧ ¬ (122 : Int32) < c2) (rL : ¬ cL < (97 : Int32) ∧ ¬ (122 : Int32) < cL) :
    Con l Z (⟨"com/example/noteform/noteform/cli/OptionsOfPinLaw", "wellFormed", "(Ljava/lang/String;)Z"⟩ : MethodName) method_4_code 1 (some .boolean) ({ frames := 4, cells := 0, slots := 0, locals := 53 } : Room) ws #[(.ref a1)] h0 (Qret (some (.int (1 : Int32))) h0 n0) 0 0 := by
  refine Con.of (plainFor_of_name own_pn_OptionsOfPinLaw) ?_
  intro pgm e s m below meth c s₁ X0 hx hZ hby hml hown hnm hret hlk e0 hs0
  have N0 := Fr.nil n0
  have hown : s.vm.findClass "com/example/noteform/noteform/cli/OptionsOfPinLaw" = some m.cls := hown
  have hnm : meth.name = "wellFormed" := hnm
  refine Go.cast (own_ef_method_4_code_R m a1) ?_
  refine Go.step (T' := s₁) (g' := (mkF m 1 #[.val (.ref a1)] [(.ref a1)])) (fun _ k => XS.aloadN X0.here hx rfl (hb hby d_method_4_0) rfl rfl k) ?_
  refine Go.step (T' := s₁) (g' := (mkF m 6 #[.val (.ref a1)] [])) (fun _ k => XS.ifnonnullYes X0.here hx rfl (pc0 := 1) (pc' := 6) rfl (hb hby d_method_4_1) rfl (by decide) (by decide) k) ?_
  refine Go.step (T' := s₁) (g' := (mkF m 7 #[.val (.ref a1)] [(.ref a1)])) (fun _ k => XS.aloadN X0.here hx rfl (hb hby d_method_4_6) rfl rfl k) ?_
  obtain ⟨cq101, kq101, q101a, q101b, q101c⟩ := isOf hZ e0 E1
  obtain ⟨_, _, ⟨T101, L101, k101, n101⟩, -, X101, ⟨Lc101, hQ101, l101, y101, z101⟩, st101⟩ := X0.virtualBack hx (y := (⟨"java/lang/String", "length", "()I"⟩ : MethodName)) (z := (⟨"java/lang/String", "length", "()I"⟩ : MethodName)) hown (mvT hZ (hw _ (List.mem_of_getElem? (i := 38) rfl))) (mvT hZ (hw _ (List.mem_of_getElem? (i := 39) rfl))) (notFace_of_selects (args := #[]) (mvT hZ (hw _ (List.mem_of_getElem? (i := 41) rfl)))) (mvT hZ (hw _ (List.mem_of_getElem? (i := 41) rfl))) (mvT hZ (hw _ (List.mem_of_getElem? (i := 40) rfl))) (by decide) (backOf (W := 0) (Q := Qret (some (.int n)) h0 n0) (own_len_ l Z a0 hw [] a1 gc b1 k1 n vs h0 n0 Z0 Sc hgc E1 C1 B1 V1) hZ (hw _ (List.mem_of_getElem? (i := 42) rfl)) (hw _ (List.mem_of_getElem? (i := 27) rfl)) (by decide) (by decide)) q101a q101c (g := (mkF m 7 #[.val (.ref a1)] [(.ref a1)])) rfl (by rw [hml]; rfl) (Steps.refl _) (argsL := []) (rest := []) (lenOf own_pd5 rfl) rfl (by show 2 * 0 + _ ≤ _; exact Nat.le_of_eq rfl) (hb hby d_method_4_7) (fun _ _ => ⟨rfl, e0, (by decide : 0 + 0 ≤ _), (by decide : 0 + 0 ≤ _)⟩)
  dsimp only [Pt.U, Pt.locs, Pt.cells, Pt.slots] at X101 l101 y101 z101 st101 hQ101
  subst l101 y101 z101
  obtain ⟨rfl, N101q, eh101⟩ := hQ101
  have N101 := Fr.app N0 N101q
  refine Go.step (T' := T101) (g' := (mkF m 10 #[.val (.ref a1)] [(.int n)])) (fun _ k => st101.trans k) ?_
  refine Go.step (T' := T101) (g' := (mkF m 11 #[.val (.ref a1)] [(.int (2 : Int32)), (.int n)])) (fun _ k => XS.iconst X101.here hx rfl (hb hby d_method_4_10) k) ?_
  refine Go.step (T' := T101) (g' := (mkF m 16 #[.val (.ref a1)] [])) (fun _ k => XS.icmpYes X101.here hx rfl (pc0 := 11) (pc' := 16) rfl (hb hby d_method_4_11) rfl (tlt hn).2.2.1 (by decide) (by decide) k) ?_
  refine Go.step (T' := T101) (g' := (mkF m 17 #[.val (.ref a1)] [(.ref a1)])) (fun _ k => XS.aloadN X101.here hx rfl (hb hby d_method_4_16) rfl rfl k) ?_
  refine Go.step (T' := T101) (g' := (mkF m 18 #[.val (.ref a1)] [(.int (0 : Int32)), (.ref a1)])) (fun _ k => XS.iconst X101.here hx rfl (hb hby d_method_4_17) k) ?_
  obtain ⟨cq102, kq102, q102a, q102b, q102c⟩ := isOf hZ eh101 E1
  obtain ⟨_, _, ⟨T102, L102, k102, n102⟩, -, X102, ⟨Lc102, hQ102, l102, y102, z102⟩, st102⟩ := X101.virtualBack hx (y := (⟨"java/lang/String", "charAt", "(I)C"⟩ : MethodName)) (z := (⟨"java/lang/String", "charAt", "(I)C"⟩ : MethodName)) hown (mvT hZ (hw _ (List.mem_of_getElem? (i := 51) rfl))) (mvT hZ (hw _ (List.mem_of_getElem? (i := 52) rfl))) (notFace_of_selects (args := #[]) (mvT hZ (hw _ (List.mem_of_getElem? (i := 54) rfl)))) (mvT hZ (hw _ (List.mem_of_getElem? (i := 54) rfl))) (mvT hZ (hw _ (List.mem_of_getElem? (i := 53) rfl))) (by decide) (backOf (W := 0) (Q := Qret (some (.int (45 : Int32))) h0 n0) (own_ch_ l Z a0 hw [] a1 (0 : Int32) gc b1 k1 n vs gf (45 : Int32) (45 : Int32) h0 n0 Z0 Sc hgc E1 C1 B1 V1 Sf cgf (own_idx hn).1.1 (own_idx hn).1.2 u0 (by decide) (by decide)) hZ (hw _ (List.mem_of_getElem? (i := 55) rfl)) (hw _ (List.mem_of_getElem? (i := 27) rfl)) (by decide) (by decide)) q102a q102c (g := (mkF m 18 #[.val (.ref a1)] [(.int (0 : Int32)), (.ref a1)])) rfl (by rw [hml]; rfl) (Steps.refl _) (argsL := [(.int (0 : Int32))]) (rest := []) (lenOf own_pd6 rfl) rfl (by show 2 * 0 + _ ≤ _; exact Nat.le_of_eq rfl) (hb hby d_method_4_18) (fun _ _ => ⟨rfl, eh101, (by decide : 0 + 0 ≤ _), (by decide : 0 + 0 ≤ _)⟩)
  dsimp only [Pt.U, Pt.locs, Pt.cells, Pt.slots] at X102 l102 y102 z102 st102 hQ102
  subst l102 y102 z102
  obtain ⟨rfl, N102q, eh102⟩ := hQ102
  have N102 := Fr.app N101 N102q
  refine Go.step (T' := T102) (g' := (mkF m 21 #[.val (.ref a1)] [(.int (45 : Int32))])) (fun _ k => st102.trans k) ?_
  refine Go.step (T' := T102) (g' := (mkF m 23 #[.val (.ref a1)] [(.int (45 : Int32)), (.int (45 : Int32))])) (fun _ k => XS.bipush X102.here hx rfl (hb hby d_method_4_21) k) ?_
  refine Go.step (T' := T102) (g' := (mkF m 26 #[.val (.ref a1)] [])) (fun _ k => XS.icmpNo X102.here hx rfl (hb hby d_method_4_23) rfl (teq (by decide : (45 : Int32) = (45 : Int32))).2 k) ?_
  refine Go.step (T' := T102) (g' := (mkF m 27 #[.val (.ref a1)] [(.ref a1)])) (fun _ k => XS.aloadN X102.here hx rfl (hb hby d_method_4_26) rfl rfl k) ?_
  refine Go.step (T' := T102) (g' := (mkF m 28 #[.val (.ref a1)] [(.int (1 : Int32)), (.ref a1)])) (fun _ k => XS.iconst X102.here hx rfl (hb hby d_method_4_27) k) ?_
  obtain ⟨cq103, kq103, q103a, q103b, q103c⟩ := isOf hZ eh102 E1
  obtain ⟨_, _, ⟨T103, L103, k103, n103⟩, -, X103, ⟨Lc103, hQ103, l103, y103, z103⟩, st103⟩ := X102.virtualBack hx (y := (⟨"java/lang/String", "charAt", "(I)C"⟩ : MethodName)) (z := (⟨"java/lang/String", "charAt", "(I)C"⟩ : MethodName)) hown (mvT hZ (hw _ (List.mem_of_getElem? (i := 51) rfl))) (mvT hZ (hw _ (List.mem_of_getElem? (i := 52) rfl))) (notFace_of_selects (args := #[]) (mvT hZ (hw _ (List.mem_of_getElem? (i := 54) rfl)))) (mvT hZ (hw _ (List.mem_of_getElem? (i := 54) rfl))) (mvT hZ (hw _ (List.mem_of_getElem? (i := 53) rfl))) (by decide) (backOf (W := 0) (Q := Qret (some (.int (45 : Int32))) h0 n0) (own_ch_ l Z a0 hw [] a1 (1 : Int32) gc b1 k1 n vs gf (45 : Int32) (45 : Int32) h0 n0 Z0 Sc hgc E1 C1 B1 V1 Sf cgf (own_idx hn).2.1.1 (own_idx hn).2.1.2 u1 (by decide) (by decide)) hZ (hw _ (List.mem_of_getElem? (i := 55) rfl)) (hw _ (List.mem_of_getElem? (i := 27) rfl)) (by decide) (by decide)) q103a q103c (g := (mkF m 28 #[.val (.ref a1)] [(.int (1 : Int32)), (.ref a1)])) rfl (by rw [hml]; rfl) (Steps.refl _) (argsL := [(.int (1 : Int32))]) (rest := []) (lenOf own_pd6 rfl) rfl (by show 2 * 0 + _ ≤ _; exact Nat.le_of_eq rfl) (hb hby d_method_4_28) (fun _ _ => ⟨rfl, eh102, (by decide : 0 + 0 ≤ _), (by decide : 0 + 0 ≤ _)⟩)
  dsimp only [Pt.U, Pt.locs, Pt.cells, Pt.slots] at X103 l103 y103 z103 st103 hQ103
  subst l103 y103 z103
  obtain ⟨rfl, N103q, eh103⟩ := hQ103
  have N103 := Fr.app N102 N103q
  refine Go.step (T' := T103) (g' := (mkF m 31 #[.val (.ref a1)] [(.int (45 : Int32))])) (fun _ k => st103.trans k) ?_
  refine Go.step (T' := T103) (g' := (mkF m 33 #[.val (.ref a1)] [(.int (45 : Int32)), (.int (45 : Int32))])) (fun _ k => XS.bipush X103.here hx rfl (hb hby d_method_4_31) k) ?_
  refine Go.step (T' := T103) (g' := (mkF m 38 #[.val (.ref a1)] [])) (fun _ k => XS.icmpYes X103.here hx rfl (pc0 := 33) (pc' := 38) rfl (hb hby d_method_4_33) rfl (teq (by decide : (45 : Int32) = (45 : Int32))).1 (by decide) (by decide) k) ?_
  refine Go.step (T' := T103) (g' := (mkF m 39 #[.val (.ref a1)] [(.ref a1)])) (fun _ k => XS.aloadN X103.here hx rfl (hb hby d_method_4_38) rfl rfl k) ?_
  refine Go.step (T' := T103) (g' := (mkF m 40 #[.val (.ref a1)] [(.int (2 : Int32)), (.ref a1)])) (fun _ k => XS.iconst X103.here hx rfl (hb hby d_method_4_39) k) ?_
  obtain ⟨cq104, kq104, q104a, q104b, q104c⟩ := isOf hZ eh103 E1
  obtain ⟨_, _, ⟨T104, L104, k104, n104⟩, -, X104, ⟨Lc104, hQ104, l104, y104, z104⟩, st104⟩ := X103.virtualBack hx (y := (⟨"java/lang/String", "charAt", "(I)C"⟩ : MethodName)) (z := (⟨"java/lang/String", "charAt", "(I)C"⟩ : MethodName)) hown (mvT hZ (hw _ (List.mem_of_getElem? (i := 51) rfl))) (mvT hZ (hw _ (List.mem_of_getElem? (i := 52) rfl))) (notFace_of_selects (args := #[]) (mvT hZ (hw _ (List.mem_of_getElem? (i := 54) rfl)))) (mvT hZ (hw _ (List.mem_of_getElem? (i := 54) rfl))) (mvT hZ (hw _ (List.mem_of_getElem? (i := 53) rfl))) (by decide) (backOf (W := 0) (Q := Qret (some (.int c2)) h0 n0) (own_ch_ l Z a0 hw [] a1 (2 : Int32) gc b1 k1 n vs gf c2 c2 h0 n0 Z0 Sc hgc E1 C1 B1 V1 Sf cgf (own_idx hn).2.2.1.1 (own_idx hn).2.2.1.2 u2 (own_ch r2.1 r2.2) (own_char r2.1 r2.2)) hZ (hw _ (List.mem_of_getElem? (i := 55) rfl)) (hw _ (List.mem_of_getElem? (i := 27) rfl)) (by decide) (by decide)) q104a q104c (g := (mkF m 40 #[.val (.ref a1)] [(.int (2 : Int32)), (.ref a1)])) rfl (by rw [hml]; rfl) (Steps.refl _) (argsL := [(.int (2 : Int32))]) (rest := []) (lenOf own_pd6 rfl) rfl (by show 2 * 0 + _ ≤ _; exact Nat.le_of_eq rfl) (hb hby d_method_4_40) (fun _ _ => ⟨rfl, eh103, (by decide : 0 + 0 ≤ _), (by decide : 0 + 0 ≤ _)⟩)
  dsimp only [Pt.U, Pt.locs, Pt.cells, Pt.slots] at X104 l104 y104 z104 st104 hQ104
  subst l104 y104 z104
  obtain ⟨rfl, N104q, eh104⟩ := hQ104
  have N104 := Fr.app N103 N104q
  refine Go.step (T' := T104) (g' := (mkF m 43 #[.val (.ref a1)] [(.int c2)])) (fun _ k => st104.trans k) ?_
  obtain ⟨_, _, ⟨T105, L105, k105, n105⟩, -, X105, ⟨Lc105, hQ105, l105, y105, z105⟩, st105⟩ := Jvm.LawKit.callS X104 hx (y := (⟨"com/example/noteform/noteform/cli/OptionsOfPinLaw", "lower", "(C)Z"⟩ : MethodName)) hown (mvT hZ (hw _ (List.mem_of_getElem? (i := 73) rfl))) (mvT hZ (hw _ (List.mem_of_getElem? (i := 74) rfl))) (mvT hZ (hw _ (List.mem_of_getElem? (i := 3) rfl))) (mvT hZ (hw _ (List.mem_of_getElem? (i := 75) rfl))) (by decide) (backOf (W := 0) (Q := Qret (some (.int (1 : Int32))) h0 n0) (own_low l Z a0 hw [] c2 h0 n0 Z0 r2.1 r2.2) hZ (hw _ (List.mem_of_getElem? (i := 75) rfl)) (hw _ (List.mem_of_getElem? (i := 3) rfl)) (by decide) (by decide)) (g := (mkF m 43 #[.val (.ref a1)] [(.int c2)])) rfl (by rw [hml]; rfl) (argsL := [(.int c2)]) (rest := []) (lenOf own_pd7 rfl) rfl (by show 2 * 0 + _ ≤ _; exact Nat.le_of_eq rfl) (hb hby d_method_4_43) (fun _ _ => ⟨rfl, eh104, (by decide : 0 + 0 ≤ _), (by decide : 0 + 0 ≤ _)⟩)
  dsimp only [Pt.U, Pt.locs, Pt.cells, Pt.slots] at X105 l105 y105 z105 st105 hQ105
  subst l105 y105 z105
  obtain ⟨rfl, N105q, eh105⟩ := hQ105
  have N105 := Fr.app N104 N105q
  refine Go.step (T' := T105) (g' := (mkF m 46 #[.val (.ref a1)] [(.int (1 : Int32))])) (st105) ?_
  refine Go.step (T' := T105) (g' := (mkF m 49 #[.val (.ref a1)] [])) (fun _ k => XS.ifNo X105.here hx rfl (hb hby d_method_4_46) rfl ((if0 _ _).trans (feq (by decide : ¬ ((1 : Int32) = (0 : Int32)))).1) k) ?_
  refine Go.step (T' := T105) (g' := (mkF m 50 #[.val (.ref a1)] [(.ref a1)])) (fun _ k => XS.aloadN X105.here hx rfl (hb hby d_method_4_49) rfl rfl k) ?_
  refine Go.step (T' := T105) (g' := (mkF m 51 #[.val (.ref a1)] [(.ref a1), (.ref a1)])) (fun _ k => XS.aloadN X105.here hx rfl (hb hby d_method_4_50) rfl rfl k) ?_
  obtain ⟨cq106, kq106, q106a, q106b, q106c⟩ := isOf hZ eh105 E1
  obtain ⟨_, _, ⟨T106, L106, k106, n106⟩, -, X106, ⟨Lc106, hQ106, l106, y106, z106⟩, st106⟩ := X105.virtualBack hx (y := (⟨"java/lang/String", "length", "()I"⟩ : MethodName)) (z := (⟨"java/lang/String", "length", "()I"⟩ : MethodName)) hown (mvT hZ (hw _ (List.mem_of_getElem? (i := 38) rfl))) (mvT hZ (hw _ (List.mem_of_getElem? (i := 39) rfl))) (notFace_of_selects (args := #[]) (mvT hZ (hw _ (List.mem_of_getElem? (i := 41) rfl)))) (mvT hZ (hw _ (List.mem_of_getElem? (i := 41) rfl))) (mvT hZ (hw _ (List.mem_of_getElem? (i := 40) rfl))) (by decide) (backOf (W := 1) (Q := Qret (some (.int n)) h0 n0) (own_len_ l Z a0 hw [] a1 gc b1 k1 n vs h0 n0 Z0 Sc hgc E1 C1 B1 V1) hZ (hw _ (List.mem_of_getElem? (i := 42) rfl)) (hw _ (List.mem_of_getElem? (i := 27) rfl)) (by decide) (by decide)) q106a q106c (g := (mkF m 51 #[.val (.ref a1)] [(.ref a1), (.ref a1)])) rfl (by rw [hml]; rfl) (Steps.refl _) (argsL := []) (rest := [(.ref a1)]) (lenOf own_pd5 rfl) rfl (by show 2 * 0 + _ ≤ _; exact Nat.le_of_eq rfl) (hb hby d_method_4_51) (fun _ _ => ⟨rfl, eh105, (by decide : 0 + 0 ≤ _), (by decide : 0 + 0 ≤ _)⟩)
  dsimp only [Pt.U, Pt.locs, Pt.cells, Pt.slots] at X106 l106 y106 z106 st106 hQ106
  subst l106 y106 z106
  obtain ⟨rfl, N106q, eh106⟩ := hQ106
  have N106 := Fr.app N105 N106q
  refine Go.step (T' := T106) (g' := (mkF m 54 #[.val (.ref a1)] [(.int n), (.ref a1)])) (fun _ k => st106.trans k) ?_
  refine Go.step (T' := T106) (g' := (mkF m 55 #[.val (.ref a1)] [(.int (1 : Int32)), (.int n), (.ref a1)])) (fun _ k => XS.iconst X106.here hx rfl (hb hby d_method_4_54) k) ?_
  refine Go.step (T' := T106) (g' := (mkF m 56 #[.val (.ref a1)] [(.int (n - (1 : Int32))), (.ref a1)])) (fun _ k => XS.isub X106.here hx rfl (hb hby d_method_4_55) rfl k) ?_
  obtain ⟨cq107, kq107, q107a, q107b, q107c⟩ := isOf hZ eh106 E1
  obtain ⟨_, _, ⟨T107, L107, k107, n107⟩, -, X107, ⟨Lc107, hQ107, l107, y107, z107⟩, st107⟩ := X106.virtualBack hx (y := (⟨"java/lang/String", "charAt", "(I)C"⟩ : MethodName)) (z := (⟨"java/lang/String", "charAt", "(I)C"⟩ : MethodName)) hown (mvT hZ (hw _ (List.mem_of_getElem? (i := 51) rfl))) (mvT hZ (hw _ (List.mem_of_getElem? (i := 52) rfl))) (notFace_of_selects (args := #[]) (mvT hZ (hw _ (List.mem_of_getElem? (i := 54) rfl)))) (mvT hZ (hw _ (List.mem_of_getElem? (i := 54) rfl))) (mvT hZ (hw _ (List.mem_of_getElem? (i := 53) rfl))) (by decide) (backOf (W := 0) (Q := Qret (some (.int cL)) h0 n0) (own_ch_ l Z a0 hw [] a1 (n - (1 : Int32)) gc b1 k1 n vs gf cL cL h0 n0 Z0 Sc hgc E1 C1 B1 V1 Sf cgf (own_idx hn).2.2.2.1 (own_idx hn).2.2.2.2 uL (own_ch rL.1 rL.2) (own_char rL.1 rL.2)) hZ (hw _ (List.mem_of_getElem? (i := 55) rfl)) (hw _ (List.mem_of_getElem? (i := 27) rfl)) (by decide) (by decide)) q107a q107c (g := (mkF m 56 #[.val (.ref a1)] [(.int (n - (1 : Int32))), (.ref a1)])) rfl (by rw [hml]; rfl) (Steps.refl _) (argsL := [(.int (n - (1 : Int32)))]) (rest := []) (lenOf own_pd6 rfl) rfl (by show 2 * 0 + _ ≤ _; exact Nat.le_of_eq rfl) (hb hby d_method_4_56) (fun _ _ => ⟨rfl, eh106, (by decide : 0 + 0 ≤ _), (by decide : 0 + 0 ≤ _)⟩)
  dsimp only [Pt.U, Pt.locs, Pt.cells, Pt.slots] at X107 l107 y107 z107 st107 hQ107
  subst l107 y107 z107
  obtain ⟨rfl, N107q, eh107⟩ := hQ107
  have N107 := Fr.app N106 N107q
  refine Go.step (T' := T107) (g' := (mkF m 59 #[.val (.ref a1)] [(.int cL)])) (fun _ k => st107.trans k) ?_
  obtain ⟨_, _, ⟨T108, L108, k108, n108⟩, -, X108, ⟨Lc108, hQ108, l108, y108, z108⟩, st108⟩ := Jvm.LawKit.callS X107 hx (y := (⟨"com/example/noteform/noteform/cli/OptionsOfPinLaw", "lower", "(C)Z"⟩ : MethodName)) hown (mvT hZ (hw _ (List.mem_of_getElem? (i := 73) rfl))) (mvT hZ (hw _ (List.mem_of_getElem? (i := 74) rfl))) (mvT hZ (hw _ (List.mem_of_getElem? (i := 3) rfl))) (mvT hZ (hw _ (List.mem_of_getElem? (i := 75) rfl))) (by decide) (backOf (W := 0) (Q := Qret (some (.int (1 : Int32))) h0 n0) (own_low l Z a0 hw [] cL h0 n0 Z0 rL.1 rL.2) hZ (hw _ (List.mem_of_getElem? (i := 75) rfl)) (hw _ (List.mem_of_getElem? (i := 3) rfl)) (by decide) (by decide)) (g := (mkF m 59 #[.val (.ref a1)] [(.int cL)])) rfl (by rw [hml]; rfl) (argsL := [(.int cL)]) (rest := []) (lenOf own_pd7 rfl) rfl (by show 2 * 0 + _ ≤ _; exact Nat.le_of_eq rfl) (hb hby d_method_4_59) (fun _ _ => ⟨rfl, eh107, (by decide : 0 + 0 ≤ _), (by decide : 0 + 0 ≤ _)⟩)
  dsimp only [Pt.U, Pt.locs, Pt.cells, Pt.slots] at X108 l108 y108 z108 st108 hQ108
  subst l108 y108 z108
  obtain ⟨rfl, N108q, eh108⟩ := hQ108
  have N108 := Fr.app N107 N108q
  refine Go.step (T' := T108) (g' := (mkF m 62 #[.val (.ref a1)] [(.int (1 : Int32))])) (st108) ?_
  refine Go.step (T' := T108) (g' := (mkF m 65 #[.val (.ref a1)] [])) (fun _ k => XS.ifNo X108.here hx rfl (hb hby d_method_4_62) rfl ((if0 _ _).trans (feq (by decide : ¬ ((1 : Int32) = (0 : Int32)))).1) k) ?_
  refine Go.step (T' := T108) (g' := (mkF m 66 #[.val (.ref a1)] [(.int (1 : Int32))])) (fun _ k => XS.iconst X108.here hx rfl (hb hby d_method_4_65) k) ?_
  refine Go.step (T' := T108) (g' := (mkF m 70 #[.val (.ref a1)] [(.int (1 : Int32))])) (fun _ k => XS.goto X108.here hx rfl (pc0 := 66) (pc' := 70) rfl (hb hby d_method_4_66) (by decide) (by decide) k) ?_
  exact Go.retN X108 hx (t := .boolean) hret hlk (by simp) (hb hby d_method_4_70) (⟨rfl, N108, eh108⟩) (by decide) (by decide)
theorem own_getD (xs : List Int32) (i : Nat) : (xs.map Value.int).getD i (.int (0 : Int32)) = .int (xs.getD i 0) := by
  simp only [List.getD_eq_getElem?_getD, List.getElem?_map]
  cases xs[i]? <;> rfl
theorem own_nat {i n : Nat} (hn : n < 1000) (h : i < n) : ¬ Int32.ofNat i < 0 ∧ Int32.ofNat i < Int32.ofNat n := by
  rw [Int32.lt_iff_toInt_lt, Int32.lt_iff_toInt_lt, Int32.toInt_ofNat_of_lt (by omega), Int32.toInt_ofNat_of_lt (by omega), show (0 : Int32).toInt = 0 from rfl]
  omega
theorem own_natc {i : Nat} (h : i < 1000) : (Int32.ofNat i).toNatClampNeg = i := by rw [Int32.toNatClampNeg, Int32.toInt_ofNat_of_lt (by omega)]; rfl
theorem own_at (xs : List Int32) {i : Nat} (h : i < 1000) : (xs.map Value.int).getD (Int32.ofNat i).toNatClampNeg (.int (0 : Int32)) = .int (xs.getD i 0) := by rw [own_natc h, own_getD]
theorem own_drop {xs ys : List Int32} {i : Nat} (h : i < xs.length) (h' : i < ys.length) : xs.drop i = ys.drop i ↔ xs.getD i 0 = ys.getD i 0 ∧ xs.drop (i + 1) = ys.drop (i + 1) := by
  rw [List.drop_eq_getElem_cons h, List.drop_eq_getElem_cons h', List.cons.injEq]
  simp [List.getD_eq_getElem?_getD, h, h']
theorem d_jdk_43_method_13_9 : decode jdk_43_method_13_code 9 = .ok (.iload_n 2, 1) := by decide +kernel
theorem d_jdk_43_method_13_10 : decode jdk_43_method_13_code 10 = .ok (.aload_n 0, 1) := by decide +kernel
theorem d_jdk_43_method_13_11 : decode jdk_43_method_13_code 11 = .ok (.arraylength, 1) := by decide +kernel
theorem d_jdk_43_method_13_12 : decode jdk_43_method_13_code 12 = .ok (.if_icmp .ge 20, 3) := by decide +kernel
theorem d_jdk_43_method_13_32 : decode jdk_43_method_13_code 32 = .ok (.iconst 1, 1) := by decide +kernel
theorem d_jdk_43_method_13_33 : decode jdk_43_method_13_code 33 = .ok (.ireturn, 1) := by decide +kernel
theorem d_jdk_43_method_13_15 : decode jdk_43_method_13_code 15 = .ok (.aload_n 0, 1) := by decide +kernel
theorem d_jdk_43_method_13_16 : decode jdk_43_method_13_code 16 = .ok (.iload_n 2, 1) := by decide +kernel
theorem d_jdk_43_method_13_17 : decode jdk_43_method_13_code 17 = .ok (.baload, 1) := by decide +kernel
theorem d_jdk_43_method_13_18 : decode jdk_43_method_13_code 18 = .ok (.aload_n 1, 1) := by decide +kernel
theorem d_jdk_43_method_13_19 : decode jdk_43_method_13_code 19 = .ok (.iload_n 2, 1) := by decide +kernel
theorem d_jdk_43_method_13_20 : decode jdk_43_method_13_code 20 = .ok (.baload, 1) := by decide +kernel
theorem d_jdk_43_method_13_21 : decode jdk_43_method_13_code 21 = .ok (.if_icmp .eq 5, 3) := by decide +kernel
theorem d_jdk_43_method_13_26 : decode jdk_43_method_13_code 26 = .ok (.iinc 2 1, 3) := by decide +kernel
theorem d_jdk_43_method_13_29 : decode jdk_43_method_13_code 29 = .ok (.goto (-20), 3) := by decide +kernel
theorem d_jdk_43_method_13_24 : decode jdk_43_method_13_code 24 = .ok (.iconst 0, 1) := by decide +kernel
theorem d_jdk_43_method_13_25 : decode jdk_43_method_13_code 25 = .ok (.ireturn, 1) := by decide +kernel
theorem own_one (i : Nat) : Int32.ofNat i + (1 : Int32) = Int32.ofNat (i + 1) := (Int32.ofNat_add i 1).symm
set_option maxRecDepth 65536 in
set_option maxHeartbeats 40000000 in
theorem own_loop {p : Program} {l : Launch} {e : Env} {R : Room} {s : State} {m : MethodId} {args : Array Value} {below : List Frame} {meth : Method} {c : Code} {locs : List Loc} {cells slots kc ks : Nat} {Z : State} {a0 : Array Value} {h0 : Heap} {n0 : Nat} (b1 b2 : Addr) (k1 k2 : ClassId) (xs ys : List Int32) (hx : p.tables.exec = Jvm.exec) (hZ : Z.Warmed39 s.vm) (hw : ∀ d ∈ tables_1, d.before a0 Z = true) (hby : c.code = jdk_43_method_13_code) (hml : c.maxLocals = 3) (hret : meth.sig.returnType = some .boolean) (hlk : meth.locks = false) (N0 : Fr n0 locs) (hcl : cells = 0) (hsl : slots = 0) (V1 : Arv Z h0 b1 k1 .byte (Int32.ofNat xs.length) (xs.map Value.int) (.int (0 : Int32))) (V2 : Arv Z h0 b2 k2 .byte (Int32.ofNat ys.length) (ys.map Value.int) (.int (0 : Int32))) (hlen : xs.length < 1000) (hl2 : xs.length = ys.length) :
    ∀ k i, i + k = xs.length → ∀ {T0 : State}, Stand p l e R s m args below meth c T0 locs cells slots → T0.heap = h0 → Go p e below s (Qret (some (.int (if xs.drop i = ys.drop i then 1 else 0))) h0 n0) 0 0 T0 (mkF m 9 #[.val (.ref b1), .val (.ref b2), .val (.int (Int32.ofNat i))] []) := by
  subst hcl hsl
  intro k
  induction k with
  | zero =>
    intro i hi T0 X0 e0
    obtain rfl : i = xs.length := by omega
    have hz : ¬ Int32.ofNat xs.length < Int32.ofNat xs.length := Int32.lt_irrefl
    have hd : (if xs.drop xs.length = ys.drop xs.length then (1 : Int32) else 0) = 1 := by rw [hl2, List.drop_length, ← hl2, List.drop_length, if_pos rfl]
    refine Go.step (T' := T0) (g' := (mkF m 10 #[.val (.ref b1), .val (.ref b2), .val (.int (Int32.ofNat xs.length))] [(.int (Int32.ofNat xs.length))])) (fun _ k => XS.iloadN X0.here hx rfl (hb hby d_jdk_43_method_13_9) rfl  k) ?_
    refine Go.step (T' := T0) (g' := (mkF m 11 #[.val (.ref b1), .val (.ref b2), .val (.int (Int32.ofNat xs.length))] [(.ref b1), (.int (Int32.ofNat xs.length))])) (fun _ k => XS.aloadN X0.here hx rfl (hb hby d_jdk_43_method_13_10) rfl rfl k) ?_
    obtain ⟨cl101, Ar101, -, S101, M101, -, -⟩ := id V1
    refine Go.step (T' := T0) (g' := (mkF m 12 #[.val (.ref b1), .val (.ref b2), .val (.int (Int32.ofNat xs.length))] [(.int (Int32.ofNat xs.length)), (.int (Int32.ofNat xs.length))])) (fun _ k => X0.arraylength hx (cell := cl101) (by rw [e0]; exact Ar101.1) (State.isArrayOf_alike hZ.alike Ar101.2.1) (g := (mkF m 11 #[.val (.ref b1), .val (.ref b2), .val (.int (Int32.ofNat xs.length))] [(.ref b1), (.int (Int32.ofNat xs.length))])) rfl (rest := [(.int (Int32.ofNat xs.length))]) rfl (hb hby d_jdk_43_method_13_11) _ (by rw [len_of S101 M101]; exact k)) ?_
    refine Go.step (T' := T0) (g' := (mkF m 32 #[.val (.ref b1), .val (.ref b2), .val (.int (Int32.ofNat xs.length))] [])) (fun _ k => XS.icmpYes X0.here hx rfl (pc0 := 12) (pc' := 32) rfl (hb hby d_jdk_43_method_13_12) rfl (flt hz).2.1 (by decide) (by decide) k) ?_
    refine Go.step (T' := T0) (g' := (mkF m 33 #[.val (.ref b1), .val (.ref b2), .val (.int (Int32.ofNat xs.length))] [(.int (1 : Int32))])) (fun _ k => XS.iconst X0.here hx rfl (hb hby d_jdk_43_method_13_32) k) ?_
    exact Go.retN X0 hx (t := .boolean) hret hlk (by simp) (hb hby d_jdk_43_method_13_33) (⟨by rw [hd]; rfl, N0, e0⟩) (Nat.zero_le _) (Nat.zero_le _)
  | succ k ih =>
    intro i hik T0 X0 e0
    have hi : i < xs.length := by omega
    refine Go.step (T' := T0) (g' := (mkF m 10 #[.val (.ref b1), .val (.ref b2), .val (.int (Int32.ofNat i))] [(.int (Int32.ofNat i))])) (fun _ k => XS.iloadN X0.here hx rfl (hb hby d_jdk_43_method_13_9) rfl  k) ?_
    refine Go.step (T' := T0) (g' := (mkF m 11 #[.val (.ref b1), .val (.ref b2), .val (.int (Int32.ofNat i))] [(.ref b1), (.int (Int32.ofNat i))])) (fun _ k => XS.aloadN X0.here hx rfl (hb hby d_jdk_43_method_13_10) rfl rfl k) ?_
    obtain ⟨cl101, Ar101, -, S101, M101, -, -⟩ := id V1
    refine Go.step (T' := T0) (g' := (mkF m 12 #[.val (.ref b1), .val (.ref b2), .val (.int (Int32.ofNat i))] [(.int (Int32.ofNat xs.length)), (.int (Int32.ofNat i))])) (fun _ k => X0.arraylength hx (cell := cl101) (by rw [e0]; exact Ar101.1) (State.isArrayOf_alike hZ.alike Ar101.2.1) (g := (mkF m 11 #[.val (.ref b1), .val (.ref b2), .val (.int (Int32.ofNat i))] [(.ref b1), (.int (Int32.ofNat i))])) rfl (rest := [(.int (Int32.ofNat i))]) rfl (hb hby d_jdk_43_method_13_11) _ (by rw [len_of S101 M101]; exact k)) ?_
    refine Go.step (T' := T0) (g' := (mkF m 15 #[.val (.ref b1), .val (.ref b2), .val (.int (Int32.ofNat i))] [])) (fun _ k => XS.icmpNo X0.here hx rfl (hb hby d_jdk_43_method_13_12) rfl (tlt (own_nat hlen hi).2).2.1 k) ?_
    refine Go.step (T' := T0) (g' := (mkF m 16 #[.val (.ref b1), .val (.ref b2), .val (.int (Int32.ofNat i))] [(.ref b1)])) (fun _ k => XS.aloadN X0.here hx rfl (hb hby d_jdk_43_method_13_15) rfl rfl k) ?_
    refine Go.step (T' := T0) (g' := (mkF m 17 #[.val (.ref b1), .val (.ref b2), .val (.int (Int32.ofNat i))] [(.int (Int32.ofNat i)), (.ref b1)])) (fun _ k => XS.iloadN X0.here hx rfl (hb hby d_jdk_43_method_13_16) rfl  k) ?_
    obtain ⟨cl102, Ar102, q102, S102, M102, H102, G102⟩ := id V1
    have I102 := inb_of (j := (Int32.ofNat i)) S102 (own_nat hlen hi)
    refine Go.step (T' := T0) (g' := (mkF m 18 #[.val (.ref b1), .val (.ref b2), .val (.int (Int32.ofNat i))] [(.int (xs.getD i 0))])) (fun _ k => X0.baloadBytes hx (j := (Int32.ofNat i)) (v := (.int (xs.getD i 0))) (by rw [e0]; exact Ar102.1) (State.isArrayOf_alike hZ.alike Ar102.2.1) Ar102.2.2 I102 (Has.at H102 I102 (own_at xs (by omega))) (g := (mkF m 17 #[.val (.ref b1), .val (.ref b2), .val (.int (Int32.ofNat i))] [(.int (Int32.ofNat i)), (.ref b1)])) rfl rfl (hb hby d_jdk_43_method_13_17) _ k) ?_
    refine Go.step (T' := T0) (g' := (mkF m 19 #[.val (.ref b1), .val (.ref b2), .val (.int (Int32.ofNat i))] [(.ref b2), (.int (xs.getD i 0))])) (fun _ k => XS.aloadN X0.here hx rfl (hb hby d_jdk_43_method_13_18) rfl rfl k) ?_
    refine Go.step (T' := T0) (g' := (mkF m 20 #[.val (.ref b1), .val (.ref b2), .val (.int (Int32.ofNat i))] [(.int (Int32.ofNat i)), (.ref b2), (.int (xs.getD i 0))])) (fun _ k => XS.iloadN X0.here hx rfl (hb hby d_jdk_43_method_13_19) rfl  k) ?_
    obtain ⟨cl103, Ar103, q103, S103, M103, H103, G103⟩ := id V2
    have I103 := inb_of (j := (Int32.ofNat i)) S103 (own_nat (n := ys.length) (by omega) (by omega))
    refine Go.step (T' := T0) (g' := (mkF m 21 #[.val (.ref b1), .val (.ref b2), .val (.int (Int32.ofNat i))] [(.int (ys.getD i 0)), (.int (xs.getD i 0))])) (fun _ k => X0.baloadBytes hx (j := (Int32.ofNat i)) (v := (.int (ys.getD i 0))) (by rw [e0]; exact Ar103.1) (State.isArrayOf_alike hZ.alike Ar103.2.1) Ar103.2.2 I103 (Has.at H103 I103 (own_at ys (by omega))) (g := (mkF m 20 #[.val (.ref b1), .val (.ref b2), .val (.int (Int32.ofNat i))] [(.int (Int32.ofNat i)), (.ref b2), (.int (xs.getD i 0))])) rfl rfl (hb hby d_jdk_43_method_13_20) _ k) ?_
    by_cases hc104 : (xs.getD i 0) = (ys.getD i 0)
    · skip
      refine Go.step (T' := T0) (g' := (mkF m 26 #[.val (.ref b1), .val (.ref b2), .val (.int (Int32.ofNat i))] [])) (fun _ k => XS.icmpYes X0.here hx rfl (pc0 := 21) (pc' := 26) rfl (hb hby d_jdk_43_method_13_21) rfl (teq hc104).1 (by decide) (by decide) k) ?_
      refine Go.step (T' := T0) (g' := (mkF m 29 #[.val (.ref b1), .val (.ref b2), .val (.int ((Int32.ofNat i) + (1 : Int32)))] [])) (fun _ k => XS.iinc X0.here hx rfl (hb hby d_jdk_43_method_13_26) rfl (l' := #[.val (.ref b1), .val (.ref b2), .val (.int ((Int32.ofNat i) + (1 : Int32)))]) rfl k) ?_
      refine Go.step (T' := T0) (g' := (mkF m 9 #[.val (.ref b1), .val (.ref b2), .val (.int ((Int32.ofNat i) + (1 : Int32)))] [])) (fun _ k => XS.goto X0.here hx rfl (pc0 := 29) (pc' := 9) rfl (hb hby d_jdk_43_method_13_29) (by decide) (by decide) k) ?_
      rw [own_one]
      have e9 : (if xs.drop i = ys.drop i then (1 : Int32) else 0) = if xs.drop (i + 1) = ys.drop (i + 1) then 1 else 0 := own_ifc ((own_drop hi (by omega)).trans ⟨fun q => q.2, fun q => ⟨hc104, q⟩⟩)
      rw [e9]
      exact ih (i + 1) (by omega) X0 e0
    · skip
      refine Go.step (T' := T0) (g' := (mkF m 24 #[.val (.ref b1), .val (.ref b2), .val (.int (Int32.ofNat i))] [])) (fun _ k => XS.icmpNo X0.here hx rfl (hb hby d_jdk_43_method_13_21) rfl (feq hc104).1 k) ?_
      refine Go.step (T' := T0) (g' := (mkF m 25 #[.val (.ref b1), .val (.ref b2), .val (.int (Int32.ofNat i))] [(.int (0 : Int32))])) (fun _ k => XS.iconst X0.here hx rfl (hb hby d_jdk_43_method_13_24) k) ?_
      exact Go.retN X0 hx (t := .boolean) hret hlk (by simp) (hb hby d_jdk_43_method_13_25) (⟨by rw [if_neg (fun q => hc104 ((own_drop hi (by omega)).mp q).1)]; rfl, N0, e0⟩) (Nat.zero_le _) (Nat.zero_le _)
theorem own_ef_jdk_43_method_13_code_RR (m : MethodId) (x0 : Addr) (x1 : Addr) : entryFrame m #[(.ref x0), (.ref x1)] 3 = mkF m 0 #[.val (.ref x0), .val (.ref x1), .unset] [] := by first | (simp [entryFrame, mkF, argsToLocals, Value.category]; done) | rfl | (simp [entryFrame, mkF, argsToLocals, own_cI, own_cJ, own_cR, own_cN]; done)
theorem d_jdk_43_method_13_0 : decode jdk_43_method_13_code 0 = .ok (.aload_n 0, 1) := by decide +kernel
theorem d_jdk_43_method_13_1 : decode jdk_43_method_13_code 1 = .ok (.arraylength, 1) := by decide +kernel
theorem d_jdk_43_method_13_2 : decode jdk_43_method_13_code 2 = .ok (.aload_n 1, 1) := by decide +kernel
theorem d_jdk_43_method_13_3 : decode jdk_43_method_13_code 3 = .ok (.arraylength, 1) := by decide +kernel
theorem d_jdk_43_method_13_4 : decode jdk_43_method_13_code 4 = .ok (.if_icmp .ne 30, 3) := by decide +kernel
theorem d_jdk_43_method_13_7 : decode jdk_43_method_13_code 7 = .ok (.iconst 0, 1) := by decide +kernel
theorem d_jdk_43_method_13_8 : decode jdk_43_method_13_code 8 = .ok (.istore_n 2, 1) := by decide +kernel
theorem d_jdk_43_method_13_34 : decode jdk_43_method_13_code 34 = .ok (.iconst 0, 1) := by decide +kernel
theorem d_jdk_43_method_13_35 : decode jdk_43_method_13_code 35 = .ok (.ireturn, 1) := by decide +kernel
set_option maxRecDepth 65536 in
set_option maxHeartbeats 40000000 in
theorem own_leq (l : Launch) (Z : State) (a0 : Array Value) (hw : ∀ d ∈ tables_1, d.before a0 Z = true) (ws : List Jvm.Cond) (b1 b2 : Addr) (k1 k2 : ClassId) (xs ys : List Int32) (h0 : Heap) (n0 : Nat) (Z0 : n0 ≤ h0.size) (V1 : Arv Z h0 b1 k1 .byte (Int32.ofNat xs.length) (xs.map Value.int) (.int (0 : Int32))) (V2 : Arv Z h0 b2 k2 .byte (Int32.ofNat ys.length) (ys.map Value.int) (.int (0 : Int32))) (hlen : xs.length < 1000) (hlen2 : ys.length < 1000) :
    Con l Z (⟨"java/lang/StringLatin1", "equals", "([B[B)Z"⟩ : MethodName) jdk_43_method_13_code 3 (some .boolean) ({ frames := 0, cells := 0, slots := 0, locals := 0 } : Room) ws #[(.ref b1), (.ref b2)] h0 (Qret (some (.int (if xs = ys then 1 else 0))) h0 n0) 0 0 := by
  refine Con.of (plainFor_of_name own_pn_StringLatin1) ?_
  intro pgm e s m below meth c s₁ X0 hx hZ hby hml hown hnm hret hlk e0 hs0
  have N0 := Fr.nil n0
  have hown : s.vm.findClass "java/lang/StringLatin1" = some m.cls := hown
  have hnm : meth.name = "equals" := hnm
  refine Go.cast (own_ef_jdk_43_method_13_code_RR m b1 b2) ?_
  refine Go.step (T' := s₁) (g' := (mkF m 1 #[.val (.ref b1), .val (.ref b2), .unset] [(.ref b1)])) (fun _ k => XS.aloadN X0.here hx rfl (hb hby d_jdk_43_method_13_0) rfl rfl k) ?_
  obtain ⟨cl101, Ar101, -, S101, M101, -, -⟩ := id V1
  refine Go.step (T' := s₁) (g' := (mkF m 2 #[.val (.ref b1), .val (.ref b2), .unset] [(.int (Int32.ofNat xs.length))])) (fun _ k => X0.arraylength hx (cell := cl101) (by rw [e0]; exact Ar101.1) (State.isArrayOf_alike hZ.alike Ar101.2.1) (g := (mkF m 1 #[.val (.ref b1), .val (.ref b2), .unset] [(.ref b1)])) rfl (rest := []) rfl (hb hby d_jdk_43_method_13_1) _ (by rw [len_of S101 M101]; exact k)) ?_
  refine Go.step (T' := s₁) (g' := (mkF m 3 #[.val (.ref b1), .val (.ref b2), .unset] [(.ref b2), (.int (Int32.ofNat xs.length))])) (fun _ k => XS.aloadN X0.here hx rfl (hb hby d_jdk_43_method_13_2) rfl rfl k) ?_
  obtain ⟨cl102, Ar102, -, S102, M102, -, -⟩ := id V2
  refine Go.step (T' := s₁) (g' := (mkF m 4 #[.val (.ref b1), .val (.ref b2), .unset] [(.int (Int32.ofNat ys.length)), (.int (Int32.ofNat xs.length))])) (fun _ k => X0.arraylength hx (cell := cl102) (by rw [e0]; exact Ar102.1) (State.isArrayOf_alike hZ.alike Ar102.2.1) (g := (mkF m 3 #[.val (.ref b1), .val (.ref b2), .unset] [(.ref b2), (.int (Int32.ofNat xs.length))])) rfl (rest := [(.int (Int32.ofNat xs.length))]) rfl (hb hby d_jdk_43_method_13_3) _ (by rw [len_of S102 M102]; exact k)) ?_
  by_cases hl2 : xs.length = ys.length
  · skip
    have hq : Int32.ofNat xs.length = Int32.ofNat ys.length := by rw [hl2]
    refine Go.step (T' := s₁) (g' := (mkF m 7 #[.val (.ref b1), .val (.ref b2), .unset] [])) (fun _ k => XS.icmpNo X0.here hx rfl (hb hby d_jdk_43_method_13_4) rfl (teq hq).2 k) ?_
    refine Go.step (T' := s₁) (g' := (mkF m 8 #[.val (.ref b1), .val (.ref b2), .unset] [(.int (0 : Int32))])) (fun _ k => XS.iconst X0.here hx rfl (hb hby d_jdk_43_method_13_7) k) ?_
    refine Go.step (T' := s₁) (g' := (mkF m 9 #[.val (.ref b1), .val (.ref b2), .val (.int (0 : Int32))] [])) (fun _ k => XS.istoreN X0.here hx rfl (hb hby d_jdk_43_method_13_8) rfl (l' := #[.val (.ref b1), .val (.ref b2), .val (.int (0 : Int32))]) rfl k) ?_
    have e9 : (if xs = ys then (1 : Int32) else 0) = if xs.drop 0 = ys.drop 0 then 1 else 0 := by rw [List.drop_zero, List.drop_zero]
    rw [e9]
    exact own_loop (kc := 0) (ks := 0) b1 b2 k1 k2 xs ys hx hZ hw hby hml hret hlk N0 rfl rfl V1 V2 hlen hl2 xs.length 0 (by omega) X0 e0
  · skip
    have hq : ¬ Int32.ofNat xs.length = Int32.ofNat ys.length := fun q => hl2 (by have r := congrArg Int32.toNatClampNeg q; rwa [own_natc hlen, own_natc hlen2] at r)
    refine Go.step (T' := s₁) (g' := (mkF m 34 #[.val (.ref b1), .val (.ref b2), .unset] [])) (fun _ k => XS.icmpYes X0.here hx rfl (pc0 := 4) (pc' := 34) rfl (hb hby d_jdk_43_method_13_4) rfl (feq hq).2 (by decide) (by decide) k) ?_
    refine Go.step (T' := s₁) (g' := (mkF m 35 #[.val (.ref b1), .val (.ref b2), .unset] [(.int (0 : Int32))])) (fun _ k => XS.iconst X0.here hx rfl (hb hby d_jdk_43_method_13_34) k) ?_
    exact Go.retN X0 hx (t := .boolean) hret hlk (by simp) (hb hby d_jdk_43_method_13_35) (⟨by rw [if_neg (fun q => hl2 (by rw [q]))]; rfl, N0, e0⟩) (by decide) (by decide)
theorem own_same {Z : State} {h : Heap} {a b1 b2 : Addr} {k1 k2 : ClassId} {xs ys : List Int32} (F : Fld Z h a "java/lang/String" "value" "[B" (.ref b1)) (G : Fld Z h a "java/lang/String" "value" "[B" (.ref b2)) (A : Arv Z h b1 k1 .byte (Int32.ofNat xs.length) (xs.map Value.int) (.int (0 : Int32))) (B : Arv Z h b2 k2 .byte (Int32.ofNat ys.length) (ys.map Value.int) (.int (0 : Int32))) (h1 : xs.length < 1000) (h2 : ys.length < 1000) : xs = ys := by
  by_cases q : b1 = b2
  · subst q
    by_cases hl : xs.length = ys.length
    · refine List.ext_getElem hl fun i i1 i2 => ?_
      by_cases r : xs[i] = ys[i]
      · exact r
      · refine absurd rfl (arv_ne A B (Or.inr ⟨i, by rw [own_natc h1]; exact i1, fun t => r ?_⟩))
        rw [own_getD, own_getD] at t
        have t' := Value.int.inj t
        simpa [List.getD_eq_getElem?_getD, i1, i2] using t'
    · exact absurd rfl (arv_ne A B (Or.inl (by rw [own_natc h1, own_natc h2]; exact hl)))
  · exact absurd rfl (F.ne G (fun r => q (Value.ref.inj r)))
theorem own_ef_jdk_42_method_66_code_RR (m : MethodId) (x0 : Addr) (x1 : Addr) : entryFrame m #[(.ref x0), (.ref x1)] 3 = mkF m 0 #[.val (.ref x0), .val (.ref x1), .unset] [] := by first | (simp [entryFrame, mkF, argsToLocals, Value.category]; done) | rfl | (simp [entryFrame, mkF, argsToLocals, own_cI, own_cJ, own_cR, own_cN]; done)
theorem d_jdk_42_method_66_0 : decode jdk_42_method_66_code 0 = .ok (.aload_n 0, 1) := by decide +kernel
theorem d_jdk_42_method_66_1 : decode jdk_42_method_66_code 1 = .ok (.aload_n 1, 1) := by decide +kernel
theorem d_jdk_42_method_66_2 : decode jdk_42_method_66_code 2 = .ok (.if_acmp .ne 5, 3) := by decide +kernel
theorem d_jdk_42_method_66_5 : decode jdk_42_method_66_code 5 = .ok (.iconst 1, 1) := by decide +kernel
theorem d_jdk_42_method_66_6 : decode jdk_42_method_66_code 6 = .ok (.ireturn, 1) := by decide +kernel
theorem d_jdk_42_method_66_7 : decode jdk_42_method_66_code 7 = .ok (.aload_n 1, 1) := by decide +kernel
theorem d_jdk_42_method_66_8 : decode jdk_42_method_66_code 8 = .ok (.instanceof 10, 3) := by decide +kernel
theorem d_jdk_42_method_66_11 : decode jdk_42_method_66_code 11 = .ok (.ifCond .eq 43, 3) := by decide +kernel
theorem d_jdk_42_method_66_14 : decode jdk_42_method_66_code 14 = .ok (.aload_n 1, 1) := by decide +kernel
theorem d_jdk_42_method_66_15 : decode jdk_42_method_66_code 15 = .ok (.checkcast 10, 3) := by decide +kernel
theorem d_jdk_42_method_66_18 : decode jdk_42_method_66_code 18 = .ok (.astore_n 2, 1) := by decide +kernel
theorem d_jdk_42_method_66_19 : decode jdk_42_method_66_code 19 = .ok (.getstatic 38, 3) := by decide +kernel
theorem d_jdk_42_method_66_22 : decode jdk_42_method_66_code 22 = .ok (.ifCond .eq 14, 3) := by decide +kernel
theorem d_jdk_42_method_66_25 : decode jdk_42_method_66_code 25 = .ok (.aload_n 0, 1) := by decide +kernel
theorem d_jdk_42_method_66_26 : decode jdk_42_method_66_code 26 = .ok (.getfield 15, 3) := by decide +kernel
theorem d_jdk_42_method_66_29 : decode jdk_42_method_66_code 29 = .ok (.aload_n 2, 1) := by decide +kernel
theorem d_jdk_42_method_66_30 : decode jdk_42_method_66_code 30 = .ok (.getfield 15, 3) := by decide +kernel
theorem d_jdk_42_method_66_33 : decode jdk_42_method_66_code 33 = .ok (.if_icmp .ne 21, 3) := by decide +kernel
theorem d_jdk_42_method_66_36 : decode jdk_42_method_66_code 36 = .ok (.aload_n 0, 1) := by decide +kernel
theorem d_jdk_42_method_66_37 : decode jdk_42_method_66_code 37 = .ok (.getfield 9, 3) := by decide +kernel
theorem d_jdk_42_method_66_40 : decode jdk_42_method_66_code 40 = .ok (.aload_n 2, 1) := by decide +kernel
theorem d_jdk_42_method_66_41 : decode jdk_42_method_66_code 41 = .ok (.getfield 9, 3) := by decide +kernel
theorem d_jdk_42_method_66_44 : decode jdk_42_method_66_code 44 = .ok (.invokestatic 541, 3) := by decide +kernel
theorem own_pd8 : parseMethodDescriptor "([B[B)Z" = some ⟨[(.array .byte), (.array .byte)], some .boolean⟩ := by decide +kernel
theorem d_jdk_42_method_66_47 : decode jdk_42_method_66_code 47 = .ok (.ifCond .eq 7, 3) := by decide +kernel
theorem d_jdk_42_method_66_50 : decode jdk_42_method_66_code 50 = .ok (.iconst 1, 1) := by decide +kernel
theorem d_jdk_42_method_66_51 : decode jdk_42_method_66_code 51 = .ok (.goto 4, 3) := by decide +kernel
theorem d_jdk_42_method_66_55 : decode jdk_42_method_66_code 55 = .ok (.ireturn, 1) := by decide +kernel
theorem d_jdk_42_method_66_54 : decode jdk_42_method_66_code 54 = .ok (.iconst 0, 1) := by decide +kernel
set_option maxRecDepth 65536 in
set_option maxHeartbeats 40000000 in
theorem own_eq (l : Launch) (Z : State) (a0 : Array Value) (hw : ∀ d ∈ tables_1, d.before a0 Z = true) (ws : List Jvm.Cond) (a1 a2 : Addr) (gc : Int32) (b1 b2 : Addr) (k1 k2 : ClassId) (xs ys : List Int32) (h0 : Heap) (n0 : Nat) (Z0 : n0 ≤ h0.size) (Sc : Sta Z h0 "java/lang/String" "COMPACT_STRINGS" "Z" (.int gc)) (hgc : ¬ gc = (0 : Int32)) (E1 : Exa Z h0 a1 "java/lang/String") (C1 : Fld Z h0 a1 "java/lang/String" "coder" "B" (.int (0 : Int32))) (B1 : Fld Z h0 a1 "java/lang/String" "value" "[B" (.ref b1)) (V1 : Arv Z h0 b1 k1 .byte (Int32.ofNat xs.length) (xs.map Value.int) (.int (0 : Int32))) (E2 : Exa Z h0 a2 "java/lang/String") (C2 : Fld Z h0 a2 "java/lang/String" "coder" "B" (.int (0 : Int32))) (B2 : Fld Z h0 a2 "java/lang/String" "value" "[B" (.ref b2)) (V2 : Arv Z h0 b2 k2 .byte (Int32.ofNat ys.length) (ys.map Value.int) (.int (0 : Int32))) (hlen : xs.length < 1000) (hlen2 : ys.length < 1000) :
    Con l Z (⟨"java/lang/String", "equals", "(Ljava/lang/Object;)Z"⟩ : MethodName) jdk_42_method_66_code 3 (some .boolean) ({ frames := 1, cells := 0, slots := 0, locals := 14 } : Room) ws #[(.ref a1), (.ref a2)] h0 (Qret (some (.int (if xs = ys then 1 else 0))) h0 n0) 0 0 := by
  refine Con.of (plainFor_of_name own_pn_String) ?_
  intro pgm e s m below meth c s₁ X0 hx hZ hby hml hown hnm hret hlk e0 hs0
  have N0 := Fr.nil n0
  have hown : s.vm.findClass "java/lang/String" = some m.cls := hown
  have hnm : meth.name = "equals" := hnm
  refine Go.cast (own_ef_jdk_42_method_66_code_RR m a1 a2) ?_
  refine Go.step (T' := s₁) (g' := (mkF m 1 #[.val (.ref a1), .val (.ref a2), .unset] [(.ref a1)])) (fun _ k => XS.aloadN X0.here hx rfl (hb hby d_jdk_42_method_66_0) rfl rfl k) ?_
  refine Go.step (T' := s₁) (g' := (mkF m 2 #[.val (.ref a1), .val (.ref a2), .unset] [(.ref a2), (.ref a1)])) (fun _ k => XS.aloadN X0.here hx rfl (hb hby d_jdk_42_method_66_1) rfl rfl k) ?_
  by_cases ha101 : a1 = a2
  · skip
    refine Go.step (T' := s₁) (g' := (mkF m 5 #[.val (.ref a1), .val (.ref a2), .unset] [])) (fun _ k => Jvm.RoadKit.acmp (g := (mkF m 2 #[.val (.ref a1), .val (.ref a2), .unset] [(.ref a2), (.ref a1)])) X0 hx rfl rfl rfl (pc0 := 2) (pc' := 5) (same := true) rfl (hb hby d_jdk_42_method_66_2) rfl (decide_eq_true (congrArg Value.ref ha101)) (by decide) (by decide) k) ?_
    refine Go.step (T' := s₁) (g' := (mkF m 6 #[.val (.ref a1), .val (.ref a2), .unset] [(.int (1 : Int32))])) (fun _ k => XS.iconst X0.here hx rfl (hb hby d_jdk_42_method_66_5) k) ?_
    exact Go.retN X0 hx (t := .boolean) hret hlk (by simp) (hb hby d_jdk_42_method_66_6) (⟨by rw [if_pos (own_same B1 (ha101 ▸ B2) V1 V2 hlen hlen2)]; rfl, N0, e0⟩) (by decide) (by decide)
  · skip
    refine Go.step (T' := s₁) (g' := (mkF m 7 #[.val (.ref a1), .val (.ref a2), .unset] [])) (fun _ k => Jvm.RoadKit.acmp (g := (mkF m 2 #[.val (.ref a1), .val (.ref a2), .unset] [(.ref a2), (.ref a1)])) X0 hx rfl rfl rfl (pc0 := 2) (pc' := 7) (same := false) rfl (hb hby d_jdk_42_method_66_2) rfl (decide_eq_false fun q => ha101 (Value.ref.inj q)) (by decide) (by decide) k) ?_
    refine Go.step (T' := s₁) (g' := (mkF m 8 #[.val (.ref a1), .val (.ref a2), .unset] [(.ref a2)])) (fun _ k => XS.aloadN X0.here hx rfl (hb hby d_jdk_42_method_66_7) rfl rfl k) ?_
    obtain ⟨T102, X102, e102, st102⟩ := instY X0 hx hZ hown (hw _ (List.mem_of_getElem? (i := 81) rfl)) e0 (Ins.self E2) (g := (mkF m 8 #[.val (.ref a1), .val (.ref a2), .unset] [(.ref a2)])) rfl rfl (hb hby d_jdk_42_method_66_8)
    refine Go.step (T' := T102) (g' := (mkF m 11 #[.val (.ref a1), .val (.ref a2), .unset] [(.int (1 : Int32))])) st102 ?_
    refine Go.step (T' := T102) (g' := (mkF m 14 #[.val (.ref a1), .val (.ref a2), .unset] [])) (fun _ k => XS.ifNo X102.here hx rfl (hb hby d_jdk_42_method_66_11) rfl ((if0 _ _).trans (feq (by decide : ¬ ((1 : Int32) = (0 : Int32)))).1) k) ?_
    refine Go.step (T' := T102) (g' := (mkF m 15 #[.val (.ref a1), .val (.ref a2), .unset] [(.ref a2)])) (fun _ k => XS.aloadN X102.here hx rfl (hb hby d_jdk_42_method_66_14) rfl rfl k) ?_
    obtain ⟨T103, X103, e103, st103⟩ := castY X102 hx hZ hown (hw _ (List.mem_of_getElem? (i := 81) rfl)) e102 (Ins.self E2) (g := (mkF m 15 #[.val (.ref a1), .val (.ref a2), .unset] [(.ref a2)])) rfl rfl (hb hby d_jdk_42_method_66_15)
    refine Go.step (T' := T103) (g' := (mkF m 18 #[.val (.ref a1), .val (.ref a2), .unset] [(.ref a2)])) st103 ?_
    refine Go.step (T' := T103) (g' := (mkF m 19 #[.val (.ref a1), .val (.ref a2), .val (.ref a2)] [])) (fun _ k => XS.astoreN X103.here hx rfl (hb hby d_jdk_42_method_66_18) rfl rfl (l' := #[.val (.ref a1), .val (.ref a2), .val (.ref a2)]) rfl k) ?_
    obtain ⟨T104, X104, e104, st104⟩ := getS2 X103 hx hZ hown (host := "") (Or.inl (hw _ (List.mem_of_getElem? (i := 49) rfl))) Via.refl e103 Sc (g := (mkF m 19 #[.val (.ref a1), .val (.ref a2), .val (.ref a2)] [])) rfl (hb hby d_jdk_42_method_66_19)
    refine Go.step (T' := T104) (g' := (mkF m 22 #[.val (.ref a1), .val (.ref a2), .val (.ref a2)] [(.int gc)])) st104 ?_
    refine Go.step (T' := T104) (g' := (mkF m 25 #[.val (.ref a1), .val (.ref a2), .val (.ref a2)] [])) (fun _ k => XS.ifNo X104.here hx rfl (hb hby d_jdk_42_method_66_22) rfl ((if0 _ _).trans (feq hgc).1) k) ?_
    refine Go.step (T' := T104) (g' := (mkF m 26 #[.val (.ref a1), .val (.ref a2), .val (.ref a2)] [(.ref a1)])) (fun _ k => XS.aloadN X104.here hx rfl (hb hby d_jdk_42_method_66_25) rfl rfl k) ?_
    obtain ⟨T105, X105, e105, st105⟩ := getF X104 hx hZ hown (host := "") (Or.inl (hw _ (List.mem_of_getElem? (i := 50) rfl))) Via.refl e104 C1 (g := (mkF m 26 #[.val (.ref a1), .val (.ref a2), .val (.ref a2)] [(.ref a1)])) rfl rfl (hb hby d_jdk_42_method_66_26)
    refine Go.step (T' := T105) (g' := (mkF m 29 #[.val (.ref a1), .val (.ref a2), .val (.ref a2)] [(.int (0 : Int32))])) st105 ?_
    refine Go.step (T' := T105) (g' := (mkF m 30 #[.val (.ref a1), .val (.ref a2), .val (.ref a2)] [(.ref a2), (.int (0 : Int32))])) (fun _ k => XS.aloadN X105.here hx rfl (hb hby d_jdk_42_method_66_29) rfl rfl k) ?_
    obtain ⟨T106, X106, e106, st106⟩ := getF X105 hx hZ hown (host := "") (Or.inl (hw _ (List.mem_of_getElem? (i := 50) rfl))) Via.refl e105 C2 (g := (mkF m 30 #[.val (.ref a1), .val (.ref a2), .val (.ref a2)] [(.ref a2), (.int (0 : Int32))])) rfl rfl (hb hby d_jdk_42_method_66_30)
    refine Go.step (T' := T106) (g' := (mkF m 33 #[.val (.ref a1), .val (.ref a2), .val (.ref a2)] [(.int (0 : Int32)), (.int (0 : Int32))])) st106 ?_
    refine Go.step (T' := T106) (g' := (mkF m 36 #[.val (.ref a1), .val (.ref a2), .val (.ref a2)] [])) (fun _ k => XS.icmpNo X106.here hx rfl (hb hby d_jdk_42_method_66_33) rfl (teq (by decide : (0 : Int32) = (0 : Int32))).2 k) ?_
    refine Go.step (T' := T106) (g' := (mkF m 37 #[.val (.ref a1), .val (.ref a2), .val (.ref a2)] [(.ref a1)])) (fun _ k => XS.aloadN X106.here hx rfl (hb hby d_jdk_42_method_66_36) rfl rfl k) ?_
    obtain ⟨T107, X107, e107, st107⟩ := getF X106 hx hZ hown (host := "") (Or.inl (hw _ (List.mem_of_getElem? (i := 43) rfl))) Via.refl e106 B1 (g := (mkF m 37 #[.val (.ref a1), .val (.ref a2), .val (.ref a2)] [(.ref a1)])) rfl rfl (hb hby d_jdk_42_method_66_37)
    refine Go.step (T' := T107) (g' := (mkF m 40 #[.val (.ref a1), .val (.ref a2), .val (.ref a2)] [(.ref b1)])) st107 ?_
    refine Go.step (T' := T107) (g' := (mkF m 41 #[.val (.ref a1), .val (.ref a2), .val (.ref a2)] [(.ref a2), (.ref b1)])) (fun _ k => XS.aloadN X107.here hx rfl (hb hby d_jdk_42_method_66_40) rfl rfl k) ?_
    obtain ⟨T108, X108, e108, st108⟩ := getF X107 hx hZ hown (host := "") (Or.inl (hw _ (List.mem_of_getElem? (i := 43) rfl))) Via.refl e107 B2 (g := (mkF m 41 #[.val (.ref a1), .val (.ref a2), .val (.ref a2)] [(.ref a2), (.ref b1)])) rfl rfl (hb hby d_jdk_42_method_66_41)
    refine Go.step (T' := T108) (g' := (mkF m 44 #[.val (.ref a1), .val (.ref a2), .val (.ref a2)] [(.ref b2), (.ref b1)])) st108 ?_
    obtain ⟨_, _, ⟨T109, L109, k109, n109⟩, -, X109, ⟨Lc109, hQ109, l109, y109, z109⟩, st109⟩ := Jvm.LawKit.callS X108 hx (y := (⟨"java/lang/StringLatin1", "equals", "([B[B)Z"⟩ : MethodName)) hown (mvT hZ (hw _ (List.mem_of_getElem? (i := 83) rfl))) (mvT hZ (hw _ (List.mem_of_getElem? (i := 84) rfl))) (mvT hZ (hw _ (List.mem_of_getElem? (i := 63) rfl))) (mvT hZ (hw _ (List.mem_of_getElem? (i := 85) rfl))) (by decide) (backOf (W := 0) (Q := Qret (some (.int (if xs = ys then 1 else 0))) h0 n0) (own_leq l Z a0 hw [] b1 b2 k1 k2 xs ys h0 n0 Z0 V1 V2 hlen hlen2) hZ (hw _ (List.mem_of_getElem? (i := 85) rfl)) (hw _ (List.mem_of_getElem? (i := 63) rfl)) (by decide) (by decide)) (g := (mkF m 44 #[.val (.ref a1), .val (.ref a2), .val (.ref a2)] [(.ref b2), (.ref b1)])) rfl (by rw [hml]; rfl) (argsL := [(.ref b1), (.ref b2)]) (rest := []) (lenOf own_pd8 rfl) rfl (by show 2 * 0 + _ ≤ _; exact Nat.le_of_eq rfl) (hb hby d_jdk_42_method_66_44) (fun _ _ => ⟨rfl, e108, (by decide : 0 + 0 ≤ _), (by decide : 0 + 0 ≤ _)⟩)
    dsimp only [Pt.U, Pt.locs, Pt.cells, Pt.slots] at X109 l109 y109 z109 st109 hQ109
    subst l109 y109 z109
    obtain ⟨rfl, N109q, eh109⟩ := hQ109
    have N109 := Fr.app N0 N109q
    refine Go.step (T' := T109) (g' := (mkF m 47 #[.val (.ref a1), .val (.ref a2), .val (.ref a2)] [(.int (if xs = ys then (1 : Int32) else 0))])) (st109) ?_
    by_cases hxy : xs = ys
    · skip
      have hq : ¬ (if xs = ys then (1 : Int32) else 0) = (0 : Int32) := by rw [if_pos hxy]; decide
      refine Go.step (T' := T109) (g' := (mkF m 50 #[.val (.ref a1), .val (.ref a2), .val (.ref a2)] [])) (fun _ k => XS.ifNo X109.here hx rfl (hb hby d_jdk_42_method_66_47) rfl ((if0 _ _).trans (feq hq).1) k) ?_
      refine Go.step (T' := T109) (g' := (mkF m 51 #[.val (.ref a1), .val (.ref a2), .val (.ref a2)] [(.int (1 : Int32))])) (fun _ k => XS.iconst X109.here hx rfl (hb hby d_jdk_42_method_66_50) k) ?_
      refine Go.step (T' := T109) (g' := (mkF m 55 #[.val (.ref a1), .val (.ref a2), .val (.ref a2)] [(.int (1 : Int32))])) (fun _ k => XS.goto X109.here hx rfl (pc0 := 51) (pc' := 55) rfl (hb hby d_jdk_42_method_66_51) (by decide) (by decide) k) ?_
      exact Go.retN X109 hx (t := .boolean) hret hlk (by simp) (hb hby d_jdk_42_method_66_55) (⟨by rw [if_pos hxy]; rfl, N109, eh109⟩) (by decide) (by decide)
    · skip
      have hq : (if xs = ys then (1 : Int32) else 0) = (0 : Int32) := if_neg hxy
      refine Go.step (T' := T109) (g' := (mkF m 54 #[.val (.ref a1), .val (.ref a2), .val (.ref a2)] [])) (fun _ k => XS.ifYes X109.here hx rfl (pc0 := 47) (pc' := 54) rfl (hb hby d_jdk_42_method_66_47) rfl ((if0 _ _).trans (teq hq).1) (by decide) (by decide) k) ?_
      refine Go.step (T' := T109) (g' := (mkF m 55 #[.val (.ref a1), .val (.ref a2), .val (.ref a2)] [(.int (0 : Int32))])) (fun _ k => XS.iconst X109.here hx rfl (hb hby d_jdk_42_method_66_54) k) ?_
      exact Go.retN X109 hx (t := .boolean) hret hlk (by simp) (hb hby d_jdk_42_method_66_55) (⟨by rw [if_neg hxy]; rfl, N109, eh109⟩) (by decide) (by decide)
theorem own_ef_method_2_code_I (m : MethodId) (x0 : Int32) : entryFrame m #[(.int x0)] 1 = mkF m 0 #[.val (.int x0)] [] := by first | (simp [entryFrame, mkF, argsToLocals, Value.category]; done) | rfl | (simp [entryFrame, mkF, argsToLocals, own_cI, own_cJ, own_cR, own_cN]; done)
theorem d_method_2_0 : decode method_2_code 0 = .ok (.iload_n 0, 1) := by decide +kernel
theorem d_method_2_1 : decode method_2_code 1 = .ok (.ifCond .ne 7, 3) := by decide +kernel
theorem d_method_2_4 : decode method_2_code 4 = .ok (.getstatic 7, 3) := by decide +kernel
theorem d_method_2_7 : decode method_2_code 7 = .ok (.areturn, 1) := by decide +kernel
set_option maxRecDepth 65536 in
set_option maxHeartbeats 40000000 in
theorem own_pick0 (l : Launch) (Z : State) (a0 : Array Value) (hw : ∀ d ∈ tables_1, d.before a0 Z = true) (ws : List Jvm.Cond) (w : Addr) (h0 : Heap) (n0 : Nat) (Z0 : n0 ≤ h0.size) (S : Sta Z h0 "com/example/noteform/noteform/calc/RequestInput" "DATE" "Lcom/example/noteform/noteform/calc/RequestInput;" (.ref w)) :
    Con l Z (⟨"com/example/noteform/noteform/cli/OptionsOfPinLaw", "pick", "(I)Lcom/example/noteform/noteform/calc/RequestInput;"⟩ : MethodName) method_2_code 1 (some (.object "com/example/noteform/noteform/calc/RequestInput")) ({ frames := 0, cells := 0, slots := 0, locals := 0 } : Room) ws #[(.int (0 : Int32))] h0 (Qret (some (.ref w)) h0 n0) 0 0 := by
  refine Con.of (plainFor_of_name own_pn_OptionsOfPinLaw) ?_
  intro pgm e s m below meth c s₁ X0 hx hZ hby hml hown hnm hret hlk e0 hs0
  have N0 := Fr.nil n0
  have hown : s.vm.findClass "com/example/noteform/noteform/cli/OptionsOfPinLaw" = some m.cls := hown
  have hnm : meth.name = "pick" := hnm
  refine Go.cast (own_ef_method_2_code_I m (0 : Int32)) ?_
  refine Go.step (T' := s₁) (g' := (mkF m 1 #[.val (.int (0 : Int32))] [(.int (0 : Int32))])) (fun _ k => XS.iloadN X0.here hx rfl (hb hby d_method_2_0) rfl  k) ?_
  refine Go.step (T' := s₁) (g' := (mkF m 4 #[.val (.int (0 : Int32))] [])) (fun _ k => XS.ifNo X0.here hx rfl (hb hby d_method_2_1) rfl ((if0 _ _).trans (teq (by decide : (0 : Int32) = (0 : Int32))).2) k) ?_
  obtain ⟨T101, X101, e101, st101⟩ := getS2 X0 hx hZ hown (host := "") (Or.inl (hw _ (List.mem_of_getElem? (i := 5) rfl))) Via.refl e0 S (g := (mkF m 4 #[.val (.int (0 : Int32))] [])) rfl (hb hby d_method_2_4)
  refine Go.step (T' := T101) (g' := (mkF m 7 #[.val (.int (0 : Int32))] [(.ref w)])) st101 ?_
  exact Go.retA X101 hx (t := (.object "com/example/noteform/noteform/calc/RequestInput")) hret rfl hlk rfl (hb hby d_method_2_7) (⟨rfl, N0, e101⟩) (by decide) (by decide)
theorem d_method_2_8 : decode method_2_code 8 = .ok (.iload_n 0, 1) := by decide +kernel
theorem d_method_2_9 : decode method_2_code 9 = .ok (.iconst 1, 1) := by decide +kernel
theorem d_method_2_10 : decode method_2_code 10 = .ok (.if_icmp .ne 7, 3) := by decide +kernel
theorem d_method_2_13 : decode method_2_code 13 = .ok (.getstatic 13, 3) := by decide +kernel
theorem d_method_2_16 : decode method_2_code 16 = .ok (.areturn, 1) := by decide +kernel
set_option maxRecDepth 65536 in
set_option maxHeartbeats 40000000 in
theorem own_pick1 (l : Launch) (Z : State) (a0 : Array Value) (hw : ∀ d ∈ tables_1, d.before a0 Z = true) (ws : List Jvm.Cond) (w : Addr) (h0 : Heap) (n0 : Nat) (Z0 : n0 ≤ h0.size) (S : Sta Z h0 "com/example/noteform/noteform/calc/RequestInput" "PRINCIPAL" "Lcom/example/noteform/noteform/calc/RequestInput;" (.ref w)) :
    Con l Z (⟨"com/example/noteform/noteform/cli/OptionsOfPinLaw", "pick", "(I)Lcom/example/noteform/noteform/calc/RequestInput;"⟩ : MethodName) method_2_code 1 (some (.object "com/example/noteform/noteform/calc/RequestInput")) ({ frames := 0, cells := 0, slots := 0, locals := 0 } : Room) ws #[(.int (1 : Int32))] h0 (Qret (some (.ref w)) h0 n0) 0 0 := by
  refine Con.of (plainFor_of_name own_pn_OptionsOfPinLaw) ?_
  intro pgm e s m below meth c s₁ X0 hx hZ hby hml hown hnm hret hlk e0 hs0
  have N0 := Fr.nil n0
  have hown : s.vm.findClass "com/example/noteform/noteform/cli/OptionsOfPinLaw" = some m.cls := hown
  have hnm : meth.name = "pick" := hnm
  refine Go.cast (own_ef_method_2_code_I m (1 : Int32)) ?_
  refine Go.step (T' := s₁) (g' := (mkF m 1 #[.val (.int (1 : Int32))] [(.int (1 : Int32))])) (fun _ k => XS.iloadN X0.here hx rfl (hb hby d_method_2_0) rfl  k) ?_
  refine Go.step (T' := s₁) (g' := (mkF m 8 #[.val (.int (1 : Int32))] [])) (fun _ k => XS.ifYes X0.here hx rfl (pc0 := 1) (pc' := 8) rfl (hb hby d_method_2_1) rfl ((if0 _ _).trans (feq (by decide : ¬ ((1 : Int32) = (0 : Int32)))).2) (by decide) (by decide) k) ?_
  refine Go.step (T' := s₁) (g' := (mkF m 9 #[.val (.int (1 : Int32))] [(.int (1 : Int32))])) (fun _ k => XS.iloadN X0.here hx rfl (hb hby d_method_2_8) rfl  k) ?_
  refine Go.step (T' := s₁) (g' := (mkF m 10 #[.val (.int (1 : Int32))] [(.int (1 : Int32)), (.int (1 : Int32))])) (fun _ k => XS.iconst X0.here hx rfl (hb hby d_method_2_9) k) ?_
  refine Go.step (T' := s₁) (g' := (mkF m 13 #[.val (.int (1 : Int32))] [])) (fun _ k => XS.icmpNo X0.here hx rfl (hb hby d_method_2_10) rfl (teq (by decide : (1 : Int32) = (1 : Int32))).2 k) ?_
  obtain ⟨T101, X101, e101, st101⟩ := getS2 X0 hx hZ hown (host := "") (Or.inl (hw _ (List.mem_of_getElem? (i := 88) rfl))) Via.refl e0 S (g := (mkF m 13 #[.val (.int (1 : Int32))] [])) rfl (hb hby d_method_2_13)
  refine Go.step (T' := T101) (g' := (mkF m 16 #[.val (.int (1 : Int32))] [(.ref w)])) st101 ?_
  exact Go.retA X101 hx (t := (.object "com/example/noteform/noteform/calc/RequestInput")) hret rfl hlk rfl (hb hby d_method_2_16) (⟨rfl, N0, e101⟩) (by decide) (by decide)
theorem d_method_2_17 : decode method_2_code 17 = .ok (.iload_n 0, 1) := by decide +kernel
theorem d_method_2_18 : decode method_2_code 18 = .ok (.iconst 2, 1) := by decide +kernel
theorem d_method_2_19 : decode method_2_code 19 = .ok (.if_icmp .ne 7, 3) := by decide +kernel
theorem d_method_2_22 : decode method_2_code 22 = .ok (.getstatic 16, 3) := by decide +kernel
theorem d_method_2_25 : decode method_2_code 25 = .ok (.areturn, 1) := by decide +kernel
set_option maxRecDepth 65536 in
set_option maxHeartbeats 40000000 in
theorem own_pick2 (l : Launch) (Z : State) (a0 : Array Value) (hw : ∀ d ∈ tables_1, d.before a0 Z = true) (ws : List Jvm.Cond) (w : Addr) (h0 : Heap) (n0 : Nat) (Z0 : n0 ≤ h0.size) (S : Sta Z h0 "com/example/noteform/noteform/calc/RequestInput" "CLOSING_PRICE" "Lcom/example/noteform/noteform/calc/RequestInput;" (.ref w)) :
    Con l Z (⟨"com/example/noteform/noteform/cli/OptionsOfPinLaw", "pick", "(I)Lcom/example/noteform/noteform/calc/RequestInput;"⟩ : MethodName) method_2_code 1 (some (.object "com/example/noteform/noteform/calc/RequestInput")) ({ frames := 0, cells := 0, slots := 0, locals := 0 } : Room) ws #[(.int (2 : Int32))] h0 (Qret (some (.ref w)) h0 n0) 0 0 := by
  refine Con.of (plainFor_of_name own_pn_OptionsOfPinLaw) ?_
  intro pgm e s m below meth c s₁ X0 hx hZ hby hml hown hnm hret hlk e0 hs0
  have N0 := Fr.nil n0
  have hown : s.vm.findClass "com/example/noteform/noteform/cli/OptionsOfPinLaw" = some m.cls := hown
  have hnm : meth.name = "pick" := hnm
  refine Go.cast (own_ef_method_2_code_I m (2 : Int32)) ?_
  refine Go.step (T' := s₁) (g' := (mkF m 1 #[.val (.int (2 : Int32))] [(.int (2 : Int32))])) (fun _ k => XS.iloadN X0.here hx rfl (hb hby d_method_2_0) rfl  k) ?_
  refine Go.step (T' := s₁) (g' := (mkF m 8 #[.val (.int (2 : Int32))] [])) (fun _ k => XS.ifYes X0.here hx rfl (pc0 := 1) (pc' := 8) rfl (hb hby d_method_2_1) rfl ((if0 _ _).trans (feq (by decide : ¬ ((2 : Int32) = (0 : Int32)))).2) (by decide) (by decide) k) ?_
  refine Go.step (T' := s₁) (g' := (mkF m 9 #[.val (.int (2 : Int32))] [(.int (2 : Int32))])) (fun _ k => XS.iloadN X0.here hx rfl (hb hby d_method_2_8) rfl  k) ?_
  refine Go.step (T' := s₁) (g' := (mkF m 10 #[.val (.int (2 : Int32))] [(.int (1 : Int32)), (.int (2 : Int32))])) (fun _ k => XS.iconst X0.here hx rfl (hb hby d_method_2_9) k) ?_
  refine Go.step (T' := s₁) (g' := (mkF m 17 #[.val (.int (2 : Int32))] [])) (fun _ k => XS.icmpYes X0.here hx rfl (pc0 := 10) (pc' := 17) rfl (hb hby d_method_2_10) rfl (feq (by decide : ¬ ((2 : Int32) = (1 : Int32)))).2 (by decide) (by decide) k) ?_
  refine Go.step (T' := s₁) (g' := (mkF m 18 #[.val (.int (2 : Int32))] [(.int (2 : Int32))])) (fun _ k => XS.iloadN X0.here hx rfl (hb hby d_method_2_17) rfl  k) ?_
  refine Go.step (T' := s₁) (g' := (mkF m 19 #[.val (.int (2 : Int32))] [(.int (2 : Int32)), (.int (2 : Int32))])) (fun _ k => XS.iconst X0.here hx rfl (hb hby d_method_2_18) k) ?_
  refine Go.step (T' := s₁) (g' := (mkF m 22 #[.val (.int (2 : Int32))] [])) (fun _ k => XS.icmpNo X0.here hx rfl (hb hby d_method_2_19) rfl (teq (by decide : (2 : Int32) = (2 : Int32))).2 k) ?_
  obtain ⟨T101, X101, e101, st101⟩ := getS2 X0 hx hZ hown (host := "") (Or.inl (hw _ (List.mem_of_getElem? (i := 92) rfl))) Via.refl e0 S (g := (mkF m 22 #[.val (.int (2 : Int32))] [])) rfl (hb hby d_method_2_22)
  refine Go.step (T' := T101) (g' := (mkF m 25 #[.val (.int (2 : Int32))] [(.ref w)])) st101 ?_
  exact Go.retA X101 hx (t := (.object "com/example/noteform/noteform/calc/RequestInput")) hret rfl hlk rfl (hb hby d_method_2_25) (⟨rfl, N0, e101⟩) (by decide) (by decide)
theorem d_method_2_26 : decode method_2_code 26 = .ok (.iload_n 0, 1) := by decide +kernel
theorem d_method_2_27 : decode method_2_code 27 = .ok (.iconst 3, 1) := by decide +kernel
theorem d_method_2_28 : decode method_2_code 28 = .ok (.if_icmp .ne 7, 3) := by decide +kernel
theorem d_method_2_31 : decode method_2_code 31 = .ok (.getstatic 19, 3) := by decide +kernel
theorem d_method_2_34 : decode method_2_code 34 = .ok (.areturn, 1) := by decide +kernel
set_option maxRecDepth 65536 in
set_option maxHeartbeats 40000000 in
theorem own_pick3 (l : Launch) (Z : State) (a0 : Array Value) (hw : ∀ d ∈ tables_1, d.before a0 Z = true) (ws : List Jvm.Cond) (w : Addr) (h0 : Heap) (n0 : Nat) (Z0 : n0 ≤ h0.size) (S : Sta Z h0 "com/example/noteform/noteform/calc/RequestInput" "WITH_INTEREST" "Lcom/example/noteform/noteform/calc/RequestInput;" (.ref w)) :
    Con l Z (⟨"com/example/noteform/noteform/cli/OptionsOfPinLaw", "pick", "(I)Lcom/example/noteform/noteform/calc/RequestInput;"⟩ : MethodName) method_2_code 1 (some (.object "com/example/noteform/noteform/calc/RequestInput")) ({ frames := 0, cells := 0, slots := 0, locals := 0 } : Room) ws #[(.int (3 : Int32))] h0 (Qret (some (.ref w)) h0 n0) 0 0 := by
  refine Con.of (plainFor_of_name own_pn_OptionsOfPinLaw) ?_
  intro pgm e s m below meth c s₁ X0 hx hZ hby hml hown hnm hret hlk e0 hs0
  have N0 := Fr.nil n0
  have hown : s.vm.findClass "com/example/noteform/noteform/cli/OptionsOfPinLaw" = some m.cls := hown
  have hnm : meth.name = "pick" := hnm
  refine Go.cast (own_ef_method_2_code_I m (3 : Int32)) ?_
  refine Go.step (T' := s₁) (g' := (mkF m 1 #[.val (.int (3 : Int32))] [(.int (3 : Int32))])) (fun _ k => XS.iloadN X0.here hx rfl (hb hby d_method_2_0) rfl  k) ?_
  refine Go.step (T' := s₁) (g' := (mkF m 8 #[.val (.int (3 : Int32))] [])) (fun _ k => XS.ifYes X0.here hx rfl (pc0 := 1) (pc' := 8) rfl (hb hby d_method_2_1) rfl ((if0 _ _).trans (feq (by decide : ¬ ((3 : Int32) = (0 : Int32)))).2) (by decide) (by decide) k) ?_
  refine Go.step (T' := s₁) (g' := (mkF m 9 #[.val (.int (3 : Int32))] [(.int (3 : Int32))])) (fun _ k => XS.iloadN X0.here hx rfl (hb hby d_method_2_8) rfl  k) ?_
  refine Go.step (T' := s₁) (g' := (mkF m 10 #[.val (.int (3 : Int32))] [(.int (1 : Int32)), (.int (3 : Int32))])) (fun _ k => XS.iconst X0.here hx rfl (hb hby d_method_2_9) k) ?_
  refine Go.step (T' := s₁) (g' := (mkF m 17 #[.val (.int (3 : Int32))] [])) (fun _ k => XS.icmpYes X0.here hx rfl (pc0 := 10) (pc' := 17) rfl (hb hby d_method_2_10) rfl (feq (by decide : ¬ ((3 : Int32) = (1 : Int32)))).2 (by decide) (by decide) k) ?_
  refine Go.step (T' := s₁) (g' := (mkF m 18 #[.val (.int (3 : Int32))] [(.int (3 : Int32))])) (fun _ k => XS.iloadN X0.here hx rfl (hb hby d_method_2_17) rfl  k) ?_
  refine Go.step (T' := s₁) (g' := (mkF m 19 #[.val (.int (3 : Int32))] [(.int (2 : Int32)), (.int (3 : Int32))])) (fun _ k => XS.iconst X0.here hx rfl (hb hby d_method_2_18) k) ?_
  refine Go.step (T' := s₁) (g' := (mkF m 26 #[.val (.int (3 : Int32))] [])) (fun _ k => XS.icmpYes X0.here hx rfl (pc0 := 19) (pc' := 26) rfl (hb hby d_method_2_19) rfl (feq (by decide : ¬ ((3 : Int32) = (2 : Int32)))).2 (by decide) (by decide) k) ?_
  refine Go.step (T' := s₁) (g' := (mkF m 27 #[.val (.int (3 : Int32))] [(.int (3 : Int32))])) (fun _ k => XS.iloadN X0.here hx rfl (hb hby d_method_2_26) rfl  k) ?_
  refine Go.step (T' := s₁) (g' := (mkF m 28 #[.val (.int (3 : Int32))] [(.int (3 : Int32)), (.int (3 : Int32))])) (fun _ k => XS.iconst X0.here hx rfl (hb hby d_method_2_27) k) ?_
  refine Go.step (T' := s₁) (g' := (mkF m 31 #[.val (.int (3 : Int32))] [])) (fun _ k => XS.icmpNo X0.here hx rfl (hb hby d_method_2_28) rfl (teq (by decide : (3 : Int32) = (3 : Int32))).2 k) ?_
  obtain ⟨T101, X101, e101, st101⟩ := getS2 X0 hx hZ hown (host := "") (Or.inl (hw _ (List.mem_of_getElem? (i := 8) rfl))) Via.refl e0 S (g := (mkF m 31 #[.val (.int (3 : Int32))] [])) rfl (hb hby d_method_2_31)
  refine Go.step (T' := T101) (g' := (mkF m 34 #[.val (.int (3 : Int32))] [(.ref w)])) st101 ?_
  exact Go.retA X101 hx (t := (.object "com/example/noteform/noteform/calc/RequestInput")) hret rfl hlk rfl (hb hby d_method_2_34) (⟨rfl, N0, e101⟩) (by decide) (by decide)
theorem d_method_2_35 : decode method_2_code 35 = .ok (.iload_n 0, 1) := by decide +kernel
theorem d_method_2_36 : decode method_2_code 36 = .ok (.iconst 4, 1) := by decide +kernel
theorem d_method_2_37 : decode method_2_code 37 = .ok (.if_icmp .ne 7, 3) := by decide +kernel
theorem d_method_2_40 : decode method_2_code 40 = .ok (.getstatic 22, 3) := by decide +kernel
theorem d_method_2_43 : decode method_2_code 43 = .ok (.areturn, 1) := by decide +kernel
set_option maxRecDepth 65536 in
set_option maxHeartbeats 40000000 in
theorem own_pick4 (l : Launch) (Z : State) (a0 : Array Value) (hw : ∀ d ∈ tables_1, d.before a0 Z = true) (ws : List Jvm.Cond) (w : Addr) (h0 : Heap) (n0 : Nat) (Z0 : n0 ≤ h0.size) (S : Sta Z h0 "com/example/noteform/noteform/calc/RequestInput" "FROM" "Lcom/example/noteform/noteform/calc/RequestInput;" (.ref w)) :
    Con l Z (⟨"com/example/noteform/noteform/cli/OptionsOfPinLaw", "pick", "(I)Lcom/example/noteform/noteform/calc/RequestInput;"⟩ : MethodName) method_2_code 1 (some (.object "com/example/noteform/noteform/calc/RequestInput")) ({ frames := 0, cells := 0, slots := 0, locals := 0 } : Room) ws #[(.int (4 : Int32))] h0 (Qret (some (.ref w)) h0 n0) 0 0 := by
  refine Con.of (plainFor_of_name own_pn_OptionsOfPinLaw) ?_
  intro pgm e s m below meth c s₁ X0 hx hZ hby hml hown hnm hret hlk e0 hs0
  have N0 := Fr.nil n0
  have hown : s.vm.findClass "com/example/noteform/noteform/cli/OptionsOfPinLaw" = some m.cls := hown
  have hnm : meth.name = "pick" := hnm
  refine Go.cast (own_ef_method_2_code_I m (4 : Int32)) ?_
  refine Go.step (T' := s₁) (g' := (mkF m 1 #[.val (.int (4 : Int32))] [(.int (4 : Int32))])) (fun _ k => XS.iloadN X0.here hx rfl (hb hby d_method_2_0) rfl  k) ?_
  refine Go.step (T' := s₁) (g' := (mkF m 8 #[.val (.int (4 : Int32))] [])) (fun _ k => XS.ifYes X0.here hx rfl (pc0 := 1) (pc' := 8) rfl (hb hby d_method_2_1) rfl ((if0 _ _).trans (feq (by decide : ¬ ((4 : Int32) = (0 : Int32)))).2) (by decide) (by decide) k) ?_
  refine Go.step (T' := s₁) (g' := (mkF m 9 #[.val (.int (4 : Int32))] [(.int (4 : Int32))])) (fun _ k => XS.iloadN X0.here hx rfl (hb hby d_method_2_8) rfl  k) ?_
  refine Go.step (T' := s₁) (g' := (mkF m 10 #[.val (.int (4 : Int32))] [(.int (1 : Int32)), (.int (4 : Int32))])) (fun _ k => XS.iconst X0.here hx rfl (hb hby d_method_2_9) k) ?_
  refine Go.step (T' := s₁) (g' := (mkF m 17 #[.val (.int (4 : Int32))] [])) (fun _ k => XS.icmpYes X0.here hx rfl (pc0 := 10) (pc' := 17) rfl (hb hby d_method_2_10) rfl (feq (by decide : ¬ ((4 : Int32) = (1 : Int32)))).2 (by decide) (by decide) k) ?_
  refine Go.step (T' := s₁) (g' := (mkF m 18 #[.val (.int (4 : Int32))] [(.int (4 : Int32))])) (fun _ k => XS.iloadN X0.here hx rfl (hb hby d_method_2_17) rfl  k) ?_
  refine Go.step (T' := s₁) (g' := (mkF m 19 #[.val (.int (4 : Int32))] [(.int (2 : Int32)), (.int (4 : Int32))])) (fun _ k => XS.iconst X0.here hx rfl (hb hby d_method_2_18) k) ?_
  refine Go.step (T' := s₁) (g' := (mkF m 26 #[.val (.int (4 : Int32))] [])) (fun _ k => XS.icmpYes X0.here hx rfl (pc0 := 19) (pc' := 26) rfl (hb hby d_method_2_19) rfl (feq (by decide : ¬ ((4 : Int32) = (2 : Int32)))).2 (by decide) (by decide) k) ?_
  refine Go.step (T' := s₁) (g' := (mkF m 27 #[.val (.int (4 : Int32))] [(.int (4 : Int32))])) (fun _ k => XS.iloadN X0.here hx rfl (hb hby d_method_2_26) rfl  k) ?_
  refine Go.step (T' := s₁) (g' := (mkF m 28 #[.val (.int (4 : Int32))] [(.int (3 : Int32)), (.int (4 : Int32))])) (fun _ k => XS.iconst X0.here hx rfl (hb hby d_method_2_27) k) ?_
  refine Go.step (T' := s₁) (g' := (mkF m 35 #[.val (.int (4 : Int32))] [])) (fun _ k => XS.icmpYes X0.here hx rfl (pc0 := 28) (pc' := 35) rfl (hb hby d_method_2_28) rfl (feq (by decide : ¬ ((4 : Int32) = (3 : Int32)))).2 (by decide) (by decide) k) ?_
  refine Go.step (T' := s₁) (g' := (mkF m 36 #[.val (.int (4 : Int32))] [(.int (4 : Int32))])) (fun _ k => XS.iloadN X0.here hx rfl (hb hby d_method_2_35) rfl  k) ?_
  refine Go.step (T' := s₁) (g' := (mkF m 37 #[.val (.int (4 : Int32))] [(.int (4 : Int32)), (.int (4 : Int32))])) (fun _ k => XS.iconst X0.here hx rfl (hb hby d_method_2_36) k) ?_
  refine Go.step (T' := s₁) (g' := (mkF m 40 #[.val (.int (4 : Int32))] [])) (fun _ k => XS.icmpNo X0.here hx rfl (hb hby d_method_2_37) rfl (teq (by decide : (4 : Int32) = (4 : Int32))).2 k) ?_
  obtain ⟨T101, X101, e101, st101⟩ := getS2 X0 hx hZ hown (host := "") (Or.inl (hw _ (List.mem_of_getElem? (i := 95) rfl))) Via.refl e0 S (g := (mkF m 40 #[.val (.int (4 : Int32))] [])) rfl (hb hby d_method_2_40)
  refine Go.step (T' := T101) (g' := (mkF m 43 #[.val (.int (4 : Int32))] [(.ref w)])) st101 ?_
  exact Go.retA X101 hx (t := (.object "com/example/noteform/noteform/calc/RequestInput")) hret rfl hlk rfl (hb hby d_method_2_43) (⟨rfl, N0, e101⟩) (by decide) (by decide)
theorem d_method_2_44 : decode method_2_code 44 = .ok (.iload_n 0, 1) := by decide +kernel
theorem d_method_2_45 : decode method_2_code 45 = .ok (.iconst 5, 1) := by decide +kernel
theorem d_method_2_46 : decode method_2_code 46 = .ok (.if_icmp .ne 7, 3) := by decide +kernel
theorem d_method_2_49 : decode method_2_code 49 = .ok (.getstatic 25, 3) := by decide +kernel
theorem d_method_2_52 : decode method_2_code 52 = .ok (.areturn, 1) := by decide +kernel
set_option maxRecDepth 65536 in
set_option maxHeartbeats 40000000 in
theorem own_pick5 (l : Launch) (Z : State) (a0 : Array Value) (hw : ∀ d ∈ tables_1, d.before a0 Z = true) (ws : List Jvm.Cond) (w : Addr) (h0 : Heap) (n0 : Nat) (Z0 : n0 ≤ h0.size) (S : Sta Z h0 "com/example/noteform/noteform/calc/RequestInput" "TO" "Lcom/example/noteform/noteform/calc/RequestInput;" (.ref w)) :
    Con l Z (⟨"com/example/noteform/noteform/cli/OptionsOfPinLaw", "pick", "(I)Lcom/example/noteform/noteform/calc/RequestInput;"⟩ : MethodName) method_2_code 1 (some (.object "com/example/noteform/noteform/calc/RequestInput")) ({ frames := 0, cells := 0, slots := 0, locals := 0 } : Room) ws #[(.int (5 : Int32))] h0 (Qret (some (.ref w)) h0 n0) 0 0 := by
  refine Con.of (plainFor_of_name own_pn_OptionsOfPinLaw) ?_
  intro pgm e s m below meth c s₁ X0 hx hZ hby hml hown hnm hret hlk e0 hs0
  have N0 := Fr.nil n0
  have hown : s.vm.findClass "com/example/noteform/noteform/cli/OptionsOfPinLaw" = some m.cls := hown
  have hnm : meth.name = "pick" := hnm
  refine Go.cast (own_ef_method_2_code_I m (5 : Int32)) ?_
  refine Go.step (T' := s₁) (g' := (mkF m 1 #[.val (.int (5 : Int32))] [(.int (5 : Int32))])) (fun _ k => XS.iloadN X0.here hx rfl (hb hby d_method_2_0) rfl  k) ?_
  refine Go.step (T' := s₁) (g' := (mkF m 8 #[.val (.int (5 : Int32))] [])) (fun _ k => XS.ifYes X0.here hx rfl (pc0 := 1) (pc' := 8) rfl (hb hby d_method_2_1) rfl ((if0 _ _).trans (feq (by decide : ¬ ((5 : Int32) = (0 : Int32)))).2) (by decide) (by decide) k) ?_
  refine Go.step (T' := s₁) (g' := (mkF m 9 #[.val (.int (5 : Int32))] [(.int (5 : Int32))])) (fun _ k => XS.iloadN X0.here hx rfl (hb hby d_method_2_8) rfl  k) ?_
  refine Go.step (T' := s₁) (g' := (mkF m 10 #[.val (.int (5 : Int32))] [(.int (1 : Int32)), (.int (5 : Int32))])) (fun _ k => XS.iconst X0.here hx rfl (hb hby d_method_2_9) k) ?_
  refine Go.step (T' := s₁) (g' := (mkF m 17 #[.val (.int (5 : Int32))] [])) (fun _ k => XS.icmpYes X0.here hx rfl (pc0 := 10) (pc' := 17) rfl (hb hby d_method_2_10) rfl (feq (by decide : ¬ ((5 : Int32) = (1 : Int32)))).2 (by decide) (by decide) k) ?_
  refine Go.step (T' := s₁) (g' := (mkF m 18 #[.val (.int (5 : Int32))] [(.int (5 : Int32))])) (fun _ k => XS.iloadN X0.here hx rfl (hb hby d_method_2_17) rfl  k) ?_
  refine Go.step (T' := s₁) (g' := (mkF m 19 #[.val (.int (5 : Int32))] [(.int (2 : Int32)), (.int (5 : Int32))])) (fun _ k => XS.iconst X0.here hx rfl (hb hby d_method_2_18) k) ?_
  refine Go.step (T' := s₁) (g' := (mkF m 26 #[.val (.int (5 : Int32))] [])) (fun _ k => XS.icmpYes X0.here hx rfl (pc0 := 19) (pc' := 26) rfl (hb hby d_method_2_19) rfl (feq (by decide : ¬ ((5 : Int32) = (2 : Int32)))).2 (by decide) (by decide) k) ?_
  refine Go.step (T' := s₁) (g' := (mkF m 27 #[.val (.int (5 : Int32))] [(.int (5 : Int32))])) (fun _ k => XS.iloadN X0.here hx rfl (hb hby d_method_2_26) rfl  k) ?_
  refine Go.step (T' := s₁) (g' := (mkF m 28 #[.val (.int (5 : Int32))] [(.int (3 : Int32)), (.int (5 : Int32))])) (fun _ k => XS.iconst X0.here hx rfl (hb hby d_method_2_27) k) ?_
  refine Go.step (T' := s₁) (g' := (mkF m 35 #[.val (.int (5 : Int32))] [])) (fun _ k => XS.icmpYes X0.here hx rfl (pc0 := 28) (pc' := 35) rfl (hb hby d_method_2_28) rfl (feq (by decide : ¬ ((5 : Int32) = (3 : Int32)))).2 (by decide) (by decide) k) ?_
  refine Go.step (T' := s₁) (g' := (mkF m 36 #[.val (.int (5 : Int32))] [(.int (5 : Int32))])) (fun _ k => XS.iloadN X0.here hx rfl (hb hby d_method_2_35) rfl  k) ?_
  refine Go.step (T' := s₁) (g' := (mkF m 37 #[.val (.int (5 : Int32))] [(.int (4 : Int32)), (.int (5 : Int32))])) (fun _ k => XS.iconst X0.here hx rfl (hb hby d_method_2_36) k) ?_
  refine Go.step (T' := s₁) (g' := (mkF m 44 #[.val (.int (5 : Int32))] [])) (fun _ k => XS.icmpYes X0.here hx rfl (pc0 := 37) (pc' := 44) rfl (hb hby d_method_2_37) rfl (feq (by decide : ¬ ((5 : Int32) = (4 : Int32)))).2 (by decide) (by decide) k) ?_
  refine Go.step (T' := s₁) (g' := (mkF m 45 #[.val (.int (5 : Int32))] [(.int (5 : Int32))])) (fun _ k => XS.iloadN X0.here hx rfl (hb hby d_method_2_44) rfl  k) ?_
  refine Go.step (T' := s₁) (g' := (mkF m 46 #[.val (.int (5 : Int32))] [(.int (5 : Int32)), (.int (5 : Int32))])) (fun _ k => XS.iconst X0.here hx rfl (hb hby d_method_2_45) k) ?_
  refine Go.step (T' := s₁) (g' := (mkF m 49 #[.val (.int (5 : Int32))] [])) (fun _ k => XS.icmpNo X0.here hx rfl (hb hby d_method_2_46) rfl (teq (by decide : (5 : Int32) = (5 : Int32))).2 k) ?_
  obtain ⟨T101, X101, e101, st101⟩ := getS2 X0 hx hZ hown (host := "") (Or.inl (hw _ (List.mem_of_getElem? (i := 86) rfl))) Via.refl e0 S (g := (mkF m 49 #[.val (.int (5 : Int32))] [])) rfl (hb hby d_method_2_49)
  refine Go.step (T' := T101) (g' := (mkF m 52 #[.val (.int (5 : Int32))] [(.ref w)])) st101 ?_
  exact Go.retA X101 hx (t := (.object "com/example/noteform/noteform/calc/RequestInput")) hret rfl hlk rfl (hb hby d_method_2_52) (⟨rfl, N0, e101⟩) (by decide) (by decide)
theorem d_method_2_53 : decode method_2_code 53 = .ok (.iload_n 0, 1) := by decide +kernel
theorem d_method_2_54 : decode method_2_code 54 = .ok (.bipush 6, 2) := by decide +kernel
theorem d_method_2_56 : decode method_2_code 56 = .ok (.if_icmp .ne 7, 3) := by decide +kernel
theorem d_method_2_59 : decode method_2_code 59 = .ok (.getstatic 28, 3) := by decide +kernel
theorem d_method_2_62 : decode method_2_code 62 = .ok (.areturn, 1) := by decide +kernel
set_option maxRecDepth 65536 in
set_option maxHeartbeats 40000000 in
theorem own_pick6 (l : Launch) (Z : State) (a0 : Array Value) (hw : ∀ d ∈ tables_1, d.before a0 Z = true) (ws : List Jvm.Cond) (w : Addr) (h0 : Heap) (n0 : Nat) (Z0 : n0 ≤ h0.size) (S : Sta Z h0 "com/example/noteform/noteform/calc/RequestInput" "PRICES" "Lcom/example/noteform/noteform/calc/RequestInput;" (.ref w)) :
    Con l Z (⟨"com/example/noteform/noteform/cli/OptionsOfPinLaw", "pick", "(I)Lcom/example/noteform/noteform/calc/RequestInput;"⟩ : MethodName) method_2_code 1 (some (.object "com/example/noteform/noteform/calc/RequestInput")) ({ frames := 0, cells := 0, slots := 0, locals := 0 } : Room) ws #[(.int (6 : Int32))] h0 (Qret (some (.ref w)) h0 n0) 0 0 := by
  refine Con.of (plainFor_of_name own_pn_OptionsOfPinLaw) ?_
  intro pgm e s m below meth c s₁ X0 hx hZ hby hml hown hnm hret hlk e0 hs0
  have N0 := Fr.nil n0
  have hown : s.vm.findClass "com/example/noteform/noteform/cli/OptionsOfPinLaw" = some m.cls := hown
  have hnm : meth.name = "pick" := hnm
  refine Go.cast (own_ef_method_2_code_I m (6 : Int32)) ?_
  refine Go.step (T' := s₁) (g' := (mkF m 1 #[.val (.int (6 : Int32))] [(.int (6 : Int32))])) (fun _ k => XS.iloadN X0.here hx rfl (hb hby d_method_2_0) rfl  k) ?_
  refine Go.step (T' := s₁) (g' := (mkF m 8 #[.val (.int (6 : Int32))] [])) (fun _ k => XS.ifYes X0.here hx rfl (pc0 := 1) (pc' := 8) rfl (hb hby d_method_2_1) rfl ((if0 _ _).trans (feq (by decide : ¬ ((6 : Int32) = (0 : Int32)))).2) (by decide) (by decide) k) ?_
  refine Go.step (T' := s₁) (g' := (mkF m 9 #[.val (.int (6 : Int32))] [(.int (6 : Int32))])) (fun _ k => XS.iloadN X0.here hx rfl (hb hby d_method_2_8) rfl  k) ?_
  refine Go.step (T' := s₁) (g' := (mkF m 10 #[.val (.int (6 : Int32))] [(.int (1 : Int32)), (.int (6 : Int32))])) (fun _ k => XS.iconst X0.here hx rfl (hb hby d_method_2_9) k) ?_
  refine Go.step (T' := s₁) (g' := (mkF m 17 #[.val (.int (6 : Int32))] [])) (fun _ k => XS.icmpYes X0.here hx rfl (pc0 := 10) (pc' := 17) rfl (hb hby d_method_2_10) rfl (feq (by decide : ¬ ((6 : Int32) = (1 : Int32)))).2 (by decide) (by decide) k) ?_
  refine Go.step (T' := s₁) (g' := (mkF m 18 #[.val (.int (6 : Int32))] [(.int (6 : Int32))])) (fun _ k => XS.iloadN X0.here hx rfl (hb hby d_method_2_17) rfl  k) ?_
  refine Go.step (T' := s₁) (g' := (mkF m 19 #[.val (.int (6 : Int32))] [(.int (2 : Int32)), (.int (6 : Int32))])) (fun _ k => XS.iconst X0.here hx rfl (hb hby d_method_2_18) k) ?_
  refine Go.step (T' := s₁) (g' := (mkF m 26 #[.val (.int (6 : Int32))] [])) (fun _ k => XS.icmpYes X0.here hx rfl (pc0 := 19) (pc' := 26) rfl (hb hby d_method_2_19) rfl (feq (by decide : ¬ ((6 : Int32) = (2 : Int32)))).2 (by decide) (by decide) k) ?_
  refine Go.step (T' := s₁) (g' := (mkF m 27 #[.val (.int (6 : Int32))] [(.int (6 : Int32))])) (fun _ k => XS.iloadN X0.here hx rfl (hb hby d_method_2_26) rfl  k) ?_
  refine Go.step (T' := s₁) (g' := (mkF m 28 #[.val (.int (6 : Int32))] [(.int (3 : Int32)), (.int (6 : Int32))])) (fun _ k => XS.iconst X0.here hx rfl (hb hby d_method_2_27) k) ?_
  refine Go.step (T' := s₁) (g' := (mkF m 35 #[.val (.int (6 : Int32))] [])) (fun _ k => XS.icmpYes X0.here hx rfl (pc0 := 28) (pc' := 35) rfl (hb hby d_method_2_28) rfl (feq (by decide : ¬ ((6 : Int32) = (3 : Int32)))).2 (by decide) (by decide) k) ?_
  refine Go.step (T' := s₁) (g' := (mkF m 36 #[.val (.int (6 : Int32))] [(.int (6 : Int32))])) (fun _ k => XS.iloadN X0.here hx rfl (hb hby d_method_2_35) rfl  k) ?_
  refine Go.step (T' := s₁) (g' := (mkF m 37 #[.val (.int (6 : Int32))] [(.int (4 : Int32)), (.int (6 : Int32))])) (fun _ k => XS.iconst X0.here hx rfl (hb hby d_method_2_36) k) ?_
  refine Go.step (T' := s₁) (g' := (mkF m 44 #[.val (.int (6 : Int32))] [])) (fun _ k => XS.icmpYes X0.here hx rfl (pc0 := 37) (pc' := 44) rfl (hb hby d_method_2_37) rfl (feq (by decide : ¬ ((6 : Int32) = (4 : Int32)))).2 (by decide) (by decide) k) ?_
  refine Go.step (T' := s₁) (g' := (mkF m 45 #[.val (.int (6 : Int32))] [(.int (6 : Int32))])) (fun _ k => XS.iloadN X0.here hx rfl (hb hby d_method_2_44) rfl  k) ?_
  refine Go.step (T' := s₁) (g' := (mkF m 46 #[.val (.int (6 : Int32))] [(.int (5 : Int32)), (.int (6 : Int32))])) (fun _ k => XS.iconst X0.here hx rfl (hb hby d_method_2_45) k) ?_
  refine Go.step (T' := s₁) (g' := (mkF m 53 #[.val (.int (6 : Int32))] [])) (fun _ k => XS.icmpYes X0.here hx rfl (pc0 := 46) (pc' := 53) rfl (hb hby d_method_2_46) rfl (feq (by decide : ¬ ((6 : Int32) = (5 : Int32)))).2 (by decide) (by decide) k) ?_
  refine Go.step (T' := s₁) (g' := (mkF m 54 #[.val (.int (6 : Int32))] [(.int (6 : Int32))])) (fun _ k => XS.iloadN X0.here hx rfl (hb hby d_method_2_53) rfl  k) ?_
  refine Go.step (T' := s₁) (g' := (mkF m 56 #[.val (.int (6 : Int32))] [(.int (6 : Int32)), (.int (6 : Int32))])) (fun _ k => XS.bipush X0.here hx rfl (hb hby d_method_2_54) k) ?_
  refine Go.step (T' := s₁) (g' := (mkF m 59 #[.val (.int (6 : Int32))] [])) (fun _ k => XS.icmpNo X0.here hx rfl (hb hby d_method_2_56) rfl (teq (by decide : (6 : Int32) = (6 : Int32))).2 k) ?_
  obtain ⟨T101, X101, e101, st101⟩ := getS2 X0 hx hZ hown (host := "") (Or.inl (hw _ (List.mem_of_getElem? (i := 98) rfl))) Via.refl e0 S (g := (mkF m 59 #[.val (.int (6 : Int32))] [])) rfl (hb hby d_method_2_59)
  refine Go.step (T' := T101) (g' := (mkF m 62 #[.val (.int (6 : Int32))] [(.ref w)])) st101 ?_
  exact Go.retA X101 hx (t := (.object "com/example/noteform/noteform/calc/RequestInput")) hret rfl hlk rfl (hb hby d_method_2_62) (⟨rfl, N0, e101⟩) (by decide) (by decide)
theorem d_method_2_63 : decode method_2_code 63 = .ok (.iload_n 0, 1) := by decide +kernel
theorem d_method_2_64 : decode method_2_code 64 = .ok (.bipush 7, 2) := by decide +kernel
theorem d_method_2_66 : decode method_2_code 66 = .ok (.if_icmp .ne 7, 3) := by decide +kernel
theorem d_method_2_69 : decode method_2_code 69 = .ok (.getstatic 31, 3) := by decide +kernel
theorem d_method_2_72 : decode method_2_code 72 = .ok (.areturn, 1) := by decide +kernel
set_option maxRecDepth 65536 in
set_option maxHeartbeats 40000000 in
theorem own_pick7 (l : Launch) (Z : State) (a0 : Array Value) (hw : ∀ d ∈ tables_1, d.before a0 Z = true) (ws : List Jvm.Cond) (w : Addr) (h0 : Heap) (n0 : Nat) (Z0 : n0 ≤ h0.size) (S : Sta Z h0 "com/example/noteform/noteform/calc/RequestInput" "KIND" "Lcom/example/noteform/noteform/calc/RequestInput;" (.ref w)) :
    Con l Z (⟨"com/example/noteform/noteform/cli/OptionsOfPinLaw", "pick", "(I)Lcom/example/noteform/noteform/calc/RequestInput;"⟩ : MethodName) method_2_code 1 (some (.object "com/example/noteform/noteform/calc/RequestInput")) ({ frames := 0, cells := 0, slots := 0, locals := 0 } : Room) ws #[(.int (7 : Int32))] h0 (Qret (some (.ref w)) h0 n0) 0 0 := by
  refine Con.of (plainFor_of_name own_pn_OptionsOfPinLaw) ?_
  intro pgm e s m below meth c s₁ X0 hx hZ hby hml hown hnm hret hlk e0 hs0
  have N0 := Fr.nil n0
  have hown : s.vm.findClass "com/example/noteform/noteform/cli/OptionsOfPinLaw" = some m.cls := hown
  have hnm : meth.name = "pick" := hnm
  refine Go.cast (own_ef_method_2_code_I m (7 : Int32)) ?_
  refine Go.step (T' := s₁) (g' := (mkF m 1 #[.val (.int (7 : Int32))] [(.int (7 : Int32))])) (fun _ k => XS.iloadN X0.here hx rfl (hb hby d_method_2_0) rfl  k) ?_
  refine Go.step (T' := s₁) (g' := (mkF m 8 #[.val (.int (7 : Int32))] [])) (fun _ k => XS.ifYes X0.here hx rfl (pc0 := 1) (pc' := 8) rfl (hb hby d_method_2_1) rfl ((if0 _ _).trans (feq (by decide : ¬ ((7 : Int32) = (0 : Int32)))).2) (by decide) (by decide) k) ?_
  refine Go.step (T' := s₁) (g' := (mkF m 9 #[.val (.int (7 : Int32))] [(.int (7 : Int32))])) (fun _ k => XS.iloadN X0.here hx rfl (hb hby d_method_2_8) rfl  k) ?_
  refine Go.step (T' := s₁) (g' := (mkF m 10 #[.val (.int (7 : Int32))] [(.int (1 : Int32)), (.int (7 : Int32))])) (fun _ k => XS.iconst X0.here hx rfl (hb hby d_method_2_9) k) ?_
  refine Go.step (T' := s₁) (g' := (mkF m 17 #[.val (.int (7 : Int32))] [])) (fun _ k => XS.icmpYes X0.here hx rfl (pc0 := 10) (pc' := 17) rfl (hb hby d_method_2_10) rfl (feq (by decide : ¬ ((7 : Int32) = (1 : Int32)))).2 (by decide) (by decide) k) ?_
  refine Go.step (T' := s₁) (g' := (mkF m 18 #[.val (.int (7 : Int32))] [(.int (7 : Int32))])) (fun _ k => XS.iloadN X0.here hx rfl (hb hby d_method_2_17) rfl  k) ?_
  refine Go.step (T' := s₁) (g' := (mkF m 19 #[.val (.int (7 : Int32))] [(.int (2 : Int32)), (.int (7 : Int32))])) (fun _ k => XS.iconst X0.here hx rfl (hb hby d_method_2_18) k) ?_
  refine Go.step (T' := s₁) (g' := (mkF m 26 #[.val (.int (7 : Int32))] [])) (fun _ k => XS.icmpYes X0.here hx rfl (pc0 := 19) (pc' := 26) rfl (hb hby d_method_2_19) rfl (feq (by decide : ¬ ((7 : Int32) = (2 : Int32)))).2 (by decide) (by decide) k) ?_
  refine Go.step (T' := s₁) (g' := (mkF m 27 #[.val (.int (7 : Int32))] [(.int (7 : Int32))])) (fun _ k => XS.iloadN X0.here hx rfl (hb hby d_method_2_26) rfl  k) ?_
  refine Go.step (T' := s₁) (g' := (mkF m 28 #[.val (.int (7 : Int32))] [(.int (3 : Int32)), (.int (7 : Int32))])) (fun _ k => XS.iconst X0.here hx rfl (hb hby d_method_2_27) k) ?_
  refine Go.step (T' := s₁) (g' := (mkF m 35 #[.val (.int (7 : Int32))] [])) (fun _ k => XS.icmpYes X0.here hx rfl (pc0 := 28) (pc' := 35) rfl (hb hby d_method_2_28) rfl (feq (by decide : ¬ ((7 : Int32) = (3 : Int32)))).2 (by decide) (by decide) k) ?_
  refine Go.step (T' := s₁) (g' := (mkF m 36 #[.val (.int (7 : Int32))] [(.int (7 : Int32))])) (fun _ k => XS.iloadN X0.here hx rfl (hb hby d_method_2_35) rfl  k) ?_
  refine Go.step (T' := s₁) (g' := (mkF m 37 #[.val (.int (7 : Int32))] [(.int (4 : Int32)), (.int (7 : Int32))])) (fun _ k => XS.iconst X0.here hx rfl (hb hby d_method_2_36) k) ?_
  refine Go.step (T' := s₁) (g' := (mkF m 44 #[.val (.int (7 : Int32))] [])) (fun _ k => XS.icmpYes X0.here hx rfl (pc0 := 37) (pc' := 44) rfl (hb hby d_method_2_37) rfl (feq (by decide : ¬ ((7 : Int32) = (4 : Int32)))).2 (by decide) (by decide) k) ?_
  refine Go.step (T' := s₁) (g' := (mkF m 45 #[.val (.int (7 : Int32))] [(.int (7 : Int32))])) (fun _ k => XS.iloadN X0.here hx rfl (hb hby d_method_2_44) rfl  k) ?_
  refine Go.step (T' := s₁) (g' := (mkF m 46 #[.val (.int (7 : Int32))] [(.int (5 : Int32)), (.int (7 : Int32))])) (fun _ k => XS.iconst X0.here hx rfl (hb hby d_method_2_45) k) ?_
  refine Go.step (T' := s₁) (g' := (mkF m 53 #[.val (.int (7 : Int32))] [])) (fun _ k => XS.icmpYes X0.here hx rfl (pc0 := 46) (pc' := 53) rfl (hb hby d_method_2_46) rfl (feq (by decide : ¬ ((7 : Int32) = (5 : Int32)))).2 (by decide) (by decide) k) ?_
  refine Go.step (T' := s₁) (g' := (mkF m 54 #[.val (.int (7 : Int32))] [(.int (7 : Int32))])) (fun _ k => XS.iloadN X0.here hx rfl (hb hby d_method_2_53) rfl  k) ?_
  refine Go.step (T' := s₁) (g' := (mkF m 56 #[.val (.int (7 : Int32))] [(.int (6 : Int32)), (.int (7 : Int32))])) (fun _ k => XS.bipush X0.here hx rfl (hb hby d_method_2_54) k) ?_
  refine Go.step (T' := s₁) (g' := (mkF m 63 #[.val (.int (7 : Int32))] [])) (fun _ k => XS.icmpYes X0.here hx rfl (pc0 := 56) (pc' := 63) rfl (hb hby d_method_2_56) rfl (feq (by decide : ¬ ((7 : Int32) = (6 : Int32)))).2 (by decide) (by decide) k) ?_
  refine Go.step (T' := s₁) (g' := (mkF m 64 #[.val (.int (7 : Int32))] [(.int (7 : Int32))])) (fun _ k => XS.iloadN X0.here hx rfl (hb hby d_method_2_63) rfl  k) ?_
  refine Go.step (T' := s₁) (g' := (mkF m 66 #[.val (.int (7 : Int32))] [(.int (7 : Int32)), (.int (7 : Int32))])) (fun _ k => XS.bipush X0.here hx rfl (hb hby d_method_2_64) k) ?_
  refine Go.step (T' := s₁) (g' := (mkF m 69 #[.val (.int (7 : Int32))] [])) (fun _ k => XS.icmpNo X0.here hx rfl (hb hby d_method_2_66) rfl (teq (by decide : (7 : Int32) = (7 : Int32))).2 k) ?_
  obtain ⟨T101, X101, e101, st101⟩ := getS2 X0 hx hZ hown (host := "") (Or.inl (hw _ (List.mem_of_getElem? (i := 104) rfl))) Via.refl e0 S (g := (mkF m 69 #[.val (.int (7 : Int32))] [])) rfl (hb hby d_method_2_69)
  refine Go.step (T' := T101) (g' := (mkF m 72 #[.val (.int (7 : Int32))] [(.ref w)])) st101 ?_
  exact Go.retA X101 hx (t := (.object "com/example/noteform/noteform/calc/RequestInput")) hret rfl hlk rfl (hb hby d_method_2_72) (⟨rfl, N0, e101⟩) (by decide) (by decide)
theorem d_method_2_73 : decode method_2_code 73 = .ok (.getstatic 34, 3) := by decide +kernel
theorem d_method_2_76 : decode method_2_code 76 = .ok (.areturn, 1) := by decide +kernel
set_option maxRecDepth 65536 in
set_option maxHeartbeats 40000000 in
theorem own_pick8 (l : Launch) (Z : State) (a0 : Array Value) (hw : ∀ d ∈ tables_1, d.before a0 Z = true) (ws : List Jvm.Cond) (w : Addr) (h0 : Heap) (n0 : Nat) (Z0 : n0 ≤ h0.size) (S : Sta Z h0 "com/example/noteform/noteform/calc/RequestInput" "PRICE_WINDOW_FROM" "Lcom/example/noteform/noteform/calc/RequestInput;" (.ref w)) :
    Con l Z (⟨"com/example/noteform/noteform/cli/OptionsOfPinLaw", "pick", "(I)Lcom/example/noteform/noteform/calc/RequestInput;"⟩ : MethodName) method_2_code 1 (some (.object "com/example/noteform/noteform/calc/RequestInput")) ({ frames := 0, cells := 0, slots := 0, locals := 0 } : Room) ws #[(.int (8 : Int32))] h0 (Qret (some (.ref w)) h0 n0) 0 0 := by
  refine Con.of (plainFor_of_name own_pn_OptionsOfPinLaw) ?_
  intro pgm e s m below meth c s₁ X0 hx hZ hby hml hown hnm hret hlk e0 hs0
  have N0 := Fr.nil n0
  have hown : s.vm.findClass "com/example/noteform/noteform/cli/OptionsOfPinLaw" = some m.cls := hown
  have hnm : meth.name = "pick" := hnm
  refine Go.cast (own_ef_method_2_code_I m (8 : Int32)) ?_
  refine Go.step (T' := s₁) (g' := (mkF m 1 #[.val (.int (8 : Int32))] [(.int (8 : Int32))])) (fun _ k => XS.iloadN X0.here hx rfl (hb hby d_method_2_0) rfl  k) ?_
  refine Go.step (T' := s₁) (g' := (mkF m 8 #[.val (.int (8 : Int32))] [])) (fun _ k => XS.ifYes X0.here hx rfl (pc0 := 1) (pc' := 8) rfl (hb hby d_method_2_1) rfl ((if0 _ _).trans (feq (by decide : ¬ ((8 : Int32) = (0 : Int32)))).2) (by decide) (by decide) k) ?_
  refine Go.step (T' := s₁) (g' := (mkF m 9 #[.val (.int (8 : Int32))] [(.int (8 : Int32))])) (fun _ k => XS.iloadN X0.here hx rfl (hb hby d_method_2_8) rfl  k) ?_
  refine Go.step (T' := s₁) (g' := (mkF m 10 #[.val (.int (8 : Int32))] [(.int (1 : Int32)), (.int (8 : Int32))])) (fun _ k => XS.iconst X0.here hx rfl (hb hby d_method_2_9) k) ?_
  refine Go.step (T' := s₁) (g' := (mkF m 17 #[.val (.int (8 : Int32))] [])) (fun _ k => XS.icmpYes X0.here hx rfl (pc0 := 10) (pc' := 17) rfl (hb hby d_method_2_10) rfl (feq (by decide : ¬ ((8 : Int32) = (1 : Int32)))).2 (by decide) (by decide) k) ?_
  refine Go.step (T' := s₁) (g' := (mkF m 18 #[.val (.int (8 : Int32))] [(.int (8 : Int32))])) (fun _ k => XS.iloadN X0.here hx rfl (hb hby d_method_2_17) rfl  k) ?_
  refine Go.step (T' := s₁) (g' := (mkF m 19 #[.val (.int (8 : Int32))] [(.int (2 : Int32)), (.int (8 : Int32))])) (fun _ k => XS.iconst X0.here hx rfl (hb hby d_method_2_18) k) ?_
  refine Go.step (T' := s₁) (g' := (mkF m 26 #[.val (.int (8 : Int32))] [])) (fun _ k => XS.icmpYes X0.here hx rfl (pc0 := 19) (pc' := 26) rfl (hb hby d_method_2_19) rfl (feq (by decide : ¬ ((8 : Int32) = (2 : Int32)))).2 (by decide) (by decide) k) ?_
  refine Go.step (T' := s₁) (g' := (mkF m 27 #[.val (.int (8 : Int32))] [(.int (8 : Int32))])) (fun _ k => XS.iloadN X0.here hx rfl (hb hby d_method_2_26) rfl  k) ?_
  refine Go.step (T' := s₁) (g' := (mkF m 28 #[.val (.int (8 : Int32))] [(.int (3 : Int32)), (.int (8 : Int32))])) (fun _ k => XS.iconst X0.here hx rfl (hb hby d_method_2_27) k) ?_
  refine Go.step (T' := s₁) (g' := (mkF m 35 #[.val (.int (8 : Int32))] [])) (fun _ k => XS.icmpYes X0.here hx rfl (pc0 := 28) (pc' := 35) rfl (hb hby d_method_2_28) rfl (feq (by decide : ¬ ((8 : Int32) = (3 : Int32)))).2 (by decide) (by decide) k) ?_
  refine Go.step (T' := s₁) (g' := (mkF m 36 #[.val (.int (8 : Int32))] [(.int (8 : Int32))])) (fun _ k => XS.iloadN X0.here hx rfl (hb hby d_method_2_35) rfl  k) ?_
  refine Go.step (T' := s₁) (g' := (mkF m 37 #[.val (.int (8 : Int32))] [(.int (4 : Int32)), (.int (8 : Int32))])) (fun _ k => XS.iconst X0.here hx rfl (hb hby d_method_2_36) k) ?_
  refine Go.step (T' := s₁) (g' := (mkF m 44 #[.val (.int (8 : Int32))] [])) (fun _ k => XS.icmpYes X0.here hx rfl (pc0 := 37) (pc' := 44) rfl (hb hby d_method_2_37) rfl (feq (by decide : ¬ ((8 : Int32) = (4 : Int32)))).2 (by decide) (by decide) k) ?_
  refine Go.step (T' := s₁) (g' := (mkF m 45 #[.val (.int (8 : Int32))] [(.int (8 : Int32))])) (fun _ k => XS.iloadN X0.here hx rfl (hb hby d_method_2_44) rfl  k) ?_
  refine Go.step (T' := s₁) (g' := (mkF m 46 #[.val (.int (8 : Int32))] [(.int (5 : Int32)), (.int (8 : Int32))])) (fun _ k => XS.iconst X0.here hx rfl (hb hby d_method_2_45) k) ?_
  refine Go.step (T' := s₁) (g' := (mkF m 53 #[.val (.int (8 : Int32))] [])) (fun _ k => XS.icmpYes X0.here hx rfl (pc0 := 46) (pc' := 53) rfl (hb hby d_method_2_46) rfl (feq (by decide : ¬ ((8 : Int32) = (5 : Int32)))).2 (by decide) (by decide) k) ?_
  refine Go.step (T' := s₁) (g' := (mkF m 54 #[.val (.int (8 : Int32))] [(.int (8 : Int32))])) (fun _ k => XS.iloadN X0.here hx rfl (hb hby d_method_2_53) rfl  k) ?_
  refine Go.step (T' := s₁) (g' := (mkF m 56 #[.val (.int (8 : Int32))] [(.int (6 : Int32)), (.int (8 : Int32))])) (fun _ k => XS.bipush X0.here hx rfl (hb hby d_method_2_54) k) ?_
  refine Go.step (T' := s₁) (g' := (mkF m 63 #[.val (.int (8 : Int32))] [])) (fun _ k => XS.icmpYes X0.here hx rfl (pc0 := 56) (pc' := 63) rfl (hb hby d_method_2_56) rfl (feq (by decide : ¬ ((8 : Int32) = (6 : Int32)))).2 (by decide) (by decide) k) ?_
  refine Go.step (T' := s₁) (g' := (mkF m 64 #[.val (.int (8 : Int32))] [(.int (8 : Int32))])) (fun _ k => XS.iloadN X0.here hx rfl (hb hby d_method_2_63) rfl  k) ?_
  refine Go.step (T' := s₁) (g' := (mkF m 66 #[.val (.int (8 : Int32))] [(.int (7 : Int32)), (.int (8 : Int32))])) (fun _ k => XS.bipush X0.here hx rfl (hb hby d_method_2_64) k) ?_
  refine Go.step (T' := s₁) (g' := (mkF m 73 #[.val (.int (8 : Int32))] [])) (fun _ k => XS.icmpYes X0.here hx rfl (pc0 := 66) (pc' := 73) rfl (hb hby d_method_2_66) rfl (feq (by decide : ¬ ((8 : Int32) = (7 : Int32)))).2 (by decide) (by decide) k) ?_
  obtain ⟨T101, X101, e101, st101⟩ := getS2 X0 hx hZ hown (host := "") (Or.inl (hw _ (List.mem_of_getElem? (i := 101) rfl))) Via.refl e0 S (g := (mkF m 73 #[.val (.int (8 : Int32))] [])) rfl (hb hby d_method_2_73)
  refine Go.step (T' := T101) (g' := (mkF m 76 #[.val (.int (8 : Int32))] [(.ref w)])) st101 ?_
  exact Go.retA X101 hx (t := (.object "com/example/noteform/noteform/calc/RequestInput")) hret rfl hlk rfl (hb hby d_method_2_76) (⟨rfl, N0, e101⟩) (by decide) (by decide)
theorem own_pick (l : Launch) (Z : State) (a0 : Array Value) (hw : ∀ d ∈ tables_1, d.before a0 Z = true) (ws : List Jvm.Cond) (i : Nat) (w : Nat → Addr) (h0 : Heap) (n0 : Nat) (Z0 : n0 ≤ h0.size) (S0 : Sta Z h0 "com/example/noteform/noteform/calc/RequestInput" "DATE" "Lcom/example/noteform/noteform/calc/RequestInput;" (.ref (w 0))) (S1 : Sta Z h0 "com/example/noteform/noteform/calc/RequestInput" "PRINCIPAL" "Lcom/example/noteform/noteform/calc/RequestInput;" (.ref (w 1))) (S2 : Sta Z h0 "com/example/noteform/noteform/calc/RequestInput" "CLOSING_PRICE" "Lcom/example/noteform/noteform/calc/RequestInput;" (.ref (w 2))) (S3 : Sta Z h0 "com/example/noteform/noteform/calc/RequestInput" "WITH_INTEREST" "Lcom/example/noteform/noteform/calc/RequestInput;" (.ref (w 3))) (S4 : Sta Z h0 "com/example/noteform/noteform/calc/RequestInput" "FROM" "Lcom/example/noteform/noteform/calc/RequestInput;" (.ref (w 4))) (S5 : Sta Z h0 "com/example/noteform/noteform/calc/RequestInput" "TO" "Lcom/example/noteform/noteform/calc/RequestInput;" (.ref (w 5))) (S6 : Sta Z h0 "com/example/noteform/noteform/calc/RequestInput" "PRICES" "Lcom/example/noteform/noteform/calc/RequestInput;" (.ref (w 6))) (S7 : Sta Z h0 "com/example/noteform/noteform/calc/RequestInput" "KIND" "Lcom/example/noteform/noteform/calc/RequestInput;" (.ref (w 7))) (S8 : Sta Z h0 "com/example/noteform/noteform/calc/RequestInput" "PRICE_WINDOW_FROM" "Lcom/example/noteform/noteform/calc/RequestInput;" (.ref (w 8))) (hi : i < 9) :
    Con l Z (⟨"com/example/noteform/noteform/cli/OptionsOfPinLaw", "pick", "(I)Lcom/example/noteform/noteform/calc/RequestInput;"⟩ : MethodName) method_2_code 1 (some (.object "com/example/noteform/noteform/calc/RequestInput")) ({ frames := 0, cells := 0, slots := 0, locals := 0 } : Room) ws #[(.int (Int32.ofNat i))] h0 (Qret (some (.ref (w i))) h0 n0) 0 0 := by
  match i, hi with
  | 0, _ => exact own_pick0 l Z a0 hw ws (w 0) h0 n0 Z0 S0
  | 1, _ => exact own_pick1 l Z a0 hw ws (w 1) h0 n0 Z0 S1
  | 2, _ => exact own_pick2 l Z a0 hw ws (w 2) h0 n0 Z0 S2
  | 3, _ => exact own_pick3 l Z a0 hw ws (w 3) h0 n0 Z0 S3
  | 4, _ => exact own_pick4 l Z a0 hw ws (w 4) h0 n0 Z0 S4
  | 5, _ => exact own_pick5 l Z a0 hw ws (w 5) h0 n0 Z0 S5
  | 6, _ => exact own_pick6 l Z a0 hw ws (w 6) h0 n0 Z0 S6
  | 7, _ => exact own_pick7 l Z a0 hw ws (w 7) h0 n0 Z0 S7
  | 8, _ => exact own_pick8 l Z a0 hw ws (w 8) h0 n0 Z0 S8
def own_EL : List (String × Nat) := consts_1
def own_bx : Nat → List Int32
  | 0 => [45, 45, 100, 97, 116, 101]
  | 1 => [45, 45, 112, 114, 105, 110, 99, 105, 112, 97, 108]
  | 2 => [45, 45, 99, 108, 111, 115, 105, 110, 103, 45, 112, 114, 105, 99, 101]
  | 3 => [45, 45, 119, 105, 116, 104, 45, 105, 110, 116, 101, 114, 101, 115, 116]
  | 4 => [45, 45, 102, 114, 111, 109]
  | 5 => [45, 45, 116, 111]
  | 6 => [45, 45, 112, 114, 105, 99, 101, 115]
  | 7 => [45, 45, 107, 105, 110, 100]
  | 8 => [45, 45, 112, 114, 105, 99, 101, 45, 119, 105, 110, 100, 111, 119, 45, 102, 114, 111, 109]
  | _ => []
theorem own_wS {Z : State} {a0 : Array Value} (hw : ∀ d ∈ tables_1, d.before a0 Z = true) : ∀ a ∈ Bundle.stringAtoms, a.before a0 Z = true := fun d hd => by
  simp only [Bundle.stringAtoms, List.mem_cons, List.not_mem_nil, or_false] at hd
  rcases hd with rfl | rfl | rfl | rfl | rfl | rfl | rfl
  · exact (hw _ (List.mem_of_getElem? (i := 27) rfl))
  · exact (hw _ (List.mem_of_getElem? (i := 28) rfl))
  · exact (hw _ (List.mem_of_getElem? (i := 29) rfl))
  · exact (hw _ (List.mem_of_getElem? (i := 30) rfl))
  · exact (hw _ (List.mem_of_getElem? (i := 31) rfl))
  · exact (hw _ (List.mem_of_getElem? (i := 32) rfl))
  · exact (hw _ (List.mem_of_getElem? (i := 33) rfl))
def Qstr (Z : State) (bs : List Int32) (h0 : Heap) (n0 : Nat) (v : Option Value) (h : Heap) (L : List Loc) : Prop := ∃ (a b : Addr) (k : ClassId), v = some (.ref a) ∧ Fr n0 L ∧ Keep h0 h [] ∧ Exa Z h a "java/lang/String" ∧ Fld Z h a "java/lang/String" "coder" "B" (.int (0 : Int32)) ∧ Fld Z h a "java/lang/String" "value" "[B" (.ref b) ∧ Arv Z h b k .byte (Int32.ofNat bs.length) (bs.map Value.int) (.int (0 : Int32))
theorem own_ef_prog_30_method_2_code_R (m : MethodId) (x0 : Addr) : entryFrame m #[(.ref x0)] 1 = mkF m 0 #[.val (.ref x0)] [] := by first | (simp [entryFrame, mkF, argsToLocals, Value.category]; done) | rfl | (simp [entryFrame, mkF, argsToLocals, own_cI, own_cJ, own_cR, own_cN]; done)
theorem own_pn_Options : plainName "com/example/noteform/noteform/cli/Options" = true := by first | (simp [plainName, overriddenIn]; done) | decide +kernel
theorem d_prog_30_method_2_0 : decode prog_30_method_2_code 0 = .ok (.getstatic 7, 3) := by decide +kernel
theorem d_prog_30_method_2_3 : decode prog_30_method_2_code 3 = .ok (.aload_n 0, 1) := by decide +kernel
theorem d_prog_30_method_2_4 : decode prog_30_method_2_code 4 = .ok (.invokevirtual 13, 3) := by decide +kernel
theorem d_prog_30_method_2_7 : decode prog_30_method_2_code 7 = .ok (.iaload, 1) := by decide +kernel
theorem d_prog_30_method_2_8 : decode prog_30_method_2_code 8 = .ok (.tableswitch 52 1 9 #[62, 67, 72, 77, 82, 87, 92, 97, 102], 52) := by decide +kernel
theorem d_prog_30_method_2_70 : decode prog_30_method_2_code 70 = .ok (.ldc 26, 2) := by decide +kernel
theorem d_prog_30_method_2_72 : decode prog_30_method_2_code 72 = .ok (.goto 40, 3) := by decide +kernel
theorem d_prog_30_method_2_112 : decode prog_30_method_2_code 112 = .ok (.areturn, 1) := by decide +kernel
set_option maxRecDepth 65536 in
set_option maxHeartbeats 40000000 in
theorem own_of0 (l : Launch) (Z : State) (a0 : Array Value) (hw : ∀ d ∈ tables_1, d.before a0 Z = true) (ws : List Jvm.Cond) (a1 vz : Addr) (kz : ClassId) (hEL : EW Z a0 own_EL) (h0 : Heap) (n0 : Nat) (Z0 : n0 ≤ h0.size) (Sz : Sta Z h0 "com/example/noteform/noteform/cli/Options$1" "$SwitchMap$com$example$noteform$noteform$calc$RequestInput" "[I" (.ref vz)) (Vz : Arv Z h0 vz kz .int (9 : Int32) [(.int (1 : Int32)), (.int (2 : Int32)), (.int (3 : Int32)), (.int (4 : Int32)), (.int (5 : Int32)), (.int (6 : Int32)), (.int (7 : Int32)), (.int (8 : Int32)), (.int (9 : Int32))] (.int (0 : Int32))) (E1 : Exa Z h0 a1 "com/example/noteform/noteform/calc/RequestInput") (O1 : Fld Z h0 a1 "java/lang/Enum" "ordinal" "I" (.int (0 : Int32))) :
    ConW l Z own_EL (⟨"com/example/noteform/noteform/cli/Options", "of", "(Lcom/example/noteform/noteform/calc/RequestInput;)Ljava/lang/String;"⟩ : MethodName) prog_30_method_2_code 1 (some (.object "java/lang/String")) ({ frames := 1, cells := 2, slots := 80, locals := 13 } : Room) ws #[(.ref a1)] h0 (Qstr Z (own_bx 0) h0 n0) 2 80 := by
  refine ConW.of (plainFor_of_name own_pn_Options) ?_
  intro pgm e s m below meth c s₁ k0 X0 hx hZ hby hml hown hnm hret hlk e0 hs0 hS hk CR
  have N0 := Fr.nil n0
  have hnm : meth.name = "of" := hnm
  refine GoW.cast (own_ef_prog_30_method_2_code_R m a1) ?_
  have K0 := Keep.refl h0 []
  obtain ⟨T101, X101, e101, st101⟩ := getS2 X0 hx hZ hown (host := "") (Or.inl (hw _ (List.mem_of_getElem? (i := 14) rfl))) Via.refl e0 Sz (g := (mkF m 0 #[.val (.ref a1)] [])) rfl (hb hby d_prog_30_method_2_0)
  refine GoW.step (T' := T101) (g' := (mkF m 3 #[.val (.ref a1)] [(.ref vz)])) st101 ?_
  refine GoW.step (T' := T101) (g' := (mkF m 4 #[.val (.ref a1)] [(.ref a1), (.ref vz)])) (fun _ k => XS.aloadN X101.here hx rfl (hb hby d_prog_30_method_2_3) rfl rfl k) ?_
  obtain ⟨cq102, kq102, q102a, q102b, q102c⟩ := isOf hZ e101 E1
  obtain ⟨_, _, ⟨T102, L102, k102, n102⟩, -, X102, ⟨Lc102, hQ102, l102, y102, z102⟩, st102⟩ := X101.virtualBackUp hx (owner := "java/lang/Enum") (x := (⟨"com/example/noteform/noteform/calc/RequestInput", "ordinal", "()I"⟩ : MethodName)) (y := (⟨"java/lang/Enum", "ordinal", "()I"⟩ : MethodName)) hown (mvT hZ (hw _ (List.mem_of_getElem? (i := 17) rfl))) (mvT hZ (hw _ (List.mem_of_getElem? (i := 18) rfl))) (mvT hZ (hw _ (List.mem_of_getElem? (i := 19) rfl))) (by decide) (mvT hZ (hw _ (List.mem_of_getElem? (i := 21) rfl))) (mvT hZ (hw _ (List.mem_of_getElem? (i := 20) rfl))) (backOf (W := 1) (Q := Qret (some (.int (0 : Int32))) h0 n0) (own_ord l Z a0 hw [] a1 (0 : Int32) h0 n0 Z0 O1) hZ (hw _ (List.mem_of_getElem? (i := 23) rfl)) (hw _ (List.mem_of_getElem? (i := 22) rfl)) (by decide) (by decide)) q102a q102c (g := (mkF m 4 #[.val (.ref a1)] [(.ref a1), (.ref vz)])) rfl (by rw [hml]; rfl) (Steps.refl _) (argsL := []) (rest := [(.ref vz)]) (lenOf own_pd5 rfl) rfl (by show 2 * 0 + _ ≤ _; exact Nat.le_of_eq rfl) (hb hby d_prog_30_method_2_4) (fun _ _ => ⟨rfl, e101, (by decide : 0 + 0 ≤ _), (by decide : 0 + 0 ≤ _)⟩)
  dsimp only [Pt.U, Pt.locs, Pt.cells, Pt.slots] at X102 l102 y102 z102 st102 hQ102
  subst l102 y102 z102
  obtain ⟨rfl, N102q, eh102⟩ := hQ102
  have N102 := Fr.app N0 N102q
  refine GoW.step (T' := T102) (g' := (mkF m 7 #[.val (.ref a1)] [(.int (0 : Int32)), (.ref vz)])) (fun _ k => st102.trans k) ?_
  obtain ⟨cl103, Ar103, q103, S103, M103, H103, G103⟩ := id Vz
  have I103 := inb_of (j := (0 : Int32)) S103 (by decide)
  refine GoW.step (T' := T102) (g' := (mkF m 8 #[.val (.ref a1)] [(.int (1 : Int32))])) (fun _ k => X102.iaload hx (j := (0 : Int32)) (v := (.int (1 : Int32))) (by rw [eh102]; exact Ar103.1) (State.isArrayOf_alike hZ.alike Ar103.2.1) Ar103.2.2 I103 (Has.at H103 I103 rfl) (g := (mkF m 7 #[.val (.ref a1)] [(.int (0 : Int32)), (.ref vz)])) rfl rfl (hb hby d_prog_30_method_2_7) _ k) ?_
  refine GoW.step (T' := T102) (g' := (mkF m 70 #[.val (.ref a1)] [])) (fun _ k => XS.tswIn X102.here hx rfl (pc0 := 8) (pc' := 70) rfl (hb hby d_prog_30_method_2_8) rfl (by decide) (o := 62) (by decide) (by decide) (by decide) k) ?_
  obtain ⟨sa104, T104, h104, kk104, sb104, kb104, X104, e104, E104, hS, hk, hZ, hown, A104, FC104, FV104, V104, lta104, ltb104, CR104, Lt104, sf104, st104⟩ := ldcCH X102 hx hZ hown (hw _ (List.mem_of_getElem? (i := 26) rfl)) (own_wS hw) eh102 hS hk hEL (by decide) CR.1 (vs := [(.int (45 : Int32)), (.int (45 : Int32)), (.int (100 : Int32)), (.int (97 : Int32)), (.int (116 : Int32)), (.int (101 : Int32))]) (z := (6 : Int32)) ⟨by decide, rfl⟩ (by decide) (by decide) (g := (mkF m 70 #[.val (.ref a1)] [])) rfl (hb hby d_prog_30_method_2_70) (n := 24) (by decide) (by decide) (by decide) (by decide)
  have CR := CR.trans CR104
  have Z104 : n0 ≤ h104.size := Nat.le_trans Z0 E104.1
  have K104 := K0.ext E104
  have F105 := Sz.ext E104
  have F106 := Vz.ext E104
  have F107 := E1.ext E104
  have F108 := O1.ext E104
  refine GoW.step (T' := T104) (g' := (mkF m 72 #[.val (.ref a1)] [(.ref sa104)])) st104 ?_
  refine GoW.step (T' := T104) (g' := (mkF m 112 #[.val (.ref a1)] [(.ref sa104)])) (fun _ k => XS.goto X104.here hx rfl (pc0 := 72) (pc' := 112) rfl (hb hby d_prog_30_method_2_72) (by decide) (by decide) k) ?_
  exact GoW.retA X104 hx hS hk hZ hEL CR e104 (t := (.object "java/lang/String")) hret rfl hlk rfl (hb hby d_prog_30_method_2_112) (by rw [e104]; exact ⟨sa104, sb104, _, rfl, N102, K104, A104, FC104, FV104, V104⟩) (by decide) (by decide)
theorem d_prog_30_method_2_75 : decode prog_30_method_2_code 75 = .ok (.ldc 28, 2) := by decide +kernel
theorem d_prog_30_method_2_77 : decode prog_30_method_2_code 77 = .ok (.goto 35, 3) := by decide +kernel
set_option maxRecDepth 65536 in
set_option maxHeartbeats 40000000 in
theorem own_of1 (l : Launch) (Z : State) (a0 : Array Value) (hw : ∀ d ∈ tables_1, d.before a0 Z = true) (ws : List Jvm.Cond) (a1 vz : Addr) (kz : ClassId) (hEL : EW Z a0 own_EL) (h0 : Heap) (n0 : Nat) (Z0 : n0 ≤ h0.size) (Sz : Sta Z h0 "com/example/noteform/noteform/cli/Options$1" "$SwitchMap$com$example$noteform$noteform$calc$RequestInput" "[I" (.ref vz)) (Vz : Arv Z h0 vz kz .int (9 : Int32) [(.int (1 : Int32)), (.int (2 : Int32)), (.int (3 : Int32)), (.int (4 : Int32)), (.int (5 : Int32)), (.int (6 : Int32)), (.int (7 : Int32)), (.int (8 : Int32)), (.int (9 : Int32))] (.int (0 : Int32))) (E1 : Exa Z h0 a1 "com/example/noteform/noteform/calc/RequestInput") (O1 : Fld Z h0 a1 "java/lang/Enum" "ordinal" "I" (.int (1 : Int32))) :
    ConW l Z own_EL (⟨"com/example/noteform/noteform/cli/Options", "of", "(Lcom/example/noteform/noteform/calc/RequestInput;)Ljava/lang/String;"⟩ : MethodName) prog_30_method_2_code 1 (some (.object "java/lang/String")) ({ frames := 1, cells := 2, slots := 80, locals := 13 } : Room) ws #[(.ref a1)] h0 (Qstr Z (own_bx 1) h0 n0) 2 80 := by
  refine ConW.of (plainFor_of_name own_pn_Options) ?_
  intro pgm e s m below meth c s₁ k0 X0 hx hZ hby hml hown hnm hret hlk e0 hs0 hS hk CR
  have N0 := Fr.nil n0
  have hnm : meth.name = "of" := hnm
  refine GoW.cast (own_ef_prog_30_method_2_code_R m a1) ?_
  have K0 := Keep.refl h0 []
  obtain ⟨T101, X101, e101, st101⟩ := getS2 X0 hx hZ hown (host := "") (Or.inl (hw _ (List.mem_of_getElem? (i := 14) rfl))) Via.refl e0 Sz (g := (mkF m 0 #[.val (.ref a1)] [])) rfl (hb hby d_prog_30_method_2_0)
  refine GoW.step (T' := T101) (g' := (mkF m 3 #[.val (.ref a1)] [(.ref vz)])) st101 ?_
  refine GoW.step (T' := T101) (g' := (mkF m 4 #[.val (.ref a1)] [(.ref a1), (.ref vz)])) (fun _ k => XS.aloadN X101.here hx rfl (hb hby d_prog_30_method_2_3) rfl rfl k) ?_
  obtain ⟨cq102, kq102, q102a, q102b, q102c⟩ := isOf hZ e101 E1
  obtain ⟨_, _, ⟨T102, L102, k102, n102⟩, -, X102, ⟨Lc102, hQ102, l102, y102, z102⟩, st102⟩ := X101.virtualBackUp hx (owner := "java/lang/Enum") (x := (⟨"com/example/noteform/noteform/calc/RequestInput", "ordinal", "()I"⟩ : MethodName)) (y := (⟨"java/lang/Enum", "ordinal", "()I"⟩ : MethodName)) hown (mvT hZ (hw _ (List.mem_of_getElem? (i := 17) rfl))) (mvT hZ (hw _ (List.mem_of_getElem? (i := 18) rfl))) (mvT hZ (hw _ (List.mem_of_getElem? (i := 19) rfl))) (by decide) (mvT hZ (hw _ (List.mem_of_getElem? (i := 21) rfl))) (mvT hZ (hw _ (List.mem_of_getElem? (i := 20) rfl))) (backOf (W := 1) (Q := Qret (some (.int (1 : Int32))) h0 n0) (own_ord l Z a0 hw [] a1 (1 : Int32) h0 n0 Z0 O1) hZ (hw _ (List.mem_of_getElem? (i := 23) rfl)) (hw _ (List.mem_of_getElem? (i := 22) rfl)) (by decide) (by decide)) q102a q102c (g := (mkF m 4 #[.val (.ref a1)] [(.ref a1), (.ref vz)])) rfl (by rw [hml]; rfl) (Steps.refl _) (argsL := []) (rest := [(.ref vz)]) (lenOf own_pd5 rfl) rfl (by show 2 * 0 + _ ≤ _; exact Nat.le_of_eq rfl) (hb hby d_prog_30_method_2_4) (fun _ _ => ⟨rfl, e101, (by decide : 0 + 0 ≤ _), (by decide : 0 + 0 ≤ _)⟩)
  dsimp only [Pt.U, Pt.locs, Pt.cells, Pt.slots] at X102 l102 y102 z102 st102 hQ102
  subst l102 y102 z102
  obtain ⟨rfl, N102q, eh102⟩ := hQ102
  have N102 := Fr.app N0 N102q
  refine GoW.step (T' := T102) (g' := (mkF m 7 #[.val (.ref a1)] [(.int (1 : Int32)), (.ref vz)])) (fun _ k => st102.trans k) ?_
  obtain ⟨cl103, Ar103, q103, S103, M103, H103, G103⟩ := id Vz
  have I103 := inb_of (j := (1 : Int32)) S103 (by decide)
  refine GoW.step (T' := T102) (g' := (mkF m 8 #[.val (.ref a1)] [(.int (2 : Int32))])) (fun _ k => X102.iaload hx (j := (1 : Int32)) (v := (.int (2 : Int32))) (by rw [eh102]; exact Ar103.1) (State.isArrayOf_alike hZ.alike Ar103.2.1) Ar103.2.2 I103 (Has.at H103 I103 rfl) (g := (mkF m 7 #[.val (.ref a1)] [(.int (1 : Int32)), (.ref vz)])) rfl rfl (hb hby d_prog_30_method_2_7) _ k) ?_
  refine GoW.step (T' := T102) (g' := (mkF m 75 #[.val (.ref a1)] [])) (fun _ k => XS.tswIn X102.here hx rfl (pc0 := 8) (pc' := 75) rfl (hb hby d_prog_30_method_2_8) rfl (by decide) (o := 67) (by decide) (by decide) (by decide) k) ?_
  obtain ⟨sa104, T104, h104, kk104, sb104, kb104, X104, e104, E104, hS, hk, hZ, hown, A104, FC104, FV104, V104, lta104, ltb104, CR104, Lt104, sf104, st104⟩ := ldcCH X102 hx hZ hown (hw _ (List.mem_of_getElem? (i := 91) rfl)) (own_wS hw) eh102 hS hk hEL (by decide) CR.1 (vs := [(.int (45 : Int32)), (.int (45 : Int32)), (.int (112 : Int32)), (.int (114 : Int32)), (.int (105 : Int32)), (.int (110 : Int32)), (.int (99 : Int32)), (.int (105 : Int32)), (.int (112 : Int32)), (.int (97 : Int32)), (.int (108 : Int32))]) (z := (11 : Int32)) ⟨by decide, rfl⟩ (by decide) (by decide) (g := (mkF m 75 #[.val (.ref a1)] [])) rfl (hb hby d_prog_30_method_2_75) (n := 44) (by decide) (by decide) (by decide) (by decide)
  have CR := CR.trans CR104
  have Z104 : n0 ≤ h104.size := Nat.le_trans Z0 E104.1
  have K104 := K0.ext E104
  have F105 := Sz.ext E104
  have F106 := Vz.ext E104
  have F107 := E1.ext E104
  have F108 := O1.ext E104
  refine GoW.step (T' := T104) (g' := (mkF m 77 #[.val (.ref a1)] [(.ref sa104)])) st104 ?_
  refine GoW.step (T' := T104) (g' := (mkF m 112 #[.val (.ref a1)] [(.ref sa104)])) (fun _ k => XS.goto X104.here hx rfl (pc0 := 77) (pc' := 112) rfl (hb hby d_prog_30_method_2_77) (by decide) (by decide) k) ?_
  exact GoW.retA X104 hx hS hk hZ hEL CR e104 (t := (.object "java/lang/String")) hret rfl hlk rfl (hb hby d_prog_30_method_2_112) (by rw [e104]; exact ⟨sa104, sb104, _, rfl, N102, K104, A104, FC104, FV104, V104⟩) (by decide) (by decide)
theorem d_prog_30_method_2_80 : decode prog_30_method_2_code 80 = .ok (.ldc 30, 2) := by decide +kernel
theorem d_prog_30_method_2_82 : decode prog_30_method_2_code 82 = .ok (.goto 30, 3) := by decide +kernel
set_option maxRecDepth 65536 in
set_option maxHeartbeats 40000000 in
theorem own_of2 (l : Launch) (Z : State) (a0 : Array Value) (hw : ∀ d ∈ tables_1, d.before a0 Z = true) (ws : List Jvm.Cond) (a1 vz : Addr) (kz : ClassId) (hEL : EW Z a0 own_EL) (h0 : Heap) (n0 : Nat) (Z0 : n0 ≤ h0.size) (Sz : Sta Z h0 "com/example/noteform/noteform/cli/Options$1" "$SwitchMap$com$example$noteform$noteform$calc$RequestInput" "[I" (.ref vz)) (Vz : Arv Z h0 vz kz .int (9 : Int32) [(.int (1 : Int32)), (.int (2 : Int32)), (.int (3 : Int32)), (.int (4 : Int32)), (.int (5 : Int32)), (.int (6 : Int32)), (.int (7 : Int32)), (.int (8 : Int32)), (.int (9 : Int32))] (.int (0 : Int32))) (E1 : Exa Z h0 a1 "com/example/noteform/noteform/calc/RequestInput") (O1 : Fld Z h0 a1 "java/lang/Enum" "ordinal" "I" (.int (2 : Int32))) :
    ConW l Z own_EL (⟨"com/example/noteform/noteform/cli/Options", "of", "(Lcom/example/noteform/noteform/calc/RequestInput;)Ljava/lang/String;"⟩ : MethodName) prog_30_method_2_code 1 (some (.object "java/lang/String")) ({ frames := 1, cells := 2, slots := 80, locals := 13 } : Room) ws #[(.ref a1)] h0 (Qstr Z (own_bx 2) h0 n0) 2 80 := by
  refine ConW.of (plainFor_of_name own_pn_Options) ?_
  intro pgm e s m below meth c s₁ k0 X0 hx hZ hby hml hown hnm hret hlk e0 hs0 hS hk CR
  have N0 := Fr.nil n0
  have hnm : meth.name = "of" := hnm
  refine GoW.cast (own_ef_prog_30_method_2_code_R m a1) ?_
  have K0 := Keep.refl h0 []
  obtain ⟨T101, X101, e101, st101⟩ := getS2 X0 hx hZ hown (host := "") (Or.inl (hw _ (List.mem_of_getElem? (i := 14) rfl))) Via.refl e0 Sz (g := (mkF m 0 #[.val (.ref a1)] [])) rfl (hb hby d_prog_30_method_2_0)
  refine GoW.step (T' := T101) (g' := (mkF m 3 #[.val (.ref a1)] [(.ref vz)])) st101 ?_
  refine GoW.step (T' := T101) (g' := (mkF m 4 #[.val (.ref a1)] [(.ref a1), (.ref vz)])) (fun _ k => XS.aloadN X101.here hx rfl (hb hby d_prog_30_method_2_3) rfl rfl k) ?_
  obtain ⟨cq102, kq102, q102a, q102b, q102c⟩ := isOf hZ e101 E1
  obtain ⟨_, _, ⟨T102, L102, k102, n102⟩, -, X102, ⟨Lc102, hQ102, l102, y102, z102⟩, st102⟩ := X101.virtualBackUp hx (owner := "java/lang/Enum") (x := (⟨"com/example/noteform/noteform/calc/RequestInput", "ordinal", "()I"⟩ : MethodName)) (y := (⟨"java/lang/Enum", "ordinal", "()I"⟩ : MethodName)) hown (mvT hZ (hw _ (List.mem_of_getElem? (i := 17) rfl))) (mvT hZ (hw _ (List.mem_of_getElem? (i := 18) rfl))) (mvT hZ (hw _ (List.mem_of_getElem? (i := 19) rfl))) (by decide) (mvT hZ (hw _ (List.mem_of_getElem? (i := 21) rfl))) (mvT hZ (hw _ (List.mem_of_getElem? (i := 20) rfl))) (backOf (W := 1) (Q := Qret (some (.int (2 : Int32))) h0 n0) (own_ord l Z a0 hw [] a1 (2 : Int32) h0 n0 Z0 O1) hZ (hw _ (List.mem_of_getElem? (i := 23) rfl)) (hw _ (List.mem_of_getElem? (i := 22) rfl)) (by decide) (by decide)) q102a q102c (g := (mkF m 4 #[.val (.ref a1)] [(.ref a1), (.ref vz)])) rfl (by rw [hml]; rfl) (Steps.refl _) (argsL := []) (rest := [(.ref vz)]) (lenOf own_pd5 rfl) rfl (by show 2 * 0 + _ ≤ _; exact Nat.le_of_eq rfl) (hb hby d_prog_30_method_2_4) (fun _ _ => ⟨rfl, e101, (by decide : 0 + 0 ≤ _), (by decide : 0 + 0 ≤ _)⟩)
  dsimp only [Pt.U, Pt.locs, Pt.cells, Pt.slots] at X102 l102 y102 z102 st102 hQ102
  subst l102 y102 z102
  obtain ⟨rfl, N102q, eh102⟩ := hQ102
  have N102 := Fr.app N0 N102q
  refine GoW.step (T' := T102) (g' := (mkF m 7 #[.val (.ref a1)] [(.int (2 : Int32)), (.ref vz)])) (fun _ k => st102.trans k) ?_
  obtain ⟨cl103, Ar103, q103, S103, M103, H103, G103⟩ := id Vz
  have I103 := inb_of (j := (2 : Int32)) S103 (by decide)
  refine GoW.step (T' := T102) (g' := (mkF m 8 #[.val (.ref a1)] [(.int (3 : Int32))])) (fun _ k => X102.iaload hx (j := (2 : Int32)) (v := (.int (3 : Int32))) (by rw [eh102]; exact Ar103.1) (State.isArrayOf_alike hZ.alike Ar103.2.1) Ar103.2.2 I103 (Has.at H103 I103 rfl) (g := (mkF m 7 #[.val (.ref a1)] [(.int (2 : Int32)), (.ref vz)])) rfl rfl (hb hby d_prog_30_method_2_7) _ k) ?_
  refine GoW.step (T' := T102) (g' := (mkF m 80 #[.val (.ref a1)] [])) (fun _ k => XS.tswIn X102.here hx rfl (pc0 := 8) (pc' := 80) rfl (hb hby d_prog_30_method_2_8) rfl (by decide) (o := 72) (by decide) (by decide) (by decide) k) ?_
  obtain ⟨sa104, T104, h104, kk104, sb104, kb104, X104, e104, E104, hS, hk, hZ, hown, A104, FC104, FV104, V104, lta104, ltb104, CR104, Lt104, sf104, st104⟩ := ldcCH X102 hx hZ hown (hw _ (List.mem_of_getElem? (i := 94) rfl)) (own_wS hw) eh102 hS hk hEL (by decide) CR.1 (vs := [(.int (45 : Int32)), (.int (45 : Int32)), (.int (99 : Int32)), (.int (108 : Int32)), (.int (111 : Int32)), (.int (115 : Int32)), (.int (105 : Int32)), (.int (110 : Int32)), (.int (103 : Int32)), (.int (45 : Int32)), (.int (112 : Int32)), (.int (114 : Int32)), (.int (105 : Int32)), (.int (99 : Int32)), (.int (101 : Int32))]) (z := (15 : Int32)) ⟨by decide, rfl⟩ (by decide) (by decide) (g := (mkF m 80 #[.val (.ref a1)] [])) rfl (hb hby d_prog_30_method_2_80) (n := 60) (by decide) (by decide) (by decide) (by decide)
  have CR := CR.trans CR104
  have Z104 : n0 ≤ h104.size := Nat.le_trans Z0 E104.1
  have K104 := K0.ext E104
  have F105 := Sz.ext E104
  have F106 := Vz.ext E104
  have F107 := E1.ext E104
  have F108 := O1.ext E104
  refine GoW.step (T' := T104) (g' := (mkF m 82 #[.val (.ref a1)] [(.ref sa104)])) st104 ?_
  refine GoW.step (T' := T104) (g' := (mkF m 112 #[.val (.ref a1)] [(.ref sa104)])) (fun _ k => XS.goto X104.here hx rfl (pc0 := 82) (pc' := 112) rfl (hb hby d_prog_30_method_2_82) (by decide) (by decide) k) ?_
  exact GoW.retA X104 hx hS hk hZ hEL CR e104 (t := (.object "java/lang/String")) hret rfl hlk rfl (hb hby d_prog_30_method_2_112) (by rw [e104]; exact ⟨sa104, sb104, _, rfl, N102, K104, A104, FC104, FV104, V104⟩) (by decide) (by decide)
theorem d_prog_30_method_2_85 : decode prog_30_method_2_code 85 = .ok (.ldc 32, 2) := by decide +kernel
theorem d_prog_30_method_2_87 : decode prog_30_method_2_code 87 = .ok (.goto 25, 3) := by decide +kernel
set_option maxRecDepth 65536 in
set_option maxHeartbeats 40000000 in
theorem own_of3 (l : Launch) (Z : State) (a0 : Array Value) (hw : ∀ d ∈ tables_1, d.before a0 Z = true) (ws : List Jvm.Cond) (a1 vz : Addr) (kz : ClassId) (hEL : EW Z a0 own_EL) (h0 : Heap) (n0 : Nat) (Z0 : n0 ≤ h0.size) (Sz : Sta Z h0 "com/example/noteform/noteform/cli/Options$1" "$SwitchMap$com$example$noteform$noteform$calc$RequestInput" "[I" (.ref vz)) (Vz : Arv Z h0 vz kz .int (9 : Int32) [(.int (1 : Int32)), (.int (2 : Int32)), (.int (3 : Int32)), (.int (4 : Int32)), (.int (5 : Int32)), (.int (6 : Int32)), (.int (7 : Int32)), (.int (8 : Int32)), (.int (9 : Int32))] (.int (0 : Int32))) (E1 : Exa Z h0 a1 "com/example/noteform/noteform/calc/RequestInput") (O1 : Fld Z h0 a1 "java/lang/Enum" "ordinal" "I" (.int (3 : Int32))) :
    ConW l Z own_EL (⟨"com/example/noteform/noteform/cli/Options", "of", "(Lcom/example/noteform/noteform/calc/RequestInput;)Ljava/lang/String;"⟩ : MethodName) prog_30_method_2_code 1 (some (.object "java/lang/String")) ({ frames := 1, cells := 2, slots := 80, locals := 13 } : Room) ws #[(.ref a1)] h0 (Qstr Z (own_bx 3) h0 n0) 2 80 := by
  refine ConW.of (plainFor_of_name own_pn_Options) ?_
  intro pgm e s m below meth c s₁ k0 X0 hx hZ hby hml hown hnm hret hlk e0 hs0 hS hk CR
  have N0 := Fr.nil n0
  have hnm : meth.name = "of" := hnm
  refine GoW.cast (own_ef_prog_30_method_2_code_R m a1) ?_
  have K0 := Keep.refl h0 []
  obtain ⟨T101, X101, e101, st101⟩ := getS2 X0 hx hZ hown (host := "") (Or.inl (hw _ (List.mem_of_getElem? (i := 14) rfl))) Via.refl e0 Sz (g := (mkF m 0 #[.val (.ref a1)] [])) rfl (hb hby d_prog_30_method_2_0)
  refine GoW.step (T' := T101) (g' := (mkF m 3 #[.val (.ref a1)] [(.ref vz)])) st101 ?_
  refine GoW.step (T' := T101) (g' := (mkF m 4 #[.val (.ref a1)] [(.ref a1), (.ref vz)])) (fun _ k => XS.aloadN X101.here hx rfl (hb hby d_prog_30_method_2_3) rfl rfl k) ?_
  obtain ⟨cq102, kq102, q102a, q102b, q102c⟩ := isOf hZ e101 E1
  obtain ⟨_, _, ⟨T102, L102, k102, n102⟩, -, X102, ⟨Lc102, hQ102, l102, y102, z102⟩, st102⟩ := X101.virtualBackUp hx (owner := "java/lang/Enum") (x := (⟨"com/example/noteform/noteform/calc/RequestInput", "ordinal", "()I"⟩ : MethodName)) (y := (⟨"java/lang/Enum", "ordinal", "()I"⟩ : MethodName)) hown (mvT hZ (hw _ (List.mem_of_getElem? (i := 17) rfl))) (mvT hZ (hw _ (List.mem_of_getElem? (i := 18) rfl))) (mvT hZ (hw _ (List.mem_of_getElem? (i := 19) rfl))) (by decide) (mvT hZ (hw _ (List.mem_of_getElem? (i := 21) rfl))) (mvT hZ (hw _ (List.mem_of_getElem? (i := 20) rfl))) (backOf (W := 1) (Q := Qret (some (.int (3 : Int32))) h0 n0) (own_ord l Z a0 hw [] a1 (3 : Int32) h0 n0 Z0 O1) hZ (hw _ (List.mem_of_getElem? (i := 23) rfl)) (hw _ (List.mem_of_getElem? (i := 22) rfl)) (by decide) (by decide)) q102a q102c (g := (mkF m 4 #[.val (.ref a1)] [(.ref a1), (.ref vz)])) rfl (by rw [hml]; rfl) (Steps.refl _) (argsL := []) (rest := [(.ref vz)]) (lenOf own_pd5 rfl) rfl (by show 2 * 0 + _ ≤ _; exact Nat.le_of_eq rfl) (hb hby d_prog_30_method_2_4) (fun _ _ => ⟨rfl, e101, (by decide : 0 + 0 ≤ _), (by decide : 0 + 0 ≤ _)⟩)
  dsimp only [Pt.U, Pt.locs, Pt.cells, Pt.slots] at X102 l102 y102 z102 st102 hQ102
  subst l102 y102 z102
  obtain ⟨rfl, N102q, eh102⟩ := hQ102
  have N102 := Fr.app N0 N102q
  refine GoW.step (T' := T102) (g' := (mkF m 7 #[.val (.ref a1)] [(.int (3 : Int32)), (.ref vz)])) (fun _ k => st102.trans k) ?_
  obtain ⟨cl103, Ar103, q103, S103, M103, H103, G103⟩ := id Vz
  have I103 := inb_of (j := (3 : Int32)) S103 (by decide)
  refine GoW.step (T' := T102) (g' := (mkF m 8 #[.val (.ref a1)] [(.int (4 : Int32))])) (fun _ k => X102.iaload hx (j := (3 : Int32)) (v := (.int (4 : Int32))) (by rw [eh102]; exact Ar103.1) (State.isArrayOf_alike hZ.alike Ar103.2.1) Ar103.2.2 I103 (Has.at H103 I103 rfl) (g := (mkF m 7 #[.val (.ref a1)] [(.int (3 : Int32)), (.ref vz)])) rfl rfl (hb hby d_prog_30_method_2_7) _ k) ?_
  refine GoW.step (T' := T102) (g' := (mkF m 85 #[.val (.ref a1)] [])) (fun _ k => XS.tswIn X102.here hx rfl (pc0 := 8) (pc' := 85) rfl (hb hby d_prog_30_method_2_8) rfl (by decide) (o := 77) (by decide) (by decide) (by decide) k) ?_
  obtain ⟨sa104, T104, h104, kk104, sb104, kb104, X104, e104, E104, hS, hk, hZ, hown, A104, FC104, FV104, V104, lta104, ltb104, CR104, Lt104, sf104, st104⟩ := ldcCH X102 hx hZ hown (hw _ (List.mem_of_getElem? (i := 34) rfl)) (own_wS hw) eh102 hS hk hEL (by decide) CR.1 (vs := [(.int (45 : Int32)), (.int (45 : Int32)), (.int (119 : Int32)), (.int (105 : Int32)), (.int (116 : Int32)), (.int (104 : Int32)), (.int (45 : Int32)), (.int (105 : Int32)), (.int (110 : Int32)), (.int (116 : Int32)), (.int (101 : Int32)), (.int (114 : Int32)), (.int (101 : Int32)), (.int (115 : Int32)), (.int (116 : Int32))]) (z := (15 : Int32)) ⟨by decide, rfl⟩ (by decide) (by decide) (g := (mkF m 85 #[.val (.ref a1)] [])) rfl (hb hby d_prog_30_method_2_85) (n := 60) (by decide) (by decide) (by decide) (by decide)
  have CR := CR.trans CR104
  have Z104 : n0 ≤ h104.size := Nat.le_trans Z0 E104.1
  have K104 := K0.ext E104
  have F105 := Sz.ext E104
  have F106 := Vz.ext E104
  have F107 := E1.ext E104
  have F108 := O1.ext E104
  refine GoW.step (T' := T104) (g' := (mkF m 87 #[.val (.ref a1)] [(.ref sa104)])) st104 ?_
  refine GoW.step (T' := T104) (g' := (mkF m 112 #[.val (.ref a1)] [(.ref sa104)])) (fun _ k => XS.goto X104.here hx rfl (pc0 := 87) (pc' := 112) rfl (hb hby d_prog_30_method_2_87) (by decide) (by decide) k) ?_
  exact GoW.retA X104 hx hS hk hZ hEL CR e104 (t := (.object "java/lang/String")) hret rfl hlk rfl (hb hby d_prog_30_method_2_112) (by rw [e104]; exact ⟨sa104, sb104, _, rfl, N102, K104, A104, FC104, FV104, V104⟩) (by decide) (by decide)
theorem d_prog_30_method_2_90 : decode prog_30_method_2_code 90 = .ok (.ldc 34, 2) := by decide +kernel
theorem d_prog_30_method_2_92 : decode prog_30_method_2_code 92 = .ok (.goto 20, 3) := by decide +kernel
set_option maxRecDepth 65536 in
set_option maxHeartbeats 40000000 in
theorem own_of4 (l : Launch) (Z : State) (a0 : Array Value) (hw : ∀ d ∈ tables_1, d.before a0 Z = true) (ws : List Jvm.Cond) (a1 vz : Addr) (kz : ClassId) (hEL : EW Z a0 own_EL) (h0 : Heap) (n0 : Nat) (Z0 : n0 ≤ h0.size) (Sz : Sta Z h0 "com/example/noteform/noteform/cli/Options$1" "$SwitchMap$com$example$noteform$noteform$calc$RequestInput" "[I" (.ref vz)) (Vz : Arv Z h0 vz kz .int (9 : Int32) [(.int (1 : Int32)), (.int (2 : Int32)), (.int (3 : Int32)), (.int (4 : Int32)), (.int (5 : Int32)), (.int (6 : Int32)), (.int (7 : Int32)), (.int (8 : Int32)), (.int (9 : Int32))] (.int (0 : Int32))) (E1 : Exa Z h0 a1 "com/example/noteform/noteform/calc/RequestInput") (O1 : Fld Z h0 a1 "java/lang/Enum" "ordinal" "I" (.int (4 : Int32))) :
    ConW l Z own_EL (⟨"com/example/noteform/noteform/cli/Options", "of", "(Lcom/example/noteform/noteform/calc/RequestInput;)Ljava/lang/String;"⟩ : MethodName) prog_30_method_2_code 1 (some (.object "java/lang/String")) ({ frames := 1, cells := 2, slots := 80, locals := 13 } : Room) ws #[(.ref a1)] h0 (Qstr Z (own_bx 4) h0 n0) 2 80 := by
  refine ConW.of (plainFor_of_name own_pn_Options) ?_
  intro pgm e s m below meth c s₁ k0 X0 hx hZ hby hml hown hnm hret hlk e0 hs0 hS hk CR
  have N0 := Fr.nil n0
  have hnm : meth.name = "of" := hnm
  refine GoW.cast (own_ef_prog_30_method_2_code_R m a1) ?_
  have K0 := Keep.refl h0 []
  obtain ⟨T101, X101, e101, st101⟩ := getS2 X0 hx hZ hown (host := "") (Or.inl (hw _ (List.mem_of_getElem? (i := 14) rfl))) Via.refl e0 Sz (g := (mkF m 0 #[.val (.ref a1)] [])) rfl (hb hby d_prog_30_method_2_0)
  refine GoW.step (T' := T101) (g' := (mkF m 3 #[.val (.ref a1)] [(.ref vz)])) st101 ?_
  refine GoW.step (T' := T101) (g' := (mkF m 4 #[.val (.ref a1)] [(.ref a1), (.ref vz)])) (fun _ k => XS.aloadN X101.here hx rfl (hb hby d_prog_30_method_2_3) rfl rfl k) ?_
  obtain ⟨cq102, kq102, q102a, q102b, q102c⟩ := isOf hZ e101 E1
  obtain ⟨_, _, ⟨T102, L102, k102, n102⟩, -, X102, ⟨Lc102, hQ102, l102, y102, z102⟩, st102⟩ := X101.virtualBackUp hx (owner := "java/lang/Enum") (x := (⟨"com/example/noteform/noteform/calc/RequestInput", "ordinal", "()I"⟩ : MethodName)) (y := (⟨"java/lang/Enum", "ordinal", "()I"⟩ : MethodName)) hown (mvT hZ (hw _ (List.mem_of_getElem? (i := 17) rfl))) (mvT hZ (hw _ (List.mem_of_getElem? (i := 18) rfl))) (mvT hZ (hw _ (List.mem_of_getElem? (i := 19) rfl))) (by decide) (mvT hZ (hw _ (List.mem_of_getElem? (i := 21) rfl))) (mvT hZ (hw _ (List.mem_of_getElem? (i := 20) rfl))) (backOf (W := 1) (Q := Qret (some (.int (4 : Int32))) h0 n0) (own_ord l Z a0 hw [] a1 (4 : Int32) h0 n0 Z0 O1) hZ (hw _ (List.mem_of_getElem? (i := 23) rfl)) (hw _ (List.mem_of_getElem? (i := 22) rfl)) (by decide) (by decide)) q102a q102c (g := (mkF m 4 #[.val (.ref a1)] [(.ref a1), (.ref vz)])) rfl (by rw [hml]; rfl) (Steps.refl _) (argsL := []) (rest := [(.ref vz)]) (lenOf own_pd5 rfl) rfl (by show 2 * 0 + _ ≤ _; exact Nat.le_of_eq rfl) (hb hby d_prog_30_method_2_4) (fun _ _ => ⟨rfl, e101, (by decide : 0 + 0 ≤ _), (by decide : 0 + 0 ≤ _)⟩)
  dsimp only [Pt.U, Pt.locs, Pt.cells, Pt.slots] at X102 l102 y102 z102 st102 hQ102
  subst l102 y102 z102
  obtain ⟨rfl, N102q, eh102⟩ := hQ102
  have N102 := Fr.app N0 N102q
  refine GoW.step (T' := T102) (g' := (mkF m 7 #[.val (.ref a1)] [(.int (4 : Int32)), (.ref vz)])) (fun _ k => st102.trans k) ?_
  obtain ⟨cl103, Ar103, q103, S103, M103, H103, G103⟩ := id Vz
  have I103 := inb_of (j := (4 : Int32)) S103 (by decide)
  refine GoW.step (T' := T102) (g' := (mkF m 8 #[.val (.ref a1)] [(.int (5 : Int32))])) (fun _ k => X102.iaload hx (j := (4 : Int32)) (v := (.int (5 : Int32))) (by rw [eh102]; exact Ar103.1) (State.isArrayOf_alike hZ.alike Ar103.2.1) Ar103.2.2 I103 (Has.at H103 I103 rfl) (g := (mkF m 7 #[.val (.ref a1)] [(.int (4 : Int32)), (.ref vz)])) rfl rfl (hb hby d_prog_30_method_2_7) _ k) ?_
  refine GoW.step (T' := T102) (g' := (mkF m 90 #[.val (.ref a1)] [])) (fun _ k => XS.tswIn X102.here hx rfl (pc0 := 8) (pc' := 90) rfl (hb hby d_prog_30_method_2_8) rfl (by decide) (o := 82) (by decide) (by decide) (by decide) k) ?_
  obtain ⟨sa104, T104, h104, kk104, sb104, kb104, X104, e104, E104, hS, hk, hZ, hown, A104, FC104, FV104, V104, lta104, ltb104, CR104, Lt104, sf104, st104⟩ := ldcCH X102 hx hZ hown (hw _ (List.mem_of_getElem? (i := 97) rfl)) (own_wS hw) eh102 hS hk hEL (by decide) CR.1 (vs := [(.int (45 : Int32)), (.int (45 : Int32)), (.int (102 : Int32)), (.int (114 : Int32)), (.int (111 : Int32)), (.int (109 : Int32))]) (z := (6 : Int32)) ⟨by decide, rfl⟩ (by decide) (by decide) (g := (mkF m 90 #[.val (.ref a1)] [])) rfl (hb hby d_prog_30_method_2_90) (n := 24) (by decide) (by decide) (by decide) (by decide)
  have CR := CR.trans CR104
  have Z104 : n0 ≤ h104.size := Nat.le_trans Z0 E104.1
  have K104 := K0.ext E104
  have F105 := Sz.ext E104
  have F106 := Vz.ext E104
  have F107 := E1.ext E104
  have F108 := O1.ext E104
  refine GoW.step (T' := T104) (g' := (mkF m 92 #[.val (.ref a1)] [(.ref sa104)])) st104 ?_
  refine GoW.step (T' := T104) (g' := (mkF m 112 #[.val (.ref a1)] [(.ref sa104)])) (fun _ k => XS.goto X104.here hx rfl (pc0 := 92) (pc' := 112) rfl (hb hby d_prog_30_method_2_92) (by decide) (by decide) k) ?_
  exact GoW.retA X104 hx hS hk hZ hEL CR e104 (t := (.object "java/lang/String")) hret rfl hlk rfl (hb hby d_prog_30_method_2_112) (by rw [e104]; exact ⟨sa104, sb104, _, rfl, N102, K104, A104, FC104, FV104, V104⟩) (by decide) (by decide)
theorem d_prog_30_method_2_95 : decode prog_30_method_2_code 95 = .ok (.ldc 36, 2) := by decide +kernel
theorem d_prog_30_method_2_97 : decode prog_30_method_2_code 97 = .ok (.goto 15, 3) := by decide +kernel
set_option maxRecDepth 65536 in
set_option maxHeartbeats 40000000 in
theorem own_of5 (l : Launch) (Z : State) (a0 : Array Value) (hw : ∀ d ∈ tables_1, d.before a0 Z = true) (ws : List Jvm.Cond) (a1 vz : Addr) (kz : ClassId) (hEL : EW Z a0 own_EL) (h0 : Heap) (n0 : Nat) (Z0 : n0 ≤ h0.size) (Sz : Sta Z h0 "com/example/noteform/noteform/cli/Options$1" "$SwitchMap$com$example$noteform$noteform$calc$RequestInput" "[I" (.ref vz)) (Vz : Arv Z h0 vz kz .int (9 : Int32) [(.int (1 : Int32)), (.int (2 : Int32)), (.int (3 : Int32)), (.int (4 : Int32)), (.int (5 : Int32)), (.int (6 : Int32)), (.int (7 : Int32)), (.int (8 : Int32)), (.int (9 : Int32))] (.int (0 : Int32))) (E1 : Exa Z h0 a1 "com/example/noteform/noteform/calc/RequestInput") (O1 : Fld Z h0 a1 "java/lang/Enum" "ordinal" "I" (.int (5 : Int32))) :
    ConW l Z own_EL (⟨"com/example/noteform/noteform/cli/Options", "of", "(Lcom/example/noteform/noteform/calc/RequestInput;)Ljava/lang/String;"⟩ : MethodName) prog_30_method_2_code 1 (some (.object "java/lang/String")) ({ frames := 1, cells := 2, slots := 80, locals := 13 } : Room) ws #[(.ref a1)] h0 (Qstr Z (own_bx 5) h0 n0) 2 80 := by
  refine ConW.of (plainFor_of_name own_pn_Options) ?_
  intro pgm e s m below meth c s₁ k0 X0 hx hZ hby hml hown hnm hret hlk e0 hs0 hS hk CR
  have N0 := Fr.nil n0
  have hnm : meth.name = "of" := hnm
  refine GoW.cast (own_ef_prog_30_method_2_code_R m a1) ?_
  have K0 := Keep.refl h0 []
  obtain ⟨T101, X101, e101, st101⟩ := getS2 X0 hx hZ hown (host := "") (Or.inl (hw _ (List.mem_of_getElem? (i := 14) rfl))) Via.refl e0 Sz (g := (mkF m 0 #[.val (.ref a1)] [])) rfl (hb hby d_prog_30_method_2_0)
  refine GoW.step (T' := T101) (g' := (mkF m 3 #[.val (.ref a1)] [(.ref vz)])) st101 ?_
  refine GoW.step (T' := T101) (g' := (mkF m 4 #[.val (.ref a1)] [(.ref a1), (.ref vz)])) (fun _ k => XS.aloadN X101.here hx rfl (hb hby d_prog_30_method_2_3) rfl rfl k) ?_
  obtain ⟨cq102, kq102, q102a, q102b, q102c⟩ := isOf hZ e101 E1
  obtain ⟨_, _, ⟨T102, L102, k102, n102⟩, -, X102, ⟨Lc102, hQ102, l102, y102, z102⟩, st102⟩ := X101.virtualBackUp hx (owner := "java/lang/Enum") (x := (⟨"com/example/noteform/noteform/calc/RequestInput", "ordinal", "()I"⟩ : MethodName)) (y := (⟨"java/lang/Enum", "ordinal", "()I"⟩ : MethodName)) hown (mvT hZ (hw _ (List.mem_of_getElem? (i := 17) rfl))) (mvT hZ (hw _ (List.mem_of_getElem? (i := 18) rfl))) (mvT hZ (hw _ (List.mem_of_getElem? (i := 19) rfl))) (by decide) (mvT hZ (hw _ (List.mem_of_getElem? (i := 21) rfl))) (mvT hZ (hw _ (List.mem_of_getElem? (i := 20) rfl))) (backOf (W := 1) (Q := Qret (some (.int (5 : Int32))) h0 n0) (own_ord l Z a0 hw [] a1 (5 : Int32) h0 n0 Z0 O1) hZ (hw _ (List.mem_of_getElem? (i := 23) rfl)) (hw _ (List.mem_of_getElem? (i := 22) rfl)) (by decide) (by decide)) q102a q102c (g := (mkF m 4 #[.val (.ref a1)] [(.ref a1), (.ref vz)])) rfl (by rw [hml]; rfl) (Steps.refl _) (argsL := []) (rest := [(.ref vz)]) (lenOf own_pd5 rfl) rfl (by show 2 * 0 + _ ≤ _; exact Nat.le_of_eq rfl) (hb hby d_prog_30_method_2_4) (fun _ _ => ⟨rfl, e101, (by decide : 0 + 0 ≤ _), (by decide : 0 + 0 ≤ _)⟩)
  dsimp only [Pt.U, Pt.locs, Pt.cells, Pt.slots] at X102 l102 y102 z102 st102 hQ102
  subst l102 y102 z102
  obtain ⟨rfl, N102q, eh102⟩ := hQ102
  have N102 := Fr.app N0 N102q
  refine GoW.step (T' := T102) (g' := (mkF m 7 #[.val (.ref a1)] [(.int (5 : Int32)), (.ref vz)])) (fun _ k => st102.trans k) ?_
  obtain ⟨cl103, Ar103, q103, S103, M103, H103, G103⟩ := id Vz
  have I103 := inb_of (j := (5 : Int32)) S103 (by decide)
  refine GoW.step (T' := T102) (g' := (mkF m 8 #[.val (.ref a1)] [(.int (6 : Int32))])) (fun _ k => X102.iaload hx (j := (5 : Int32)) (v := (.int (6 : Int32))) (by rw [eh102]; exact Ar103.1) (State.isArrayOf_alike hZ.alike Ar103.2.1) Ar103.2.2 I103 (Has.at H103 I103 rfl) (g := (mkF m 7 #[.val (.ref a1)] [(.int (5 : Int32)), (.ref vz)])) rfl rfl (hb hby d_prog_30_method_2_7) _ k) ?_
  refine GoW.step (T' := T102) (g' := (mkF m 95 #[.val (.ref a1)] [])) (fun _ k => XS.tswIn X102.here hx rfl (pc0 := 8) (pc' := 95) rfl (hb hby d_prog_30_method_2_8) rfl (by decide) (o := 87) (by decide) (by decide) (by decide) k) ?_
  obtain ⟨sa104, T104, h104, kk104, sb104, kb104, X104, e104, E104, hS, hk, hZ, hown, A104, FC104, FV104, V104, lta104, ltb104, CR104, Lt104, sf104, st104⟩ := ldcCH X102 hx hZ hown (hw _ (List.mem_of_getElem? (i := 90) rfl)) (own_wS hw) eh102 hS hk hEL (by decide) CR.1 (vs := [(.int (45 : Int32)), (.int (45 : Int32)), (.int (116 : Int32)), (.int (111 : Int32))]) (z := (4 : Int32)) ⟨by decide, rfl⟩ (by decide) (by decide) (g := (mkF m 95 #[.val (.ref a1)] [])) rfl (hb hby d_prog_30_method_2_95) (n := 16) (by decide) (by decide) (by decide) (by decide)
  have CR := CR.trans CR104
  have Z104 : n0 ≤ h104.size := Nat.le_trans Z0 E104.1
  have K104 := K0.ext E104
  have F105 := Sz.ext E104
  have F106 := Vz.ext E104
  have F107 := E1.ext E104
  have F108 := O1.ext E104
  refine GoW.step (T' := T104) (g' := (mkF m 97 #[.val (.ref a1)] [(.ref sa104)])) st104 ?_
  refine GoW.step (T' := T104) (g' := (mkF m 112 #[.val (.ref a1)] [(.ref sa104)])) (fun _ k => XS.goto X104.here hx rfl (pc0 := 97) (pc' := 112) rfl (hb hby d_prog_30_method_2_97) (by decide) (by decide) k) ?_
  exact GoW.retA X104 hx hS hk hZ hEL CR e104 (t := (.object "java/lang/String")) hret rfl hlk rfl (hb hby d_prog_30_method_2_112) (by rw [e104]; exact ⟨sa104, sb104, _, rfl, N102, K104, A104, FC104, FV104, V104⟩) (by decide) (by decide)
theorem d_prog_30_method_2_100 : decode prog_30_method_2_code 100 = .ok (.ldc 38, 2) := by decide +kernel
theorem d_prog_30_method_2_102 : decode prog_30_method_2_code 102 = .ok (.goto 10, 3) := by decide +kernel
set_option maxRecDepth 65536 in
set_option maxHeartbeats 40000000 in
theorem own_of6 (l : Launch) (Z : State) (a0 : Array Value) (hw : ∀ d ∈ tables_1, d.before a0 Z = true) (ws : List Jvm.Cond) (a1 vz : Addr) (kz : ClassId) (hEL : EW Z a0 own_EL) (h0 : Heap) (n0 : Nat) (Z0 : n0 ≤ h0.size) (Sz : Sta Z h0 "com/example/noteform/noteform/cli/Options$1" "$SwitchMap$com$example$noteform$noteform$calc$RequestInput" "[I" (.ref vz)) (Vz : Arv Z h0 vz kz .int (9 : Int32) [(.int (1 : Int32)), (.int (2 : Int32)), (.int (3 : Int32)), (.int (4 : Int32)), (.int (5 : Int32)), (.int (6 : Int32)), (.int (7 : Int32)), (.int (8 : Int32)), (.int (9 : Int32))] (.int (0 : Int32))) (E1 : Exa Z h0 a1 "com/example/noteform/noteform/calc/RequestInput") (O1 : Fld Z h0 a1 "java/lang/Enum" "ordinal" "I" (.int (6 : Int32))) :
    ConW l Z own_EL (⟨"com/example/noteform/noteform/cli/Options", "of", "(Lcom/example/noteform/noteform/calc/RequestInput;)Ljava/lang/String;"⟩ : MethodName) prog_30_method_2_code 1 (some (.object "java/lang/String")) ({ frames := 1, cells := 2, slots := 80, locals := 13 } : Room) ws #[(.ref a1)] h0 (Qstr Z (own_bx 6) h0 n0) 2 80 := by
  refine ConW.of (plainFor_of_name own_pn_Options) ?_
  intro pgm e s m below meth c s₁ k0 X0 hx hZ hby hml hown hnm hret hlk e0 hs0 hS hk CR
  have N0 := Fr.nil n0
  have hnm : meth.name = "of" := hnm
  refine GoW.cast (own_ef_prog_30_method_2_code_R m a1) ?_
  have K0 := Keep.refl h0 []
  obtain ⟨T101, X101, e101, st101⟩ := getS2 X0 hx hZ hown (host := "") (Or.inl (hw _ (List.mem_of_getElem? (i := 14) rfl))) Via.refl e0 Sz (g := (mkF m 0 #[.val (.ref a1)] [])) rfl (hb hby d_prog_30_method_2_0)
  refine GoW.step (T' := T101) (g' := (mkF m 3 #[.val (.ref a1)] [(.ref vz)])) st101 ?_
  refine GoW.step (T' := T101) (g' := (mkF m 4 #[.val (.ref a1)] [(.ref a1), (.ref vz)])) (fun _ k => XS.aloadN X101.here hx rfl (hb hby d_prog_30_method_2_3) rfl rfl k) ?_
  obtain ⟨cq102, kq102, q102a, q102b, q102c⟩ := isOf hZ e101 E1
  obtain ⟨_, _, ⟨T102, L102, k102, n102⟩, -, X102, ⟨Lc102, hQ102, l102, y102, z102⟩, st102⟩ := X101.virtualBackUp hx (owner := "java/lang/Enum") (x := (⟨"com/example/noteform/noteform/calc/RequestInput", "ordinal", "()I"⟩ : MethodName)) (y := (⟨"java/lang/Enum", "ordinal", "()I"⟩ : MethodName)) hown (mvT hZ (hw _ (List.mem_of_getElem? (i := 17) rfl))) (mvT hZ (hw _ (List.mem_of_getElem? (i := 18) rfl))) (mvT hZ (hw _ (List.mem_of_getElem? (i := 19) rfl))) (by decide) (mvT hZ (hw _ (List.mem_of_getElem? (i := 21) rfl))) (mvT hZ (hw _ (List.mem_of_getElem? (i := 20) rfl))) (backOf (W := 1) (Q := Qret (some (.int (6 : Int32))) h0 n0) (own_ord l Z a0 hw [] a1 (6 : Int32) h0 n0 Z0 O1) hZ (hw _ (List.mem_of_getElem? (i := 23) rfl)) (hw _ (List.mem_of_getElem? (i := 22) rfl)) (by decide) (by decide)) q102a q102c (g := (mkF m 4 #[.val (.ref a1)] [(.ref a1), (.ref vz)])) rfl (by rw [hml]; rfl) (Steps.refl _) (argsL := []) (rest := [(.ref vz)]) (lenOf own_pd5 rfl) rfl (by show 2 * 0 + _ ≤ _; exact Nat.le_of_eq rfl) (hb hby d_prog_30_method_2_4) (fun _ _ => ⟨rfl, e101, (by decide : 0 + 0 ≤ _), (by decide : 0 + 0 ≤ _)⟩)
  dsimp only [Pt.U, Pt.locs, Pt.cells, Pt.slots] at X102 l102 y102 z102 st102 hQ102
  subst l102 y102 z102
  obtain ⟨rfl, N102q, eh102⟩ := hQ102
  have N102 := Fr.app N0 N102q
  refine GoW.step (T' := T102) (g' := (mkF m 7 #[.val (.ref a1)] [(.int (6 : Int32)), (.ref vz)])) (fun _ k => st102.trans k) ?_
  obtain ⟨cl103, Ar103, q103, S103, M103, H103, G103⟩ := id Vz
  have I103 := inb_of (j := (6 : Int32)) S103 (by decide)
  refine GoW.step (T' := T102) (g' := (mkF m 8 #[.val (.ref a1)] [(.int (7 : Int32))])) (fun _ k => X102.iaload hx (j := (6 : Int32)) (v := (.int (7 : Int32))) (by rw [eh102]; exact Ar103.1) (State.isArrayOf_alike hZ.alike Ar103.2.1) Ar103.2.2 I103 (Has.at H103 I103 rfl) (g := (mkF m 7 #[.val (.ref a1)] [(.int (6 : Int32)), (.ref vz)])) rfl rfl (hb hby d_prog_30_method_2_7) _ k) ?_
  refine GoW.step (T' := T102) (g' := (mkF m 100 #[.val (.ref a1)] [])) (fun _ k => XS.tswIn X102.here hx rfl (pc0 := 8) (pc' := 100) rfl (hb hby d_prog_30_method_2_8) rfl (by decide) (o := 92) (by decide) (by decide) (by decide) k) ?_
  obtain ⟨sa104, T104, h104, kk104, sb104, kb104, X104, e104, E104, hS, hk, hZ, hown, A104, FC104, FV104, V104, lta104, ltb104, CR104, Lt104, sf104, st104⟩ := ldcCH X102 hx hZ hown (hw _ (List.mem_of_getElem? (i := 100) rfl)) (own_wS hw) eh102 hS hk hEL (by decide) CR.1 (vs := [(.int (45 : Int32)), (.int (45 : Int32)), (.int (112 : Int32)), (.int (114 : Int32)), (.int (105 : Int32)), (.int (99 : Int32)), (.int (101 : Int32)), (.int (115 : Int32))]) (z := (8 : Int32)) ⟨by decide, rfl⟩ (by decide) (by decide) (g := (mkF m 100 #[.val (.ref a1)] [])) rfl (hb hby d_prog_30_method_2_100) (n := 32) (by decide) (by decide) (by decide) (by decide)
  have CR := CR.trans CR104
  have Z104 : n0 ≤ h104.size := Nat.le_trans Z0 E104.1
  have K104 := K0.ext E104
  have F105 := Sz.ext E104
  have F106 := Vz.ext E104
  have F107 := E1.ext E104
  have F108 := O1.ext E104
  refine GoW.step (T' := T104) (g' := (mkF m 102 #[.val (.ref a1)] [(.ref sa104)])) st104 ?_
  refine GoW.step (T' := T104) (g' := (mkF m 112 #[.val (.ref a1)] [(.ref sa104)])) (fun _ k => XS.goto X104.here hx rfl (pc0 := 102) (pc' := 112) rfl (hb hby d_prog_30_method_2_102) (by decide) (by decide) k) ?_
  exact GoW.retA X104 hx hS hk hZ hEL CR e104 (t := (.object "java/lang/String")) hret rfl hlk rfl (hb hby d_prog_30_method_2_112) (by rw [e104]; exact ⟨sa104, sb104, _, rfl, N102, K104, A104, FC104, FV104, V104⟩) (by decide) (by decide)
theorem d_prog_30_method_2_105 : decode prog_30_method_2_code 105 = .ok (.ldc 40, 2) := by decide +kernel
theorem d_prog_30_method_2_107 : decode prog_30_method_2_code 107 = .ok (.goto 5, 3) := by decide +kernel
set_option maxRecDepth 65536 in
set_option maxHeartbeats 40000000 in
theorem own_of7 (l : Launch) (Z : State) (a0 : Array Value) (hw : ∀ d ∈ tables_1, d.before a0 Z = true) (ws : List Jvm.Cond) (a1 vz : Addr) (kz : ClassId) (hEL : EW Z a0 own_EL) (h0 : Heap) (n0 : Nat) (Z0 : n0 ≤ h0.size) (Sz : Sta Z h0 "com/example/noteform/noteform/cli/Options$1" "$SwitchMap$com$example$noteform$noteform$calc$RequestInput" "[I" (.ref vz)) (Vz : Arv Z h0 vz kz .int (9 : Int32) [(.int (1 : Int32)), (.int (2 : Int32)), (.int (3 : Int32)), (.int (4 : Int32)), (.int (5 : Int32)), (.int (6 : Int32)), (.int (7 : Int32)), (.int (8 : Int32)), (.int (9 : Int32))] (.int (0 : Int32))) (E1 : Exa Z h0 a1 "com/example/noteform/noteform/calc/RequestInput") (O1 : Fld Z h0 a1 "java/lang/Enum" "ordinal" "I" (.int (7 : Int32))) :
    ConW l Z own_EL (⟨"com/example/noteform/noteform/cli/Options", "of", "(Lcom/example/noteform/noteform/calc/RequestInput;)Ljava/lang/String;"⟩ : MethodName) prog_30_method_2_code 1 (some (.object "java/lang/String")) ({ frames := 1, cells := 2, slots := 80, locals := 13 } : Room) ws #[(.ref a1)] h0 (Qstr Z (own_bx 7) h0 n0) 2 80 := by
  refine ConW.of (plainFor_of_name own_pn_Options) ?_
  intro pgm e s m below meth c s₁ k0 X0 hx hZ hby hml hown hnm hret hlk e0 hs0 hS hk CR
  have N0 := Fr.nil n0
  have hnm : meth.name = "of" := hnm
  refine GoW.cast (own_ef_prog_30_method_2_code_R m a1) ?_
  have K0 := Keep.refl h0 []
  obtain ⟨T101, X101, e101, st101⟩ := getS2 X0 hx hZ hown (host := "") (Or.inl (hw _ (List.mem_of_getElem? (i := 14) rfl))) Via.refl e0 Sz (g := (mkF m 0 #[.val (.ref a1)] [])) rfl (hb hby d_prog_30_method_2_0)
  refine GoW.step (T' := T101) (g' := (mkF m 3 #[.val (.ref a1)] [(.ref vz)])) st101 ?_
  refine GoW.step (T' := T101) (g' := (mkF m 4 #[.val (.ref a1)] [(.ref a1), (.ref vz)])) (fun _ k => XS.aloadN X101.here hx rfl (hb hby d_prog_30_method_2_3) rfl rfl k) ?_
  obtain ⟨cq102, kq102, q102a, q102b, q102c⟩ := isOf hZ e101 E1
  obtain ⟨_, _, ⟨T102, L102, k102, n102⟩, -, X102, ⟨Lc102, hQ102, l102, y102, z102⟩, st102⟩ := X101.virtualBackUp hx (owner := "java/lang/Enum") (x := (⟨"com/example/noteform/noteform/calc/RequestInput", "ordinal", "()I"⟩ : MethodName)) (y := (⟨"java/lang/Enum", "ordinal", "()I"⟩ : MethodName)) hown (mvT hZ (hw _ (List.mem_of_getElem? (i := 17) rfl))) (mvT hZ (hw _ (List.mem_of_getElem? (i := 18) rfl))) (mvT hZ (hw _ (List.mem_of_getElem? (i := 19) rfl))) (by decide) (mvT hZ (hw _ (List.mem_of_getElem? (i := 21) rfl))) (mvT hZ (hw _ (List.mem_of_getElem? (i := 20) rfl))) (backOf (W := 1) (Q := Qret (some (.int (7 : Int32))) h0 n0) (own_ord l Z a0 hw [] a1 (7 : Int32) h0 n0 Z0 O1) hZ (hw _ (List.mem_of_getElem? (i := 23) rfl)) (hw _ (List.mem_of_getElem? (i := 22) rfl)) (by decide) (by decide)) q102a q102c (g := (mkF m 4 #[.val (.ref a1)] [(.ref a1), (.ref vz)])) rfl (by rw [hml]; rfl) (Steps.refl _) (argsL := []) (rest := [(.ref vz)]) (lenOf own_pd5 rfl) rfl (by show 2 * 0 + _ ≤ _; exact Nat.le_of_eq rfl) (hb hby d_prog_30_method_2_4) (fun _ _ => ⟨rfl, e101, (by decide : 0 + 0 ≤ _), (by decide : 0 + 0 ≤ _)⟩)
  dsimp only [Pt.U, Pt.locs, Pt.cells, Pt.slots] at X102 l102 y102 z102 st102 hQ102
  subst l102 y102 z102
  obtain ⟨rfl, N102q, eh102⟩ := hQ102
  have N102 := Fr.app N0 N102q
  refine GoW.step (T' := T102) (g' := (mkF m 7 #[.val (.ref a1)] [(.int (7 : Int32)), (.ref vz)])) (fun _ k => st102.trans k) ?_
  obtain ⟨cl103, Ar103, q103, S103, M103, H103, G103⟩ := id Vz
  have I103 := inb_of (j := (7 : Int32)) S103 (by decide)
  refine GoW.step (T' := T102) (g' := (mkF m 8 #[.val (.ref a1)] [(.int (8 : Int32))])) (fun _ k => X102.iaload hx (j := (7 : Int32)) (v := (.int (8 : Int32))) (by rw [eh102]; exact Ar103.1) (State.isArrayOf_alike hZ.alike Ar103.2.1) Ar103.2.2 I103 (Has.at H103 I103 rfl) (g := (mkF m 7 #[.val (.ref a1)] [(.int (7 : Int32)), (.ref vz)])) rfl rfl (hb hby d_prog_30_method_2_7) _ k) ?_
  refine GoW.step (T' := T102) (g' := (mkF m 105 #[.val (.ref a1)] [])) (fun _ k => XS.tswIn X102.here hx rfl (pc0 := 8) (pc' := 105) rfl (hb hby d_prog_30_method_2_8) rfl (by decide) (o := 97) (by decide) (by decide) (by decide) k) ?_
  obtain ⟨sa104, T104, h104, kk104, sb104, kb104, X104, e104, E104, hS, hk, hZ, hown, A104, FC104, FV104, V104, lta104, ltb104, CR104, Lt104, sf104, st104⟩ := ldcCH X102 hx hZ hown (hw _ (List.mem_of_getElem? (i := 106) rfl)) (own_wS hw) eh102 hS hk hEL (by decide) CR.1 (vs := [(.int (45 : Int32)), (.int (45 : Int32)), (.int (107 : Int32)), (.int (105 : Int32)), (.int (110 : Int32)), (.int (100 : Int32))]) (z := (6 : Int32)) ⟨by decide, rfl⟩ (by decide) (by decide) (g := (mkF m 105 #[.val (.ref a1)] [])) rfl (hb hby d_prog_30_method_2_105) (n := 24) (by decide) (by decide) (by decide) (by decide)
  have CR := CR.trans CR104
  have Z104 : n0 ≤ h104.size := Nat.le_trans Z0 E104.1
  have K104 := K0.ext E104
  have F105 := Sz.ext E104
  have F106 := Vz.ext E104
  have F107 := E1.ext E104
  have F108 := O1.ext E104
  refine GoW.step (T' := T104) (g' := (mkF m 107 #[.val (.ref a1)] [(.ref sa104)])) st104 ?_
  refine GoW.step (T' := T104) (g' := (mkF m 112 #[.val (.ref a1)] [(.ref sa104)])) (fun _ k => XS.goto X104.here hx rfl (pc0 := 107) (pc' := 112) rfl (hb hby d_prog_30_method_2_107) (by decide) (by decide) k) ?_
  exact GoW.retA X104 hx hS hk hZ hEL CR e104 (t := (.object "java/lang/String")) hret rfl hlk rfl (hb hby d_prog_30_method_2_112) (by rw [e104]; exact ⟨sa104, sb104, _, rfl, N102, K104, A104, FC104, FV104, V104⟩) (by decide) (by decide)
theorem d_prog_30_method_2_110 : decode prog_30_method_2_code 110 = .ok (.ldc 42, 2) := by decide +kernel
set_option maxRecDepth 65536 in
set_option maxHeartbeats 40000000 in
theorem own_of8 (l : Launch) (Z : State) (a0 : Array Value) (hw : ∀ d ∈ tables_1, d.before a0 Z = true) (ws : List Jvm.Cond) (a1 vz : Addr) (kz : ClassId) (hEL : EW Z a0 own_EL) (h0 : Heap) (n0 : Nat) (Z0 : n0 ≤ h0.size) (Sz : Sta Z h0 "com/example/noteform/noteform/cli/Options$1" "$SwitchMap$com$example$noteform$noteform$calc$RequestInput" "[I" (.ref vz)) (Vz : Arv Z h0 vz kz .int (9 : Int32) [(.int (1 : Int32)), (.int (2 : Int32)), (.int (3 : Int32)), (.int (4 : Int32)), (.int (5 : Int32)), (.int (6 : Int32)), (.int (7 : Int32)), (.int (8 : Int32)), (.int (9 : Int32))] (.int (0 : Int32))) (E1 : Exa Z h0 a1 "com/example/noteform/noteform/calc/RequestInput") (O1 : Fld Z h0 a1 "java/lang/Enum" "ordinal" "I" (.int (8 : Int32))) :
    ConW l Z own_EL (⟨"com/example/noteform/noteform/cli/Options", "of", "(Lcom/example/noteform/noteform/calc/RequestInput;)Ljava/lang/String;"⟩ : MethodName) prog_30_method_2_code 1 (some (.object "java/lang/String")) ({ frames := 1, cells := 2, slots := 80, locals := 13 } : Room) ws #[(.ref a1)] h0 (Qstr Z (own_bx 8) h0 n0) 2 80 := by
  refine ConW.of (plainFor_of_name own_pn_Options) ?_
  intro pgm e s m below meth c s₁ k0 X0 hx hZ hby hml hown hnm hret hlk e0 hs0 hS hk CR
  have N0 := Fr.nil n0
  have hnm : meth.name = "of" := hnm
  refine GoW.cast (own_ef_prog_30_method_2_code_R m a1) ?_
  have K0 := Keep.refl h0 []
  obtain ⟨T101, X101, e101, st101⟩ := getS2 X0 hx hZ hown (host := "") (Or.inl (hw _ (List.mem_of_getElem? (i := 14) rfl))) Via.refl e0 Sz (g := (mkF m 0 #[.val (.ref a1)] [])) rfl (hb hby d_prog_30_method_2_0)
  refine GoW.step (T' := T101) (g' := (mkF m 3 #[.val (.ref a1)] [(.ref vz)])) st101 ?_
  refine GoW.step (T' := T101) (g' := (mkF m 4 #[.val (.ref a1)] [(.ref a1), (.ref vz)])) (fun _ k => XS.aloadN X101.here hx rfl (hb hby d_prog_30_method_2_3) rfl rfl k) ?_
  obtain ⟨cq102, kq102, q102a, q102b, q102c⟩ := isOf hZ e101 E1
  obtain ⟨_, _, ⟨T102, L102, k102, n102⟩, -, X102, ⟨Lc102, hQ102, l102, y102, z102⟩, st102⟩ := X101.virtualBackUp hx (owner := "java/lang/Enum") (x := (⟨"com/example/noteform/noteform/calc/RequestInput", "ordinal", "()I"⟩ : MethodName)) (y := (⟨"java/lang/Enum", "ordinal", "()I"⟩ : MethodName)) hown (mvT hZ (hw _ (List.mem_of_getElem? (i := 17) rfl))) (mvT hZ (hw _ (List.mem_of_getElem? (i := 18) rfl))) (mvT hZ (hw _ (List.mem_of_getElem? (i := 19) rfl))) (by decide) (mvT hZ (hw _ (List.mem_of_getElem? (i := 21) rfl))) (mvT hZ (hw _ (List.mem_of_getElem? (i := 20) rfl))) (backOf (W := 1) (Q := Qret (some (.int (8 : Int32))) h0 n0) (own_ord l Z a0 hw [] a1 (8 : Int32) h0 n0 Z0 O1) hZ (hw _ (List.mem_of_getElem? (i := 23) rfl)) (hw _ (List.mem_of_getElem? (i := 22) rfl)) (by decide) (by decide)) q102a q102c (g := (mkF m 4 #[.val (.ref a1)] [(.ref a1), (.ref vz)])) rfl (by rw [hml]; rfl) (Steps.refl _) (argsL := []) (rest := [(.ref vz)]) (lenOf own_pd5 rfl) rfl (by show 2 * 0 + _ ≤ _; exact Nat.le_of_eq rfl) (hb hby d_prog_30_method_2_4) (fun _ _ => ⟨rfl, e101, (by decide : 0 + 0 ≤ _), (by decide : 0 + 0 ≤ _)⟩)
  dsimp only [Pt.U, Pt.locs, Pt.cells, Pt.slots] at X102 l102 y102 z102 st102 hQ102
  subst l102 y102 z102
  obtain ⟨rfl, N102q, eh102⟩ := hQ102
  have N102 := Fr.app N0 N102q
  refine GoW.step (T' := T102) (g' := (mkF m 7 #[.val (.ref a1)] [(.int (8 : Int32)), (.ref vz)])) (fun _ k => st102.trans k) ?_
  obtain ⟨cl103, Ar103, q103, S103, M103, H103, G103⟩ := id Vz
  have I103 := inb_of (j := (8 : Int32)) S103 (by decide)
  refine GoW.step (T' := T102) (g' := (mkF m 8 #[.val (.ref a1)] [(.int (9 : Int32))])) (fun _ k => X102.iaload hx (j := (8 : Int32)) (v := (.int (9 : Int32))) (by rw [eh102]; exact Ar103.1) (State.isArrayOf_alike hZ.alike Ar103.2.1) Ar103.2.2 I103 (Has.at H103 I103 rfl) (g := (mkF m 7 #[.val (.ref a1)] [(.int (8 : Int32)), (.ref vz)])) rfl rfl (hb hby d_prog_30_method_2_7) _ k) ?_
  refine GoW.step (T' := T102) (g' := (mkF m 110 #[.val (.ref a1)] [])) (fun _ k => XS.tswIn X102.here hx rfl (pc0 := 8) (pc' := 110) rfl (hb hby d_prog_30_method_2_8) rfl (by decide) (o := 102) (by decide) (by decide) (by decide) k) ?_
  obtain ⟨sa104, T104, h104, kk104, sb104, kb104, X104, e104, E104, hS, hk, hZ, hown, A104, FC104, FV104, V104, lta104, ltb104, CR104, Lt104, sf104, st104⟩ := ldcCH X102 hx hZ hown (hw _ (List.mem_of_getElem? (i := 103) rfl)) (own_wS hw) eh102 hS hk hEL (by decide) CR.1 (vs := [(.int (45 : Int32)), (.int (45 : Int32)), (.int (112 : Int32)), (.int (114 : Int32)), (.int (105 : Int32)), (.int (99 : Int32)), (.int (101 : Int32)), (.int (45 : Int32)), (.int (119 : Int32)), (.int (105 : Int32)), (.int (110 : Int32)), (.int (100 : Int32)), (.int (111 : Int32)), (.int (119 : Int32)), (.int (45 : Int32)), (.int (102 : Int32)), (.int (114 : Int32)), (.int (111 : Int32)), (.int (109 : Int32))]) (z := (19 : Int32)) ⟨by decide, rfl⟩ (by decide) (by decide) (g := (mkF m 110 #[.val (.ref a1)] [])) rfl (hb hby d_prog_30_method_2_110) (n := 76) (by decide) (by decide) (by decide) (by decide)
  have CR := CR.trans CR104
  have Z104 : n0 ≤ h104.size := Nat.le_trans Z0 E104.1
  have K104 := K0.ext E104
  have F105 := Sz.ext E104
  have F106 := Vz.ext E104
  have F107 := E1.ext E104
  have F108 := O1.ext E104
  refine GoW.step (T' := T104) (g' := (mkF m 112 #[.val (.ref a1)] [(.ref sa104)])) st104 ?_
  exact GoW.retA X104 hx hS hk hZ hEL CR e104 (t := (.object "java/lang/String")) hret rfl hlk rfl (hb hby d_prog_30_method_2_112) (by rw [e104]; exact ⟨sa104, sb104, _, rfl, N102, K104, A104, FC104, FV104, V104⟩) (by decide) (by decide)
set_option maxRecDepth 65536 in
set_option maxHeartbeats 40000000 in
theorem own_of (l : Launch) (Z : State) (a0 : Array Value) (hw : ∀ d ∈ tables_1, d.before a0 Z = true) (ws : List Jvm.Cond) (i : Nat) (a1 vz : Addr) (kz : ClassId) (hEL : EW Z a0 own_EL) (h0 : Heap) (n0 : Nat) (Z0 : n0 ≤ h0.size) (Sz : Sta Z h0 "com/example/noteform/noteform/cli/Options$1" "$SwitchMap$com$example$noteform$noteform$calc$RequestInput" "[I" (.ref vz)) (Vz : Arv Z h0 vz kz .int (9 : Int32) [(.int (1 : Int32)), (.int (2 : Int32)), (.int (3 : Int32)), (.int (4 : Int32)), (.int (5 : Int32)), (.int (6 : Int32)), (.int (7 : Int32)), (.int (8 : Int32)), (.int (9 : Int32))] (.int (0 : Int32))) (E1 : Exa Z h0 a1 "com/example/noteform/noteform/calc/RequestInput") (O1 : Fld Z h0 a1 "java/lang/Enum" "ordinal" "I" (.int (Int32.ofNat i))) (hi : i < 9) :
    ConW l Z own_EL (⟨"com/example/noteform/noteform/cli/Options", "of", "(Lcom/example/noteform/noteform/calc/RequestInput;)Ljava/lang/String;"⟩ : MethodName) prog_30_method_2_code 1 (some (.object "java/lang/String")) ({ frames := 1, cells := 2, slots := 80, locals := 13 } : Room) ws #[(.ref a1)] h0 (Qstr Z (own_bx i) h0 n0) 2 80 := by
  have t : i = 0 ∨ i = 1 ∨ i = 2 ∨ i = 3 ∨ i = 4 ∨ i = 5 ∨ i = 6 ∨ i = 7 ∨ i = 8 := by omega
  rcases t with rfl | rfl | rfl | rfl | rfl | rfl | rfl | rfl | rfl
  · rw [show Int32.ofNat 0 = (0 : Int32) from rfl] at O1; exact own_of0 l Z a0 hw ws a1 vz kz hEL h0 n0 Z0 Sz Vz E1 O1
  · rw [show Int32.ofNat 1 = (1 : Int32) from rfl] at O1; exact own_of1 l Z a0 hw ws a1 vz kz hEL h0 n0 Z0 Sz Vz E1 O1
  · rw [show Int32.ofNat 2 = (2 : Int32) from rfl] at O1; exact own_of2 l Z a0 hw ws a1 vz kz hEL h0 n0 Z0 Sz Vz E1 O1
  · rw [show Int32.ofNat 3 = (3 : Int32) from rfl] at O1; exact own_of3 l Z a0 hw ws a1 vz kz hEL h0 n0 Z0 Sz Vz E1 O1
  · rw [show Int32.ofNat 4 = (4 : Int32) from rfl] at O1; exact own_of4 l Z a0 hw ws a1 vz kz hEL h0 n0 Z0 Sz Vz E1 O1
  · rw [show Int32.ofNat 5 = (5 : Int32) from rfl] at O1; exact own_of5 l Z a0 hw ws a1 vz kz hEL h0 n0 Z0 Sz Vz E1 O1
  · rw [show Int32.ofNat 6 = (6 : Int32) from rfl] at O1; exact own_of6 l Z a0 hw ws a1 vz kz hEL h0 n0 Z0 Sz Vz E1 O1
  · rw [show Int32.ofNat 7 = (7 : Int32) from rfl] at O1; exact own_of7 l Z a0 hw ws a1 vz kz hEL h0 n0 Z0 Sz Vz E1 O1
  · rw [show Int32.ofNat 8 = (8 : Int32) from rfl] at O1; exact own_of8 l Z a0 hw ws a1 vz kz hEL h0 n0 Z0 Sz Vz E1 O1
theorem own_rem9 (x : Int32) : ∃ i : Nat, i < 9 ∧ (x &&& (2147483647 : Int32)) % (9 : Int32) = Int32.ofNat i := by
  have h1 := (c_and x 2147483647 (by decide)).1
  have h2 := (c_irem (x &&& 2147483647) 9 9 rfl).1 h1
  refine ⟨((x &&& 2147483647) % 9).toNatClampNeg, ?_, ?_⟩
  · simp only [Int32.toNatClampNeg]; omega
  · exact (Int32.ofNat_toNatClampNeg _ (by rw [Int32.le_iff_toInt_le]; show (0 : Int) ≤ _; omega)).symm
theorem own_wff : ∀ i, i < 9 → (2 : Int32) < Int32.ofNat (own_bx i).length ∧ ((own_bx i).map Value.int).getD 0 (.int (0 : Int32)) = .int (45 : Int32) ∧ ((own_bx i).map Value.int).getD 1 (.int (0 : Int32)) = .int (45 : Int32) ∧ (∃ c2, ((own_bx i).map Value.int).getD 2 (.int (0 : Int32)) = .int c2 ∧ ¬ c2 < (97 : Int32) ∧ ¬ (122 : Int32) < c2) ∧ (∃ cL, ((own_bx i).map Value.int).getD (Int32.ofNat (own_bx i).length - (1 : Int32)).toNatClampNeg (.int (0 : Int32)) = .int cL ∧ ¬ cL < (97 : Int32) ∧ ¬ (122 : Int32) < cL) ∧ (own_bx i).length < 1000 := fun i hi =>
  match i, hi with
  | 0, _ => ⟨by decide, rfl, rfl, ⟨_, rfl, by decide, by decide⟩, ⟨_, rfl, by decide, by decide⟩, by decide⟩
  | 1, _ => ⟨by decide, rfl, rfl, ⟨_, rfl, by decide, by decide⟩, ⟨_, rfl, by decide, by decide⟩, by decide⟩
  | 2, _ => ⟨by decide, rfl, rfl, ⟨_, rfl, by decide, by decide⟩, ⟨_, rfl, by decide, by decide⟩, by decide⟩
  | 3, _ => ⟨by decide, rfl, rfl, ⟨_, rfl, by decide, by decide⟩, ⟨_, rfl, by decide, by decide⟩, by decide⟩
  | 4, _ => ⟨by decide, rfl, rfl, ⟨_, rfl, by decide, by decide⟩, ⟨_, rfl, by decide, by decide⟩, by decide⟩
  | 5, _ => ⟨by decide, rfl, rfl, ⟨_, rfl, by decide, by decide⟩, ⟨_, rfl, by decide, by decide⟩, by decide⟩
  | 6, _ => ⟨by decide, rfl, rfl, ⟨_, rfl, by decide, by decide⟩, ⟨_, rfl, by decide, by decide⟩, by decide⟩
  | 7, _ => ⟨by decide, rfl, rfl, ⟨_, rfl, by decide, by decide⟩, ⟨_, rfl, by decide, by decide⟩, by decide⟩
  | 8, _ => ⟨by decide, rfl, rfl, ⟨_, rfl, by decide, by decide⟩, ⟨_, rfl, by decide, by decide⟩, by decide⟩
theorem own_bx_inj {i j : Nat} (hi : i < 9) (hj : j < 9) : own_bx i = own_bx j ↔ i = j := by
  have t : ∀ a b : Fin 9, own_bx a.val = own_bx b.val ↔ a.val = b.val := by decide +kernel
  exact t ⟨i, hi⟩ ⟨j, hj⟩
theorem own_ef_code_II (m : MethodId) (x0 : Int32) (x1 : Int32) : entryFrame m #[(.int x0), (.int x1)] maxLocals = mkF m 0 #[.val (.int x0), .val (.int x1), .unset, .unset, .unset, .unset, .unset, .unset] [] := by first | (simp [entryFrame, mkF, argsToLocals, Value.category, maxLocals]; done) | rfl | (simp [entryFrame, mkF, argsToLocals, own_cI, own_cJ, own_cR, own_cN, maxLocals]; done)
theorem own_pd9 : parseMethodDescriptor "(I)Lcom/example/noteform/noteform/calc/RequestInput;" = some ⟨[.int], some (.object "com/example/noteform/noteform/calc/RequestInput")⟩ := by decide +kernel
theorem own_pd10 : parseMethodDescriptor "(Lcom/example/noteform/noteform/calc/RequestInput;)Ljava/lang/String;" = some ⟨[(.object "com/example/noteform/noteform/calc/RequestInput")], some (.object "java/lang/String")⟩ := by decide +kernel
theorem own_pd11 : parseMethodDescriptor "(Ljava/lang/String;)Z" = some ⟨[(.object "java/lang/String")], some .boolean⟩ := by decide +kernel
theorem own_pd12 : parseMethodDescriptor "(Ljava/lang/Object;)Z" = some ⟨[(.object "java/lang/Object")], some .boolean⟩ := by decide +kernel
set_option maxRecDepth 65536 in
set_option maxHeartbeats 40000000 in
theorem rm0 (l : Launch) (Z : State) (a0 : Array Value) (hw : ∀ d ∈ tables_1, d.before a0 Z = true) (ws : List Jvm.Cond) (p0 p1 : Int32) (w : Nat → Addr) (vz : Addr) (kz : ClassId) (gc : Int32) (gf : Value) (hEL : EW Z a0 own_EL) (h0 : Heap) (n0 : Nat) (Z0 : n0 ≤ h0.size) (S0 : Sta Z h0 "com/example/noteform/noteform/calc/RequestInput" "DATE" "Lcom/example/noteform/noteform/calc/RequestInput;" (.ref (w 0))) (S1 : Sta Z h0 "com/example/noteform/noteform/calc/RequestInput" "PRINCIPAL" "Lcom/example/noteform/noteform/calc/RequestInput;" (.ref (w 1))) (S2 : Sta Z h0 "com/example/noteform/noteform/calc/RequestInput" "CLOSING_PRICE" "Lcom/example/noteform/noteform/calc/RequestInput;" (.ref (w 2))) (S3 : Sta Z h0 "com/example/noteform/noteform/calc/RequestInput" "WITH_INTEREST" "Lcom/example/noteform/noteform/calc/RequestInput;" (.ref (w 3))) (S4 : Sta Z h0 "com/example/noteform/noteform/calc/RequestInput" "FROM" "Lcom/example/noteform/noteform/calc/RequestInput;" (.ref (w 4))) (S5 : Sta Z h0 "com/example/noteform/noteform/calc/RequestInput" "TO" "Lcom/example/noteform/noteform/calc/RequestInput;" (.ref (w 5))) (S6 : Sta Z h0 "com/example/noteform/noteform/calc/RequestInput" "PRICES" "Lcom/example/noteform/noteform/calc/RequestInput;" (.ref (w 6))) (S7 : Sta Z h0 "com/example/noteform/noteform/calc/RequestInput" "KIND" "Lcom/example/noteform/noteform/calc/RequestInput;" (.ref (w 7))) (S8 : Sta Z h0 "com/example/noteform/noteform/calc/RequestInput" "PRICE_WINDOW_FROM" "Lcom/example/noteform/noteform/calc/RequestInput;" (.ref (w 8))) (Sc : Sta Z h0 "java/lang/String" "COMPACT_STRINGS" "Z" (.int gc)) (hgc : ¬ gc = (0 : Int32)) (Sf : Sta Z h0 "jdk/internal/util/Preconditions" "SIOOBE_FORMATTER" "Ljava/util/function/BiFunction;" gf) (cgf : gf.category = 1) (Sz : Sta Z h0 "com/example/noteform/noteform/cli/Options$1" "$SwitchMap$com$example$noteform$noteform$calc$RequestInput" "[I" (.ref vz)) (Vz : Arv Z h0 vz kz .int (9 : Int32) [(.int (1 : Int32)), (.int (2 : Int32)), (.int (3 : Int32)), (.int (4 : Int32)), (.int (5 : Int32)), (.int (6 : Int32)), (.int (7 : Int32)), (.int (8 : Int32)), (.int (9 : Int32))] (.int (0 : Int32))) (EW_ : ∀ i, i < 9 → Exa Z h0 (w i) "com/example/noteform/noteform/calc/RequestInput") (OW_ : ∀ i, i < 9 → Fld Z h0 (w i) "java/lang/Enum" "ordinal" "I" (.int (Int32.ofNat i))) :
    ConW l Z own_EL x code maxLocals ret room_1 ws #[(.int p0), (.int p1)] h0 (Q0 n0) 4 160 := by
  refine ConW.of (plainFor_of_name own_pn_OptionsOfPinLaw) ?_
  intro pgm e s m below meth c s₁ k0 X0 hx hZ hby hml hown hnm hret hlk e0 hs0 hS hk CR
  have N0 := Fr.nil n0
  have hnm : meth.name = "law" := hnm
  refine GoW.cast (own_ef_code_II m p0 p1) ?_
  refine GoW.step (T' := s₁) (g' := (mkF m 1 #[.val (.int p0), .val (.int p1), .unset, .unset, .unset, .unset, .unset, .unset] [(.int p0)])) (fun _ k => XS.iloadN X0.here hx rfl (hb hby at_0) rfl  k) ?_
  refine GoW.step (T' := s₁) (g' := (mkF m 3 #[.val (.int p0), .val (.int p1), .unset, .unset, .unset, .unset, .unset, .unset] [(.int (2147483647 : Int32)), (.int p0)])) (fun _ k => Jvm.Stand.ldcI (g := (mkF m 1 #[.val (.int p0), .val (.int p1), .unset, .unset, .unset, .unset, .unset, .unset] [(.int p0)])) X0 hx hown (mvT hZ (hw _ (List.mem_of_getElem? (i := 0) rfl))) rfl (hb hby at_1) k) ?_
  refine GoW.step (T' := s₁) (g' := (mkF m 4 #[.val (.int p0), .val (.int p1), .unset, .unset, .unset, .unset, .unset, .unset] [(.int (p0 &&& (2147483647 : Int32)))])) (fun _ k => XS.iand X0.here hx rfl (hb hby at_3) rfl k) ?_
  refine GoW.step (T' := s₁) (g' := (mkF m 6 #[.val (.int p0), .val (.int p1), .unset, .unset, .unset, .unset, .unset, .unset] [(.int (9 : Int32)), (.int (p0 &&& (2147483647 : Int32)))])) (fun _ k => XS.bipush X0.here hx rfl (hb hby at_4) k) ?_
  refine GoW.step (T' := s₁) (g' := (mkF m 7 #[.val (.int p0), .val (.int p1), .unset, .unset, .unset, .unset, .unset, .unset] [(.int ((p0 &&& (2147483647 : Int32)) % (9 : Int32)))])) (fun _ k => iremM X0 hx (g := (mkF m 6 #[.val (.int p0), .val (.int p1), .unset, .unset, .unset, .unset, .unset, .unset] [(.int (9 : Int32)), (.int (p0 &&& (2147483647 : Int32)))])) rfl (hb hby at_6) rfl (by decide) k) ?_
  refine GoW.step (T' := s₁) (g' := (mkF m 8 #[.val (.int p0), .val (.int p1), .val (.int ((p0 &&& (2147483647 : Int32)) % (9 : Int32))), .unset, .unset, .unset, .unset, .unset] [])) (fun _ k => XS.istoreN X0.here hx rfl (hb hby at_7) rfl (l' := #[.val (.int p0), .val (.int p1), .val (.int ((p0 &&& (2147483647 : Int32)) % (9 : Int32))), .unset, .unset, .unset, .unset, .unset]) rfl k) ?_
  obtain ⟨i, hi, ei⟩ := own_rem9 p0
  rw [ei]
  refine GoW.step (T' := s₁) (g' := (mkF m 9 #[.val (.int p0), .val (.int p1), .val (.int (Int32.ofNat i)), .unset, .unset, .unset, .unset, .unset] [(.int p1)])) (fun _ k => XS.iloadN X0.here hx rfl (hb hby at_8) rfl  k) ?_
  refine GoW.step (T' := s₁) (g' := (mkF m 11 #[.val (.int p0), .val (.int p1), .val (.int (Int32.ofNat i)), .unset, .unset, .unset, .unset, .unset] [(.int (2147483647 : Int32)), (.int p1)])) (fun _ k => Jvm.Stand.ldcI (g := (mkF m 9 #[.val (.int p0), .val (.int p1), .val (.int (Int32.ofNat i)), .unset, .unset, .unset, .unset, .unset] [(.int p1)])) X0 hx hown (mvT hZ (hw _ (List.mem_of_getElem? (i := 0) rfl))) rfl (hb hby at_9) k) ?_
  refine GoW.step (T' := s₁) (g' := (mkF m 12 #[.val (.int p0), .val (.int p1), .val (.int (Int32.ofNat i)), .unset, .unset, .unset, .unset, .unset] [(.int (p1 &&& (2147483647 : Int32)))])) (fun _ k => XS.iand X0.here hx rfl (hb hby at_11) rfl k) ?_
  refine GoW.step (T' := s₁) (g' := (mkF m 14 #[.val (.int p0), .val (.int p1), .val (.int (Int32.ofNat i)), .unset, .unset, .unset, .unset, .unset] [(.int (9 : Int32)), (.int (p1 &&& (2147483647 : Int32)))])) (fun _ k => XS.bipush X0.here hx rfl (hb hby at_12) k) ?_
  refine GoW.step (T' := s₁) (g' := (mkF m 15 #[.val (.int p0), .val (.int p1), .val (.int (Int32.ofNat i)), .unset, .unset, .unset, .unset, .unset] [(.int ((p1 &&& (2147483647 : Int32)) % (9 : Int32)))])) (fun _ k => iremM X0 hx (g := (mkF m 14 #[.val (.int p0), .val (.int p1), .val (.int (Int32.ofNat i)), .unset, .unset, .unset, .unset, .unset] [(.int (9 : Int32)), (.int (p1 &&& (2147483647 : Int32)))])) rfl (hb hby at_14) rfl (by decide) k) ?_
  refine GoW.step (T' := s₁) (g' := (mkF m 16 #[.val (.int p0), .val (.int p1), .val (.int (Int32.ofNat i)), .val (.int ((p1 &&& (2147483647 : Int32)) % (9 : Int32))), .unset, .unset, .unset, .unset] [])) (fun _ k => XS.istoreN X0.here hx rfl (hb hby at_15) rfl (l' := #[.val (.int p0), .val (.int p1), .val (.int (Int32.ofNat i)), .val (.int ((p1 &&& (2147483647 : Int32)) % (9 : Int32))), .unset, .unset, .unset, .unset]) rfl k) ?_
  obtain ⟨j, hj, ej⟩ := own_rem9 p1
  rw [ej]
  refine GoW.step (T' := s₁) (g' := (mkF m 17 #[.val (.int p0), .val (.int p1), .val (.int (Int32.ofNat i)), .val (.int (Int32.ofNat j)), .unset, .unset, .unset, .unset] [(.int (Int32.ofNat i))])) (fun _ k => XS.iloadN X0.here hx rfl (hb hby at_16) rfl  k) ?_
  obtain ⟨_, _, ⟨T101, L101, k101, n101⟩, -, X101, ⟨Lc101, hQ101, l101, y101, z101⟩, st101⟩ := Jvm.LawKit.callS X0 hx (y := (⟨"com/example/noteform/noteform/cli/OptionsOfPinLaw", "pick", "(I)Lcom/example/noteform/noteform/calc/RequestInput;"⟩ : MethodName)) hown (mvT hZ (hw _ (List.mem_of_getElem? (i := 1) rfl))) (mvT hZ (hw _ (List.mem_of_getElem? (i := 2) rfl))) (mvT hZ (hw _ (List.mem_of_getElem? (i := 3) rfl))) (mvT hZ (hw _ (List.mem_of_getElem? (i := 4) rfl))) (by decide) (backOf (W := 0) (Q := Qret (some (.ref (w i))) h0 n0) (own_pick l Z a0 hw [] i w h0 n0 Z0 S0 S1 S2 S3 S4 S5 S6 S7 S8 hi) hZ (hw _ (List.mem_of_getElem? (i := 4) rfl)) (hw _ (List.mem_of_getElem? (i := 3) rfl)) (by decide) (by decide)) (g := (mkF m 17 #[.val (.int p0), .val (.int p1), .val (.int (Int32.ofNat i)), .val (.int (Int32.ofNat j)), .unset, .unset, .unset, .unset] [(.int (Int32.ofNat i))])) rfl (by rw [hml]; rfl) (argsL := [(.int (Int32.ofNat i))]) (rest := []) (lenOf own_pd9 rfl) rfl (by show 2 * 0 + _ ≤ _; exact Nat.le_of_eq rfl) (hb hby at_17) (fun _ _ => ⟨rfl, e0, (by decide : 0 + 0 ≤ _), (by decide : 0 + 0 ≤ _)⟩)
  dsimp only [Pt.U, Pt.locs, Pt.cells, Pt.slots] at X101 l101 y101 z101 st101 hQ101
  subst l101 y101 z101
  obtain ⟨rfl, N101q, eh101⟩ := hQ101
  have N101 := Fr.app N0 N101q
  have F102 := EW_ i hi
  have F103 := OW_ i hi
  refine GoW.step (T' := T101) (g' := (mkF m 20 #[.val (.int p0), .val (.int p1), .val (.int (Int32.ofNat i)), .val (.int (Int32.ofNat j)), .unset, .unset, .unset, .unset] [(.ref (w i))])) (st101) ?_
  refine GoW.step (T' := T101) (g' := (mkF m 22 #[.val (.int p0), .val (.int p1), .val (.int (Int32.ofNat i)), .val (.int (Int32.ofNat j)), .val (.ref (w i)), .unset, .unset, .unset] [])) (fun _ k => XS.astore X101.here hx rfl (hb hby at_20) rfl rfl (l' := #[.val (.int p0), .val (.int p1), .val (.int (Int32.ofNat i)), .val (.int (Int32.ofNat j)), .val (.ref (w i)), .unset, .unset, .unset]) rfl k) ?_
  refine GoW.step (T' := T101) (g' := (mkF m 23 #[.val (.int p0), .val (.int p1), .val (.int (Int32.ofNat i)), .val (.int (Int32.ofNat j)), .val (.ref (w i)), .unset, .unset, .unset] [(.int (Int32.ofNat j))])) (fun _ k => XS.iloadN X101.here hx rfl (hb hby at_22) rfl  k) ?_
  obtain ⟨_, _, ⟨T104, L104, k104, n104⟩, -, X104, ⟨Lc104, hQ104, l104, y104, z104⟩, st104⟩ := Jvm.LawKit.callS X101 hx (y := (⟨"com/example/noteform/noteform/cli/OptionsOfPinLaw", "pick", "(I)Lcom/example/noteform/noteform/calc/RequestInput;"⟩ : MethodName)) hown (mvT hZ (hw _ (List.mem_of_getElem? (i := 1) rfl))) (mvT hZ (hw _ (List.mem_of_getElem? (i := 2) rfl))) (mvT hZ (hw _ (List.mem_of_getElem? (i := 3) rfl))) (mvT hZ (hw _ (List.mem_of_getElem? (i := 4) rfl))) (by decide) (backOf (W := 0) (Q := Qret (some (.ref (w j))) h0 n0) (own_pick l Z a0 hw [] j w h0 n0 Z0 S0 S1 S2 S3 S4 S5 S6 S7 S8 hj) hZ (hw _ (List.mem_of_getElem? (i := 4) rfl)) (hw _ (List.mem_of_getElem? (i := 3) rfl)) (by decide) (by decide)) (g := (mkF m 23 #[.val (.int p0), .val (.int p1), .val (.int (Int32.ofNat i)), .val (.int (Int32.ofNat j)), .val (.ref (w i)), .unset, .unset, .unset] [(.int (Int32.ofNat j))])) rfl (by rw [hml]; rfl) (argsL := [(.int (Int32.ofNat j))]) (rest := []) (lenOf own_pd9 rfl) rfl (by show 2 * 0 + _ ≤ _; exact Nat.le_of_eq rfl) (hb hby at_23) (fun _ _ => ⟨rfl, eh101, (by decide : 0 + 0 ≤ _), (by decide : 0 + 0 ≤ _)⟩)
  dsimp only [Pt.U, Pt.locs, Pt.cells, Pt.slots] at X104 l104 y104 z104 st104 hQ104
  subst l104 y104 z104
  obtain ⟨rfl, N104q, eh104⟩ := hQ104
  have N104 := Fr.app N101 N104q
  have F105 := EW_ j hj
  have F106 := OW_ j hj
  refine GoW.step (T' := T104) (g' := (mkF m 26 #[.val (.int p0), .val (.int p1), .val (.int (Int32.ofNat i)), .val (.int (Int32.ofNat j)), .val (.ref (w i)), .unset, .unset, .unset] [(.ref (w j))])) (st104) ?_
  refine GoW.step (T' := T104) (g' := (mkF m 28 #[.val (.int p0), .val (.int p1), .val (.int (Int32.ofNat i)), .val (.int (Int32.ofNat j)), .val (.ref (w i)), .val (.ref (w j)), .unset, .unset] [])) (fun _ k => XS.astore X104.here hx rfl (hb hby at_26) rfl rfl (l' := #[.val (.int p0), .val (.int p1), .val (.int (Int32.ofNat i)), .val (.int (Int32.ofNat j)), .val (.ref (w i)), .val (.ref (w j)), .unset, .unset]) rfl k) ?_
  refine GoW.step (T' := T104) (g' := (mkF m 30 #[.val (.int p0), .val (.int p1), .val (.int (Int32.ofNat i)), .val (.int (Int32.ofNat j)), .val (.ref (w i)), .val (.ref (w j)), .unset, .unset] [(.ref (w i))])) (fun _ k => XS.aload X104.here hx rfl (hb hby at_28) rfl rfl k) ?_
  obtain ⟨_, _, ⟨T107, L107, k107, n107⟩, -, X107, hS2, hg2, ⟨Lc107, hQ107, l107, y107, z107, CR107⟩, st107⟩ := callSS X104 hx (y := (⟨"com/example/noteform/noteform/cli/Options", "of", "(Lcom/example/noteform/noteform/calc/RequestInput;)Ljava/lang/String;"⟩ : MethodName)) hown (mvT hZ (hw _ (List.mem_of_getElem? (i := 10) rfl))) (mvT hZ (hw _ (List.mem_of_getElem? (i := 11) rfl))) (mvT hZ (hw _ (List.mem_of_getElem? (i := 12) rfl))) (mvT hZ (hw _ (List.mem_of_getElem? (i := 13) rfl))) (by decide) (backOfSH (s := s) (W := 0) (Q := Qstr Z (own_bx i) h0 n0) (own_of l Z a0 hw [] i (w i) vz kz hEL h0 n0 Z0 Sz Vz F102 F103 hi) hZ (hw _ (List.mem_of_getElem? (i := 13) rfl)) (hw _ (List.mem_of_getElem? (i := 12) rfl)) (by decide) (by decide) hEL CR.1) (g := (mkF m 30 #[.val (.int p0), .val (.int p1), .val (.int (Int32.ofNat i)), .val (.int (Int32.ofNat j)), .val (.ref (w i)), .val (.ref (w j)), .unset, .unset] [(.ref (w i))])) rfl (by rw [hml]; rfl) (argsL := [(.ref (w i))]) (rest := []) (lenOf own_pd10 rfl) rfl (by show 2 * 0 + _ ≤ _; exact Nat.le_of_eq rfl) (hb hby at_30) (fun _ _ => ⟨rfl, eh104, (by decide : 0 + 2 ≤ _), (by decide : 0 + 80 ≤ _)⟩)
  dsimp only [Pt.U, Pt.locs, Pt.cells, Pt.slots] at X107 l107 y107 z107 st107 hQ107 hS2 hg2 CR107
  subst l107 y107 z107
  obtain ⟨X107, hS, hZ, hown⟩ := rebS hS (n1 := T104.heap.size) (by rw [eh104]; exact hk) X107 hS2 hg2 hZ hown
  have hk := Nat.le_refl T107.heap.size
  have CR := CR.trans CR107
  obtain ⟨ra107, rb107, rk107, rfl, N107q, K107, E107, C107, B107, V107⟩ := hQ107
  have N107 := Fr.app N104 N107q
  have Z107 : n0 ≤ T107.heap.size := Nat.le_trans Z0 K107.1
  have F108 := own_sta_keep S0 K107 all0
  have F109 := own_sta_keep S1 K107 all0
  have F110 := own_sta_keep S2 K107 all0
  have F111 := own_sta_keep S3 K107 all0
  have F112 := own_sta_keep S4 K107 all0
  have F113 := own_sta_keep S5 K107 all0
  have F114 := own_sta_keep S6 K107 all0
  have F115 := own_sta_keep S7 K107 all0
  have F116 := own_sta_keep S8 K107 all0
  have F117 := own_sta_keep Sc K107 all0
  have F118 := own_sta_keep Sf K107 all0
  have F119 := own_sta_keep Sz K107 all0
  have F120 := Vz.keep K107 nin0
  have F121 := F102.keep K107
  have F122 := F103.keep K107 nin0
  have F123 := F105.keep K107
  have F124 := F106.keep K107 nin0
  refine GoW.step (T' := T107) (g' := (mkF m 33 #[.val (.int p0), .val (.int p1), .val (.int (Int32.ofNat i)), .val (.int (Int32.ofNat j)), .val (.ref (w i)), .val (.ref (w j)), .unset, .unset] [(.ref ra107)])) (fun _ k => st107.trans k) ?_
  refine GoW.step (T' := T107) (g' := (mkF m 35 #[.val (.int p0), .val (.int p1), .val (.int (Int32.ofNat i)), .val (.int (Int32.ofNat j)), .val (.ref (w i)), .val (.ref (w j)), .val (.ref ra107), .unset] [])) (fun _ k => XS.astore X107.here hx rfl (hb hby at_33) rfl rfl (l' := #[.val (.int p0), .val (.int p1), .val (.int (Int32.ofNat i)), .val (.int (Int32.ofNat j)), .val (.ref (w i)), .val (.ref (w j)), .val (.ref ra107), .unset]) rfl k) ?_
  refine GoW.step (T' := T107) (g' := (mkF m 37 #[.val (.int p0), .val (.int p1), .val (.int (Int32.ofNat i)), .val (.int (Int32.ofNat j)), .val (.ref (w i)), .val (.ref (w j)), .val (.ref ra107), .unset] [(.ref (w j))])) (fun _ k => XS.aload X107.here hx rfl (hb hby at_35) rfl rfl k) ?_
  obtain ⟨_, _, ⟨T125, L125, k125, n125⟩, -, X125, hS2, hg2, ⟨Lc125, hQ125, l125, y125, z125, CR125⟩, st125⟩ := callSS X107 hx (y := (⟨"com/example/noteform/noteform/cli/Options", "of", "(Lcom/example/noteform/noteform/calc/RequestInput;)Ljava/lang/String;"⟩ : MethodName)) hown (mvT hZ (hw _ (List.mem_of_getElem? (i := 10) rfl))) (mvT hZ (hw _ (List.mem_of_getElem? (i := 11) rfl))) (mvT hZ (hw _ (List.mem_of_getElem? (i := 12) rfl))) (mvT hZ (hw _ (List.mem_of_getElem? (i := 13) rfl))) (by decide) (backOfSH (s := s) (W := 0) (Q := Qstr Z (own_bx j) T107.heap n0) (own_of l Z a0 hw [] j (w j) vz kz hEL T107.heap n0 Z107 F119 F120 F123 F124 hj) hZ (hw _ (List.mem_of_getElem? (i := 13) rfl)) (hw _ (List.mem_of_getElem? (i := 12) rfl)) (by decide) (by decide) hEL CR.1) (g := (mkF m 37 #[.val (.int p0), .val (.int p1), .val (.int (Int32.ofNat i)), .val (.int (Int32.ofNat j)), .val (.ref (w i)), .val (.ref (w j)), .val (.ref ra107), .unset] [(.ref (w j))])) rfl (by rw [hml]; rfl) (argsL := [(.ref (w j))]) (rest := []) (lenOf own_pd10 rfl) rfl (by show 2 * 0 + _ ≤ _; exact Nat.le_of_eq rfl) (hb hby at_37) (fun _ _ => ⟨rfl, rfl, (by decide : 2 + 2 ≤ _), (by decide : 80 + 80 ≤ _)⟩)
  dsimp only [Pt.U, Pt.locs, Pt.cells, Pt.slots] at X125 l125 y125 z125 st125 hQ125 hS2 hg2 CR125
  subst l125 y125 z125
  obtain ⟨X125, hS, hZ, hown⟩ := rebS hS (n1 := T107.heap.size) hk X125 hS2 hg2 hZ hown
  have hk := Nat.le_refl T125.heap.size
  have CR := CR.trans CR125
  obtain ⟨ra125, rb125, rk125, rfl, N125q, K125, E125, C125, B125, V125⟩ := hQ125
  have N125 := Fr.app N107 N125q
  have Z125 : n0 ≤ T125.heap.size := Nat.le_trans Z107 K125.1
  have F126 := own_sta_keep F108 K125 all0
  have F127 := own_sta_keep F109 K125 all0
  have F128 := own_sta_keep F110 K125 all0
  have F129 := own_sta_keep F111 K125 all0
  have F130 := own_sta_keep F112 K125 all0
  have F131 := own_sta_keep F113 K125 all0
  have F132 := own_sta_keep F114 K125 all0
  have F133 := own_sta_keep F115 K125 all0
  have F134 := own_sta_keep F116 K125 all0
  have F135 := own_sta_keep F117 K125 all0
  have F136 := own_sta_keep F118 K125 all0
  have F137 := own_sta_keep F119 K125 all0
  have F138 := F120.keep K125 nin0
  have F139 := F121.keep K125
  have F140 := F122.keep K125 nin0
  have F141 := F123.keep K125
  have F142 := F124.keep K125 nin0
  have F143 := E107.keep K125
  have F144 := C107.keep K125 nin0
  have F145 := B107.keep K125 nin0
  have F146 := V107.keep K125 nin0
  refine GoW.step (T' := T125) (g' := (mkF m 40 #[.val (.int p0), .val (.int p1), .val (.int (Int32.ofNat i)), .val (.int (Int32.ofNat j)), .val (.ref (w i)), .val (.ref (w j)), .val (.ref ra107), .unset] [(.ref ra125)])) (fun _ k => st125.trans k) ?_
  refine GoW.step (T' := T125) (g' := (mkF m 42 #[.val (.int p0), .val (.int p1), .val (.int (Int32.ofNat i)), .val (.int (Int32.ofNat j)), .val (.ref (w i)), .val (.ref (w j)), .val (.ref ra107), .val (.ref ra125)] [])) (fun _ k => XS.astore X125.here hx rfl (hb hby at_40) rfl rfl (l' := #[.val (.int p0), .val (.int p1), .val (.int (Int32.ofNat i)), .val (.int (Int32.ofNat j)), .val (.ref (w i)), .val (.ref (w j)), .val (.ref ra107), .val (.ref ra125)]) rfl k) ?_
  refine GoW.step (T' := T125) (g' := (mkF m 44 #[.val (.int p0), .val (.int p1), .val (.int (Int32.ofNat i)), .val (.int (Int32.ofNat j)), .val (.ref (w i)), .val (.ref (w j)), .val (.ref ra107), .val (.ref ra125)] [(.ref ra107)])) (fun _ k => XS.aload X125.here hx rfl (hb hby at_42) rfl rfl k) ?_
  obtain ⟨wa147, wb147, wc147, ⟨c2147, wd147, we147⟩, ⟨cL147, wg147, wi147⟩, -⟩ := own_wff i hi
  obtain ⟨_, _, ⟨T148, L148, k148, n148⟩, -, X148, ⟨Lc148, hQ148, l148, y148, z148⟩, st148⟩ := Jvm.LawKit.callS X125 hx (y := (⟨"com/example/noteform/noteform/cli/OptionsOfPinLaw", "wellFormed", "(Ljava/lang/String;)Z"⟩ : MethodName)) hown (mvT hZ (hw _ (List.mem_of_getElem? (i := 35) rfl))) (mvT hZ (hw _ (List.mem_of_getElem? (i := 36) rfl))) (mvT hZ (hw _ (List.mem_of_getElem? (i := 3) rfl))) (mvT hZ (hw _ (List.mem_of_getElem? (i := 37) rfl))) (by decide) (backOf (W := 0) (Q := Qret (some (.int (1 : Int32))) T125.heap n0) (own_wf l Z a0 hw [] ra107 gc rb107 rk107 (Int32.ofNat (own_bx i).length) ((own_bx i).map Value.int) gf c2147 cL147 T125.heap n0 Z125 F135 hgc F143 F144 F145 F146 F136 cgf wa147 wb147 wc147 wd147 wg147 we147 wi147) hZ (hw _ (List.mem_of_getElem? (i := 37) rfl)) (hw _ (List.mem_of_getElem? (i := 3) rfl)) (by decide) (by decide)) (g := (mkF m 44 #[.val (.int p0), .val (.int p1), .val (.int (Int32.ofNat i)), .val (.int (Int32.ofNat j)), .val (.ref (w i)), .val (.ref (w j)), .val (.ref ra107), .val (.ref ra125)] [(.ref ra107)])) rfl (by rw [hml]; rfl) (argsL := [(.ref ra107)]) (rest := []) (lenOf own_pd11 rfl) rfl (by show 2 * 0 + _ ≤ _; exact Nat.le_of_eq rfl) (hb hby at_44) (fun _ _ => ⟨rfl, rfl, (by decide : 4 + 0 ≤ _), (by decide : 160 + 0 ≤ _)⟩)
  dsimp only [Pt.U, Pt.locs, Pt.cells, Pt.slots] at X148 l148 y148 z148 st148 hQ148
  subst l148 y148 z148
  obtain ⟨rfl, N148q, eh148⟩ := hQ148
  have N148 := Fr.app N125 N148q
  refine GoW.step (T' := T148) (g' := (mkF m 47 #[.val (.int p0), .val (.int p1), .val (.int (Int32.ofNat i)), .val (.int (Int32.ofNat j)), .val (.ref (w i)), .val (.ref (w j)), .val (.ref ra107), .val (.ref ra125)] [(.int (1 : Int32))])) (st148) ?_
  refine GoW.step (T' := T148) (g' := (mkF m 50 #[.val (.int p0), .val (.int p1), .val (.int (Int32.ofNat i)), .val (.int (Int32.ofNat j)), .val (.ref (w i)), .val (.ref (w j)), .val (.ref ra107), .val (.ref ra125)] [])) (fun _ k => XS.ifNo X148.here hx rfl (hb hby at_47) rfl ((if0 _ _).trans (feq (by decide : ¬ ((1 : Int32) = (0 : Int32)))).1) k) ?_
  refine GoW.step (T' := T148) (g' := (mkF m 52 #[.val (.int p0), .val (.int p1), .val (.int (Int32.ofNat i)), .val (.int (Int32.ofNat j)), .val (.ref (w i)), .val (.ref (w j)), .val (.ref ra107), .val (.ref ra125)] [(.ref ra125)])) (fun _ k => XS.aload X148.here hx rfl (hb hby at_50) rfl rfl k) ?_
  obtain ⟨wa149, wb149, wc149, ⟨c2149, wd149, we149⟩, ⟨cL149, wg149, wi149⟩, -⟩ := own_wff j hj
  obtain ⟨_, _, ⟨T150, L150, k150, n150⟩, -, X150, ⟨Lc150, hQ150, l150, y150, z150⟩, st150⟩ := Jvm.LawKit.callS X148 hx (y := (⟨"com/example/noteform/noteform/cli/OptionsOfPinLaw", "wellFormed", "(Ljava/lang/String;)Z"⟩ : MethodName)) hown (mvT hZ (hw _ (List.mem_of_getElem? (i := 35) rfl))) (mvT hZ (hw _ (List.mem_of_getElem? (i := 36) rfl))) (mvT hZ (hw _ (List.mem_of_getElem? (i := 3) rfl))) (mvT hZ (hw _ (List.mem_of_getElem? (i := 37) rfl))) (by decide) (backOf (W := 0) (Q := Qret (some (.int (1 : Int32))) T125.heap n0) (own_wf l Z a0 hw [] ra125 gc rb125 rk125 (Int32.ofNat (own_bx j).length) ((own_bx j).map Value.int) gf c2149 cL149 T125.heap n0 Z125 F135 hgc E125 C125 B125 V125 F136 cgf wa149 wb149 wc149 wd149 wg149 we149 wi149) hZ (hw _ (List.mem_of_getElem? (i := 37) rfl)) (hw _ (List.mem_of_getElem? (i := 3) rfl)) (by decide) (by decide)) (g := (mkF m 52 #[.val (.int p0), .val (.int p1), .val (.int (Int32.ofNat i)), .val (.int (Int32.ofNat j)), .val (.ref (w i)), .val (.ref (w j)), .val (.ref ra107), .val (.ref ra125)] [(.ref ra125)])) rfl (by rw [hml]; rfl) (argsL := [(.ref ra125)]) (rest := []) (lenOf own_pd11 rfl) rfl (by show 2 * 0 + _ ≤ _; exact Nat.le_of_eq rfl) (hb hby at_52) (fun _ _ => ⟨rfl, eh148, (by decide : 4 + 0 ≤ _), (by decide : 160 + 0 ≤ _)⟩)
  dsimp only [Pt.U, Pt.locs, Pt.cells, Pt.slots] at X150 l150 y150 z150 st150 hQ150
  subst l150 y150 z150
  obtain ⟨rfl, N150q, eh150⟩ := hQ150
  have N150 := Fr.app N148 N150q
  refine GoW.step (T' := T150) (g' := (mkF m 55 #[.val (.int p0), .val (.int p1), .val (.int (Int32.ofNat i)), .val (.int (Int32.ofNat j)), .val (.ref (w i)), .val (.ref (w j)), .val (.ref ra107), .val (.ref ra125)] [(.int (1 : Int32))])) (st150) ?_
  refine GoW.step (T' := T150) (g' := (mkF m 60 #[.val (.int p0), .val (.int p1), .val (.int (Int32.ofNat i)), .val (.int (Int32.ofNat j)), .val (.ref (w i)), .val (.ref (w j)), .val (.ref ra107), .val (.ref ra125)] [])) (fun _ k => XS.ifYes X150.here hx rfl (pc0 := 55) (pc' := 60) rfl (hb hby at_55) rfl ((if0 _ _).trans (feq (by decide : ¬ ((1 : Int32) = (0 : Int32)))).2) (by decide) (by decide) k) ?_
  refine GoW.step (T' := T150) (g' := (mkF m 62 #[.val (.int p0), .val (.int p1), .val (.int (Int32.ofNat i)), .val (.int (Int32.ofNat j)), .val (.ref (w i)), .val (.ref (w j)), .val (.ref ra107), .val (.ref ra125)] [(.ref ra107)])) (fun _ k => XS.aload X150.here hx rfl (hb hby at_60) rfl rfl k) ?_
  refine GoW.step (T' := T150) (g' := (mkF m 64 #[.val (.int p0), .val (.int p1), .val (.int (Int32.ofNat i)), .val (.int (Int32.ofNat j)), .val (.ref (w i)), .val (.ref (w j)), .val (.ref ra107), .val (.ref ra125)] [(.ref ra125), (.ref ra107)])) (fun _ k => XS.aload X150.here hx rfl (hb hby at_62) rfl rfl k) ?_
  obtain ⟨cq151, kq151, q151a, q151b, q151c⟩ := isOf hZ eh150 F143
  obtain ⟨_, _, ⟨T151, L151, k151, n151⟩, -, X151, ⟨Lc151, hQ151, l151, y151, z151⟩, st151⟩ := X150.virtualBack hx (y := (⟨"java/lang/String", "equals", "(Ljava/lang/Object;)Z"⟩ : MethodName)) (z := (⟨"java/lang/String", "equals", "(Ljava/lang/Object;)Z"⟩ : MethodName)) hown (mvT hZ (hw _ (List.mem_of_getElem? (i := 76) rfl))) (mvT hZ (hw _ (List.mem_of_getElem? (i := 77) rfl))) (notFace_of_selects (args := #[]) (mvT hZ (hw _ (List.mem_of_getElem? (i := 79) rfl)))) (mvT hZ (hw _ (List.mem_of_getElem? (i := 79) rfl))) (mvT hZ (hw _ (List.mem_of_getElem? (i := 78) rfl))) (by decide) (backOf (W := 0) (Q := Qret (some (.int (if own_bx i = own_bx j then 1 else 0))) T125.heap n0) (own_eq l Z a0 hw [] ra107 ra125 gc rb107 rb125 rk107 rk125 (own_bx i) (own_bx j) T125.heap n0 Z125 F135 hgc F143 F144 F145 F146 E125 C125 B125 V125 (own_wff i hi).2.2.2.2.2 (own_wff j hj).2.2.2.2.2) hZ (hw _ (List.mem_of_getElem? (i := 80) rfl)) (hw _ (List.mem_of_getElem? (i := 27) rfl)) (by decide) (by decide)) q151a q151c (g := (mkF m 64 #[.val (.int p0), .val (.int p1), .val (.int (Int32.ofNat i)), .val (.int (Int32.ofNat j)), .val (.ref (w i)), .val (.ref (w j)), .val (.ref ra107), .val (.ref ra125)] [(.ref ra125), (.ref ra107)])) rfl (by rw [hml]; rfl) (Steps.refl _) (argsL := [(.ref ra125)]) (rest := []) (lenOf own_pd12 rfl) rfl (by show 2 * 0 + _ ≤ _; exact Nat.le_of_eq rfl) (hb hby at_64) (fun _ _ => ⟨rfl, eh150, (by decide : 4 + 0 ≤ _), (by decide : 160 + 0 ≤ _)⟩)
  dsimp only [Pt.U, Pt.locs, Pt.cells, Pt.slots] at X151 l151 y151 z151 st151 hQ151
  subst l151 y151 z151
  obtain ⟨rfl, N151q, eh151⟩ := hQ151
  have N151 := Fr.app N150 N151q
  refine GoW.step (T' := T151) (g' := (mkF m 67 #[.val (.int p0), .val (.int p1), .val (.int (Int32.ofNat i)), .val (.int (Int32.ofNat j)), .val (.ref (w i)), .val (.ref (w j)), .val (.ref ra107), .val (.ref ra125)] [(.int (if own_bx i = own_bx j then (1 : Int32) else 0))])) (fun _ k => st151.trans k) ?_
  refine GoW.step (T' := T151) (g' := (mkF m 68 #[.val (.int p0), .val (.int p1), .val (.int (Int32.ofNat i)), .val (.int (Int32.ofNat j)), .val (.ref (w i)), .val (.ref (w j)), .val (.ref ra107), .val (.ref ra125)] [(.int (Int32.ofNat i)), (.int (if own_bx i = own_bx j then (1 : Int32) else 0))])) (fun _ k => XS.iloadN X151.here hx rfl (hb hby at_67) rfl  k) ?_
  refine GoW.step (T' := T151) (g' := (mkF m 69 #[.val (.int p0), .val (.int p1), .val (.int (Int32.ofNat i)), .val (.int (Int32.ofNat j)), .val (.ref (w i)), .val (.ref (w j)), .val (.ref ra107), .val (.ref ra125)] [(.int (Int32.ofNat j)), (.int (Int32.ofNat i)), (.int (if own_bx i = own_bx j then (1 : Int32) else 0))])) (fun _ k => XS.iloadN X151.here hx rfl (hb hby at_68) rfl  k) ?_
  by_cases hc152 : (Int32.ofNat i) = (Int32.ofNat j)
  · skip
    refine GoW.step (T' := T151) (g' := (mkF m 72 #[.val (.int p0), .val (.int p1), .val (.int (Int32.ofNat i)), .val (.int (Int32.ofNat j)), .val (.ref (w i)), .val (.ref (w j)), .val (.ref ra107), .val (.ref ra125)] [(.int (if own_bx i = own_bx j then (1 : Int32) else 0))])) (fun _ k => XS.icmpNo X151.here hx rfl (hb hby at_69) rfl (teq hc152).2 k) ?_
    refine GoW.step (T' := T151) (g' := (mkF m 73 #[.val (.int p0), .val (.int p1), .val (.int (Int32.ofNat i)), .val (.int (Int32.ofNat j)), .val (.ref (w i)), .val (.ref (w j)), .val (.ref ra107), .val (.ref ra125)] [(.int (1 : Int32)), (.int (if own_bx i = own_bx j then (1 : Int32) else 0))])) (fun _ k => XS.iconst X151.here hx rfl (hb hby at_72) k) ?_
    refine GoW.step (T' := T151) (g' := (mkF m 77 #[.val (.int p0), .val (.int p1), .val (.int (Int32.ofNat i)), .val (.int (Int32.ofNat j)), .val (.ref (w i)), .val (.ref (w j)), .val (.ref ra107), .val (.ref ra125)] [(.int (1 : Int32)), (.int (if own_bx i = own_bx j then (1 : Int32) else 0))])) (fun _ k => XS.goto X151.here hx rfl (pc0 := 73) (pc' := 77) rfl (hb hby at_73) (by decide) (by decide) k) ?_
    have hij : i = j := by have r := congrArg Int32.toNatClampNeg hc152; rwa [own_natc (by omega), own_natc (by omega)] at r
    have hq : (if own_bx i = own_bx j then (1 : Int32) else 0) = (1 : Int32) := if_pos ((own_bx_inj hi hj).mpr hij)
    refine GoW.step (T' := T151) (g' := (mkF m 80 #[.val (.int p0), .val (.int p1), .val (.int (Int32.ofNat i)), .val (.int (Int32.ofNat j)), .val (.ref (w i)), .val (.ref (w j)), .val (.ref ra107), .val (.ref ra125)] [])) (fun _ k => XS.icmpNo X151.here hx rfl (hb hby at_77) rfl (teq hq).2 k) ?_
    refine GoW.step (T' := T151) (g' := (mkF m 81 #[.val (.int p0), .val (.int p1), .val (.int (Int32.ofNat i)), .val (.int (Int32.ofNat j)), .val (.ref (w i)), .val (.ref (w j)), .val (.ref ra107), .val (.ref ra125)] [(.int (1 : Int32))])) (fun _ k => XS.iconst X151.here hx rfl (hb hby at_80) k) ?_
    refine GoW.step (T' := T151) (g' := (mkF m 85 #[.val (.int p0), .val (.int p1), .val (.int (Int32.ofNat i)), .val (.int (Int32.ofNat j)), .val (.ref (w i)), .val (.ref (w j)), .val (.ref ra107), .val (.ref ra125)] [(.int (1 : Int32))])) (fun _ k => XS.goto X151.here hx rfl (pc0 := 81) (pc' := 85) rfl (hb hby at_81) (by decide) (by decide) k) ?_
    exact GoW.retN X151 hx hS hk hZ hEL CR eh151 (t := .boolean) hret hlk (by simp) (hb hby at_85) (⟨rfl, N151⟩) (by decide) (by decide)
  · skip
    refine GoW.step (T' := T151) (g' := (mkF m 76 #[.val (.int p0), .val (.int p1), .val (.int (Int32.ofNat i)), .val (.int (Int32.ofNat j)), .val (.ref (w i)), .val (.ref (w j)), .val (.ref ra107), .val (.ref ra125)] [(.int (if own_bx i = own_bx j then (1 : Int32) else 0))])) (fun _ k => XS.icmpYes X151.here hx rfl (pc0 := 69) (pc' := 76) rfl (hb hby at_69) rfl (feq hc152).2 (by decide) (by decide) k) ?_
    refine GoW.step (T' := T151) (g' := (mkF m 77 #[.val (.int p0), .val (.int p1), .val (.int (Int32.ofNat i)), .val (.int (Int32.ofNat j)), .val (.ref (w i)), .val (.ref (w j)), .val (.ref ra107), .val (.ref ra125)] [(.int (0 : Int32)), (.int (if own_bx i = own_bx j then (1 : Int32) else 0))])) (fun _ k => XS.iconst X151.here hx rfl (hb hby at_76) k) ?_
    have hij : ¬ i = j := fun q => hc152 (by rw [q])
    have hq : (if own_bx i = own_bx j then (1 : Int32) else 0) = (0 : Int32) := if_neg (fun q => hij ((own_bx_inj hi hj).mp q))
    refine GoW.step (T' := T151) (g' := (mkF m 80 #[.val (.int p0), .val (.int p1), .val (.int (Int32.ofNat i)), .val (.int (Int32.ofNat j)), .val (.ref (w i)), .val (.ref (w j)), .val (.ref ra107), .val (.ref ra125)] [])) (fun _ k => XS.icmpNo X151.here hx rfl (hb hby at_77) rfl (teq hq).2 k) ?_
    refine GoW.step (T' := T151) (g' := (mkF m 81 #[.val (.int p0), .val (.int p1), .val (.int (Int32.ofNat i)), .val (.int (Int32.ofNat j)), .val (.ref (w i)), .val (.ref (w j)), .val (.ref ra107), .val (.ref ra125)] [(.int (1 : Int32))])) (fun _ k => XS.iconst X151.here hx rfl (hb hby at_80) k) ?_
    refine GoW.step (T' := T151) (g' := (mkF m 85 #[.val (.int p0), .val (.int p1), .val (.int (Int32.ofNat i)), .val (.int (Int32.ofNat j)), .val (.ref (w i)), .val (.ref (w j)), .val (.ref ra107), .val (.ref ra125)] [(.int (1 : Int32))])) (fun _ k => XS.goto X151.here hx rfl (pc0 := 81) (pc' := 85) rfl (hb hby at_81) (by decide) (by decide) k) ?_
    exact GoW.retN X151 hx hS hk hZ hEL CR eh151 (t := .boolean) hret hlk (by simp) (hb hby at_85) (⟨rfl, N151⟩) (by decide) (by decide)
theorem own_size9 {c : Cell} (h : c.slots.size < 2 ^ 31) (e : c.slots.size.toInt32 = 9) : c.slots.size = 9 := by
  have q := congrArg Int32.toInt e
  rw [len_toInt h] at q
  have : (9 : Int32).toInt = 9 := rfl
  omega
theorem own_swel {Z : State} {args : Array Value} {t : Term} {a : Addr} {c : Cell} {j : Nat} (ht : ∀ idx, t.eval args Z none idx Z = some (.ref a)) (hc : Z.arrayAt? a = some c) (hf : Fit Z) (A : Arr Z Z.heap a c .int) (hj : j < c.slots.size) (h9 : j < 9)
    (q : (Jvm.Cond.eq (Jvm.Term.op1 .i2l (Jvm.Term.elem t (Jvm.Term.index 0))) (Jvm.Term.op2 .ladd (Jvm.Term.op1 .i2l (Jvm.Term.index 0)) (Jvm.Term.long 1))).value args Z none Z [j] = some true) : c.slots[j]? = some (.int (Int32.ofNat (j + 1))) := by
  have nj : ¬ (Int32.ofNat j) < 0 := (own_nat (n := 9) (by decide) h9).1
  have ej : (Int32.ofNat j).toNatClampNeg = j := own_natc (by omega)
  have ix : (Jvm.Term.index 0).eval args Z none [j] Z = some (.int (Int32.ofNat j)) := by
    have r := idx_at (args := args) (s := Z) (first := Z) (o := none) nj
    rwa [ej] at r
  obtain ⟨v, hv, hfv⟩ := elem_fit hf A (j := Int32.ofNat j) (by rw [ej]; intro r; rcases r with r | r; exact nj r; omega)
  obtain ⟨w, rfl⟩ := fit_I hfv (Or.inl rfl)
  have el : (Jvm.Term.elem t (Jvm.Term.index 0)).eval args Z none [j] Z = some (.int w) := (elem_f (ht [j]) ix hc nj).trans hv
  have e2 : (Jvm.Term.op2 .ladd (Jvm.Term.op1 .i2l (Jvm.Term.index 0)) (Jvm.Term.long 1)).eval args Z none [j] Z = some (.long ((Int32.ofNat j).toInt64 + 1)) := (op2_f (i2l_at ix) (long_at 1)).trans rfl
  have q' := gotT (eq_L (i2l_at el) e2) q
  rw [ej] at hv
  rw [hv]
  have r1 := congrArg Int64.toInt q'
  rw [c_i2l] at r1
  have r2 := c_ladd (Int32.ofNat j).toInt64 1
  rw [c_i2l, Int32.toInt_ofNat_of_lt (by omega)] at r2
  have r3 := rng64 ((Int32.ofNat j).toInt64 + 1)
  have r4 : (1 : Int64).toInt = 1 := rfl
  have r5 := rng32 w
  have r6 : w = Int32.ofNat (j + 1) := Int32.toInt_inj.mp (by rw [Int32.toInt_ofNat_of_lt (by omega)]; omega)
  rw [r6]
set_option maxRecDepth 65536 in
set_option maxHeartbeats 40000000 in
theorem comes_1 {Post : Tables → Env → Array Value → State → Outcome → State → Prop} (hpost : ∀ tb e args s v u, (limb_1_1.after args s (.returned v) u = true ∧ limb_1_2.after args s (.returned v) u = true ∧ True) → ReturnedEndW s (.returned v) u (Jvm.fieldLocs frame_1_writes args s ++ Jvm.arrayLocs frame_1_arrays args s ++ Jvm.staticLocs frame_1_statics s) 24 9280 → Post tb e args s (.returned v) u) :
    ArmFor flags0 classFile x code maxLocals ret World_1 tables_1 room_1 Calls_1 rest_1 Pre_1 Post := by
  intro l hfl _ _ p e ha hc hk s m args below hf hA hF happ hP
  obtain ⟨hcalls, hrest, hpre⟩ := hP
  obtain ⟨-, -, -, hnamed, -, -, -, hat⟩ := (Spec.applies_iff hf).mp happ
  obtain ⟨hg, hn⟩ := and_e (Cond.before_iff.mp (show (Jvm.Cond.and given_1 narrow_1).before args s = true from hpre))
  obtain ⟨g0a, g0b⟩ := and_e hg
  obtain ⟨g1a, g1b⟩ := and_e g0b
  obtain ⟨vw0, vw1, rfl⟩ : ∃ vw0 vw1 : Value, args = #[vw0, vw1] := by
    have hs : args.size = 2 := by simpa [Cond.value, given_1] using g0a
    obtain ⟨L⟩ := args
    match L, hs with
    | [vw0, vw1], _ => exact ⟨vw0, vw1, rfl⟩
  have hw := fun d (hd : d ∈ tables_1) => atoms_spec (ws := Jvm.Cond.code x code maxLocals ret :: tables_1) hat d (List.mem_cons_of_mem _ hd)
  have hfit : Fit s := fun {y c} hc i hi => by
    obtain ⟨ha, rfl⟩ := Array.getElem?_eq_some_iff.mp hc
    have q := List.all_eq_true.mp ((Array.all_eq_true_iff_forall_mem.mp hF) _ (Array.getElem_mem ha)) i (List.mem_range.mpr hi)
    simpa [Array.getElem?_eq_getElem hi] using q
  obtain ⟨hsets, hown0⟩ := atoms_of _ (rest_1_c_eq ▸ (show rest_1_c.before _ s = true from hrest))
  obtain ⟨i0, ei0⟩ := is_v g1a
  obtain rfl : vw0 = (.int i0) := Option.some.inj ei0
  obtain ⟨i1, ei1⟩ := is_v g1b
  obtain rfl : vw1 = (.int i1) := Option.some.inj ei1
  obtain ⟨m0a, m0b⟩ := and_e hn
  obtain ⟨m1a, m1b⟩ := and_e m0b
  obtain ⟨m2a, m2b⟩ := and_e m1b
  obtain ⟨m3a, m3b⟩ := and_e m2b
  obtain ⟨m4a, m4b⟩ := and_e m3b
  obtain ⟨m5a, m5b⟩ := and_e m4b
  obtain ⟨m6a, m6b⟩ := and_e m5b
  obtain ⟨m7a, m7b⟩ := and_e m6b
  obtain ⟨m8a, m8b⟩ := and_e m7b
  obtain ⟨m9a, m9b⟩ := and_e m8b
  obtain ⟨m10a, m10b⟩ := and_e m9b
  obtain ⟨m11a, m11b⟩ := and_e m10b
  obtain ⟨m12a, m12b⟩ := and_e m11b
  obtain ⟨m13a, m13b⟩ := and_e m12b
  obtain ⟨m14a, m14b⟩ := and_e m13b
  obtain ⟨m15a, m15b⟩ := and_e m14b
  obtain ⟨m16a, m16b⟩ := and_e m15b
  obtain ⟨m17a, m17b⟩ := and_e m16b
  obtain ⟨m18a, m18b⟩ := and_e m17b
  obtain ⟨m19a, m19b⟩ := and_e m18b
  obtain ⟨w0, ev0⟩ := exa_v m0a
  have S0 := Sta.start ev0 (Or.inr ⟨(hw _ (List.mem_of_getElem? (i := 6) rfl)), (hw _ (List.mem_of_getElem? (i := 7) rfl))⟩)
  have E0 := Exa.start ev0 m0a
  have O0 := Fld.start ((fld_at ev0).symm.trans (own_eqI m4a))
  obtain ⟨w1, ev1⟩ := exa_v m7a
  have S1 := Sta.start ev1 (Or.inr ⟨(hw _ (List.mem_of_getElem? (i := 6) rfl)), (hw _ (List.mem_of_getElem? (i := 89) rfl))⟩)
  have E1 := Exa.start ev1 m7a
  have O1 := Fld.start ((fld_at ev1).symm.trans (own_eqI m9a))
  obtain ⟨w2, ev2⟩ := exa_v m10a
  have S2 := Sta.start ev2 (Or.inr ⟨(hw _ (List.mem_of_getElem? (i := 6) rfl)), (hw _ (List.mem_of_getElem? (i := 93) rfl))⟩)
  have E2 := Exa.start ev2 m10a
  have O2 := Fld.start ((fld_at ev2).symm.trans (own_eqI m11a))
  obtain ⟨w3, ev3⟩ := exa_v m1a
  have S3 := Sta.start ev3 (Or.inr ⟨(hw _ (List.mem_of_getElem? (i := 6) rfl)), (hw _ (List.mem_of_getElem? (i := 9) rfl))⟩)
  have E3 := Exa.start ev3 m1a
  have O3 := Fld.start ((fld_at ev3).symm.trans (own_eqI m5a))
  obtain ⟨w4, ev4⟩ := exa_v m12a
  have S4 := Sta.start ev4 (Or.inr ⟨(hw _ (List.mem_of_getElem? (i := 6) rfl)), (hw _ (List.mem_of_getElem? (i := 96) rfl))⟩)
  have E4 := Exa.start ev4 m12a
  have O4 := Fld.start ((fld_at ev4).symm.trans (own_eqI m13a))
  obtain ⟨w5, ev5⟩ := exa_v m6a
  have S5 := Sta.start ev5 (Or.inr ⟨(hw _ (List.mem_of_getElem? (i := 6) rfl)), (hw _ (List.mem_of_getElem? (i := 87) rfl))⟩)
  have E5 := Exa.start ev5 m6a
  have O5 := Fld.start ((fld_at ev5).symm.trans (own_eqI m8a))
  obtain ⟨w6, ev6⟩ := exa_v m14a
  have S6 := Sta.start ev6 (Or.inr ⟨(hw _ (List.mem_of_getElem? (i := 6) rfl)), (hw _ (List.mem_of_getElem? (i := 99) rfl))⟩)
  have E6 := Exa.start ev6 m14a
  have O6 := Fld.start ((fld_at ev6).symm.trans (own_eqI m15a))
  obtain ⟨w7, ev7⟩ := exa_v m18a
  have S7 := Sta.start ev7 (Or.inr ⟨(hw _ (List.mem_of_getElem? (i := 6) rfl)), (hw _ (List.mem_of_getElem? (i := 105) rfl))⟩)
  have E7 := Exa.start ev7 m18a
  have O7 := Fld.start ((fld_at ev7).symm.trans (own_eqI m19a))
  obtain ⟨w8, ev8⟩ := exa_v m16a
  have S8 := Sta.start ev8 (Or.inr ⟨(hw _ (List.mem_of_getElem? (i := 6) rfl)), (hw _ (List.mem_of_getElem? (i := 102) rfl))⟩)
  have E8 := Exa.start ev8 m16a
  have O8 := Fld.start ((fld_at ev8).symm.trans (own_eqI m17a))
  obtain ⟨vz, evz⟩ := arr_v m2a
  have Sz := Sta.start evz (Or.inr ⟨(hw _ (List.mem_of_getElem? (i := 15) rfl)), (hw _ (List.mem_of_getElem? (i := 16) rfl))⟩)
  obtain ⟨cz, Az⟩ := Arr.start evz m2a
  have lz := own_len evz Az (own_eqI m3a)
  have szz : cz.slots.size = 9 := own_size9 lz.1 lz.2
  have hel := Cond.all_elim evz (Az.fin (Vm.Alike.refl _)) m19b
  have hat : ∀ j, j < 9 → cz.slots[j]? = some (.int (Int32.ofNat (j + 1))) := fun j hj => own_swel (fun _ => evz) (Az.fin (Vm.Alike.refl _)) hfit Az (by omega) hj (hel j (by omega))
  have Vz : Arv s s.heap vz cz.cls .int 9 [(.int (1 : Int32)), (.int (2 : Int32)), (.int (3 : Int32)), (.int (4 : Int32)), (.int (5 : Int32)), (.int (6 : Int32)), (.int (7 : Int32)), (.int (8 : Int32)), (.int (9 : Int32))] (.int (0 : Int32)) := Arv.start hfit Az lz.1 lz.2 (by decide) (by decide) ⟨hat 0 (by decide), hat 1 (by decide), hat 2 (by decide), hat 3 (by decide), hat 4 (by decide), hat 5 (by decide), hat 6 (by decide), hat 7 (by decide), hat 8 (by decide), trivial⟩
  obtain ⟨gc, evc⟩ := is_v (Cond.before_iff.mp (hsets _ (List.mem_of_getElem? (i := 1) rfl)))
  have Sc := Sta.start evc (Or.inl (hsets _ (List.mem_of_getElem? (i := 0) rfl)))
  have hgc : ¬ gc = (0 : Int32) := gotF (Cond.eq_ints evc (Term.int_eval (0))) (not_v (Cond.before_iff.mp (hsets _ (List.mem_of_getElem? (i := 2) rfl))))
  obtain ⟨gf, evf, rgf⟩ := isR_v (Cond.before_iff.mp (hsets _ (List.mem_of_getElem? (i := 8) rfl)))
  have Sf := Sta.start evf (Or.inl (hsets _ (List.mem_of_getElem? (i := 7) rfl)))
  have cgf : gf.category = 1 := by rcases ref_cases rgf with rfl | ⟨_, rfl⟩ <;> rfl
  have hEL : EW s _ own_EL := (EW.cons (hw _ (List.mem_of_getElem? (i := 26) rfl)) (by decide) (EW.cons (hw _ (List.mem_of_getElem? (i := 91) rfl)) (by decide) (EW.cons (hw _ (List.mem_of_getElem? (i := 94) rfl)) (by decide) (EW.cons (hw _ (List.mem_of_getElem? (i := 34) rfl)) (by decide) (EW.cons (hw _ (List.mem_of_getElem? (i := 97) rfl)) (by decide) (EW.cons (hw _ (List.mem_of_getElem? (i := 90) rfl)) (by decide) (EW.cons (hw _ (List.mem_of_getElem? (i := 100) rfl)) (by decide) (EW.cons (hw _ (List.mem_of_getElem? (i := 106) rfl)) (by decide) (EW.cons (hw _ (List.mem_of_getElem? (i := 103) rfl)) (by decide) EW.nil)))))))))
  have H0 : CHv s own_EL s.vm s.heap := CHv.start hEL hcalls.1 (hsets _ (List.mem_of_getElem? (i := 2) rfl)) (hw _ (List.mem_of_getElem? (i := 29) rfl)) (hw _ (List.mem_of_getElem? (i := 28) rfl))
  have EW_ : ∀ i, i < 9 → Exa s s.heap ((fun i => match i with | 0 => w0 | 1 => w1 | 2 => w2 | 3 => w3 | 4 => w4 | 5 => w5 | 6 => w6 | 7 => w7 | _ => w8) i) "com/example/noteform/noteform/calc/RequestInput" := fun i hi => match i, hi with | 0, _ => E0 | 1, _ => E1 | 2, _ => E2 | 3, _ => E3 | 4, _ => E4 | 5, _ => E5 | 6, _ => E6 | 7, _ => E7 | 8, _ => E8
  have OW_ : ∀ i, i < 9 → Fld s s.heap ((fun i => match i with | 0 => w0 | 1 => w1 | 2 => w2 | 3 => w3 | 4 => w4 | 5 => w5 | 6 => w6 | 7 => w7 | _ => w8) i) "java/lang/Enum" "ordinal" "I" (.int (Int32.ofNat i)) := fun i hi => match i, hi with | 0, _ => O0 | 1, _ => O1 | 2, _ => O2 | 3, _ => O3 | 4, _ => O4 | 5, _ => O5 | 6, _ => O6 | 7, _ => O7 | 8, _ => O8
  obtain ⟨n, o, h1, h2, h3, _, L, rfl, ⟨rfl, N⟩, -, hq⟩ := rm0 l s _ hw tables_1 i0 i1 (fun i => match i with | 0 => w0 | 1 => w1 | 2 => w2 | 3 => w3 | 4 => w4 | 5 => w5 | 6 => w6 | 7 => w7 | _ => w8) vz cz.cls gc gf hEL s.heap s.heap.size (Nat.le_refl _) S0 S1 S2 S3 S4 S5 S6 S7 S8 Sc hgc Sf cgf Sz Vz EW_ OW_ p e ha hc hk s m _ below hf ((Spec.applies_iff_loose hf).mp happ).1 ⟨rfl, State.Warmed39.refl s, rfl, H0⟩ trivial
  refine ⟨n, _, h1, h2, h3, hpost _ _ _ _ _ _ ⟨Cond.after_iff.mpr rfl, Cond.after_iff.mpr (eq_i res_at (Term.int_eval (1)) rfl), trivial⟩ ⟨hq.1, hq.2.1, hq.2.2.1, (hq.2.2.2.sift fun y hy => Or.inr (N y hy)).mono (by decide) (by decide)⟩⟩
theorem main_1_1 : Claimed_1_1 := comes_1 fun _ _ _ _ _ _ h hF => ⟨h.1, hF⟩
theorem main_1_2 : Claimed_1_2 := comes_1 fun _ _ _ _ _ _ h hF => ⟨h.2.1, hF⟩
end Jvm.Pilot.@@N@@
namespace Jvm.Pilot.@@N@@
open Jvm Jvm.ClassFile Sem Op Lib Jvm.Free Jvm.Stand Jvm.Pilot.@@N@@.Jvm.D
/-! MADE BY PROGRAM (witnessworld.py) out of the Statement's table words and the real class files: 20 classes; the members and pool entries that the words name. The judged class is class 1, her method 4. -/
namespace start1
open Jvm.ClassFile
def u (s : String) : CpInfo := .utf8 (stringToUtf16 s)
/-- a pool by its gaps: so many unusable entries, then the entry; so many at the end -/
def gap : Nat → List CpInfo → List CpInfo
  | 0, r => r
  | n + 1, r => .unusable :: gap n r
def poolList (es : List (Nat × CpInfo)) (last : Nat) : List CpInfo := es.foldr (fun e r => gap e.1 (e.2 :: r)) (gap last [])
def pool (es : List (Nat × CpInfo)) (last : Nat) : Array CpInfo := ⟨poolList es last⟩
def fileOf (pool : Array CpInfo) (this : Nat) (attrs : Array Attribute := #[]) (ms : Array MethodInfo := #[]) (fl : Nat := 33) (sup : Nat := 0) (ifs : Array Nat := #[]) (fds : Array FieldInfo := #[]) : ClassFile where
  minorVersion := 0
  majorVersion := 65
  constantPool := pool
  accessFlags := fl
  thisClass := this
  superClass := sup
  interfaces := ifs
  fields := fds
  methods := ms
  attributes := attrs
def plain (name : String) (sup : Option ClassId) : Class where
  name := name
  kind := .ordinary
  loader := none
  accessFlags := 33
  super := sup
  interfaces := #[]
  cf := none
  fields := #[]
  methods := #[]
  instanceTypes := #[]
  staticTypes := #[]
  resolved := #[]
  callSites := []
  init := .initialized
  statics := none
  mirror := none

def pool0 : Array CpInfo := pool [(5, u "<init>"), (0, u "()V"), (1, .class_ 10), (1, u "java/lang/Object")] 113

def k0m0 : Method := { name := "<init>", desc := "()V", sig := { parameters := [], returnType := none }, accessFlags := 1, code := none }
/-- java/lang/Object -/
def k0 : Class := { plain "java/lang/Object" none with
  accessFlags := 33
  interfaces := #[]
  cf := some (fileOf pool0 8 #[] #[{ accessFlags := 1, nameIndex := 5, descriptorIndex := 6, attributes := #[] }] 33 0 #[] #[])
  fields := #[]
  methods := #[k0m0]
  instanceTypes := #[]
  staticTypes := #[]
  resolved := Array.replicate 124 none
  statics := none }

def pool1 : Array CpInfo := pool [(2, .class_ 4), (1, u "java/lang/Object"), (0, u "<init>"), (0, u "()V"), (0, .fieldref 8 9), (0, .class_ 10), (0, .nameAndType 11 12), (0, u "com/example/noteform/noteform/calc/RequestInput"), (0, u "DATE"), (0, u "Lcom/example/noteform/noteform/calc/RequestInput;"), (0, .fieldref 8 14), (0, .nameAndType 15 12), (0, u "PRINCIPAL"), (0, .fieldref 8 17), (0, .nameAndType 18 12), (0, u "CLOSING_PRICE"), (0, .fieldref 8 20), (0, .nameAndType 21 12), (0, u "WITH_INTEREST"), (0, .fieldref 8 23), (0, .nameAndType 24 12), (0, u "FROM"), (0, .fieldref 8 26), (0, .nameAndType 27 12), (0, u "TO"), (0, .fieldref 8 29), (0, .nameAndType 30 12), (0, u "PRICES"), (0, .fieldref 8 32), (0, .nameAndType 33 12), (0, u "KIND"), (0, .fieldref 8 35), (0, .nameAndType 36 12), (0, u "PRICE_WINDOW_FROM"), (0, .methodref 38 39), (0, .class_ 40), (0, .nameAndType 41 42), (0, u "java/lang/String"), (0, u "length"), (0, u "()I"), (0, .methodref 38 44), (0, .nameAndType 45 46), (0, u "charAt"), (0, u "(I)C"), (0, .methodref 48 49), (0, .class_ 50), (0, .nameAndType 51 52), (0, u "com/example/noteform/noteform/cli/OptionsOfPinLaw"), (0, u "lower"), (0, u "(C)Z"), (0, .integer 2147483647), (0, .methodref 48 55), (0, .nameAndType 56 57), (0, u "pick"), (0, u "(I)Lcom/example/noteform/noteform/calc/RequestInput;"), (0, .methodref 59 60), (0, .class_ 61), (0, .nameAndType 62 63), (0, u "com/example/noteform/noteform/cli/Options"), (0, u "of"), (0, u "(Lcom/example/noteform/noteform/calc/RequestInput;)Ljava/lang/String;"), (0, .methodref 48 65), (0, .nameAndType 66 67), (0, u "wellFormed"), (0, u "(Ljava/lang/String;)Z"), (0, .methodref 38 69), (0, .nameAndType 70 71), (0, u "equals"), (0, u "(Ljava/lang/Object;)Z"), (3, u "law"), (0, u "(II)Z")] 2

def k1m0 : Method := { name := "<init>", desc := "()V", sig := { parameters := [], returnType := none }, accessFlags := 2, code := none }
def k1c1 : Code := { maxStack := 2, maxLocals := 1, code := method_2_code, exceptionTable := #[], attributes := #[] }
def k1m1 : Method := { name := "pick", desc := "(I)Lcom/example/noteform/noteform/calc/RequestInput;", sig := { parameters := [.int], returnType := some (.object "com/example/noteform/noteform/calc/RequestInput") }, accessFlags := 10, code := some k1c1 }
def k1c2 : Code := { maxStack := 2, maxLocals := 1, code := method_3_code, exceptionTable := #[], attributes := #[] }
def k1m2 : Method := { name := "lower", desc := "(C)Z", sig := { parameters := [.char], returnType := some .boolean }, accessFlags := 10, code := some k1c2 }
def k1c3 : Code := { maxStack := 3, maxLocals := 1, code := method_4_code, exceptionTable := #[], attributes := #[] }
def k1m3 : Method := { name := "wellFormed", desc := "(Ljava/lang/String;)Z", sig := { parameters := [(.object "java/lang/String")], returnType := some .boolean }, accessFlags := 10, code := some k1c3 }
def k1c4 : Code := { maxStack := 3, maxLocals := 8, code := code, exceptionTable := #[], attributes := #[] }
def k1m4 : Method := { name := "law", desc := "(II)Z", sig := { parameters := [.int, .int], returnType := some .boolean }, accessFlags := 9, code := some k1c4 }
/-- com/example/noteform/noteform/cli/OptionsOfPinLaw -/
def k1 : Class := { plain "com/example/noteform/noteform/cli/OptionsOfPinLaw" (some 0) with
  accessFlags := 49
  interfaces := #[]
  cf := some (fileOf pool1 48 #[] #[{ accessFlags := 2, nameIndex := 5, descriptorIndex := 6, attributes := #[] }, { accessFlags := 10, nameIndex := 56, descriptorIndex := 57, attributes := #[] }, { accessFlags := 10, nameIndex := 51, descriptorIndex := 52, attributes := #[] }, { accessFlags := 10, nameIndex := 66, descriptorIndex := 67, attributes := #[] }, { accessFlags := 9, nameIndex := 75, descriptorIndex := 76, attributes := #[] }] 49 2 #[] #[])
  fields := #[]
  methods := #[k1m0, k1m1, k1m2, k1m3, k1m4]
  instanceTypes := #[]
  staticTypes := #[]
  resolved := Array.replicate 79 none
  statics := none }

def pool2 : Array CpInfo := pool [(1, .class_ 2), (0, u "java/lang/constant/Constable"), (0, .class_ 4), (0, u "java/lang/Object")] 6

/-- java/lang/constant/Constable -/
def k2 : Class := { plain "java/lang/constant/Constable" (some 0) with
  accessFlags := 1537
  interfaces := #[]
  cf := some (fileOf pool2 1 #[] #[] 1537 3 #[] #[])
  fields := #[]
  methods := #[]
  instanceTypes := #[]
  staticTypes := #[]
  resolved := Array.replicate 11 none
  statics := none }

def pool3 : Array CpInfo := pool [(1, .class_ 2), (0, u "java/lang/Comparable"), (0, .class_ 4), (0, u "java/lang/Object")] 7

/-- java/lang/Comparable -/
def k3 : Class := { plain "java/lang/Comparable" (some 0) with
  accessFlags := 1537
  interfaces := #[]
  cf := some (fileOf pool3 1 #[] #[] 1537 3 #[] #[])
  fields := #[]
  methods := #[]
  instanceTypes := #[]
  staticTypes := #[]
  resolved := Array.replicate 12 none
  statics := none }

def pool4 : Array CpInfo := pool [(1, .class_ 2), (0, u "java/io/Serializable"), (0, .class_ 4), (0, u "java/lang/Object")] 2

/-- java/io/Serializable -/
def k4 : Class := { plain "java/io/Serializable" (some 0) with
  accessFlags := 1537
  interfaces := #[]
  cf := some (fileOf pool4 1 #[] #[] 1537 3 #[] #[])
  fields := #[]
  methods := #[]
  instanceTypes := #[]
  staticTypes := #[]
  resolved := Array.replicate 7 none
  statics := none }

def pool5 : Array CpInfo := pool [(2, .class_ 4), (1, u "java/lang/Enum"), (0, u "name"), (0, u "Ljava/lang/String;"), (0, .fieldref 2 8), (0, .nameAndType 9 10), (0, u "ordinal"), (0, u "I"), (1, .class_ 14), (1, u "java/lang/Object"), (4, u "hash"), (86, .class_ 108), (1, u "java/lang/Enum$EnumDesc"), (2, .class_ 112), (0, u "java/lang/constant/Constable"), (0, .class_ 114), (0, u "java/lang/Comparable"), (0, .class_ 116), (0, u "java/io/Serializable"), (9, u "()I")] 77

def k5c0 : Code := { maxStack := 1, maxLocals := 1, code := jdk_37_method_2_code, exceptionTable := #[], attributes := #[] }
def k5m0 : Method := { name := "ordinal", desc := "()I", sig := { parameters := [], returnType := some .int }, accessFlags := 17, code := some k5c0 }
/-- java/lang/Enum -/
def k5 : Class := { plain "java/lang/Enum" (some 0) with
  accessFlags := 1057
  interfaces := #[2, 3, 4]
  cf := some (fileOf pool5 2 #[.nestMembers #[106]] #[{ accessFlags := 17, nameIndex := 9, descriptorIndex := 126, attributes := #[] }] 1057 12 #[111, 113, 115] #[{ accessFlags := 18, nameIndex := 5, descriptorIndex := 6, attributes := #[] }, { accessFlags := 18, nameIndex := 9, descriptorIndex := 10, attributes := #[] }, { accessFlags := 2, nameIndex := 19, descriptorIndex := 10, attributes := #[] }])
  fields := #[{ name := "name", type := (.object "java/lang/String"), accessFlags := 18, slot := 0, constantValue := 0 }, { name := "ordinal", type := .int, accessFlags := 18, slot := 1, constantValue := 0 }, { name := "hash", type := .int, accessFlags := 2, slot := 2, constantValue := 0 }]
  methods := #[k5m0]
  instanceTypes := #[(.object "java/lang/String"), .int, .int]
  staticTypes := #[]
  resolved := Array.replicate 204 none
  statics := none }

def pool6 : Array CpInfo := pool [(1, .class_ 2), (0, u "com/example/noteform/noteform/calc/RequestInput"), (2, u "DATE"), (0, u "Lcom/example/noteform/noteform/calc/RequestInput;"), (2, u "PRINCIPAL"), (2, u "CLOSING_PRICE"), (2, u "WITH_INTEREST"), (2, u "FROM"), (2, u "TO"), (2, u "PRICES"), (2, u "KIND"), (2, u "PRICE_WINDOW_FROM"), (2, u "$VALUES"), (0, u "[Lcom/example/noteform/noteform/calc/RequestInput;"), (6, .class_ 43), (1, u "java/lang/Enum")] 31

/-- com/example/noteform/noteform/calc/RequestInput -/
def k6 : Class := { plain "com/example/noteform/noteform/calc/RequestInput" (some 5) with
  accessFlags := 16433
  interfaces := #[]
  cf := some (fileOf pool6 1 #[] #[] 16433 41 #[] #[{ accessFlags := 16409, nameIndex := 5, descriptorIndex := 6, attributes := #[] }, { accessFlags := 16409, nameIndex := 9, descriptorIndex := 6, attributes := #[] }, { accessFlags := 16409, nameIndex := 12, descriptorIndex := 6, attributes := #[] }, { accessFlags := 16409, nameIndex := 15, descriptorIndex := 6, attributes := #[] }, { accessFlags := 16409, nameIndex := 18, descriptorIndex := 6, attributes := #[] }, { accessFlags := 16409, nameIndex := 21, descriptorIndex := 6, attributes := #[] }, { accessFlags := 16409, nameIndex := 24, descriptorIndex := 6, attributes := #[] }, { accessFlags := 16409, nameIndex := 27, descriptorIndex := 6, attributes := #[] }, { accessFlags := 16409, nameIndex := 30, descriptorIndex := 6, attributes := #[] }, { accessFlags := 4122, nameIndex := 33, descriptorIndex := 34, attributes := #[] }])
  fields := #[{ name := "DATE", type := (.object "com/example/noteform/noteform/calc/RequestInput"), accessFlags := 16409, slot := 0, constantValue := 0 }, { name := "PRINCIPAL", type := (.object "com/example/noteform/noteform/calc/RequestInput"), accessFlags := 16409, slot := 1, constantValue := 0 }, { name := "CLOSING_PRICE", type := (.object "com/example/noteform/noteform/calc/RequestInput"), accessFlags := 16409, slot := 2, constantValue := 0 }, { name := "WITH_INTEREST", type := (.object "com/example/noteform/noteform/calc/RequestInput"), accessFlags := 16409, slot := 3, constantValue := 0 }, { name := "FROM", type := (.object "com/example/noteform/noteform/calc/RequestInput"), accessFlags := 16409, slot := 4, constantValue := 0 }, { name := "TO", type := (.object "com/example/noteform/noteform/calc/RequestInput"), accessFlags := 16409, slot := 5, constantValue := 0 }, { name := "PRICES", type := (.object "com/example/noteform/noteform/calc/RequestInput"), accessFlags := 16409, slot := 6, constantValue := 0 }, { name := "KIND", type := (.object "com/example/noteform/noteform/calc/RequestInput"), accessFlags := 16409, slot := 7, constantValue := 0 }, { name := "PRICE_WINDOW_FROM", type := (.object "com/example/noteform/noteform/calc/RequestInput"), accessFlags := 16409, slot := 8, constantValue := 0 }, { name := "$VALUES", type := (.array (.object "com/example/noteform/noteform/calc/RequestInput")), accessFlags := 4122, slot := 9, constantValue := 0 }]
  methods := #[]
  instanceTypes := #[(.object "java/lang/String"), .int, .int]
  staticTypes := #[(.object "com/example/noteform/noteform/calc/RequestInput"), (.object "com/example/noteform/noteform/calc/RequestInput"), (.object "com/example/noteform/noteform/calc/RequestInput"), (.object "com/example/noteform/noteform/calc/RequestInput"), (.object "com/example/noteform/noteform/calc/RequestInput"), (.object "com/example/noteform/noteform/calc/RequestInput"), (.object "com/example/noteform/noteform/calc/RequestInput"), (.object "com/example/noteform/noteform/calc/RequestInput"), (.object "com/example/noteform/noteform/calc/RequestInput"), (.array (.object "com/example/noteform/noteform/calc/RequestInput"))]
  resolved := Array.replicate 75 none
  statics := some 0 }

def pool7 : Array CpInfo := pool [(2, .class_ 4), (1, u "java/lang/Object"), (0, u "<init>"), (0, u "()V"), (0, .fieldref 8 9), (0, .class_ 10), (0, .nameAndType 11 12), (0, u "com/example/noteform/noteform/cli/Options$1"), (0, u "$SwitchMap$com$example$noteform$noteform$calc$RequestInput"), (0, u "[I"), (0, .methodref 14 15), (0, .class_ 16), (0, .nameAndType 17 18), (0, u "com/example/noteform/noteform/calc/RequestInput"), (0, u "ordinal"), (0, u "()I"), (5, .class_ 25), (0, u "com/example/noteform/noteform/cli/Options"), (0, .string 27), (0, u "--date"), (0, .string 29), (0, u "--principal"), (0, .string 31), (0, u "--closing-price"), (0, .string 33), (0, u "--with-interest"), (0, .string 35), (0, u "--from"), (0, .string 37), (0, u "--to"), (0, .string 39), (0, u "--prices"), (0, .string 41), (0, u "--kind"), (0, .string 43), (0, u "--price-window-from"), (0, u "DATE"), (0, u "Ljava/lang/String;"), (1, u "PRINCIPAL"), (0, u "CLOSING_PRICE"), (0, u "WITH_INTEREST"), (0, u "FROM"), (0, u "TO"), (0, u "EVENTS"), (2, u "PRICES"), (0, u "KIND"), (0, u "PRICE_WINDOW_FROM"), (2, u "of"), (0, u "(Lcom/example/noteform/noteform/calc/RequestInput;)Ljava/lang/String;")] 7

def k7m0 : Method := { name := "<init>", desc := "()V", sig := { parameters := [], returnType := none }, accessFlags := 2, code := none }
def k7c1 : Code := { maxStack := 4, maxLocals := 1, code := prog_30_method_2_code, exceptionTable := #[], attributes := #[] }
def k7m1 : Method := { name := "of", desc := "(Lcom/example/noteform/noteform/calc/RequestInput;)Ljava/lang/String;", sig := { parameters := [(.object "com/example/noteform/noteform/calc/RequestInput")], returnType := some (.object "java/lang/String") }, accessFlags := 8, code := some k7c1 }
/-- com/example/noteform/noteform/cli/Options -/
def k7 : Class := { plain "com/example/noteform/noteform/cli/Options" (some 0) with
  accessFlags := 48
  interfaces := #[]
  cf := some (fileOf pool7 24 #[.nestMembers #[8]] #[{ accessFlags := 2, nameIndex := 5, descriptorIndex := 6, attributes := #[] }, { accessFlags := 8, nameIndex := 60, descriptorIndex := 61, attributes := #[] }] 48 2 #[] #[{ accessFlags := 24, nameIndex := 44, descriptorIndex := 45, attributes := #[] }, { accessFlags := 24, nameIndex := 47, descriptorIndex := 45, attributes := #[] }, { accessFlags := 24, nameIndex := 48, descriptorIndex := 45, attributes := #[] }, { accessFlags := 24, nameIndex := 49, descriptorIndex := 45, attributes := #[] }, { accessFlags := 24, nameIndex := 50, descriptorIndex := 45, attributes := #[] }, { accessFlags := 24, nameIndex := 51, descriptorIndex := 45, attributes := #[] }, { accessFlags := 24, nameIndex := 52, descriptorIndex := 45, attributes := #[] }, { accessFlags := 24, nameIndex := 55, descriptorIndex := 45, attributes := #[] }, { accessFlags := 24, nameIndex := 56, descriptorIndex := 45, attributes := #[] }, { accessFlags := 24, nameIndex := 57, descriptorIndex := 45, attributes := #[] }])
  fields := #[{ name := "DATE", type := (.object "java/lang/String"), accessFlags := 24, slot := 0, constantValue := 0 }, { name := "PRINCIPAL", type := (.object "java/lang/String"), accessFlags := 24, slot := 1, constantValue := 0 }, { name := "CLOSING_PRICE", type := (.object "java/lang/String"), accessFlags := 24, slot := 2, constantValue := 0 }, { name := "WITH_INTEREST", type := (.object "java/lang/String"), accessFlags := 24, slot := 3, constantValue := 0 }, { name := "FROM", type := (.object "java/lang/String"), accessFlags := 24, slot := 4, constantValue := 0 }, { name := "TO", type := (.object "java/lang/String"), accessFlags := 24, slot := 5, constantValue := 0 }, { name := "EVENTS", type := (.object "java/lang/String"), accessFlags := 24, slot := 6, constantValue := 0 }, { name := "PRICES", type := (.object "java/lang/String"), accessFlags := 24, slot := 7, constantValue := 0 }, { name := "KIND", type := (.object "java/lang/String"), accessFlags := 24, slot := 8, constantValue := 0 }, { name := "PRICE_WINDOW_FROM", type := (.object "java/lang/String"), accessFlags := 24, slot := 9, constantValue := 0 }]
  methods := #[k7m0, k7m1]
  instanceTypes := #[]
  staticTypes := #[(.object "java/lang/String"), (.object "java/lang/String"), (.object "java/lang/String"), (.object "java/lang/String"), (.object "java/lang/String"), (.object "java/lang/String"), (.object "java/lang/String"), (.object "java/lang/String"), (.object "java/lang/String"), (.object "java/lang/String")]
  resolved := Array.replicate 69 none
  statics := none }

def pool8 : Array CpInfo := pool [(8, .class_ 10), (1, u "com/example/noteform/noteform/cli/Options$1"), (0, u "$SwitchMap$com$example$noteform$noteform$calc$RequestInput"), (0, u "[I"), (34, .class_ 48), (0, u "java/lang/Object"), (8, .class_ 58), (0, u "com/example/noteform/noteform/cli/Options")] 2

/-- com/example/noteform/noteform/cli/Options$1 -/
def k8 : Class := { plain "com/example/noteform/noteform/cli/Options$1" (some 0) with
  accessFlags := 4128
  interfaces := #[]
  cf := some (fileOf pool8 8 #[.nestHost 57] #[] 4128 47 #[] #[{ accessFlags := 4120, nameIndex := 11, descriptorIndex := 12, attributes := #[] }])
  fields := #[{ name := "$SwitchMap$com$example$noteform$noteform$calc$RequestInput", type := (.array .int), accessFlags := 4120, slot := 0, constantValue := 0 }]
  methods := #[]
  instanceTypes := #[]
  staticTypes := #[(.array .int)]
  resolved := Array.replicate 61 none
  statics := some 1 }

def pool9 : Array CpInfo := pool [(2, .class_ 4), (1, u "java/lang/CharSequence"), (42, .class_ 48), (0, u "java/lang/CharSequence$1CodePointIterator"), (10, .class_ 60), (0, u "java/lang/CharSequence$1CharIterator"), (5, .class_ 67), (0, u "java/lang/Object")] 63

/-- java/lang/CharSequence -/
def k9 : Class := { plain "java/lang/CharSequence" (some 0) with
  accessFlags := 1537
  interfaces := #[]
  cf := some (fileOf pool9 2 #[.nestMembers #[47, 59]] #[] 1537 66 #[] #[])
  fields := #[]
  methods := #[]
  instanceTypes := #[]
  staticTypes := #[]
  resolved := Array.replicate 131 none
  statics := none }

def pool10 : Array CpInfo := pool [(1, .class_ 2), (0, u "java/lang/constant/ConstantDesc"), (0, .class_ 4), (0, u "java/lang/Object")] 32

/-- java/lang/constant/ConstantDesc -/
def k10 : Class := { plain "java/lang/constant/ConstantDesc" (some 0) with
  accessFlags := 1537
  interfaces := #[]
  cf := some (fileOf pool10 1 #[] #[] 1537 3 #[] #[])
  fields := #[]
  methods := #[]
  instanceTypes := #[]
  staticTypes := #[]
  resolved := Array.replicate 37 none
  statics := none }

def pool11 : Array CpInfo := pool [(2, .class_ 4), (1, u "java/lang/Object"), (0, u "<init>"), (0, u "()V"), (2, .fieldref 10 11), (0, .class_ 12), (0, .nameAndType 13 14), (0, u "java/lang/String"), (0, u "value"), (0, u "[B"), (0, .fieldref 10 16), (0, .nameAndType 17 18), (0, u "coder"), (0, u "B"), (2, u "hash"), (0, u "I"), (2, u "hashIsZero"), (0, u "Z"), (11, .fieldref 10 39), (0, .nameAndType 40 26), (0, u "COMPACT_STRINGS"), (66, .class_ 109), (1, u "java/lang/StringLatin1"), (32, u "()Z"), (191, u "()I"), (0, .methodref 10 336), (0, .nameAndType 17 337), (0, u "()B"), (25, u "([BI)C"), (27, u "(II)V"), (35, u "(I)C"), (64, .methodref 10 493), (0, .nameAndType 494 142), (0, u "isLatin1"), (0, .methodref 107 496), (0, .nameAndType 497 363), (0, u "charAt"), (3, u "checkIndex"), (5, u "length"), (33, .methodref 107 542), (0, .nameAndType 543 544), (0, u "equals"), (0, u "([B[B)Z"), (28, u "(Ljava/lang/Object;)Z"), (1, .class_ 576), (0, u "java/lang/CharSequence"), (22, u "CASE_INSENSITIVE_ORDER"), (0, u "Ljava/util/Comparator;"), (452, .fieldref 1054 1055), (0, .class_ 1056), (0, .nameAndType 1057 1058), (0, u "jdk/internal/util/Preconditions"), (0, u "SIOOBE_FORMATTER"), (0, u "Ljava/util/function/BiFunction;"), (0, .methodref 1054 1060), (0, .nameAndType 501 1061), (0, u "(IILjava/util/function/BiFunction;)I"), (39, u "serialPersistentFields"), (0, u "[Ljava/io/ObjectStreamField;"), (0, .class_ 1104), (0, u "java/lang/String$CaseInsensitiveComparator"), (1, .class_ 1107), (0, u "java/io/Serializable"), (0, .class_ 1109), (0, u "java/lang/Comparable"), (0, .class_ 1111), (0, u "java/lang/constant/Constable"), (0, .class_ 1113), (0, u "java/lang/constant/ConstantDesc"), (2, u "serialVersionUID"), (0, u "J"), (3, u "REPL"), (0, u "C"), (2, u "LATIN1"), (1, u "UTF16")] 323

def k11m0 : Method := { name := "<init>", desc := "()V", sig := { parameters := [], returnType := none }, accessFlags := 1, code := none }
def k11c1 : Code := { maxStack := 2, maxLocals := 1, code := jdk_42_method_54_code, exceptionTable := #[], attributes := #[] }
def k11m1 : Method := { name := "length", desc := "()I", sig := { parameters := [], returnType := some .int }, accessFlags := 1, code := some k11c1 }
def k11c2 : Code := { maxStack := 2, maxLocals := 2, code := jdk_42_method_56_code, exceptionTable := #[], attributes := #[] }
def k11m2 : Method := { name := "charAt", desc := "(I)C", sig := { parameters := [.int], returnType := some .char }, accessFlags := 1, code := some k11c2 }
def k11c3 : Code := { maxStack := 2, maxLocals := 3, code := jdk_42_method_66_code, exceptionTable := #[], attributes := #[] }
def k11m3 : Method := { name := "equals", desc := "(Ljava/lang/Object;)Z", sig := { parameters := [(.object "java/lang/Object")], returnType := some .boolean }, accessFlags := 1, code := some k11c3 }
def k11c4 : Code := { maxStack := 1, maxLocals := 1, code := jdk_42_method_152_code, exceptionTable := #[], attributes := #[] }
def k11m4 : Method := { name := "coder", desc := "()B", sig := { parameters := [], returnType := some .byte }, accessFlags := 0, code := some k11c4 }
def k11c5 : Code := { maxStack := 1, maxLocals := 1, code := jdk_42_method_154_code, exceptionTable := #[], attributes := #[] }
def k11m5 : Method := { name := "isLatin1", desc := "()Z", sig := { parameters := [], returnType := some .boolean }, accessFlags := 0, code := some k11c5 }
def k11c6 : Code := { maxStack := 3, maxLocals := 2, code := jdk_42_method_155_code, exceptionTable := #[], attributes := #[] }
def k11m6 : Method := { name := "checkIndex", desc := "(II)V", sig := { parameters := [.int, .int], returnType := none }, accessFlags := 8, code := some k11c6 }
/-- java/lang/String -/
def k11 : Class := { plain "java/lang/String" (some 0) with
  accessFlags := 49
  interfaces := #[4, 3, 9, 2, 10]
  cf := some (fileOf pool11 10 #[.nestMembers #[1103]] #[{ accessFlags := 1, nameIndex := 5, descriptorIndex := 6, attributes := #[] }, { accessFlags := 1, nameIndex := 507, descriptorIndex := 334, attributes := #[] }, { accessFlags := 1, nameIndex := 497, descriptorIndex := 427, attributes := #[] }, { accessFlags := 1, nameIndex := 543, descriptorIndex := 573, attributes := #[] }, { accessFlags := 0, nameIndex := 17, descriptorIndex := 337, attributes := #[] }, { accessFlags := 0, nameIndex := 494, descriptorIndex := 142, attributes := #[] }, { accessFlags := 8, nameIndex := 501, descriptorIndex := 391, attributes := #[] }] 49 2 #[1106, 1108, 575, 1110, 1112] #[{ accessFlags := 18, nameIndex := 13, descriptorIndex := 14, attributes := #[] }, { accessFlags := 18, nameIndex := 17, descriptorIndex := 18, attributes := #[] }, { accessFlags := 2, nameIndex := 21, descriptorIndex := 22, attributes := #[] }, { accessFlags := 2, nameIndex := 25, descriptorIndex := 26, attributes := #[] }, { accessFlags := 26, nameIndex := 1116, descriptorIndex := 1117, attributes := #[] }, { accessFlags := 24, nameIndex := 40, descriptorIndex := 26, attributes := #[] }, { accessFlags := 26, nameIndex := 1101, descriptorIndex := 1102, attributes := #[] }, { accessFlags := 26, nameIndex := 1121, descriptorIndex := 1122, attributes := #[] }, { accessFlags := 25, nameIndex := 599, descriptorIndex := 600, attributes := #[] }, { accessFlags := 24, nameIndex := 1125, descriptorIndex := 18, attributes := #[] }, { accessFlags := 24, nameIndex := 1127, descriptorIndex := 18, attributes := #[] }])
  fields := #[{ name := "value", type := (.array .byte), accessFlags := 18, slot := 0, constantValue := 0 }, { name := "coder", type := .byte, accessFlags := 18, slot := 1, constantValue := 0 }, { name := "hash", type := .int, accessFlags := 2, slot := 2, constantValue := 0 }, { name := "hashIsZero", type := .boolean, accessFlags := 2, slot := 3, constantValue := 0 }, { name := "serialVersionUID", type := .long, accessFlags := 26, slot := 0, constantValue := 0 }, { name := "COMPACT_STRINGS", type := .boolean, accessFlags := 24, slot := 1, constantValue := 0 }, { name := "serialPersistentFields", type := (.array (.object "java/io/ObjectStreamField")), accessFlags := 26, slot := 2, constantValue := 0 }, { name := "REPL", type := .char, accessFlags := 26, slot := 3, constantValue := 0 }, { name := "CASE_INSENSITIVE_ORDER", type := (.object "java/util/Comparator"), accessFlags := 25, slot := 4, constantValue := 0 }, { name := "LATIN1", type := .byte, accessFlags := 24, slot := 5, constantValue := 0 }, { name := "UTF16", type := .byte, accessFlags := 24, slot := 6, constantValue := 0 }]
  methods := #[k11m0, k11m1, k11m2, k11m3, k11m4, k11m5, k11m6]
  instanceTypes := #[(.array .byte), .byte, .int, .boolean]
  staticTypes := #[.long, .boolean, (.array (.object "java/io/ObjectStreamField")), .char, (.object "java/util/Comparator"), .byte, .byte]
  resolved := Array.replicate 1451 none
  statics := some 2 }

def pool12 : Array CpInfo := pool [(1, .class_ 2), (0, u "java/lang/String"), (1, .class_ 6), (1, u "java/lang/Object"), (0, u "<init>"), (0, u "()V"), (0, .methodref 1 10), (0, .nameAndType 11 12), (0, u "checkIndex"), (0, u "(II)V"), (1, .class_ 16), (1, u "java/lang/StringLatin1"), (36, u "([BI)C"), (67, u "$assertionsDisabled"), (0, u "Z"), (98, .class_ 223), (1, u "java/lang/StringLatin1$LinesSpliterator"), (28, u "charAt"), (28, u "equals"), (0, u "([B[B)Z"), (107, .class_ 391), (0, u "java/lang/StringLatin1$CharsSpliterator")] 3

def k12m0 : Method := { name := "<init>", desc := "()V", sig := { parameters := [], returnType := none }, accessFlags := 0, code := none }
def k12c1 : Code := { maxStack := 2, maxLocals := 2, code := jdk_43_method_2_code, exceptionTable := #[], attributes := #[] }
def k12m1 : Method := { name := "charAt", desc := "([BI)C", sig := { parameters := [(.array .byte), .int], returnType := some .char }, accessFlags := 9, code := some k12c1 }
def k12c2 : Code := { maxStack := 3, maxLocals := 3, code := jdk_43_method_13_code, exceptionTable := #[], attributes := #[] }
def k12m2 : Method := { name := "equals", desc := "([B[B)Z", sig := { parameters := [(.array .byte), (.array .byte)], returnType := some .boolean }, accessFlags := 9, code := some k12c2 }
/-- java/lang/StringLatin1 -/
def k12 : Class := { plain "java/lang/StringLatin1" (some 0) with
  accessFlags := 48
  interfaces := #[]
  cf := some (fileOf pool12 14 #[.nestMembers #[390, 221]] #[{ accessFlags := 0, nameIndex := 7, descriptorIndex := 8, attributes := #[] }, { accessFlags := 9, nameIndex := 252, descriptorIndex := 53, attributes := #[] }, { accessFlags := 9, nameIndex := 281, descriptorIndex := 282, attributes := #[] }] 48 4 #[] #[{ accessFlags := 4120, nameIndex := 121, descriptorIndex := 122, attributes := #[] }])
  fields := #[{ name := "$assertionsDisabled", type := .boolean, accessFlags := 4120, slot := 0, constantValue := 0 }]
  methods := #[k12m0, k12m1, k12m2]
  instanceTypes := #[]
  staticTypes := #[.boolean]
  resolved := Array.replicate 395 none
  statics := none }

def pool13 : Array CpInfo := pool [(2, .class_ 4), (1, u "java/lang/Object"), (0, u "<init>"), (0, u "()V"), (17, .class_ 26), (1, u "jdk/internal/util/Preconditions"), (6, u "checkIndex"), (21, .class_ 56), (0, u "jdk/internal/util/Preconditions$4"), (57, .class_ 115), (0, u "jdk/internal/util/Preconditions$1"), (7, u "SIOOBE_FORMATTER"), (0, u "Ljava/util/function/BiFunction;"), (0, .class_ 126), (0, u "jdk/internal/util/Preconditions$2"), (3, u "AIOOBE_FORMATTER"), (0, .class_ 132), (0, u "jdk/internal/util/Preconditions$3"), (3, u "IOOBE_FORMATTER"), (41, u "(IILjava/util/function/BiFunction;)I")] 15

def k13m0 : Method := { name := "<init>", desc := "()V", sig := { parameters := [], returnType := none }, accessFlags := 1, code := none }
def k13c1 : Code := { maxStack := 3, maxLocals := 3, code := jdk_41_method_11_code, exceptionTable := #[], attributes := #[] }
def k13m1 : Method := { name := "checkIndex", desc := "(IILjava/util/function/BiFunction;)I", sig := { parameters := [.int, .int, (.object "java/util/function/BiFunction")], returnType := some .int }, accessFlags := 9, code := some k13c1 }
/-- jdk/internal/util/Preconditions -/
def k13 : Class := { plain "jdk/internal/util/Preconditions" (some 0) with
  accessFlags := 33
  interfaces := #[]
  cf := some (fileOf pool13 24 #[.nestMembers #[55, 131, 125, 114]] #[{ accessFlags := 1, nameIndex := 5, descriptorIndex := 6, attributes := #[] }, { accessFlags := 9, nameIndex := 33, descriptorIndex := 178, attributes := #[] }] 33 2 #[] #[{ accessFlags := 25, nameIndex := 123, descriptorIndex := 124, attributes := #[] }, { accessFlags := 25, nameIndex := 130, descriptorIndex := 124, attributes := #[] }, { accessFlags := 25, nameIndex := 136, descriptorIndex := 124, attributes := #[] }])
  fields := #[{ name := "SIOOBE_FORMATTER", type := (.object "java/util/function/BiFunction"), accessFlags := 25, slot := 0, constantValue := 0 }, { name := "AIOOBE_FORMATTER", type := (.object "java/util/function/BiFunction"), accessFlags := 25, slot := 1, constantValue := 0 }, { name := "IOOBE_FORMATTER", type := (.object "java/util/function/BiFunction"), accessFlags := 25, slot := 2, constantValue := 0 }]
  methods := #[k13m0, k13m1]
  instanceTypes := #[]
  staticTypes := #[(.object "java/util/function/BiFunction"), (.object "java/util/function/BiFunction"), (.object "java/util/function/BiFunction")]
  resolved := Array.replicate 194 none
  statics := some 3 }

def pool14 : Array CpInfo := pool [(9, u "<init>"), (6, .class_ 18), (1, u "java/lang/Object"), (0, u "()V"), (1, .class_ 23), (1, u "jdk/internal/util/ArraysSupport"), (0, u "LOG2_ARRAY_LONG_INDEX_SCALE"), (0, u "I"), (2, u "U"), (0, u "Ljdk/internal/misc/Unsafe;"), (8, u "BIG_ENDIAN"), (0, u "Z"), (8, u "LOG2_BYTE_BIT_SIZE"), (4, u "LOG2_ARRAY_INT_INDEX_SCALE"), (54, u "JLA"), (0, u "Ljdk/internal/access/JavaLangAccess;"), (11, u "LOG2_ARRAY_BOOLEAN_INDEX_SCALE"), (9, u "LOG2_ARRAY_BYTE_INDEX_SCALE"), (5, u "LOG2_ARRAY_CHAR_INDEX_SCALE"), (5, u "LOG2_ARRAY_SHORT_INDEX_SCALE"), (18, u "LOG2_ARRAY_FLOAT_INDEX_SCALE"), (24, u "LOG2_ARRAY_DOUBLE_INDEX_SCALE"), (89, u "T_BOOLEAN"), (2, u "T_CHAR"), (1, u "T_FLOAT"), (1, u "T_DOUBLE"), (1, u "T_BYTE"), (1, u "T_SHORT"), (1, u "T_INT"), (1, u "T_LONG"), (1, u "SOFT_MAX_ARRAY_LENGTH")] 83

def k14m0 : Method := { name := "<init>", desc := "()V", sig := { parameters := [], returnType := none }, accessFlags := 2, code := none }
/-- jdk/internal/util/ArraysSupport -/
def k14 : Class := { plain "jdk/internal/util/ArraysSupport" (some 0) with
  accessFlags := 33
  interfaces := #[]
  cf := some (fileOf pool14 21 #[] #[{ accessFlags := 2, nameIndex := 9, descriptorIndex := 19, attributes := #[] }] 33 16 #[] #[{ accessFlags := 24, nameIndex := 28, descriptorIndex := 29, attributes := #[] }, { accessFlags := 26, nameIndex := 38, descriptorIndex := 39, attributes := #[] }, { accessFlags := 25, nameIndex := 121, descriptorIndex := 25, attributes := #[] }, { accessFlags := 25, nameIndex := 131, descriptorIndex := 25, attributes := #[] }, { accessFlags := 25, nameIndex := 137, descriptorIndex := 25, attributes := #[] }, { accessFlags := 25, nameIndex := 143, descriptorIndex := 25, attributes := #[] }, { accessFlags := 25, nameIndex := 53, descriptorIndex := 25, attributes := #[] }, { accessFlags := 25, nameIndex := 24, descriptorIndex := 25, attributes := #[] }, { accessFlags := 25, nameIndex := 162, descriptorIndex := 25, attributes := #[] }, { accessFlags := 25, nameIndex := 187, descriptorIndex := 25, attributes := #[] }, { accessFlags := 26, nameIndex := 48, descriptorIndex := 25, attributes := #[] }, { accessFlags := 25, nameIndex := 277, descriptorIndex := 25, attributes := #[] }, { accessFlags := 25, nameIndex := 280, descriptorIndex := 25, attributes := #[] }, { accessFlags := 25, nameIndex := 282, descriptorIndex := 25, attributes := #[] }, { accessFlags := 25, nameIndex := 284, descriptorIndex := 25, attributes := #[] }, { accessFlags := 25, nameIndex := 286, descriptorIndex := 25, attributes := #[] }, { accessFlags := 25, nameIndex := 288, descriptorIndex := 25, attributes := #[] }, { accessFlags := 25, nameIndex := 290, descriptorIndex := 25, attributes := #[] }, { accessFlags := 25, nameIndex := 292, descriptorIndex := 25, attributes := #[] }, { accessFlags := 26, nameIndex := 108, descriptorIndex := 109, attributes := #[] }, { accessFlags := 25, nameIndex := 294, descriptorIndex := 25, attributes := #[] }])
  fields := #[{ name := "U", type := (.object "jdk/internal/misc/Unsafe"), accessFlags := 24, slot := 0, constantValue := 0 }, { name := "BIG_ENDIAN", type := .boolean, accessFlags := 26, slot := 1, constantValue := 0 }, { name := "LOG2_ARRAY_BOOLEAN_INDEX_SCALE", type := .int, accessFlags := 25, slot := 2, constantValue := 0 }, { name := "LOG2_ARRAY_BYTE_INDEX_SCALE", type := .int, accessFlags := 25, slot := 3, constantValue := 0 }, { name := "LOG2_ARRAY_CHAR_INDEX_SCALE", type := .int, accessFlags := 25, slot := 4, constantValue := 0 }, { name := "LOG2_ARRAY_SHORT_INDEX_SCALE", type := .int, accessFlags := 25, slot := 5, constantValue := 0 }, { name := "LOG2_ARRAY_INT_INDEX_SCALE", type := .int, accessFlags := 25, slot := 6, constantValue := 0 }, { name := "LOG2_ARRAY_LONG_INDEX_SCALE", type := .int, accessFlags := 25, slot := 7, constantValue := 0 }, { name := "LOG2_ARRAY_FLOAT_INDEX_SCALE", type := .int, accessFlags := 25, slot := 8, constantValue := 0 }, { name := "LOG2_ARRAY_DOUBLE_INDEX_SCALE", type := .int, accessFlags := 25, slot := 9, constantValue := 0 }, { name := "LOG2_BYTE_BIT_SIZE", type := .int, accessFlags := 26, slot := 10, constantValue := 0 }, { name := "T_BOOLEAN", type := .int, accessFlags := 25, slot := 11, constantValue := 0 }, { name := "T_CHAR", type := .int, accessFlags := 25, slot := 12, constantValue := 0 }, { name := "T_FLOAT", type := .int, accessFlags := 25, slot := 13, constantValue := 0 }, { name := "T_DOUBLE", type := .int, accessFlags := 25, slot := 14, constantValue := 0 }, { name := "T_BYTE", type := .int, accessFlags := 25, slot := 15, constantValue := 0 }, { name := "T_SHORT", type := .int, accessFlags := 25, slot := 16, constantValue := 0 }, { name := "T_INT", type := .int, accessFlags := 25, slot := 17, constantValue := 0 }, { name := "T_LONG", type := .int, accessFlags := 25, slot := 18, constantValue := 0 }, { name := "JLA", type := (.object "jdk/internal/access/JavaLangAccess"), accessFlags := 26, slot := 19, constantValue := 0 }, { name := "SOFT_MAX_ARRAY_LENGTH", type := .int, accessFlags := 25, slot := 20, constantValue := 0 }]
  methods := #[k14m0]
  instanceTypes := #[]
  staticTypes := #[(.object "jdk/internal/misc/Unsafe"), .boolean, .int, .int, .int, .int, .int, .int, .int, .int, .int, .int, .int, .int, .int, .int, .int, .int, .int, (.object "jdk/internal/access/JavaLangAccess"), .int]
  resolved := Array.replicate 378 none
  statics := none }

def pool15 : Array CpInfo := pool [(1, u "java/lang/Cloneable"), (0, .class_ 1), (0, u "java/lang/Object"), (0, .class_ 3)] 3

/-- java/lang/Cloneable -/
def k15 : Class := { plain "java/lang/Cloneable" (some 0) with
  accessFlags := 1537
  interfaces := #[]
  cf := some (fileOf pool15 2 #[] #[] 1537 4 #[] #[])
  fields := #[]
  methods := #[]
  instanceTypes := #[]
  staticTypes := #[]
  resolved := Array.replicate 8 none
  statics := none }

/-- the primitive byte -/
def k16 : Class := { plain "byte" none with kind := .primitive 'B', accessFlags := 0x411 }
/-- [B -/
def k17 : Class := { plain "[B" (some 0) with kind := .array 16 .byte, interfaces := #[15, 4], accessFlags := 1041 }

/-- the primitive int -/
def k18 : Class := { plain "int" none with kind := .primitive 'I', accessFlags := 0x411 }
/-- [I -/
def k19 : Class := { plain "[I" (some 0) with kind := .array 18 .int, interfaces := #[15, 4], accessFlags := 1041 }

def heap : Heap := #[{ cls := 6, slots := #[.ref 4, .ref 5, .ref 6, .ref 7, .ref 8, .ref 9, .ref 10, .ref 11, .ref 12, .null], vm := .statics 6 },
  { cls := 8, slots := #[.ref 13], vm := .statics 8 },
  { cls := 11, slots := #[.long 0, .int 1, .null, .int 0, .null, .int 0, .int 0], vm := .statics 11 },
  { cls := 13, slots := #[.null, .null, .null], vm := .statics 13 },
  { cls := 6, slots := #[.null, .int 0, .int 0], vm := .none },
  { cls := 6, slots := #[.null, .int 1, .int 0], vm := .none },
  { cls := 6, slots := #[.null, .int 2, .int 0], vm := .none },
  { cls := 6, slots := #[.null, .int 3, .int 0], vm := .none },
  { cls := 6, slots := #[.null, .int 4, .int 0], vm := .none },
  { cls := 6, slots := #[.null, .int 5, .int 0], vm := .none },
  { cls := 6, slots := #[.null, .int 6, .int 0], vm := .none },
  { cls := 6, slots := #[.null, .int 7, .int 0], vm := .none },
  { cls := 6, slots := #[.null, .int 8, .int 0], vm := .none },
  { cls := 19, slots := #[.int 1, .int 2, .int 3, .int 4, .int 5, .int 6, .int 7, .int 8, .int 9], vm := .none }]
def classes : Array Class := #[k0, k1, k2, k3, k4, k5, k6, k7, k8, k9, k10, k11, k12, k13, k14, k15, k16, k17, k18, k19]
def interned : List (Array UInt16 × Addr) := []
def slotsUsed : Nat := 57
def theMethod : MethodId := ⟨1, 4⟩
def args0 : Array Value := #[.int 1, .int 2]
def aboutOver (below : List Frame) : State where
  vm := { classes := classes, interned := interned.toArray }
  heap := heap
  slotsUsed := slotsUsed
  threads := #[{ frames := .invoking theMethod args0 :: below }]
def below0 : List Frame := [.native { method := ⟨0, 0⟩, args := #[] }]
def about1 : State := aboutOver below0
def p0 : Program := .bare "" "" ""
def e0 : Env := launch0.env 0 0 0
theorem w_frames : about1.frames = Frame.invoking theMethod args0 :: below0 := rfl
set_option maxRecDepth 65536 in
theorem w_args : argsFit about1.vm theMethod args0 = true := by decide +kernel
set_option maxRecDepth 65536 in
theorem w_heap : heapFits about1 = true := by decide +kernel
set_option maxRecDepth 65536 in
theorem w_runnable : about1.curStatus? = some .runnable := by decide +kernel
set_option maxRecDepth 65536 in
theorem w_alone : about1.alone = true := by decide +kernel
set_option maxRecDepth 65536 in
theorem w_named : about1.methodNamed? x = some theMethod := by decide +kernel
set_option maxRecDepth 65536 in
theorem w_hears : about1.hears theMethod below0 = true := by decide +kernel
set_option maxRecDepth 65536 in
theorem w_ripe : about1.ripe theMethod args0 below0 = true := by decide +kernel
theorem w_running : about1.status = .running := rfl
set_option maxRecDepth 65536 in
theorem w_room : about1.hasRoom e0.platform room_1 = true :=
  launch0.hasRoom_least _ room_1 (by decide +kernel) (by decide +kernel) (by decide +kernel) (by decide +kernel) (by decide +kernel) (by decide +kernel)
theorem allAtoms_all (ts : List Jvm.Cond) (a : Array Jvm.Value) (st : Jvm.State) : (allAtoms ts).before a st = ts.all (fun c => c.before a st) := by
  induction ts with
  | nil => rfl
  | cons c t ih =>
    show (Jvm.Cond.and c (allAtoms t)).before a st = _
    rw [Jvm.Cond.before_and, ih, List.all_cons]
def words1 : List Jvm.Cond := Jvm.Cond.code x code maxLocals ret :: tables_1
/-- a 'code' word, met by the world's own term for the bytes: nothing is compared byte by byte -/
theorem code_word {y : MethodName} {bytes : ByteArray} {mx : Nat} {rt : Option FieldType} {a : Array Value} {s : State} {m : MethodId} {meth : Method} {c : Code} (h1 : s.methodNamed? y = some m) (h2 : s.vm.method? m = some meth) (h3 : meth.code = some c) (h4 : c.code = bytes)
    (h5 : (c.maxLocals == mx && c.exceptionTable.isEmpty && decide (c.maxStack ≤ mostOperands) && decide (meth.sig.returnType = rt) && !meth.locks && decide (parseMethodDescriptor y.desc = some meth.sig)) = true) : (Jvm.Cond.code y bytes mx rt).before a s = true := by
  simp only [Bool.and_eq_true, beq_iff_eq, Bool.not_eq_true', decide_eq_true_eq] at h5
  obtain ⟨⟨⟨⟨⟨g1, g2⟩, g3⟩, g4⟩, g5⟩, g6⟩ := h5
  simp [Cond.before, Cond.holds, Cond.value, h1, h2, h3, h4, g1, g2, g3, g4, g5, g6]
def isCode : Jvm.Cond → Bool
  | .code _ _ _ _ => true
  | _ => false
theorem all_split {L : List Jvm.Cond} {P : Jvm.Cond → Bool} (h1 : L.all (fun c => isCode c || P c) = true) (h2 : ∀ c ∈ L.filter isCode, P c = true) : L.all P = true := by
  refine List.all_eq_true.mpr fun c hc => ?_
  have h := List.all_eq_true.mp h1 c hc
  rcases Bool.eq_false_or_eq_true (isCode c) with hi | hi
  · exact h2 c (List.mem_filter.mpr ⟨hc, hi⟩)
  · simpa [hi] using h
set_option maxRecDepth 65536 in
theorem w_c0 : (Jvm.Cond.code x code maxLocals ret).before args0 about1 = true := code_word (m := ⟨1, 4⟩) (meth := k1m4) (c := k1c4) (by decide +kernel) rfl rfl rfl (by decide +kernel)
set_option maxRecDepth 65536 in
theorem w_c1 : (Jvm.Cond.code ({ cls := "com/example/noteform/noteform/cli/OptionsOfPinLaw", name := "pick", desc := "(I)Lcom/example/noteform/noteform/calc/RequestInput;" } : Jvm.MethodName) method_2_code (1 : Nat) (Option.some (Jvm.ClassFile.FieldType.object "com/example/noteform/noteform/calc/RequestInput"))).before args0 about1 = true := code_word (m := ⟨1, 1⟩) (meth := k1m1) (c := k1c1) (by decide +kernel) rfl rfl rfl (by decide +kernel)
set_option maxRecDepth 65536 in
theorem w_c2 : (Jvm.Cond.code ({ cls := "com/example/noteform/noteform/cli/Options", name := "of", desc := "(Lcom/example/noteform/noteform/calc/RequestInput;)Ljava/lang/String;" } : Jvm.MethodName) prog_30_method_2_code (1 : Nat) (Option.some (Jvm.ClassFile.FieldType.object "java/lang/String"))).before args0 about1 = true := code_word (m := ⟨7, 1⟩) (meth := k7m1) (c := k7c1) (by decide +kernel) rfl rfl rfl (by decide +kernel)
set_option maxRecDepth 65536 in
theorem w_c3 : (Jvm.Cond.code ({ cls := "java/lang/Enum", name := "ordinal", desc := "()I" } : Jvm.MethodName) jdk_37_method_2_code (1 : Nat) (Option.some Jvm.ClassFile.FieldType.int)).before args0 about1 = true := code_word (m := ⟨5, 0⟩) (meth := k5m0) (c := k5c0) (by decide +kernel) rfl rfl rfl (by decide +kernel)
set_option maxRecDepth 65536 in
theorem w_c4 : (Jvm.Cond.code ({ cls := "com/example/noteform/noteform/cli/OptionsOfPinLaw", name := "wellFormed", desc := "(Ljava/lang/String;)Z" } : Jvm.MethodName) method_4_code (1 : Nat) (Option.some Jvm.ClassFile.FieldType.boolean)).before args0 about1 = true := code_word (m := ⟨1, 3⟩) (meth := k1m3) (c := k1c3) (by decide +kernel) rfl rfl rfl (by decide +kernel)
set_option maxRecDepth 65536 in
theorem w_c5 : (Jvm.Cond.code ({ cls := "java/lang/String", name := "length", desc := "()I" } : Jvm.MethodName) jdk_42_method_54_code (1 : Nat) (Option.some Jvm.ClassFile.FieldType.int)).before args0 about1 = true := code_word (m := ⟨11, 1⟩) (meth := k11m1) (c := k11c1) (by decide +kernel) rfl rfl rfl (by decide +kernel)
set_option maxRecDepth 65536 in
theorem w_c6 : (Jvm.Cond.code ({ cls := "java/lang/String", name := "coder", desc := "()B" } : Jvm.MethodName) jdk_42_method_152_code (1 : Nat) (Option.some Jvm.ClassFile.FieldType.byte)).before args0 about1 = true := code_word (m := ⟨11, 4⟩) (meth := k11m4) (c := k11c4) (by decide +kernel) rfl rfl rfl (by decide +kernel)
set_option maxRecDepth 65536 in
theorem w_c7 : (Jvm.Cond.code ({ cls := "java/lang/String", name := "charAt", desc := "(I)C" } : Jvm.MethodName) jdk_42_method_56_code (2 : Nat) (Option.some Jvm.ClassFile.FieldType.char)).before args0 about1 = true := code_word (m := ⟨11, 2⟩) (meth := k11m2) (c := k11c2) (by decide +kernel) rfl rfl rfl (by decide +kernel)
set_option maxRecDepth 65536 in
theorem w_c8 : (Jvm.Cond.code ({ cls := "java/lang/String", name := "isLatin1", desc := "()Z" } : Jvm.MethodName) jdk_42_method_154_code (1 : Nat) (Option.some Jvm.ClassFile.FieldType.boolean)).before args0 about1 = true := code_word (m := ⟨11, 5⟩) (meth := k11m5) (c := k11c5) (by decide +kernel) rfl rfl rfl (by decide +kernel)
set_option maxRecDepth 65536 in
theorem w_c9 : (Jvm.Cond.code ({ cls := "java/lang/StringLatin1", name := "charAt", desc := "([BI)C" } : Jvm.MethodName) jdk_43_method_2_code (2 : Nat) (Option.some Jvm.ClassFile.FieldType.char)).before args0 about1 = true := code_word (m := ⟨12, 1⟩) (meth := k12m1) (c := k12c1) (by decide +kernel) rfl rfl rfl (by decide +kernel)
set_option maxRecDepth 65536 in
theorem w_c10 : (Jvm.Cond.code ({ cls := "java/lang/String", name := "checkIndex", desc := "(II)V" } : Jvm.MethodName) jdk_42_method_155_code (2 : Nat) (Option.none : Option Jvm.ClassFile.FieldType)).before args0 about1 = true := code_word (m := ⟨11, 6⟩) (meth := k11m6) (c := k11c6) (by decide +kernel) rfl rfl rfl (by decide +kernel)
set_option maxRecDepth 65536 in
theorem w_c11 : (Jvm.Cond.code ({ cls := "jdk/internal/util/Preconditions", name := "checkIndex", desc := "(IILjava/util/function/BiFunction;)I" } : Jvm.MethodName) jdk_41_method_11_code (3 : Nat) (Option.some Jvm.ClassFile.FieldType.int)).before args0 about1 = true := code_word (m := ⟨13, 1⟩) (meth := k13m1) (c := k13c1) (by decide +kernel) rfl rfl rfl (by decide +kernel)
set_option maxRecDepth 65536 in
theorem w_c12 : (Jvm.Cond.code ({ cls := "com/example/noteform/noteform/cli/OptionsOfPinLaw", name := "lower", desc := "(C)Z" } : Jvm.MethodName) method_3_code (1 : Nat) (Option.some Jvm.ClassFile.FieldType.boolean)).before args0 about1 = true := code_word (m := ⟨1, 2⟩) (meth := k1m2) (c := k1c2) (by decide +kernel) rfl rfl rfl (by decide +kernel)
set_option maxRecDepth 65536 in
theorem w_c13 : (Jvm.Cond.code ({ cls := "java/lang/String", name := "equals", desc := "(Ljava/lang/Object;)Z" } : Jvm.MethodName) jdk_42_method_66_code (3 : Nat) (Option.some Jvm.ClassFile.FieldType.boolean)).before args0 about1 = true := code_word (m := ⟨11, 3⟩) (meth := k11m3) (c := k11c3) (by decide +kernel) rfl rfl rfl (by decide +kernel)
set_option maxRecDepth 65536 in
theorem w_c14 : (Jvm.Cond.code ({ cls := "java/lang/StringLatin1", name := "equals", desc := "([B[B)Z" } : Jvm.MethodName) jdk_43_method_13_code (3 : Nat) (Option.some Jvm.ClassFile.FieldType.boolean)).before args0 about1 = true := code_word (m := ⟨12, 2⟩) (meth := k12m2) (c := k12c2) (by decide +kernel) rfl rfl rfl (by decide +kernel)
def codes1 : List Jvm.Cond := [Jvm.Cond.code x code maxLocals ret, Jvm.Cond.code ({ cls := "com/example/noteform/noteform/cli/OptionsOfPinLaw", name := "pick", desc := "(I)Lcom/example/noteform/noteform/calc/RequestInput;" } : Jvm.MethodName) method_2_code (1 : Nat) (Option.some (Jvm.ClassFile.FieldType.object "com/example/noteform/noteform/calc/RequestInput")), Jvm.Cond.code ({ cls := "com/example/noteform/noteform/cli/Options", name := "of", desc := "(Lcom/example/noteform/noteform/calc/RequestInput;)Ljava/lang/String;" } : Jvm.MethodName) prog_30_method_2_code (1 : Nat) (Option.some (Jvm.ClassFile.FieldType.object "java/lang/String")), Jvm.Cond.code ({ cls := "java/lang/Enum", name := "ordinal", desc := "()I" } : Jvm.MethodName) jdk_37_method_2_code (1 : Nat) (Option.some Jvm.ClassFile.FieldType.int), Jvm.Cond.code ({ cls := "com/example/noteform/noteform/cli/OptionsOfPinLaw", name := "wellFormed", desc := "(Ljava/lang/String;)Z" } : Jvm.MethodName) method_4_code (1 : Nat) (Option.some Jvm.ClassFile.FieldType.boolean), Jvm.Cond.code ({ cls := "java/lang/String", name := "length", desc := "()I" } : Jvm.MethodName) jdk_42_method_54_code (1 : Nat) (Option.some Jvm.ClassFile.FieldType.int), Jvm.Cond.code ({ cls := "java/lang/String", name := "coder", desc := "()B" } : Jvm.MethodName) jdk_42_method_152_code (1 : Nat) (Option.some Jvm.ClassFile.FieldType.byte), Jvm.Cond.code ({ cls := "java/lang/String", name := "charAt", desc := "(I)C" } : Jvm.MethodName) jdk_42_method_56_code (2 : Nat) (Option.some Jvm.ClassFile.FieldType.char), Jvm.Cond.code ({ cls := "java/lang/String", name := "isLatin1", desc := "()Z" } : Jvm.MethodName) jdk_42_method_154_code (1 : Nat) (Option.some Jvm.ClassFile.FieldType.boolean), Jvm.Cond.code ({ cls := "java/lang/StringLatin1", name := "charAt", desc := "([BI)C" } : Jvm.MethodName) jdk_43_method_2_code (2 : Nat) (Option.some Jvm.ClassFile.FieldType.char), Jvm.Cond.code ({ cls := "java/lang/String", name := "checkIndex", desc := "(II)V" } : Jvm.MethodName) jdk_42_method_155_code (2 : Nat) (Option.none : Option Jvm.ClassFile.FieldType), Jvm.Cond.code ({ cls := "jdk/internal/util/Preconditions", name := "checkIndex", desc := "(IILjava/util/function/BiFunction;)I" } : Jvm.MethodName) jdk_41_method_11_code (3 : Nat) (Option.some Jvm.ClassFile.FieldType.int), Jvm.Cond.code ({ cls := "com/example/noteform/noteform/cli/OptionsOfPinLaw", name := "lower", desc := "(C)Z" } : Jvm.MethodName) method_3_code (1 : Nat) (Option.some Jvm.ClassFile.FieldType.boolean), Jvm.Cond.code ({ cls := "java/lang/String", name := "equals", desc := "(Ljava/lang/Object;)Z" } : Jvm.MethodName) jdk_42_method_66_code (3 : Nat) (Option.some Jvm.ClassFile.FieldType.boolean), Jvm.Cond.code ({ cls := "java/lang/StringLatin1", name := "equals", desc := "([B[B)Z" } : Jvm.MethodName) jdk_43_method_13_code (3 : Nat) (Option.some Jvm.ClassFile.FieldType.boolean)]
set_option maxRecDepth 65536 in
theorem codes_eq : words1.filter isCode = codes1 := rfl
theorem w_codes : ∀ c ∈ words1.filter isCode, c.before args0 about1 = true := by
  rw [codes_eq]
  intro c hc
  simp only [codes1, List.mem_cons, List.not_mem_nil, or_false] at hc
  rcases hc with rfl | rfl | rfl | rfl | rfl | rfl | rfl | rfl | rfl | rfl | rfl | rfl | rfl | rfl | rfl
  · exact w_c0
  · exact w_c1
  · exact w_c2
  · exact w_c3
  · exact w_c4
  · exact w_c5
  · exact w_c6
  · exact w_c7
  · exact w_c8
  · exact w_c9
  · exact w_c10
  · exact w_c11
  · exact w_c12
  · exact w_c13
  · exact w_c14
set_option maxRecDepth 65536 in
theorem w_t1 : (words1.take 24).all (fun c => isCode c || c.before args0 about1) = true := by decide +kernel
set_option maxRecDepth 65536 in
theorem w_t2 : ((words1.drop 24).take 24).all (fun c => isCode c || c.before args0 about1) = true := by decide +kernel
set_option maxRecDepth 65536 in
theorem w_t3 : (((words1.drop 24).drop 24).take 24).all (fun c => isCode c || c.before args0 about1) = true := by decide +kernel
set_option maxRecDepth 65536 in
theorem w_t4 : ((((words1.drop 24).drop 24).drop 24).take 24).all (fun c => isCode c || c.before args0 about1) = true := by decide +kernel
set_option maxRecDepth 65536 in
theorem w_t5 : ((((words1.drop 24).drop 24).drop 24).drop 24).all (fun c => isCode c || c.before args0 about1) = true := by decide +kernel
theorem w_tables : (allAtoms (Jvm.Cond.code x code maxLocals ret :: tables_1)).before args0 about1 = true := by
  rw [allAtoms_all]
  show words1.all (fun c => c.before args0 about1) = true
  refine all_split ?_ w_codes
  rw [← List.take_append_drop 24 words1, List.all_append, w_t1, ← List.take_append_drop 24 (words1.drop 24), List.all_append, w_t2, ← List.take_append_drop 24 ((words1.drop 24).drop 24), List.all_append, w_t3, ← List.take_append_drop 24 (((words1.drop 24).drop 24).drop 24), List.all_append, w_t4, w_t5]
  rfl
set_option maxRecDepth 65536 in
theorem w_rest : rest_1_c.before args0 about1 = true := by decide +kernel
set_option maxRecDepth 65536 in
theorem w_case : (Jvm.Cond.and given_1 narrow_1).before args0 about1 = true := by decide +kernel
set_option maxRecDepth 65536 in
theorem w_consts : constsHeld consts_1 about1 := Jvm.Lit.constsHeldB_iff.mp (by decide +kernel)
theorem w_applies : (headSpec (Jvm.Cond.code x code maxLocals ret :: tables_1) room_1).applies x e0.platform about1 = true :=
  (Spec.applies_iff w_frames).mpr ⟨w_running, w_runnable, w_alone, w_named, w_hears, w_ripe, w_room, w_tables⟩
theorem atStart : AtStart classFile x code maxLocals ret World_1 tables_1 room_1 Calls_1 rest_1 Pre_1 launch0 p0 e0 about1 theMethod args0 below0 :=
  ⟨lists_1, trivial, launch0.admits_env _ _ _, launch0.least_env, fairChoices_fair.cas, fairChoices_fair.clock, w_frames, w_args, w_heap, w_applies, ⟨w_consts, trivial⟩, w_rest, w_case⟩
end start1
theorem witness_1 : WitnessClaimed_1 := ⟨start1.p0, start1.e0, start1.about1, start1.theMethod, start1.args0, start1.below0, start1.atStart⟩
end Jvm.Pilot.@@N@@
