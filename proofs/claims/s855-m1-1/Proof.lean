import JvmDerived
import JvmDerived.Pilot.@@N@@Statement
import JvmDerived.Pilot.@@N@@Code
set_option linter.unusedVariables false
set_option linter.unusedSimpArgs false
namespace Jvm.Pilot.@@N@@
set_option maxRecDepth 65536
set_option maxHeartbeats 40000000
open Jvm Jvm.ClassFile Sem Op Lib Jvm.Free Jvm.Stand Jvm.LawKit Jvm.RoadKit Bundle Jvm.Pilot.@@N@@.Jvm.D
/-- from the frame g over the state T the run comes to a return that Q allows, with at most kc new cells and ks new slots -/
def Go (p : Program) (e : Env) (below : List Frame) (s : State) (Q : Option Value → Heap → List Loc → Prop) (kc ks : Nat) (T : State) (g : JFrame) : Prop :=
  ∃ s₂ o, Steps p.tables e below (T.setTop g) s₂ ∧ s₂.status = .running ∧ Ended s₂ below o ∧ ∃ v L, o = .returned v ∧ Q v s₂.heap L ∧ FrameEnd s o s₂ L kc ks
/-- a body's contract in this family: called with these arguments over the heap h0 it returns what Q says -/
def Con (l : Launch) (Z : State) (y : MethodName) (bytes : ByteArray) (maxL : Nat) (ret : Option FieldType) (rm : Room) (ws : List Jvm.Cond) (as' : Array Value) (h0 : Heap) (Q : Option Value → Heap → List Loc → Prop) (kc ks : Nat) : Prop :=
  MetFree l y (head1 (Jvm.Cond.code y bytes maxL ret :: ws) rm) (fun a U => a = as' ∧ Z.Warmed39 U.vm ∧ U.heap = h0) (fun _ _ _ _ _ => True) (fun _ U o U' => ∃ v L, o = .returned v ∧ Q v U'.heap L ∧ FrameEnd U o U' L kc ks)
/-- the same for a body with handlers -/
def ConH (hs : List (Nat × Nat × Nat × Nat)) (l : Launch) (Z : State) (y : MethodName) (bytes : ByteArray) (maxL : Nat) (ret : Option FieldType) (rm : Room) (ws : List Jvm.Cond) (as' : Array Value) (h0 : Heap) (Q : Option Value → Heap → List Loc → Prop) (kc ks : Nat) : Prop :=
  MetFree l y (head1 (Jvm.Cond.codeWith y bytes maxL ret hs :: ws) rm) (fun a U => a = as' ∧ Z.Warmed39 U.vm ∧ U.heap = h0) (fun _ _ _ _ _ => True) (fun _ U o U' => ∃ v L, o = .returned v ∧ Q v U'.heap L ∧ FrameEnd U o U' L kc ks)
/-- it returns r and leaves the heap as it was -/
def Qret (r : Option Value) (h0 : Heap) (n0 : Nat) (v : Option Value) (h : Heap) (L : List Loc) : Prop := v = r ∧ Fr n0 L ∧ h = h0
/-- the law's own end: true; nothing old written -/
def Q0 (n0 : Nat) (v : Option Value) (h : Heap) (L : List Loc) : Prop := v = some (.int 1) ∧ Fr n0 L
theorem own_cI (x : Int32) : (Value.int x).category = 1 := rfl
theorem own_cJ (x : Int64) : (Value.long x).category = 2 := rfl
theorem own_cR (x : Addr) : (Value.ref x).category = 1 := rfl
theorem own_cN : (Value.null).category = 1 := rfl
theorem hwi {Z : State} {a0 : Array Value} (hw : ∀ d ∈ tables_1, d.before a0 Z = true) (i : Nat) {d : Jvm.Cond} (h : tables_1[i]? = some d) : d.before a0 Z = true := hw d (List.mem_of_getElem? h)
abbrev vR (a : Addr) : Slot := .val (.ref a)
abbrev vI (a : Int32) : Slot := .val (.int a)
abbrev vJ (a : Int64) : Slot := .val (.long a)
abbrev sU : Slot := .unset
abbrev sS : Slot := .second
section Own
variable {p : Program} {l : Launch} {e : Env} {R : Room} {s Z : State} {m : MethodId} {args : Array Value} {below : List Frame} {meth : Method} {c : Code} {T T' : State} {locs : List Loc} {cells slots kc ks : Nat} {Q : Option Value → Heap → List Loc → Prop} {g g' : JFrame} {h h' : Heap} {a : Addr} {C n d : String} {v : Value} {ws : List Addr}
theorem Con.of {y : MethodName} {bytes : ByteArray} {maxL : Nat} {ret : Option FieldType} {rm : Room} {cs : List Jvm.Cond} {as' : Array Value} {h0 : Heap} (hp : plainFor y = true)
    (body : ∀ p e s m below meth c s₁, Stand p l e rm s m as' below meth c s₁ [] 0 0 → p.tables.exec = Jvm.exec → Z.Warmed39 s.vm → c.code = bytes → c.maxLocals = maxL → s.vm.findClass y.cls = some m.cls → meth.name = y.name → meth.sig.returnType = ret → meth.locks = false → s₁.heap = h0 → s.heap = h0 → Go p e below s Q kc ks s₁ (entryFrame m as' maxL)) :
    Con l Z y bytes maxL ret rm cs as' h0 Q kc ks := by
  refine MetFree.of_bodySF hp hisR ?_
  intro p e s m args below meth c s₁ Bd hml0 hP hK
  obtain ⟨rfl, hZ, hh⟩ := hP
  exact body p e s m below meth c s₁ (Stand.of_body Bd) Bd.exec hZ Bd.bytes hml0 (findClass_of_methodNamed Bd.named) (name_of_methodNamed Bd.named Bd.method).1 Bd.returns Bd.notSynchronized (by rw [← hh, Bd.state]; rfl) hh
theorem ConH.of {hs : List (Nat × Nat × Nat × Nat)} {y : MethodName} {bytes : ByteArray} {maxL : Nat} {ret : Option FieldType} {rm : Room} {cs : List Jvm.Cond} {as' : Array Value} {h0 : Heap} (hp : plainFor y = true)
    (body : ∀ p e s m below meth c s₁, Stand p l e rm s m as' below meth c s₁ [] 0 0 → p.tables.exec = Jvm.exec → Z.Warmed39 s.vm → c.code = bytes → c.maxLocals = maxL → s.vm.findClass y.cls = some m.cls → meth.name = y.name → meth.sig.returnType = ret → meth.locks = false → s₁.heap = h0 → s.heap = h0 → Go p e below s Q kc ks s₁ (entryFrame m as' maxL)) :
    ConH hs l Z y bytes maxL ret rm cs as' h0 Q kc ks := by
  refine MetFree.of_bodySF hp hisWith ?_
  intro p e s m args below meth c s₁ Bd hml0 hP hK
  obtain ⟨rfl, hZ, hh⟩ := hP
  exact body p e s m below meth c s₁ (Stand.of_body Bd) Bd.exec hZ Bd.bytes hml0 (findClass_of_methodNamed Bd.named) (name_of_methodNamed Bd.named Bd.method).1 Bd.returns Bd.notSynchronized (by rw [← hh, Bd.state]; rfl) hh
theorem Go.step (st : ∀ target, Steps p.tables e below (T'.setTop g') target → Steps p.tables e below (T.setTop g) target) (k : Go p e below s Q kc ks T' g') : Go p e below s Q kc ks T g := by
  obtain ⟨s₂, o, h1, h2⟩ := k
  exact ⟨s₂, o, st _ h1, h2⟩
theorem Go.cast (q : g = g') (k : Go p e below s Q kc ks T g') : Go p e below s Q kc ks T g := q ▸ k
theorem Go.ret (X : Stand p l e R s m args below meth c T locs cells slots) {v : Option Value} (hv : meth.sig.returnType = none → v = none) (hlk : meth.locks = false) (hq : Q v T.heap locs) (hc : cells ≤ kc) (hs : slots ≤ ks)
    (st : ∀ fs, (∀ (f : JFrame) (acts : List Action), f.method = m → f.locked = none → f.entered = [] → (doReturn e (T.setTop f) acts v).1 = T.setFrames fs) → Steps p.tables e below (T.setTop g) (T.setFrames fs)) : Go p e below s Q kc ks T g := by
  obtain ⟨fs, hr, hrun, hended, hW, hsame⟩ := X.leave (v := v) hv hlk
  exact ⟨_, _, st fs hr, hrun, hended, v, locs, rfl, hq, ⟨_, rfl⟩, hW, hsame.mono hc hs⟩
theorem Go.retN (X : Stand p l e R s m args below meth c T locs cells slots) (hx : p.tables.exec = Jvm.exec) {pc : Nat} {Ls : Array Slot} {z : Int32} {t : FieldType} {rest : List Value} (hret : meth.sig.returnType = some t) (hlk : meth.locks = false) (ht : t = .boolean ∨ t = .byte ∨ t = .char ∨ t = .short)
    (hd : decode c.code pc = .ok (.ireturn, 1)) (hq : Q (some (.int (nar t z))) T.heap locs) (hc : cells ≤ kc) (hs : slots ≤ ks) : Go p e below s Q kc ks T (mkF m pc Ls (.int z :: rest)) :=
  Go.ret X (fun q => by rw [hret] at q; cases q) hlk hq hc hs fun fs hr => Jvm.RoadKit.retN X hx hret ht hd hr
theorem Go.retI (X : Stand p l e R s m args below meth c T locs cells slots) (hx : p.tables.exec = Jvm.exec) {pc : Nat} {Ls : Array Slot} {z : Int32} {rest : List Value} (hret : meth.sig.returnType = some .int) (hlk : meth.locks = false)
    (hd : decode c.code pc = .ok (.ireturn, 1)) (hq : Q (some (.int z)) T.heap locs) (hc : cells ≤ kc) (hs : slots ≤ ks) : Go p e below s Q kc ks T (mkF m pc Ls (.int z :: rest)) :=
  Go.ret X (fun q => by rw [hret] at q; cases q) hlk hq hc hs fun fs hr => retOut X hx hret rfl (Or.inl ⟨rfl, Or.inl rfl, z, rfl⟩) hd hr
theorem Go.retJ (X : Stand p l e R s m args below meth c T locs cells slots) (hx : p.tables.exec = Jvm.exec) {pc : Nat} {Ls : Array Slot} {z : Int64} {rest : List Value} (hret : meth.sig.returnType = some .long) (hlk : meth.locks = false)
    (hd : decode c.code pc = .ok (.lreturn, 1)) (hq : Q (some (.long z)) T.heap locs) (hc : cells ≤ kc) (hs : slots ≤ ks) : Go p e below s Q kc ks T (mkF m pc Ls (.long z :: rest)) :=
  Go.ret X (fun q => by rw [hret] at q; cases q) hlk hq hc hs fun fs hr => retOut X hx hret rfl (Or.inr (Or.inl ⟨rfl, rfl, z, rfl⟩)) hd hr
theorem Go.retA (X : Stand p l e R s m args below meth c T locs cells slots) (hx : p.tables.exec = Jvm.exec) {pc : Nat} {Ls : Array Slot} {w : Value} {t : FieldType} {rest : List Value} (hret : meth.sig.returnType = some t) (ht : t.isReference = true) (hlk : meth.locks = false) (hw : w.isRef = true)
    (hd : decode c.code pc = .ok (.areturn, 1)) (hq : Q (some w) T.heap locs) (hc : cells ≤ kc) (hs : slots ≤ ks) : Go p e below s Q kc ks T (mkF m pc Ls (w :: rest)) :=
  Go.ret X (fun q => by rw [hret] at q; cases q) hlk hq hc hs fun fs hr => retOut X hx hret (by cases t <;> first | (cases ht; done) | (cases w <;> first | rfl | (cases hw; done))) (Or.inr (Or.inr (Or.inr (Or.inr ⟨rfl, ht, hw⟩)))) hd hr
theorem Go.retV (X : Stand p l e R s m args below meth c T locs cells slots) (hx : p.tables.exec = Jvm.exec) {pc : Nat} {Ls : Array Slot} (hret : meth.sig.returnType = none) (hlk : meth.locks = false)
    (hd : decode c.code pc = .ok (.return_, 1)) (hq : Q none T.heap locs) (hc : cells ≤ kc) (hs : slots ≤ ks) : Go p e below s Q kc ks T (mkF m pc Ls []) :=
  Go.ret X (fun _ => rfl) hlk hq hc hs fun fs hr => X.returnOut hx hret hd hr
theorem own_sta_keep (F : Sta Z h C n d v) (K : Keep h h' ws) (q : ∀ x ∈ ws, ∀ c : Cell, h[x]? = some c → c.vm.isStatics = false) : Sta Z h' C n d v := by
  obtain ⟨cf, i, k, f, st, cell, h1, h2, h3, h4, h5, h6, h7⟩ := F
  refine ⟨cf, i, k, f, st, cell, h1, h2, h3, h4, K.2.1 _ _ h5 (fun hm => ?_), h6, h7⟩
  have := q _ hm _ h5
  rw [h6] at this; cases this
theorem own_plain (E : Exa Z h a C) : ∀ c : Cell, h[a]? = some c → c.vm.isStatics = false := fun c hc => by
  obtain ⟨cell, k, h1, -, -, h4, -⟩ := E
  cases h1.symm.trans hc; exact h4
theorem own_eqI {args : Array Value} {s : State} {t : Term} {k : Int32} (q : (Jvm.Cond.eq t (Jvm.Term.int k)).value args s none s [] = some true) : t.eval args s none [] s = some (.int k) := by
  obtain ⟨x, y, hx, hy, kin, kin'⟩ := cmp_v (Or.inl q)
  have hy' : y = .int k := (Option.some.inj hy).symm
  subst hy'
  obtain ⟨z, rfl⟩ := kin'
  have e : (Jvm.Cond.eq t (Jvm.Term.int k)).value args s none s [] = some (decide (z = k)) := by simp [Cond.value, hx, hy]
  rw [hx, gotT e q]
theorem Con.ret {y : MethodName} {bytes : ByteArray} {maxL n0 : Nat} {ret : Option FieldType} {rm : Room} {cs : List Jvm.Cond} {as' : Array Value} {h0 h1 : Heap} {r r' : Int32} (q : r = r') (k : Con l Z y bytes maxL ret rm cs as' h0 (Qret (some (.int r)) h1 n0) kc ks) : Con l Z y bytes maxL ret rm cs as' h0 (Qret (some (.int r')) h1 n0) kc ks := q ▸ k
theorem own_arr_keep {cl : Cell} {ty : FieldType} (F : Arr Z h a cl ty) (K : Keep h h' ws) (q : a ∉ ws) : Arr Z h' a cl ty := ⟨K.2.1 a cl F.1 q, F.2⟩
/-- an object whose chain of classes lacks the class K is no K -/
theorem own_noins {a0 : Array Value} {K : String} {t : List String} {k : Nat} (E : Exa Z h a C) (hw : ∀ w ∈ Cond.chainWords (C :: t), w.before a0 Z = true) (wi : (Jvm.Cond.instantiable K k).before a0 Z = true) (hn : K ∉ C :: t) : Ins Z h a K false := by
  obtain ⟨cell, kc, h1, h2, -, h4, -⟩ := E
  obtain ⟨cy, ky, y1, y2, y3, y4, -⟩ := Cond.instantiable_spec wi
  have y5 : ky.isInterface = false := by simp only [Bool.or_eq_false_iff] at y4; exact y4.1
  exact ⟨cell, cy, h1, y1, by rw [Vm.notAssignable_of_chain h2 y1 y2 y3 y5 hw hn]; simp⟩
theorem own_len {args : Array Value} {t : Term} {cl : Cell} {ty : FieldType} {z : Int32} (ev : t.eval args Z none [] Z = some (.ref a)) (A : Arr Z Z.heap a cl ty) (el : (Jvm.Term.length t).eval args Z none [] Z = some (.int z)) : cl.slots.size < 2 ^ 31 ∧ cl.slots.size.toInt32 = z := by
  have ha := A.fin (Vm.Alike.refl _)
  by_cases q : cl.slots.size < 2 ^ 31
  · rw [len_f ev ha q] at el
    exact ⟨q, Value.int.inj (Option.some.inj el)⟩
  · simp [Term.eval, ev, ha, q] at el
theorem own_sub_at {args : Array Value} {t : Term} {idx : List Nat} {y k : Int32} (q : t.eval args Z none idx Z = some (.int y)) : (Jvm.Term.sub t (Jvm.Term.int k)).eval args Z none idx Z = some (.int (y - k)) := by simp [Term.eval, q]
theorem own_ifc {P P' : Prop} [Decidable P] [Decidable P'] (q : P ↔ P') : (if P then (1 : Int32) else 0) = if P' then 1 else 0 := by
  by_cases r : P
  · rw [if_pos r, if_pos (q.mp r)]
  · rw [if_neg r, if_neg (fun t => r (q.mpr t))]
theorem own_nf {a0 : Array Value} {y y' : MethodName} (w : (Cond.selects C y' y').before a0 Z = true) (q : y'.cls = y.cls) (hi : (Cond.instanceMethod y').before a0 Z = true) : NotFace Z y := fun r0 h0 => by
  obtain ⟨mk, meth', hn, -⟩ := Cond.instanceMethod_spec hi
  obtain ⟨k, hk, hki⟩ := notFace_of_selects w mk hn
  have t : mk.cls = r0.cls := Option.some.inj ((findClass_of_methodNamed hn).symm.trans (q ▸ findClass_of_methodNamed h0))
  rw [t] at hk; exact ⟨k, hk, hki⟩
theorem own_samem {a0 : Array Value} {y : MethodName} (d : (Cond.declares y).before a0 Z = true) (nf : NotFace Z y) (hy : y.cls ≠ "java/lang/invoke/MethodHandle" ∧ y.cls ≠ "java/lang/invoke/VarHandle") : (Cond.sameMethod y.cls y.cls y.name y.desc).before a0 Z = true := by
  obtain ⟨mm, meth', hn, -⟩ := Cond.declares_spec d
  obtain ⟨k, hk, hki⟩ := nf mm hn
  have hf := State.methodFound?_of_named hn hy
  have hc := findClass_of_methodNamed hn
  have hn' : Z.methodNamed? ⟨y.cls, y.name, y.desc⟩ = some mm := hn
  simp [Cond.before, Cond.holds, Cond.value, hc, hf, hn', hk, hki]
theorem own_selP {a0 : Array Value} {y : MethodName} (w : (Cond.selects C y y).before a0 Z = true) (hp : (Cond.privateMethod y).before a0 Z = true) (hi : (Cond.instanceMethod y).before a0 Z = true) (hy : y.cls ≠ "java/lang/invoke/MethodHandle" ∧ y.cls ≠ "java/lang/invoke/VarHandle") : (Cond.selects y.cls y y).before a0 Z = true := by
  obtain ⟨mk, meth', hn, -⟩ := Cond.instanceMethod_spec hi
  obtain ⟨k, hk, hki⟩ := notFace_of_selects w mk hn
  exact selects_self_of_private (findClass_of_methodNamed hn) hk hki (Cond.privateMethod_at hp) hi hy
theorem own_nfs {y : MethodName} (hZ : Z.Warmed39 s.vm) (nf : NotFace Z y) : NotFace s y := NotFace.move hZ.alike nf
theorem own_padr (n : Nat) {d : Value} : ∀ i, (List.replicate n d).getD i d = ([] : List Value).getD i d := fun i => by
  simp only [List.getD_eq_getElem?_getD, List.getElem?_replicate]
  split <;> rfl
theorem own_noas {a0 : Array Value} {K : String} {t : List String} {k : Nat} (E : Exa Z h a C) (hw : ∀ w ∈ Cond.chainWords (C :: t), w.before a0 Z = true) (wi : (Jvm.Cond.instantiable K k).before a0 Z = true) (hn : K ∉ C :: t) : ∃ c t, Z.vm.findClass C = some c ∧ Z.vm.findClass K = some t ∧ Z.vm.assignable c t = false := by
  obtain ⟨cell, kc, h1, h2, -, h4, -⟩ := E
  obtain ⟨cy, ky, y1, y2, y3, y4, -⟩ := Cond.instantiable_spec wi
  have y5 : ky.isInterface = false := by simp only [Bool.or_eq_false_iff] at y4; exact y4.1
  exact ⟨_, cy, h2, y1, Vm.notAssignable_of_chain h2 y1 y2 y3 y5 hw hn⟩
theorem own_mvN {a0 args : Array Value} {own host : String} {index : Nat} {y : MethodName} (hZ : Z.Warmed39 s.vm) (w : (Cond.methodLinkNest own index y host).before a0 Z = true) : (Cond.methodLinkNest own index y host).before args s = true := (Cond.methodLinkNest_wide hZ w :)
theorem gs (m : MethodId) (T' : State) (pc : Nat) (Ls : Array Slot) (S : List Value) (st : ∀ target, Steps p.tables e below (T'.setTop (mkF m pc Ls S)) target → Steps p.tables e below (T.setTop g) target) (k : Go p e below s Q kc ks T' (mkF m pc Ls S)) : Go p e below s Q kc ks T g := Go.step st k
end Own
/-- Arrays.copyOf(Object[], int), by the library's own law of the same body: a fresh Object[] of the first n places -/
def Qcp (Z : State) (n : Nat) (vs : List Value) (h0 : Heap) (n0 : Nat) (v : Option Value) (h : Heap) (L : List Loc) : Prop := ∃ k : ClassId, v = some (.ref h0.size) ∧ Fr n0 L ∧ Ext h0 h ∧ Exa Z h h0.size "[Ljava/lang/Object;" ∧ Arv Z h h0.size k (.object "java/lang/Object") (Int32.ofNat n) (vs.take n) .null
section Cp
open Jvm.Free.CopyOfC Jvm.Free.SB Jvm.Free.SBG
theorem own_clampN {k : Nat} (h : k < 2147483648) : (Int32.ofNat k).toNatClampNeg = k := by rw [Int32.toNatClampNeg, Int32.toInt_ofNat_of_lt (by omega)]; rfl
theorem own_toIntN {k : Nat} (h : k < 2147483648) : (Int32.ofNat k).toInt = k := Int32.toInt_ofNat_of_lt (by omega)
theorem own_cp2 {p : Program} {l : Launch} {e : Env} {R : Room} {s Z : State} {args a0 : Array Value} {below : List Frame} {h : Heap} {a : Addr} {k : ClassId} {vs : List Value} {z : Int32} {n n0 W : Nat} (hZ : Z.Warmed39 s.vm) (htab : Copy2.tab.before a0 Z = true) (hts : Copy2.tab.before args s = true)
    (MM : MirrorMade Z "[Ljava/lang/Object;") (Vv : Arv Z h a k (.object "java/lang/Object") z vs .null) (E : Exa Z h a "[Ljava/lang/Object;") (OV : Ovr Z k "java/lang/Object") (hel : ∀ i, vs.getD i .null = .null ∨ ∃ y, vs.getD i .null = .ref y ∧ Ins Z h y "java/lang/Object" true)
    (hn : n ≤ z.toNatClampNeg) (hn2 : n ≤ 1000) (hz : z.toNatClampNeg ≤ 1000) (hvl : vs.length = z.toNatClampNeg) (hfr : 4 ≤ R.frames) (hlo : W + 77 ≤ R.locals) :
    Back l R p e below s args copy2N 3 W (fun A a' => a' = #[.ref a, .int (Int32.ofNat n)] ∧ A.U.heap = h ∧ A.cells + 1 ≤ R.cells ∧ A.slots + n ≤ R.slots)
      (fun A _ v B => ∃ L, Qcp Z n vs h n0 v B.U.heap L ∧ B.locs = A.locs ++ L ∧ B.cells = A.cells + 1 ∧ B.slots = A.slots + n) := by
  intro m meth c A g ig mk a' X hg hsz hd hWW hnm hpre
  obtain ⟨rfl, hh, hc, hs⟩ := hpre
  obtain ⟨cs, Ar, qk, Ssz, Mz, H, G⟩ := id Vv
  obtain ⟨cOA, kOA, mir, f1, f2, f3, -⟩ := MM
  have hW39 : Z.Warmed39 A.U.vm := wtrans hZ X.warmed
  have hal : Z.vm.Alike A.U.vm := hW39.alike
  obtain ⟨cellE, kE, e1, e2, e3, e4, -⟩ := id E
  cases Ar.1.symm.trans e1
  have eO : cs.cls = cOA := Option.some.inj (e2.symm.trans f1)
  obtain ⟨kV, comp, o1, o2, o3⟩ := OV
  have o1' : Z.vm.classes[cOA]? = some kV := by rw [← eO, qk]; exact o1
  cases f2.symm.trans o1'
  obtain ⟨kO', hkO', heq⟩ := hal.2.2 _ _ f2
  obtain ⟨kObj, hkObj, -⟩ := Vm.findClass_spec o3
  obtain ⟨kObj', hkObj', -⟩ := hal.2.2 _ _ hkObj
  obtain ⟨-, k0, k1, comp0, k2⟩ := State.isArrayOf_alike hal Ar.2.1
  have hP : Copy2.P n ⟨a, cs, Int32.ofNat n, mir, cOA, comp, mk.cls⟩ #[.ref a, .int (Int32.ofNat n)] A.U := by
    refine ⟨rfl, ⟨rfl, by show A.U.heap[a]? = some cs; rw [hh]; exact Ar.1, Ar.2.2, Ar.2.1.1, ⟨k0, comp0, _, k1, k2, rfl⟩, by show A.U.vm.findClass _ = _; rw [hal.findClass]; exact f1, ⟨kO', hkO', by rw [heq]; exact o2, by rw [heq]; exact f3⟩, by show A.U.vm.findClass _ = _; rw [hal.findClass]; exact o3, ⟨kObj', hkObj'⟩, findClass_of_methodNamed hnm, ?_, ?_, ?_, ?_, fun i hi => ?_⟩, ?_, eO⟩
    · show 0 ≤ (Int32.ofNat n).toInt
      rw [own_toIntN (by omega)]; exact Int.natCast_nonneg _
    · show (Int32.ofNat n).toNatClampNeg ≤ n
      rw [own_clampN (by omega)]; exact Nat.le_refl _
    · show (Int32.ofNat n).toNatClampNeg * 4 ≤ _
      rw [own_clampN (by omega)]; omega
    · show cs.slots.size < 2 ^ 31
      rw [Ssz]; omega
    · refine ⟨_, H i hi, ?_⟩
      rcases hel i with q | ⟨y, q, cv, cT, i1, i2, i3⟩
      · exact Or.inl q
      · cases o3.symm.trans i2
        simp only [Bool.and_eq_true, Bool.not_eq_true'] at i3
        obtain ⟨kk, hkk⟩ := Vm.classAt_of_assignable i3.2 (Vm.classAt_of_findClass o3)
        obtain ⟨kk', hkk', -⟩ := hal.2.2 _ _ hkk
        exact Or.inr ⟨y, cv, q, by rw [hh]; exact i1, (fun r hr => by rw [hr] at i3; cases i3.1), ⟨kk', hkk'⟩, by show A.U.vm.assignable _ _ = _; rw [hal.assignable]; exact i3.2⟩
    · exact Copy2.notFace_at (a := args) (Copy2.tab_warm X.warmed hts)
  obtain ⟨v, B, X', ⟨hv, hcell, hL, hcc, hss, hold⟩, st⟩ := Copy2.pays (l := l) (R := R) (p := p) (e := e) (below := below) (s := s) (sargs := args) (len := 3) (W := W) n ⟨a, cs, Int32.ofNat n, mir, cOA, comp, mk.cls⟩ hts hfr hlo m meth c A g ig mk _ X hg hsz hd hWW hnm ⟨hc, hs, hP⟩
  rw [hh] at hv hcell
  have hold' : ∀ (x : Addr) (c : Cell), h[x]? = some c → B.U.heap[x]? = some c := fun x c q => hold x c (by rw [hh]; exact q)
  have hsz' : h.size < B.U.heap.size := (Array.getElem?_eq_some_iff.mp hcell).1
  have hcl : (Int32.ofNat n).toNatClampNeg = n := own_clampN (by omega)
  have hmn : Copy3.mn ⟨a, cs, Int32.ofNat n, mir, cOA, comp, mk.cls⟩ = Int32.ofNat n := by
    show (if Int32.ofNat n < cs.slots.size.toInt32 then Int32.ofNat n else cs.slots.size.toInt32) = _
    split
    · rfl
    · rename_i hlt
      have e5 : cs.slots.size = n := by
        have q : ¬ (Int32.ofNat n).toInt < (Int32.ofNat cs.slots.size).toInt := fun r => hlt (Int32.lt_iff_toInt_lt.mpr r)
        rw [own_toIntN (by omega), own_toIntN (by omega)] at q
        omega
      show Int32.ofNat cs.slots.size = _
      rw [e5]
  have hfr' : Copy3.fresh ⟨a, cs, Int32.ofNat n, mir, cOA, comp, mk.cls⟩ = { cls := cOA, slots := Array.replicate n .null, vm := .none } := by
    show ({ cls := cOA, slots := Array.replicate (Int32.ofNat n).toNatClampNeg .null, vm := .none } : Cell) = _
    rw [hcl]
  have hcell' : B.U.heap[h.size]? = some (copied cs ({ cls := cOA, slots := Array.replicate n .null, vm := .none } : Cell) 0 0 (Int32.ofNat n)) := by
    have q := hcell
    rw [hmn, hfr'] at q
    exact q
  obtain ⟨g1, g2, g3⟩ := copied_facts cs ({ cls := cOA, slots := Array.replicate n .null, vm := .none } : Cell) 0 0 (Int32.ofNat n)
  have g3' : (copied cs ({ cls := cOA, slots := Array.replicate n .null, vm := .none } : Cell) 0 0 (Int32.ofNat n)).slots.size = n := by rw [g3]; simp
  have gat : ∀ i, i < n → (copied cs ({ cls := cOA, slots := Array.replicate n .null, vm := .none } : Cell) 0 0 (Int32.ofNat n)).slots[i]? = some (vs.getD i .null) := fun i hi => by
    have q := copied_at (cs := cs) (cd := ({ cls := cOA, slots := Array.replicate n .null, vm := .none } : Cell)) (p := 0) (n := n) (by decide) (by omega) (by simp) i
    rw [show (Int32.ofNat 0 : Int32) = 0 from rfl] at q
    rw [q, if_pos ⟨Nat.zero_le _, by omega⟩]
    have hiE : i < cs.slots.size := by omega
    have r := H i hiE
    rw [Array.getElem?_eq_getElem hiE] at r
    simp [Array.getD, hiE, Option.some.inj r]
  refine ⟨v, B, X', ⟨[], ⟨cOA, hv, Fr.nil _, ⟨Nat.le_of_lt hsz', hold'⟩, ?_, ?_⟩, by rw [hL, List.append_nil], hcc, by rw [hss]; show A.slots + (Int32.ofNat n).toNatClampNeg = _; rw [hcl]⟩, st⟩
  · exact ⟨_, kOA, hcell', by rw [g1]; exact f1, by rw [g1]; exact f2, by rw [g2]; rfl, fun q => by rw [o2] at q; cases q⟩
  · refine ⟨_, ⟨hcell', ⟨(fun q r => by rw [g2] at r; cases r), kOA, by rw [g1]; exact f2, comp, o2⟩, (by rw [g2]; intro r; cases r)⟩, g1, by rw [g3', hcl], ?_, fun i hi => ?_, fun i hi => ?_⟩
    · rw [Int32.lt_iff_toInt_lt, own_toIntN (by omega)]; show ¬ ((n : Int) < 0); omega
    · rw [g3'] at hi
      rw [gat i hi]
      simp only [List.getD_eq_getElem?_getD, List.getElem?_take_of_lt hi]
    · rw [g3'] at hi
      have r : (vs.take n).getD i .null = vs.getD i .null := by simp only [List.getD_eq_getElem?_getD, List.getElem?_take_of_lt hi]
      rw [r]; exact G i (by omega)
end Cp

open Jvm.Free.CopyOfC in
theorem own_tabS {s Z : State} {a0 args : Array Value} (hZ : Z.Warmed39 s.vm) (hw : ∀ d ∈ tables_1, d.before a0 Z = true) : Copy2.tab.before args s = true := by
  unfold Copy2.tab
  refine (conj_holds (args := args) (first := s) (o := none) (s := s) (idx := []) _ _).mpr ⟨(mvT hZ (hwi hw 186 rfl) : (Jvm.Cond.code _ _ _ _).before args s = true), fun d hd => ?_⟩
  simp only [Copy2.siteAtoms, List.mem_append, List.mem_cons, List.not_mem_nil, or_false] at hd
  rcases hd with (rfl | rfl | rfl | rfl | rfl | rfl | rfl | rfl) | rfl
  · exact mvT hZ (hwi hw 187 rfl)
  · exact mvT hZ (hwi hw 188 rfl)
  · exact mvT hZ (hwi hw 190 rfl)
  · exact mvT hZ (hwi hw 189 rfl)
  · exact mvT hZ (hwi hw 191 rfl)
  · exact mvT hZ (hwi hw 193 rfl)
  · exact mvT hZ (hwi hw 194 rfl)
  · exact mvT hZ (hwi hw 185 rfl)
  · unfold Copy3.tab
    refine (conj_holds (args := args) (first := s) (o := none) (s := s) (idx := []) _ _).mpr ⟨(mvT hZ (hwi hw 195 rfl) : (Jvm.Cond.code _ _ _ _).before args s = true), fun d hd => ?_⟩
    simp only [List.mem_cons, List.not_mem_nil, or_false] at hd
    rcases hd with rfl | rfl | rfl | rfl | rfl | rfl | rfl | rfl | rfl | rfl | rfl
    · exact mvT hZ (hwi hw 197 rfl)
    · exact Cond.arrayOver_alike hZ.alike (hwi hw 162 rfl)
    · exact mvT hZ (hwi hw 198 rfl)
    · exact mvT hZ (hwi hw 199 rfl)
    · exact mvT hZ (hwi hw 159 rfl)
    · exact mvT hZ (hwi hw 200 rfl)
    · exact mvT hZ (hwi hw 201 rfl)
    · exact mvT hZ (hwi hw 204 rfl)
    · exact mvT hZ (hwi hw 202 rfl)
    · exact mvT hZ (hwi hw 203 rfl)
    · exact mvT hZ (hwi hw 196 rfl)
theorem own_ef_jdk_22_method_1_code_R (m : MethodId) (x0 : Addr) : entryFrame m #[(.ref x0)] 1 = mkF m 0 #[vR (x0)] [] := by first | (simp [entryFrame, mkF, argsToLocals, Value.category]; done) | rfl | (simp [entryFrame, mkF, argsToLocals, own_cI, own_cJ, own_cR, own_cN]; done)
theorem own_pn_AbstractCollection : plainName "java/util/AbstractCollection" = true := by first | (simp [plainName, overriddenIn]; done) | decide +kernel
theorem q0 : decode jdk_22_method_1_code 0 = .ok (.aload_n 0, 1) := by decide +kernel
theorem q1 : decode jdk_22_method_1_code 1 = .ok (.invokespecial 1, 3) := by decide +kernel
theorem q2 : decode jdk_22_method_1_code 4 = .ok (.return_, 1) := by decide +kernel
theorem own_aco (l : Launch) (Z : State) (a0 : Array Value) (hw : ∀ d ∈ tables_1, d.before a0 Z = true) (ws : List Jvm.Cond) (a1 : Addr) (h0 : Heap) (n0 : Nat) (Z0 : n0 ≤ h0.size)   :
    Con l Z (⟨"java/util/AbstractCollection", "<init>", "()V"⟩ : MethodName) jdk_22_method_1_code 1 none ({ frames := 1, cells := 0, slots := 0, locals := 12 } : Room) ws #[(.ref a1)] h0 (Qret (none) h0 n0) 0 0 := by
  refine Con.of (plainFor_of_name own_pn_AbstractCollection) ?_
  intro pgm e s m below meth c s₁ X0 hx hZ hby hml hown hnm hret hlk e0 hs0
  have N0 := Fr.nil n0
  have hown : s.vm.findClass "java/util/AbstractCollection" = some m.cls := hown
  have hnm : meth.name = "<init>" := hnm
  refine Go.cast (own_ef_jdk_22_method_1_code_R m a1) ?_
  refine gs m s₁ 1 #[vR (a1)] [(.ref a1)] (fun _ k => XS.aloadN X0.here hx rfl (hb hby q0) rfl rfl k) ?_
  obtain ⟨T101, X101, e101, st101⟩ := initO X0 hx hZ hown (hwi hw 28 rfl) (hwi hw 29 rfl) (hwi hw 30 rfl) e0 (g := (mkF m 1 #[vR (a1)] [(.ref a1)])) rfl (by rw [hml]; rfl) rfl (hb hby q1) (by decide) (W := 0) (by show 2 * 0 + _ ≤ _; exact Nat.le_of_eq rfl) (by decide)
  refine gs m T101 4 #[vR (a1)] [] st101 ?_
  exact Go.retV X101 hx hret hlk (hb hby q2) (⟨rfl, N0, e101⟩) (by decide) (by decide)
theorem own_ef_jdk_30_method_1_code_R (m : MethodId) (x0 : Addr) : entryFrame m #[(.ref x0)] 1 = mkF m 0 #[vR (x0)] [] := by first | (simp [entryFrame, mkF, argsToLocals, Value.category]; done) | rfl | (simp [entryFrame, mkF, argsToLocals, own_cI, own_cJ, own_cR, own_cN]; done)
theorem own_pn_Record : plainName "java/lang/Record" = true := by first | (simp [plainName, overriddenIn]; done) | decide +kernel
theorem q3 : decode jdk_30_method_1_code 0 = .ok (.aload_n 0, 1) := by decide +kernel
theorem q4 : decode jdk_30_method_1_code 1 = .ok (.invokespecial 1, 3) := by decide +kernel
theorem q5 : decode jdk_30_method_1_code 4 = .ok (.return_, 1) := by decide +kernel
theorem own_rec (l : Launch) (Z : State) (a0 : Array Value) (hw : ∀ d ∈ tables_1, d.before a0 Z = true) (ws : List Jvm.Cond) (a1 : Addr) (h0 : Heap) (n0 : Nat) (Z0 : n0 ≤ h0.size)   :
    Con l Z (⟨"java/lang/Record", "<init>", "()V"⟩ : MethodName) jdk_30_method_1_code 1 none ({ frames := 1, cells := 0, slots := 0, locals := 12 } : Room) ws #[(.ref a1)] h0 (Qret (none) h0 n0) 0 0 := by
  refine Con.of (plainFor_of_name own_pn_Record) ?_
  intro pgm e s m below meth c s₁ X0 hx hZ hby hml hown hnm hret hlk e0 hs0
  have N0 := Fr.nil n0
  have hown : s.vm.findClass "java/lang/Record" = some m.cls := hown
  have hnm : meth.name = "<init>" := hnm
  refine Go.cast (own_ef_jdk_30_method_1_code_R m a1) ?_
  refine gs m s₁ 1 #[vR (a1)] [(.ref a1)] (fun _ k => XS.aloadN X0.here hx rfl (hb hby q3) rfl rfl k) ?_
  obtain ⟨T101, X101, e101, st101⟩ := initO X0 hx hZ hown (hwi hw 46 rfl) (hwi hw 29 rfl) (hwi hw 30 rfl) e0 (g := (mkF m 1 #[vR (a1)] [(.ref a1)])) rfl (by rw [hml]; rfl) rfl (hb hby q4) (by decide) (W := 0) (by show 2 * 0 + _ ≤ _; exact Nat.le_of_eq rfl) (by decide)
  refine gs m T101 4 #[vR (a1)] [] st101 ?_
  exact Go.retV X101 hx hret hlk (hb hby q5) (⟨rfl, N0, e101⟩) (by decide) (by decide)
theorem own_ef_jdk_47_method_1_code_R (m : MethodId) (x0 : Addr) : entryFrame m #[(.ref x0)] 1 = mkF m 0 #[vR (x0)] [] := by first | (simp [entryFrame, mkF, argsToLocals, Value.category]; done) | rfl | (simp [entryFrame, mkF, argsToLocals, own_cI, own_cJ, own_cR, own_cN]; done)
theorem own_pn_ImmutableCollections_AbstractImmutableCollection : plainName "java/util/ImmutableCollections$AbstractImmutableCollection" = true := by first | (simp [plainName, overriddenIn]; done) | decide +kernel
theorem q6 : decode jdk_47_method_1_code 0 = .ok (.aload_n 0, 1) := by decide +kernel
theorem q7 : decode jdk_47_method_1_code 1 = .ok (.invokespecial 1, 3) := by decide +kernel
theorem own_pd0 : parseMethodDescriptor "()V" = some ⟨[], none⟩ := by decide +kernel
theorem q8 : decode jdk_47_method_1_code 4 = .ok (.return_, 1) := by decide +kernel
theorem own_aic (l : Launch) (Z : State) (a0 : Array Value) (hw : ∀ d ∈ tables_1, d.before a0 Z = true) (ws : List Jvm.Cond) (a1 : Addr) (h0 : Heap) (n0 : Nat) (Z0 : n0 ≤ h0.size)   :
    Con l Z (⟨"java/util/ImmutableCollections$AbstractImmutableCollection", "<init>", "()V"⟩ : MethodName) jdk_47_method_1_code 1 none ({ frames := 2, cells := 0, slots := 0, locals := 24 } : Room) ws #[(.ref a1)] h0 (Qret (none) h0 n0) 0 0 := by
  refine Con.of (plainFor_of_name own_pn_ImmutableCollections_AbstractImmutableCollection) ?_
  intro pgm e s m below meth c s₁ X0 hx hZ hby hml hown hnm hret hlk e0 hs0
  have N0 := Fr.nil n0
  have hown : s.vm.findClass "java/util/ImmutableCollections$AbstractImmutableCollection" = some m.cls := hown
  have hnm : meth.name = "<init>" := hnm
  refine Go.cast (own_ef_jdk_47_method_1_code_R m a1) ?_
  refine gs m s₁ 1 #[vR (a1)] [(.ref a1)] (fun _ k => XS.aloadN X0.here hx rfl (hb hby q6) rfl rfl k) ?_
  obtain ⟨_, _, ⟨T101, L101, k101, n101⟩, -, X101, ⟨Lc101, hQ101, l101, y101, z101⟩, st101⟩ := X0.specialBack hx (y := (⟨"java/util/AbstractCollection", "<init>", "()V"⟩ : MethodName)) rfl hown (mvT hZ (hwi hw 232 rfl)) (mvT hZ (hwi hw 23 rfl)) (mvT hZ (hwi hw 27 rfl)) (by decide) (backOf (W := 0) (Q := Qret (none) h0 n0) (own_aco l Z a0 hw [] a1 h0 n0 Z0 ) hZ (hwi hw 27 rfl) (hwi hw 26 rfl) (by decide) (by decide)) (g := (mkF m 1 #[vR (a1)] [(.ref a1)])) rfl (by rw [hml]; rfl) (Steps.refl _) (a := a1) (argsL := []) (rest := []) (lenOf own_pd0 rfl) rfl (by show 2 * 0 + _ ≤ _; exact Nat.le_of_eq rfl) (hb hby q7) (fun _ _ => ⟨rfl, e0, (by decide : 0 + 0 ≤ _), (by decide : 0 + 0 ≤ _)⟩)
  dsimp only [Pt.U, Pt.locs, Pt.cells, Pt.slots] at X101 l101 y101 z101 st101 hQ101
  subst l101 y101 z101
  obtain ⟨rfl, N101q, eh101⟩ := hQ101
  have N101 := Fr.app N0 N101q
  refine gs m T101 4 #[vR (a1)] [] (fun _ k => st101.trans k) ?_
  exact Go.retV X101 hx hret hlk (hb hby q8) (⟨rfl, N101, eh101⟩) (by decide) (by decide)
theorem own_ef_jdk_46_method_1_code_R (m : MethodId) (x0 : Addr) : entryFrame m #[(.ref x0)] 1 = mkF m 0 #[vR (x0)] [] := by first | (simp [entryFrame, mkF, argsToLocals, Value.category]; done) | rfl | (simp [entryFrame, mkF, argsToLocals, own_cI, own_cJ, own_cR, own_cN]; done)
theorem own_pn_ImmutableCollections_AbstractImmutableList : plainName "java/util/ImmutableCollections$AbstractImmutableList" = true := by first | (simp [plainName, overriddenIn]; done) | decide +kernel
theorem q9 : decode jdk_46_method_1_code 0 = .ok (.aload_n 0, 1) := by decide +kernel
theorem qa : decode jdk_46_method_1_code 1 = .ok (.invokespecial 1, 3) := by decide +kernel
theorem qb : decode jdk_46_method_1_code 4 = .ok (.return_, 1) := by decide +kernel
theorem own_ail (l : Launch) (Z : State) (a0 : Array Value) (hw : ∀ d ∈ tables_1, d.before a0 Z = true) (ws : List Jvm.Cond) (a1 : Addr) (h0 : Heap) (n0 : Nat) (Z0 : n0 ≤ h0.size)   :
    Con l Z (⟨"java/util/ImmutableCollections$AbstractImmutableList", "<init>", "()V"⟩ : MethodName) jdk_46_method_1_code 1 none ({ frames := 3, cells := 0, slots := 0, locals := 36 } : Room) ws #[(.ref a1)] h0 (Qret (none) h0 n0) 0 0 := by
  refine Con.of (plainFor_of_name own_pn_ImmutableCollections_AbstractImmutableList) ?_
  intro pgm e s m below meth c s₁ X0 hx hZ hby hml hown hnm hret hlk e0 hs0
  have N0 := Fr.nil n0
  have hown : s.vm.findClass "java/util/ImmutableCollections$AbstractImmutableList" = some m.cls := hown
  have hnm : meth.name = "<init>" := hnm
  refine Go.cast (own_ef_jdk_46_method_1_code_R m a1) ?_
  refine gs m s₁ 1 #[vR (a1)] [(.ref a1)] (fun _ k => XS.aloadN X0.here hx rfl (hb hby q9) rfl rfl k) ?_
  obtain ⟨_, _, ⟨T101, L101, k101, n101⟩, -, X101, ⟨Lc101, hQ101, l101, y101, z101⟩, st101⟩ := X0.specialBack hx (y := (⟨"java/util/ImmutableCollections$AbstractImmutableCollection", "<init>", "()V"⟩ : MethodName)) rfl hown (mvT hZ (hwi hw 226 rfl)) (mvT hZ (hwi hw 227 rfl)) (mvT hZ (hwi hw 231 rfl)) (by decide) (backOf (W := 0) (Q := Qret (none) h0 n0) (own_aic l Z a0 hw [] a1 h0 n0 Z0 ) hZ (hwi hw 231 rfl) (hwi hw 230 rfl) (by decide) (by decide)) (g := (mkF m 1 #[vR (a1)] [(.ref a1)])) rfl (by rw [hml]; rfl) (Steps.refl _) (a := a1) (argsL := []) (rest := []) (lenOf own_pd0 rfl) rfl (by show 2 * 0 + _ ≤ _; exact Nat.le_of_eq rfl) (hb hby qa) (fun _ _ => ⟨rfl, e0, (by decide : 0 + 0 ≤ _), (by decide : 0 + 0 ≤ _)⟩)
  dsimp only [Pt.U, Pt.locs, Pt.cells, Pt.slots] at X101 l101 y101 z101 st101 hQ101
  subst l101 y101 z101
  obtain ⟨rfl, N101q, eh101⟩ := hQ101
  have N101 := Fr.app N0 N101q
  refine gs m T101 4 #[vR (a1)] [] (fun _ k => st101.trans k) ?_
  exact Go.retV X101 hx hret hlk (hb hby qb) (⟨rfl, N101, eh101⟩) (by decide) (by decide)
theorem own_ef_jdk_39_method_1_code_R (m : MethodId) (x0 : Addr) : entryFrame m #[(.ref x0)] 1 = mkF m 0 #[vR (x0)] [] := by first | (simp [entryFrame, mkF, argsToLocals, Value.category]; done) | rfl | (simp [entryFrame, mkF, argsToLocals, own_cI, own_cJ, own_cR, own_cN]; done)
theorem own_pn_AbstractList : plainName "java/util/AbstractList" = true := by first | (simp [plainName, overriddenIn]; done) | decide +kernel
theorem qc : decode jdk_39_method_1_code 0 = .ok (.aload_n 0, 1) := by decide +kernel
theorem qd : decode jdk_39_method_1_code 1 = .ok (.invokespecial 1, 3) := by decide +kernel
theorem qe : decode jdk_39_method_1_code 4 = .ok (.aload_n 0, 1) := by decide +kernel
theorem qf : decode jdk_39_method_1_code 5 = .ok (.iconst 0, 1) := by decide +kernel
theorem qg : decode jdk_39_method_1_code 6 = .ok (.putfield 7, 3) := by decide +kernel
theorem qh : decode jdk_39_method_1_code 9 = .ok (.return_, 1) := by decide +kernel
theorem own_ali (l : Launch) (Z : State) (a0 : Array Value) (hw : ∀ d ∈ tables_1, d.before a0 Z = true) (ws : List Jvm.Cond) (a1 : Addr) (u0 : Value) (u1 : Value) (u2 : Value) (h0 : Heap) (n0 : Nat) (Z0 : n0 ≤ h0.size) (f0 : Exa Z h0 a1 "java/util/ArrayList") (f1 : n0 ≤ a1) (f2 : Fld Z h0 a1 "java/util/AbstractList" "modCount" "I" u0) (f3 : Fld Z h0 a1 "java/util/ArrayList" "elementData" "[Ljava/lang/Object;" u1) (f4 : Fld Z h0 a1 "java/util/ArrayList" "size" "I" u2)  :
    Con l Z (⟨"java/util/AbstractList", "<init>", "()V"⟩ : MethodName) jdk_39_method_1_code 1 none ({ frames := 2, cells := 0, slots := 0, locals := 24 } : Room) ws #[(.ref a1)] h0 (fun v h L => (v = none) ∧ (Fr n0 L) ∧ (Keep h0 h [a1]) ∧ (Exa Z h a1 "java/util/ArrayList") ∧ (Fld Z h a1 "java/util/AbstractList" "modCount" "I" (.int (0 : Int32))) ∧ (Fld Z h a1 "java/util/ArrayList" "elementData" "[Ljava/lang/Object;" u1) ∧ (Fld Z h a1 "java/util/ArrayList" "size" "I" u2)) 0 0 := by
  refine Con.of (plainFor_of_name own_pn_AbstractList) ?_
  intro pgm e s m below meth c s₁ X0 hx hZ hby hml hown hnm hret hlk e0 hs0
  have N0 := Fr.nil n0
  have hown : s.vm.findClass "java/util/AbstractList" = some m.cls := hown
  have hnm : meth.name = "<init>" := hnm
  refine Go.cast (own_ef_jdk_39_method_1_code_R m a1) ?_
  have K0 := Keep.refl h0 [a1]
  refine gs m s₁ 1 #[vR (a1)] [(.ref a1)] (fun _ k => XS.aloadN X0.here hx rfl (hb hby qc) rfl rfl k) ?_
  obtain ⟨_, _, ⟨T101, L101, k101, n101⟩, -, X101, ⟨Lc101, hQ101, l101, y101, z101⟩, st101⟩ := X0.specialBack hx (y := (⟨"java/util/AbstractCollection", "<init>", "()V"⟩ : MethodName)) rfl hown (mvT hZ (hwi hw 22 rfl)) (mvT hZ (hwi hw 23 rfl)) (mvT hZ (hwi hw 27 rfl)) (by decide) (backOf (W := 0) (Q := Qret (none) h0 n0) (own_aco l Z a0 hw [] a1 h0 n0 Z0 ) hZ (hwi hw 27 rfl) (hwi hw 26 rfl) (by decide) (by decide)) (g := (mkF m 1 #[vR (a1)] [(.ref a1)])) rfl (by rw [hml]; rfl) (Steps.refl _) (a := a1) (argsL := []) (rest := []) (lenOf own_pd0 rfl) rfl (by show 2 * 0 + _ ≤ _; exact Nat.le_of_eq rfl) (hb hby qd) (fun _ _ => ⟨rfl, e0, (by decide : 0 + 0 ≤ _), (by decide : 0 + 0 ≤ _)⟩)
  dsimp only [Pt.U, Pt.locs, Pt.cells, Pt.slots] at X101 l101 y101 z101 st101 hQ101
  subst l101 y101 z101
  obtain ⟨rfl, N101q, eh101⟩ := hQ101
  have N101 := Fr.app N0 N101q
  refine gs m T101 4 #[vR (a1)] [] (fun _ k => st101.trans k) ?_
  refine gs m T101 5 #[vR (a1)] [(.ref a1)] (fun _ k => XS.aloadN X101.here hx rfl (hb hby qe) rfl rfl k) ?_
  refine gs m T101 6 #[vR (a1)] [(.int (0 : Int32)), (.ref a1)] (fun _ k => XS.iconst X101.here hx rfl (hb hby qf) k) ?_
  obtain ⟨T102, h102, X102, e102, W102, st102⟩ := putF X101 hx hZ hown (host := "") (Or.inl (hwi hw 31 rfl)) Via.refl eh101 f2 f0 (Or.inl (hwi hw 32 rfl)) (hwi hw 11 rfl) (ty := .int) (by decide) rfl rfl (g := (mkF m 6 #[vR (a1)] [(.int (0 : Int32)), (.ref a1)])) rfl rfl (hb hby qg)
  have N102 := Fr.snoc X102 N101 f1
  have Z102 : n0 ≤ h102.size := Nat.le_trans Z0 (Keep.of_wr W102).1
  have K102 := K0.wr W102 (Or.inl (List.mem_of_getElem? (i := 0) rfl))
  have F103 := f0.wr W102
  have F104 := f3.other W102 (Or.inr (slot_ne (Or.inl (hwi hw 35 rfl)) (Or.inl (hwi hw 32 rfl)) (by decide) (t := (.array (.object "java/lang/Object"))) (t' := .int) (by decide) (by decide)))
  have F105 := f4.other W102 (Or.inr (slot_ne (Or.inl (hwi hw 71 rfl)) (Or.inl (hwi hw 32 rfl)) (by decide) (t := .int) (t' := .int) (by decide) (by decide)))
  have F106 := f2.same W102
  refine gs m T102 9 #[vR (a1)] [] st102 ?_
  exact Go.retV X102 hx hret hlk (hb hby qh) (by rw [e102]; exact ⟨rfl, N102, K102, F103, F106, F104, F105⟩) (by decide) (by decide)
theorem own_ef_jdk_38_method_2_code_R (m : MethodId) (x0 : Addr) : entryFrame m #[(.ref x0)] 1 = mkF m 0 #[vR (x0)] [] := by first | (simp [entryFrame, mkF, argsToLocals, Value.category]; done) | rfl | (simp [entryFrame, mkF, argsToLocals, own_cI, own_cJ, own_cR, own_cN]; done)
theorem own_pn_ArrayList : plainName "java/util/ArrayList" = true := by first | (simp [plainName, overriddenIn]; done) | decide +kernel
theorem qi : decode jdk_38_method_2_code 0 = .ok (.aload_n 0, 1) := by decide +kernel
theorem qj : decode jdk_38_method_2_code 1 = .ok (.invokespecial 1, 3) := by decide +kernel
theorem qk : decode jdk_38_method_2_code 4 = .ok (.aload_n 0, 1) := by decide +kernel
theorem ql : decode jdk_38_method_2_code 5 = .ok (.getstatic 39, 3) := by decide +kernel
theorem qm : decode jdk_38_method_2_code 8 = .ok (.putfield 9, 3) := by decide +kernel
theorem qn : decode jdk_38_method_2_code 11 = .ok (.return_, 1) := by decide +kernel
theorem own_al (l : Launch) (Z : State) (a0 : Array Value) (hw : ∀ d ∈ tables_1, d.before a0 Z = true) (ws : List Jvm.Cond) (a1 : Addr) (u0 : Value) (u1 : Value) (ea : Addr) (h0 : Heap) (n0 : Nat) (Z0 : n0 ≤ h0.size) (f0 : Exa Z h0 a1 "java/util/ArrayList") (f1 : n0 ≤ a1) (f2 : Fld Z h0 a1 "java/util/AbstractList" "modCount" "I" u0) (f3 : Fld Z h0 a1 "java/util/ArrayList" "elementData" "[Ljava/lang/Object;" u1) (f4 : Fld Z h0 a1 "java/util/ArrayList" "size" "I" (.int (0 : Int32))) (f5 : Sta Z h0 "java/util/ArrayList" "DEFAULTCAPACITY_EMPTY_ELEMENTDATA" "[Ljava/lang/Object;" (.ref ea))  :
    Con l Z (⟨"java/util/ArrayList", "<init>", "()V"⟩ : MethodName) jdk_38_method_2_code 1 none ({ frames := 3, cells := 0, slots := 0, locals := 36 } : Room) ws #[(.ref a1)] h0 (fun v h L => (v = none) ∧ (Fr n0 L) ∧ (Keep h0 h [a1]) ∧ (Exa Z h a1 "java/util/ArrayList") ∧ (Fld Z h a1 "java/util/AbstractList" "modCount" "I" (.int (0 : Int32))) ∧ (Fld Z h a1 "java/util/ArrayList" "elementData" "[Ljava/lang/Object;" (.ref ea)) ∧ (Fld Z h a1 "java/util/ArrayList" "size" "I" (.int (0 : Int32)))) 0 0 := by
  refine Con.of (plainFor_of_name own_pn_ArrayList) ?_
  intro pgm e s m below meth c s₁ X0 hx hZ hby hml hown hnm hret hlk e0 hs0
  have N0 := Fr.nil n0
  have hown : s.vm.findClass "java/util/ArrayList" = some m.cls := hown
  have hnm : meth.name = "<init>" := hnm
  refine Go.cast (own_ef_jdk_38_method_2_code_R m a1) ?_
  have K0 := Keep.refl h0 [a1]
  refine gs m s₁ 1 #[vR (a1)] [(.ref a1)] (fun _ k => XS.aloadN X0.here hx rfl (hb hby qi) rfl rfl k) ?_
  obtain ⟨_, _, ⟨T101, L101, k101, n101⟩, -, X101, ⟨Lc101, hQ101, l101, y101, z101⟩, st101⟩ := X0.specialBack hx (y := (⟨"java/util/AbstractList", "<init>", "()V"⟩ : MethodName)) rfl hown (mvT hZ (hwi hw 16 rfl)) (mvT hZ (hwi hw 17 rfl)) (mvT hZ (hwi hw 21 rfl)) (by decide) (backOf (W := 0) (Q := fun v h L => (v = none) ∧ (Fr n0 L) ∧ (Keep h0 h [a1]) ∧ (Exa Z h a1 "java/util/ArrayList") ∧ (Fld Z h a1 "java/util/AbstractList" "modCount" "I" (.int (0 : Int32))) ∧ (Fld Z h a1 "java/util/ArrayList" "elementData" "[Ljava/lang/Object;" u1) ∧ (Fld Z h a1 "java/util/ArrayList" "size" "I" (.int (0 : Int32)))) (own_ali l Z a0 hw [] a1 u0 u1 (.int (0 : Int32)) h0 n0 Z0 f0 f1 f2 f3 f4) hZ (hwi hw 21 rfl) (hwi hw 20 rfl) (by decide) (by decide)) (g := (mkF m 1 #[vR (a1)] [(.ref a1)])) rfl (by rw [hml]; rfl) (Steps.refl _) (a := a1) (argsL := []) (rest := []) (lenOf own_pd0 rfl) rfl (by show 2 * 0 + _ ≤ _; exact Nat.le_of_eq rfl) (hb hby qj) (fun _ _ => ⟨rfl, e0, (by decide : 0 + 0 ≤ _), (by decide : 0 + 0 ≤ _)⟩)
  dsimp only [Pt.U, Pt.locs, Pt.cells, Pt.slots] at X101 l101 y101 z101 st101 hQ101
  subst l101 y101 z101
  obtain ⟨rfl, N101q, K101, P101_0, P101_1, P101_2, P101_3⟩ := hQ101
  have N101 := Fr.app N0 N101q
  have KK101 := K0.trans K101 (allS (Or.inl (List.mem_of_getElem? (i := 0) rfl)) all0)
  have Z101 : n0 ≤ T101.heap.size := Nat.le_trans Z0 K101.1
  have F102 := f0.keep K101
  have F103 := own_sta_keep f5 K101 (allS (own_plain f0) all0)
  refine gs m T101 4 #[vR (a1)] [] (fun _ k => st101.trans k) ?_
  refine gs m T101 5 #[vR (a1)] [(.ref a1)] (fun _ k => XS.aloadN X101.here hx rfl (hb hby qk) rfl rfl k) ?_
  obtain ⟨T104, X104, e104, st104⟩ := getS2 X101 hx hZ hown (host := "") (Or.inl (hwi hw 33 rfl)) Via.refl rfl F103 (g := (mkF m 5 #[vR (a1)] [(.ref a1)])) rfl (hb hby ql)
  refine gs m T104 8 #[vR (a1)] [(.ref ea), (.ref a1)] st104 ?_
  obtain ⟨T105, h105, X105, e105, W105, st105⟩ := putF X104 hx hZ hown (host := "") (Or.inl (hwi hw 34 rfl)) Via.refl e104 P101_2 P101_0 (Or.inl (hwi hw 35 rfl)) (hwi hw 11 rfl) (ty := (.array (.object "java/lang/Object"))) (by decide) rfl rfl (g := (mkF m 8 #[vR (a1)] [(.ref ea), (.ref a1)])) rfl rfl (hb hby qm)
  have N105 := Fr.snoc X105 N101 f1
  have Z105 : n0 ≤ h105.size := Nat.le_trans Z101 (Keep.of_wr W105).1
  have K105 := KK101.wr W105 (Or.inl (List.mem_of_getElem? (i := 0) rfl))
  have F106 := P101_0.wr W105
  have F107 := F103.wr W105
  have F108 := P101_1.other W105 (Or.inr (slot_ne (Or.inl (hwi hw 32 rfl)) (Or.inl (hwi hw 35 rfl)) (by decide) (t := .int) (t' := (.array (.object "java/lang/Object"))) (by decide) (by decide)))
  have F109 := P101_3.other W105 (Or.inr (slot_ne (Or.inl (hwi hw 71 rfl)) (Or.inl (hwi hw 35 rfl)) (by decide) (t := .int) (t' := (.array (.object "java/lang/Object"))) (by decide) (by decide)))
  have F110 := P101_2.same W105
  refine gs m T105 11 #[vR (a1)] [] st105 ?_
  exact Go.retV X105 hx hret hlk (hb hby qn) (by rw [e105]; exact ⟨rfl, N105, K105, F106, F108, F110, F109⟩) (by decide) (by decide)
theorem own_ef_jdk_29_method_65_code_II (m : MethodId) (x0 : Int32) (x1 : Int32) : entryFrame m #[(.int x0), (.int x1)] 2 = mkF m 0 #[vI (x0), vI (x1)] [] := by first | (simp [entryFrame, mkF, argsToLocals, Value.category]; done) | rfl | (simp [entryFrame, mkF, argsToLocals, own_cI, own_cJ, own_cR, own_cN]; done)
theorem qo : decode jdk_29_method_65_code 0 = .ok (.iload_n 0, 1) := by decide +kernel
theorem qp : decode jdk_29_method_65_code 1 = .ok (.iload_n 1, 1) := by decide +kernel
theorem qq : decode jdk_29_method_65_code 2 = .ok (.if_icmp .lt 7, 3) := by decide +kernel
theorem qr : decode jdk_29_method_65_code 5 = .ok (.iload_n 0, 1) := by decide +kernel
theorem qs : decode jdk_29_method_65_code 6 = .ok (.goto 4, 3) := by decide +kernel
theorem qt : decode jdk_29_method_65_code 10 = .ok (.ireturn, 1) := by decide +kernel
theorem own_max10 (l : Launch) (Z : State) (a0 : Array Value) (hw : ∀ d ∈ tables_1, d.before a0 Z = true) (ws : List Jvm.Cond)  (h0 : Heap) (n0 : Nat) (Z0 : n0 ≤ h0.size)   :
    Con l Z (⟨"java/lang/Math", "max", "(II)I"⟩ : MethodName) jdk_29_method_65_code 2 (some .int) ({ frames := 0, cells := 0, slots := 0, locals := 0 } : Room) ws #[(.int (10 : Int32)), (.int (1 : Int32))] h0 (Qret (some (.int (10 : Int32))) h0 n0) 0 0 := by
  refine Con.of (Jvm.Free.JP.mathPlain rfl (by decide +kernel)) ?_
  intro pgm e s m below meth c s₁ X0 hx hZ hby hml hown hnm hret hlk e0 hs0
  have N0 := Fr.nil n0
  have hown : s.vm.findClass "java/lang/Math" = some m.cls := hown
  have hnm : meth.name = "max" := hnm
  refine Go.cast (own_ef_jdk_29_method_65_code_II m (10 : Int32) (1 : Int32)) ?_
  refine gs m s₁ 1 #[vI ((10 : Int32)), vI ((1 : Int32))] [(.int (10 : Int32))] (fun _ k => XS.iloadN X0.here hx rfl (hb hby qo) rfl  k) ?_
  refine gs m s₁ 2 #[vI ((10 : Int32)), vI ((1 : Int32))] [(.int (1 : Int32)), (.int (10 : Int32))] (fun _ k => XS.iloadN X0.here hx rfl (hb hby qp) rfl  k) ?_
  refine gs m s₁ 5 #[vI ((10 : Int32)), vI ((1 : Int32))] [] (fun _ k => XS.icmpNo X0.here hx rfl (hb hby qq) rfl (flt (by decide : ¬ ((10 : Int32) < (1 : Int32)))).1 k) ?_
  refine gs m s₁ 6 #[vI ((10 : Int32)), vI ((1 : Int32))] [(.int (10 : Int32))] (fun _ k => XS.iloadN X0.here hx rfl (hb hby qr) rfl  k) ?_
  refine gs m s₁ 10 #[vI ((10 : Int32)), vI ((1 : Int32))] [(.int (10 : Int32))] (fun _ k => XS.goto X0.here hx rfl (pc0 := 6) (pc' := 10) rfl (hb hby qs) (by decide) (by decide) k) ?_
  exact Go.retI X0 hx hret hlk (hb hby qt) (⟨rfl, N0, e0⟩) (by decide) (by decide)
theorem own_ef_jdk_38_method_6_code_RI (m : MethodId) (x0 : Addr) (x1 : Int32) : entryFrame m #[(.ref x0), (.int x1)] 4 = mkF m 0 #[vR (x0), vI (x1), sU, sU] [] := by first | (simp [entryFrame, mkF, argsToLocals, Value.category]; done) | rfl | (simp [entryFrame, mkF, argsToLocals, own_cI, own_cJ, own_cR, own_cN]; done)
theorem qu : decode jdk_38_method_6_code 0 = .ok (.aload_n 0, 1) := by decide +kernel
theorem qv : decode jdk_38_method_6_code 1 = .ok (.getfield 9, 3) := by decide +kernel
theorem qw : decode jdk_38_method_6_code 4 = .ok (.arraylength, 1) := by decide +kernel
theorem qx : decode jdk_38_method_6_code 5 = .ok (.istore_n 2, 1) := by decide +kernel
theorem qy : decode jdk_38_method_6_code 6 = .ok (.iload_n 2, 1) := by decide +kernel
theorem qz : decode jdk_38_method_6_code 7 = .ok (.ifCond .gt 13, 3) := by decide +kernel
theorem q10 : decode jdk_38_method_6_code 10 = .ok (.aload_n 0, 1) := by decide +kernel
theorem q11 : decode jdk_38_method_6_code 11 = .ok (.getfield 9, 3) := by decide +kernel
theorem q12 : decode jdk_38_method_6_code 14 = .ok (.getstatic 39, 3) := by decide +kernel
theorem q13 : decode jdk_38_method_6_code 17 = .ok (.if_acmp .eq 28, 3) := by decide +kernel
theorem q14 : decode jdk_38_method_6_code 45 = .ok (.aload_n 0, 1) := by decide +kernel
theorem q15 : decode jdk_38_method_6_code 46 = .ok (.bipush 10, 2) := by decide +kernel
theorem q16 : decode jdk_38_method_6_code 48 = .ok (.iload_n 1, 1) := by decide +kernel
theorem q17 : decode jdk_38_method_6_code 49 = .ok (.invokestatic 79, 3) := by decide +kernel
theorem own_pd1 : parseMethodDescriptor "(II)I" = some ⟨[.int, .int], some .int⟩ := by decide +kernel
theorem q18 : decode jdk_38_method_6_code 52 = .ok (.anewarray 7, 3) := by decide +kernel
theorem q19 : decode jdk_38_method_6_code 55 = .ok (.dup_x1, 1) := by decide +kernel
theorem q1a : decode jdk_38_method_6_code 56 = .ok (.putfield 9, 3) := by decide +kernel
theorem q1b : decode jdk_38_method_6_code 59 = .ok (.areturn, 1) := by decide +kernel
theorem own_growI (l : Launch) (Z : State) (a0 : Array Value) (hw : ∀ d ∈ tables_1, d.before a0 Z = true) (ws : List Jvm.Cond) (a1 : Addr) (ea : Addr) (ke : ClassId) (mc : Int32) (h0 : Heap) (n0 : Nat) (Z0 : n0 ≤ h0.size) (f0 : Exa Z h0 a1 "java/util/ArrayList") (f1 : n0 ≤ a1) (f2 : Fld Z h0 a1 "java/util/AbstractList" "modCount" "I" (.int mc)) (f3 : Fld Z h0 a1 "java/util/ArrayList" "elementData" "[Ljava/lang/Object;" (.ref ea)) (f4 : Fld Z h0 a1 "java/util/ArrayList" "size" "I" (.int (0 : Int32))) (f5 : Sta Z h0 "java/util/ArrayList" "DEFAULTCAPACITY_EMPTY_ELEMENTDATA" "[Ljava/lang/Object;" (.ref ea)) (f6 : Arv Z h0 ea ke (.object "java/lang/Object") (0 : Int32) [] .null) (f7 : ea ≠ a1)  :
    Con l Z (⟨"java/util/ArrayList", "grow", "(I)[Ljava/lang/Object;"⟩ : MethodName) jdk_38_method_6_code 4 (some (.array (.object "java/lang/Object"))) ({ frames := 1, cells := 1, slots := 10, locals := 14 } : Room) ws #[(.ref a1), (.int (1 : Int32))] h0 (fun v h L => ∃ b : Addr, ∃ kb : ClassId, (v = some (.ref b)) ∧ (Fr n0 L) ∧ (Keep h0 h [a1]) ∧ (h0.size ≤ b) ∧ (Exa Z h a1 "java/util/ArrayList") ∧ (Fld Z h a1 "java/util/AbstractList" "modCount" "I" (.int mc)) ∧ (Fld Z h a1 "java/util/ArrayList" "elementData" "[Ljava/lang/Object;" (.ref b)) ∧ (Fld Z h a1 "java/util/ArrayList" "size" "I" (.int (0 : Int32))) ∧ (Exa Z h b "[Ljava/lang/Object;") ∧ (Arv Z h b kb (.object "java/lang/Object") (10 : Int32) [.null, .null, .null, .null, .null, .null, .null, .null, .null, .null] .null) ∧ (Ovr Z kb "java/lang/Object")) 1 10 := by
  refine Con.of (plainFor_of_name own_pn_ArrayList) ?_
  intro pgm e s m below meth c s₁ X0 hx hZ hby hml hown hnm hret hlk e0 hs0
  have N0 := Fr.nil n0
  have hown : s.vm.findClass "java/util/ArrayList" = some m.cls := hown
  have hnm : meth.name = "grow" := hnm
  refine Go.cast (own_ef_jdk_38_method_6_code_RI m a1 (1 : Int32)) ?_
  have K0 := Keep.refl h0 [a1]
  refine gs m s₁ 1 #[vR (a1), vI ((1 : Int32)), sU, sU] [(.ref a1)] (fun _ k => XS.aloadN X0.here hx rfl (hb hby qu) rfl rfl k) ?_
  obtain ⟨T101, X101, e101, st101⟩ := getF X0 hx hZ hown (host := "") (Or.inl (hwi hw 34 rfl)) Via.refl e0 f3 (g := (mkF m 1 #[vR (a1), vI ((1 : Int32)), sU, sU] [(.ref a1)])) rfl rfl (hb hby qv)
  refine gs m T101 4 #[vR (a1), vI ((1 : Int32)), sU, sU] [(.ref ea)] st101 ?_
  obtain ⟨cl102, Ar102, -, S102, M102, -, -⟩ := id f6
  refine gs m T101 5 #[vR (a1), vI ((1 : Int32)), sU, sU] [(.int (0 : Int32))] (fun _ k => X101.arraylength hx (cell := cl102) (by rw [e101]; exact Ar102.1) (State.isArrayOf_alike hZ.alike Ar102.2.1) (g := (mkF m 4 #[vR (a1), vI ((1 : Int32)), sU, sU] [(.ref ea)])) rfl (rest := []) rfl (hb hby qw) _ (by rw [len_of S102 M102]; exact k)) ?_
  refine gs m T101 6 #[vR (a1), vI ((1 : Int32)), vI ((0 : Int32)), sU] [] (fun _ k => XS.istoreN X101.here hx rfl (hb hby qx) rfl (l' := #[vR (a1), vI ((1 : Int32)), vI ((0 : Int32)), sU]) rfl k) ?_
  refine gs m T101 7 #[vR (a1), vI ((1 : Int32)), vI ((0 : Int32)), sU] [(.int (0 : Int32))] (fun _ k => XS.iloadN X101.here hx rfl (hb hby qy) rfl  k) ?_
  refine gs m T101 10 #[vR (a1), vI ((1 : Int32)), vI ((0 : Int32)), sU] [] (fun _ k => XS.ifNo X101.here hx rfl (hb hby qz) rfl ((if0 _ _).trans (flt (by decide : ¬ ((0 : Int32) < (0 : Int32)))).2.2.1) k) ?_
  refine gs m T101 11 #[vR (a1), vI ((1 : Int32)), vI ((0 : Int32)), sU] [(.ref a1)] (fun _ k => XS.aloadN X101.here hx rfl (hb hby q10) rfl rfl k) ?_
  obtain ⟨T103, X103, e103, st103⟩ := getF X101 hx hZ hown (host := "") (Or.inl (hwi hw 34 rfl)) Via.refl e101 f3 (g := (mkF m 11 #[vR (a1), vI ((1 : Int32)), vI ((0 : Int32)), sU] [(.ref a1)])) rfl rfl (hb hby q11)
  refine gs m T103 14 #[vR (a1), vI ((1 : Int32)), vI ((0 : Int32)), sU] [(.ref ea)] st103 ?_
  obtain ⟨T104, X104, e104, st104⟩ := getS2 X103 hx hZ hown (host := "") (Or.inl (hwi hw 33 rfl)) Via.refl e103 f5 (g := (mkF m 14 #[vR (a1), vI ((1 : Int32)), vI ((0 : Int32)), sU] [(.ref ea)])) rfl (hb hby q12)
  refine gs m T104 17 #[vR (a1), vI ((1 : Int32)), vI ((0 : Int32)), sU] [(.ref ea), (.ref ea)] st104 ?_
  refine gs m T104 45 #[vR (a1), vI ((1 : Int32)), vI ((0 : Int32)), sU] [] (fun _ k => Jvm.RoadKit.acmp (g := (mkF m 17 #[vR (a1), vI ((1 : Int32)), vI ((0 : Int32)), sU] [(.ref ea), (.ref ea)])) X104 hx rfl rfl rfl (pc0 := 17) (pc' := 45) (same := true) rfl (hb hby q13) rfl (decide_eq_true rfl) (by decide) (by decide) k) ?_
  refine gs m T104 46 #[vR (a1), vI ((1 : Int32)), vI ((0 : Int32)), sU] [(.ref a1)] (fun _ k => XS.aloadN X104.here hx rfl (hb hby q14) rfl rfl k) ?_
  refine gs m T104 48 #[vR (a1), vI ((1 : Int32)), vI ((0 : Int32)), sU] [(.int (10 : Int32)), (.ref a1)] (fun _ k => XS.bipush X104.here hx rfl (hb hby q15) k) ?_
  refine gs m T104 49 #[vR (a1), vI ((1 : Int32)), vI ((0 : Int32)), sU] [(.int (1 : Int32)), (.int (10 : Int32)), (.ref a1)] (fun _ k => XS.iloadN X104.here hx rfl (hb hby q16) rfl  k) ?_
  obtain ⟨_, _, ⟨T105, L105, k105, n105⟩, -, X105, ⟨Lc105, hQ105, l105, y105, z105⟩, st105⟩ := Jvm.LawKit.callS X104 hx (y := (⟨"java/lang/Math", "max", "(II)I"⟩ : MethodName)) hown (mvT hZ (hwi hw 157 rfl)) (mvT hZ (hwi hw 158 rfl)) (mvT hZ (hwi hw 159 rfl)) (mvT hZ (hwi hw 160 rfl)) (by decide) (backOf (W := 1) (Q := Qret (some (.int (10 : Int32))) h0 n0) (own_max10 l Z a0 hw []  h0 n0 Z0 ) hZ (hwi hw 160 rfl) (hwi hw 159 rfl) (by decide) (by decide)) (g := (mkF m 49 #[vR (a1), vI ((1 : Int32)), vI ((0 : Int32)), sU] [(.int (1 : Int32)), (.int (10 : Int32)), (.ref a1)])) rfl (by rw [hml]; rfl) (argsL := [(.int (10 : Int32)), (.int (1 : Int32))]) (rest := [(.ref a1)]) (lenOf own_pd1 rfl) rfl (by show 2 * 0 + _ ≤ _; exact Nat.le_of_eq rfl) (hb hby q17) (fun _ _ => ⟨rfl, e104, (by decide : 0 + 0 ≤ _), (by decide : 0 + 0 ≤ _)⟩)
  dsimp only [Pt.U, Pt.locs, Pt.cells, Pt.slots] at X105 l105 y105 z105 st105 hQ105
  subst l105 y105 z105
  obtain ⟨rfl, N105q, eh105⟩ := hQ105
  have N105 := Fr.app N0 N105q
  refine gs m T105 52 #[vR (a1), vI ((1 : Int32)), vI ((0 : Int32)), sU] [(.int (10 : Int32)), (.ref a1)] (st105) ?_
  obtain ⟨T106, h106, k106, X106, e106, E106, A106, EA106, OV106, st106⟩ := newRE X105 hx hZ hown (hwi hw 161 rfl) (hwi hw 162 rfl) eh105 (g := (mkF m 52 #[vR (a1), vI ((1 : Int32)), vI ((0 : Int32)), sU] [(.int (10 : Int32)), (.ref a1)])) rfl (hb hby q18) rfl (by decide) (cap := 10) (by decide) (by decide) (by decide) (by decide) (ad := "[Ljava/lang/Object;") (by decide)
  obtain ⟨b106, g106⟩ : ∃ z, z = h0.size := ⟨_, rfl⟩
  rw [← g106] at A106 EA106 st106
  have ne107 : a1 ≠ b106 := by have q := f0.lt; intro r; rw [r, g106] at q; exact Nat.lt_irrefl _ q
  have ne108 : ea ≠ b106 := by have q := f6.lt; intro r; rw [r, g106] at q; exact Nat.lt_irrefl _ q
  have ge106 : n0 ≤ b106 := Nat.le_trans Z0 (Nat.le_of_eq g106.symm)
  have Z106 : n0 ≤ h106.size := Nat.le_trans Z0 E106.1
  have sz106 : h0.size ≤ b106 := Nat.le_trans K0.1 (Nat.le_of_eq g106.symm)
  have K106 := K0.ext E106
  have F109 := f0.ext E106
  have F110 := f2.ext E106
  have F111 := f3.ext E106
  have F112 := f4.ext E106
  have F113 := f5.ext E106
  have F114 := f6.ext E106
  have V106 : Arv Z h106 b106 k106 (.object "java/lang/Object") (10 : Int32) [.null, .null, .null, .null, .null, .null, .null, .null, .null, .null] .null := (Arv.new A106 (by decide)).pad (pad_rep [] .null 10)
  refine gs m T106 55 #[vR (a1), vI ((1 : Int32)), vI ((0 : Int32)), sU] [(.ref b106), (.ref a1)] st106 ?_
  refine gs m T106 56 #[vR (a1), vI ((1 : Int32)), vI ((0 : Int32)), sU] [(.ref b106), (.ref a1), (.ref b106)] (fun _ k => XS.dupX1 X106.here hx rfl (hb hby q19) rfl rfl rfl k) ?_
  obtain ⟨T115, h115, X115, e115, W115, st115⟩ := putF X106 hx hZ hown (host := "") (Or.inl (hwi hw 34 rfl)) Via.refl e106 F111 F109 (Or.inl (hwi hw 35 rfl)) (hwi hw 11 rfl) (ty := (.array (.object "java/lang/Object"))) (by decide) rfl rfl (g := (mkF m 56 #[vR (a1), vI ((1 : Int32)), vI ((0 : Int32)), sU] [(.ref b106), (.ref a1), (.ref b106)])) rfl rfl (hb hby q1a)
  have N115 := Fr.snoc X115 N105 f1
  have Z115 : n0 ≤ h115.size := Nat.le_trans Z106 (Keep.of_wr W115).1
  have K115 := K106.wr W115 (Or.inl (List.mem_of_getElem? (i := 0) rfl))
  have F116 := F109.wr W115
  have F117 := F110.other W115 (Or.inr (slot_ne (Or.inl (hwi hw 32 rfl)) (Or.inl (hwi hw 35 rfl)) (by decide) (t := .int) (t' := (.array (.object "java/lang/Object"))) (by decide) (by decide)))
  have F118 := F112.other W115 (Or.inr (slot_ne (Or.inl (hwi hw 71 rfl)) (Or.inl (hwi hw 35 rfl)) (by decide) (t := .int) (t' := (.array (.object "java/lang/Object"))) (by decide) (by decide)))
  have F119 := F113.wr W115
  have F120 := F114.other W115 f7
  have F121 := V106.other W115 (Ne.symm ne107)
  have F122 := EA106.wr W115
  have F123 := F111.same W115
  refine gs m T115 59 #[vR (a1), vI ((1 : Int32)), vI ((0 : Int32)), sU] [(.ref b106)] st115 ?_
  exact Go.retA X115 hx (t := (.array (.object "java/lang/Object"))) hret rfl hlk rfl (hb hby q1b) (by rw [e115]; exact ⟨b106, k106, rfl, N115, K115, sz106, F116, F117, F123, F118, F122, F121, OV106⟩) (by decide) (by decide)
theorem own_ef_jdk_38_method_7_code_R (m : MethodId) (x0 : Addr) : entryFrame m #[(.ref x0)] 1 = mkF m 0 #[vR (x0)] [] := by first | (simp [entryFrame, mkF, argsToLocals, Value.category]; done) | rfl | (simp [entryFrame, mkF, argsToLocals, own_cI, own_cJ, own_cR, own_cN]; done)
theorem q1c : decode jdk_38_method_7_code 0 = .ok (.aload_n 0, 1) := by decide +kernel
theorem q1d : decode jdk_38_method_7_code 1 = .ok (.aload_n 0, 1) := by decide +kernel
theorem q1e : decode jdk_38_method_7_code 2 = .ok (.getfield 48, 3) := by decide +kernel
theorem q1f : decode jdk_38_method_7_code 5 = .ok (.iconst 1, 1) := by decide +kernel
theorem q1g : decode jdk_38_method_7_code 6 = .ok (.iadd, 1) := by decide +kernel
theorem q1h : decode jdk_38_method_7_code 7 = .ok (.invokevirtual 69, 3) := by decide +kernel
theorem own_pd2 : parseMethodDescriptor "(I)[Ljava/lang/Object;" = some ⟨[.int], some (.array (.object "java/lang/Object"))⟩ := by decide +kernel
theorem q1i : decode jdk_38_method_7_code 10 = .ok (.areturn, 1) := by decide +kernel
theorem own_grow (l : Launch) (Z : State) (a0 : Array Value) (hw : ∀ d ∈ tables_1, d.before a0 Z = true) (ws : List Jvm.Cond) (a1 : Addr) (ea : Addr) (ke : ClassId) (mc : Int32) (h0 : Heap) (n0 : Nat) (Z0 : n0 ≤ h0.size) (f0 : Exa Z h0 a1 "java/util/ArrayList") (f1 : n0 ≤ a1) (f2 : Fld Z h0 a1 "java/util/AbstractList" "modCount" "I" (.int mc)) (f3 : Fld Z h0 a1 "java/util/ArrayList" "elementData" "[Ljava/lang/Object;" (.ref ea)) (f4 : Fld Z h0 a1 "java/util/ArrayList" "size" "I" (.int (0 : Int32))) (f5 : Sta Z h0 "java/util/ArrayList" "DEFAULTCAPACITY_EMPTY_ELEMENTDATA" "[Ljava/lang/Object;" (.ref ea)) (f6 : Arv Z h0 ea ke (.object "java/lang/Object") (0 : Int32) [] .null) (f7 : ea ≠ a1)  :
    Con l Z (⟨"java/util/ArrayList", "grow", "()[Ljava/lang/Object;"⟩ : MethodName) jdk_38_method_7_code 1 (some (.array (.object "java/lang/Object"))) ({ frames := 2, cells := 1, slots := 10, locals := 29 } : Room) ws #[(.ref a1)] h0 (fun v h L => ∃ b : Addr, ∃ kb : ClassId, (v = some (.ref b)) ∧ (Fr n0 L) ∧ (Keep h0 h [a1]) ∧ (h0.size ≤ b) ∧ (Exa Z h a1 "java/util/ArrayList") ∧ (Fld Z h a1 "java/util/AbstractList" "modCount" "I" (.int mc)) ∧ (Fld Z h a1 "java/util/ArrayList" "elementData" "[Ljava/lang/Object;" (.ref b)) ∧ (Fld Z h a1 "java/util/ArrayList" "size" "I" (.int (0 : Int32))) ∧ (Exa Z h b "[Ljava/lang/Object;") ∧ (Arv Z h b kb (.object "java/lang/Object") (10 : Int32) [.null, .null, .null, .null, .null, .null, .null, .null, .null, .null] .null) ∧ (Ovr Z kb "java/lang/Object")) 1 10 := by
  refine Con.of (plainFor_of_name own_pn_ArrayList) ?_
  intro pgm e s m below meth c s₁ X0 hx hZ hby hml hown hnm hret hlk e0 hs0
  have N0 := Fr.nil n0
  have hown : s.vm.findClass "java/util/ArrayList" = some m.cls := hown
  have hnm : meth.name = "grow" := hnm
  refine Go.cast (own_ef_jdk_38_method_7_code_R m a1) ?_
  have K0 := Keep.refl h0 [a1]
  refine gs m s₁ 1 #[vR (a1)] [(.ref a1)] (fun _ k => XS.aloadN X0.here hx rfl (hb hby q1c) rfl rfl k) ?_
  refine gs m s₁ 2 #[vR (a1)] [(.ref a1), (.ref a1)] (fun _ k => XS.aloadN X0.here hx rfl (hb hby q1d) rfl rfl k) ?_
  obtain ⟨T101, X101, e101, st101⟩ := getF X0 hx hZ hown (host := "") (Or.inl (hwi hw 70 rfl)) Via.refl e0 f4 (g := (mkF m 2 #[vR (a1)] [(.ref a1), (.ref a1)])) rfl rfl (hb hby q1e)
  refine gs m T101 5 #[vR (a1)] [(.int (0 : Int32)), (.ref a1)] st101 ?_
  refine gs m T101 6 #[vR (a1)] [(.int (1 : Int32)), (.int (0 : Int32)), (.ref a1)] (fun _ k => XS.iconst X101.here hx rfl (hb hby q1f) k) ?_
  refine gs m T101 7 #[vR (a1)] [(.int (1 : Int32)), (.ref a1)] (fun _ k => XS.iadd X101.here hx rfl (hb hby q1g) rfl k) ?_
  obtain ⟨cq102, q102, q102'⟩ := f0.cell
  obtain ⟨_, _, ⟨T102, L102, k102, n102⟩, -, X102, ⟨Lc102, hQ102, l102, y102, z102⟩, st102⟩ := X101.privateBack hx (y := (⟨"java/util/ArrayList", "grow", "(I)[Ljava/lang/Object;"⟩ : MethodName)) hown (mvT hZ (hwi hw 152 rfl)) (mvT hZ (hwi hw 153 rfl)) (mvT hZ (hwi hw 155 rfl)) (Cond.privateMethod_at (mvP hZ (hwi hw 154 rfl) (args := #[]))) (mvT hZ (hwi hw 156 rfl)) (by decide) (backOf (W := 0) (Q := fun v h L => ∃ b : Addr, ∃ kb : ClassId, (v = some (.ref b)) ∧ (Fr n0 L) ∧ (Keep h0 h [a1]) ∧ (h0.size ≤ b) ∧ (Exa Z h a1 "java/util/ArrayList") ∧ (Fld Z h a1 "java/util/AbstractList" "modCount" "I" (.int mc)) ∧ (Fld Z h a1 "java/util/ArrayList" "elementData" "[Ljava/lang/Object;" (.ref b)) ∧ (Fld Z h a1 "java/util/ArrayList" "size" "I" (.int (0 : Int32))) ∧ (Exa Z h b "[Ljava/lang/Object;") ∧ (Arv Z h b kb (.object "java/lang/Object") (10 : Int32) [.null, .null, .null, .null, .null, .null, .null, .null, .null, .null] .null) ∧ (Ovr Z kb "java/lang/Object")) (own_growI l Z a0 hw [] a1 ea ke mc h0 n0 Z0 f0 f1 f2 f3 f4 f5 f6 f7) hZ (hwi hw 156 rfl) (hwi hw 12 rfl) (by decide) (by decide)) (g := (mkF m 7 #[vR (a1)] [(.int (1 : Int32)), (.ref a1)])) rfl (by rw [hml]; rfl) (Steps.refl _) (a := a1) (by rw [e101]; exact q102) q102' (argsL := [(.int (1 : Int32))]) (rest := []) (lenOf own_pd2 rfl) rfl (by show 2 * 0 + _ ≤ _; exact Nat.le_of_eq rfl) (hb hby q1h) (fun _ _ => ⟨rfl, e101, (by decide : 0 + 1 ≤ _), (by decide : 0 + 10 ≤ _)⟩)
  dsimp only [Pt.U, Pt.locs, Pt.cells, Pt.slots] at X102 l102 y102 z102 st102 hQ102
  subst l102 y102 z102
  obtain ⟨b_102, kb_102, rfl, N102q, K102, lt102_0, P102_0, P102_1, P102_2, P102_3, P102_4, P102_5, R102_0⟩ := hQ102
  have N102 := Fr.app N0 N102q
  have ne103 : a1 ≠ b_102 := Nat.ne_of_lt (Nat.lt_of_lt_of_le f0.lt lt102_0)
  have ne104 : ea ≠ b_102 := Nat.ne_of_lt (Nat.lt_of_lt_of_le f6.lt lt102_0)
  have ge105 : n0 ≤ b_102 := Nat.le_trans Z0 lt102_0
  have sz106 : h0.size ≤ b_102 := Nat.le_trans K0.1 lt102_0
  have KK102 := K0.trans K102 (allS (Or.inl (List.mem_of_getElem? (i := 0) rfl)) all0)
  have Z102 : n0 ≤ T102.heap.size := Nat.le_trans Z0 K102.1
  have F107 := f0.keep K102
  have F108 := own_sta_keep f5 K102 (allS (own_plain f0) all0)
  have F109 := f6.keep K102 (ninS f7 nin0)
  refine gs m T102 10 #[vR (a1)] [(.ref b_102)] (fun _ k => st102.trans k) ?_
  exact Go.retA X102 hx (t := (.array (.object "java/lang/Object"))) hret rfl hlk rfl (hb hby q1i) (⟨b_102, kb_102, rfl, N102, KK102, sz106, P102_0, P102_1, P102_2, P102_3, P102_4, P102_5, R102_0⟩) (by decide) (by decide)
theorem own_ef_jdk_38_method_24_code_RRRI (m : MethodId) (x0 : Addr) (x1 : Addr) (x2 : Addr) (x3 : Int32) : entryFrame m #[(.ref x0), (.ref x1), (.ref x2), (.int x3)] 4 = mkF m 0 #[vR (x0), vR (x1), vR (x2), vI (x3)] [] := by first | (simp [entryFrame, mkF, argsToLocals, Value.category]; done) | rfl | (simp [entryFrame, mkF, argsToLocals, own_cI, own_cJ, own_cR, own_cN]; done)
theorem q1j : decode jdk_38_method_24_code 0 = .ok (.iload_n 3, 1) := by decide +kernel
theorem q1k : decode jdk_38_method_24_code 1 = .ok (.aload_n 2, 1) := by decide +kernel
theorem q1l : decode jdk_38_method_24_code 2 = .ok (.arraylength, 1) := by decide +kernel
theorem q1m : decode jdk_38_method_24_code 3 = .ok (.if_icmp .ne 8, 3) := by decide +kernel
theorem q1n : decode jdk_38_method_24_code 6 = .ok (.aload_n 0, 1) := by decide +kernel
theorem q1o : decode jdk_38_method_24_code 7 = .ok (.invokevirtual 129, 3) := by decide +kernel
theorem own_pd3 : parseMethodDescriptor "()[Ljava/lang/Object;" = some ⟨[], some (.array (.object "java/lang/Object"))⟩ := by decide +kernel
theorem q1p : decode jdk_38_method_24_code 10 = .ok (.astore_n 2, 1) := by decide +kernel
theorem q1q : decode jdk_38_method_24_code 11 = .ok (.aload_n 2, 1) := by decide +kernel
theorem q1r : decode jdk_38_method_24_code 12 = .ok (.iload_n 3, 1) := by decide +kernel
theorem q1s : decode jdk_38_method_24_code 13 = .ok (.aload_n 1, 1) := by decide +kernel
theorem q1t : decode jdk_38_method_24_code 14 = .ok (.aastore, 1) := by decide +kernel
theorem q1u : decode jdk_38_method_24_code 15 = .ok (.aload_n 0, 1) := by decide +kernel
theorem q1v : decode jdk_38_method_24_code 16 = .ok (.iload_n 3, 1) := by decide +kernel
theorem q1w : decode jdk_38_method_24_code 17 = .ok (.iconst 1, 1) := by decide +kernel
theorem q1x : decode jdk_38_method_24_code 18 = .ok (.iadd, 1) := by decide +kernel
theorem q1y : decode jdk_38_method_24_code 19 = .ok (.putfield 48, 3) := by decide +kernel
theorem q1z : decode jdk_38_method_24_code 22 = .ok (.return_, 1) := by decide +kernel
theorem own_addh0 (l : Launch) (Z : State) (a0 : Array Value) (hw : ∀ d ∈ tables_1, d.before a0 Z = true) (ws : List Jvm.Cond) (a1 : Addr) (x1 : Addr) (ea : Addr) (ke : ClassId) (mc : Int32) (h0 : Heap) (n0 : Nat) (Z0 : n0 ≤ h0.size) (f0 : Exa Z h0 a1 "java/util/ArrayList") (f1 : n0 ≤ a1) (f2 : Fld Z h0 a1 "java/util/AbstractList" "modCount" "I" (.int mc)) (f3 : Fld Z h0 a1 "java/util/ArrayList" "elementData" "[Ljava/lang/Object;" (.ref ea)) (f4 : Fld Z h0 a1 "java/util/ArrayList" "size" "I" (.int (0 : Int32))) (f5 : Sta Z h0 "java/util/ArrayList" "DEFAULTCAPACITY_EMPTY_ELEMENTDATA" "[Ljava/lang/Object;" (.ref ea)) (f6 : Arv Z h0 ea ke (.object "java/lang/Object") (0 : Int32) [] .null) (f7 : ea ≠ a1) (f8 : Exa Z h0 x1 "java/time/Duration")  :
    Con l Z (⟨"java/util/ArrayList", "add", "(Ljava/lang/Object;[Ljava/lang/Object;I)V"⟩ : MethodName) jdk_38_method_24_code 4 none ({ frames := 3, cells := 1, slots := 10, locals := 41 } : Room) ws #[(.ref a1), (.ref x1), (.ref ea), (.int (0 : Int32))] h0 (fun v h L => ∃ b : Addr, ∃ kb : ClassId, (v = none) ∧ (Fr n0 L) ∧ (Keep h0 h [a1]) ∧ (h0.size ≤ b) ∧ (Exa Z h a1 "java/util/ArrayList") ∧ (Fld Z h a1 "java/util/AbstractList" "modCount" "I" (.int mc)) ∧ (Fld Z h a1 "java/util/ArrayList" "elementData" "[Ljava/lang/Object;" (.ref b)) ∧ (Fld Z h a1 "java/util/ArrayList" "size" "I" (.int (1 : Int32))) ∧ (Exa Z h b "[Ljava/lang/Object;") ∧ (Arv Z h b kb (.object "java/lang/Object") (10 : Int32) [(.ref x1), .null, .null, .null, .null, .null, .null, .null, .null, .null] .null) ∧ (Ovr Z kb "java/lang/Object")) 1 10 := by
  refine Con.of (plainFor_of_name own_pn_ArrayList) ?_
  intro pgm e s m below meth c s₁ X0 hx hZ hby hml hown hnm hret hlk e0 hs0
  have N0 := Fr.nil n0
  have hown : s.vm.findClass "java/util/ArrayList" = some m.cls := hown
  have hnm : meth.name = "add" := hnm
  refine Go.cast (own_ef_jdk_38_method_24_code_RRRI m a1 x1 ea (0 : Int32)) ?_
  have K0 := Keep.refl h0 [a1]
  refine gs m s₁ 1 #[vR (a1), vR (x1), vR (ea), vI ((0 : Int32))] [(.int (0 : Int32))] (fun _ k => XS.iloadN X0.here hx rfl (hb hby q1j) rfl  k) ?_
  refine gs m s₁ 2 #[vR (a1), vR (x1), vR (ea), vI ((0 : Int32))] [(.ref ea), (.int (0 : Int32))] (fun _ k => XS.aloadN X0.here hx rfl (hb hby q1k) rfl rfl k) ?_
  obtain ⟨cl101, Ar101, -, S101, M101, -, -⟩ := id f6
  refine gs m s₁ 3 #[vR (a1), vR (x1), vR (ea), vI ((0 : Int32))] [(.int (0 : Int32)), (.int (0 : Int32))] (fun _ k => X0.arraylength hx (cell := cl101) (by rw [e0]; exact Ar101.1) (State.isArrayOf_alike hZ.alike Ar101.2.1) (g := (mkF m 2 #[vR (a1), vR (x1), vR (ea), vI ((0 : Int32))] [(.ref ea), (.int (0 : Int32))])) rfl (rest := [(.int (0 : Int32))]) rfl (hb hby q1l) _ (by rw [len_of S101 M101]; exact k)) ?_
  refine gs m s₁ 6 #[vR (a1), vR (x1), vR (ea), vI ((0 : Int32))] [] (fun _ k => XS.icmpNo X0.here hx rfl (hb hby q1m) rfl (teq (by decide : (0 : Int32) = (0 : Int32))).2 k) ?_
  refine gs m s₁ 7 #[vR (a1), vR (x1), vR (ea), vI ((0 : Int32))] [(.ref a1)] (fun _ k => XS.aloadN X0.here hx rfl (hb hby q1n) rfl rfl k) ?_
  obtain ⟨cq102, q102, q102'⟩ := f0.cell
  obtain ⟨_, _, ⟨T102, L102, k102, n102⟩, -, X102, ⟨Lc102, hQ102, l102, y102, z102⟩, st102⟩ := X0.privateBack hx (y := (⟨"java/util/ArrayList", "grow", "()[Ljava/lang/Object;"⟩ : MethodName)) hown (mvT hZ (hwi hw 147 rfl)) (mvT hZ (hwi hw 148 rfl)) (mvT hZ (hwi hw 150 rfl)) (Cond.privateMethod_at (mvP hZ (hwi hw 149 rfl) (args := #[]))) (mvT hZ (hwi hw 151 rfl)) (by decide) (backOf (W := 0) (Q := fun v h L => ∃ b : Addr, ∃ kb : ClassId, (v = some (.ref b)) ∧ (Fr n0 L) ∧ (Keep h0 h [a1]) ∧ (h0.size ≤ b) ∧ (Exa Z h a1 "java/util/ArrayList") ∧ (Fld Z h a1 "java/util/AbstractList" "modCount" "I" (.int mc)) ∧ (Fld Z h a1 "java/util/ArrayList" "elementData" "[Ljava/lang/Object;" (.ref b)) ∧ (Fld Z h a1 "java/util/ArrayList" "size" "I" (.int (0 : Int32))) ∧ (Exa Z h b "[Ljava/lang/Object;") ∧ (Arv Z h b kb (.object "java/lang/Object") (10 : Int32) [.null, .null, .null, .null, .null, .null, .null, .null, .null, .null] .null) ∧ (Ovr Z kb "java/lang/Object")) (own_grow l Z a0 hw [] a1 ea ke mc h0 n0 Z0 f0 f1 f2 f3 f4 f5 f6 f7) hZ (hwi hw 151 rfl) (hwi hw 12 rfl) (by decide) (by decide)) (g := (mkF m 7 #[vR (a1), vR (x1), vR (ea), vI ((0 : Int32))] [(.ref a1)])) rfl (by rw [hml]; rfl) (Steps.refl _) (a := a1) (by rw [e0]; exact q102) q102' (argsL := []) (rest := []) (lenOf own_pd3 rfl) rfl (by show 2 * 0 + _ ≤ _; exact Nat.le_of_eq rfl) (hb hby q1o) (fun _ _ => ⟨rfl, e0, (by decide : 0 + 1 ≤ _), (by decide : 0 + 10 ≤ _)⟩)
  dsimp only [Pt.U, Pt.locs, Pt.cells, Pt.slots] at X102 l102 y102 z102 st102 hQ102
  subst l102 y102 z102
  obtain ⟨b_102, kb_102, rfl, N102q, K102, lt102_0, P102_0, P102_1, P102_2, P102_3, P102_4, P102_5, R102_0⟩ := hQ102
  have N102 := Fr.app N0 N102q
  have ne103 : a1 ≠ b_102 := Nat.ne_of_lt (Nat.lt_of_lt_of_le f0.lt lt102_0)
  have ne104 : ea ≠ b_102 := Nat.ne_of_lt (Nat.lt_of_lt_of_le f6.lt lt102_0)
  have ne105 : x1 ≠ b_102 := Nat.ne_of_lt (Nat.lt_of_lt_of_le f8.lt lt102_0)
  have ge106 : n0 ≤ b_102 := Nat.le_trans Z0 lt102_0
  have sz107 : h0.size ≤ b_102 := Nat.le_trans K0.1 lt102_0
  have KK102 := K0.trans K102 (allS (Or.inl (List.mem_of_getElem? (i := 0) rfl)) all0)
  have Z102 : n0 ≤ T102.heap.size := Nat.le_trans Z0 K102.1
  have F108 := f0.keep K102
  have F109 := own_sta_keep f5 K102 (allS (own_plain f0) all0)
  have F110 := f6.keep K102 (ninS f7 nin0)
  have F111 := f8.keep K102
  refine gs m T102 10 #[vR (a1), vR (x1), vR (ea), vI ((0 : Int32))] [(.ref b_102)] (fun _ k => st102.trans k) ?_
  refine gs m T102 11 #[vR (a1), vR (x1), vR (b_102), vI ((0 : Int32))] [] (fun _ k => XS.astoreN X102.here hx rfl (hb hby q1p) rfl rfl (l' := #[vR (a1), vR (x1), vR (b_102), vI ((0 : Int32))]) rfl k) ?_
  refine gs m T102 12 #[vR (a1), vR (x1), vR (b_102), vI ((0 : Int32))] [(.ref b_102)] (fun _ k => XS.aloadN X102.here hx rfl (hb hby q1q) rfl rfl k) ?_
  refine gs m T102 13 #[vR (a1), vR (x1), vR (b_102), vI ((0 : Int32))] [(.int (0 : Int32)), (.ref b_102)] (fun _ k => XS.iloadN X102.here hx rfl (hb hby q1r) rfl  k) ?_
  refine gs m T102 14 #[vR (a1), vR (x1), vR (b_102), vI ((0 : Int32))] [(.ref x1), (.int (0 : Int32)), (.ref b_102)] (fun _ k => XS.aloadN X102.here hx rfl (hb hby q1s) rfl rfl k) ?_
  obtain ⟨cl112, Ar112, q112, S112, M112, H112, G112⟩ := id P102_5
  obtain ⟨T112, h112, X112, e112, W112, st112⟩ := stR X102 hx hZ rfl Ar112 (j := (0 : Int32)) (inb_of S112 (by decide)) rfl (Sto.ofV Ar112 q112 R102_0 (Ins.of_exa F111 (hwi hw 163 rfl))) (g := (mkF m 14 #[vR (a1), vR (x1), vR (b_102), vI ((0 : Int32))] [(.ref x1), (.int (0 : Int32)), (.ref b_102)])) rfl rfl (hb hby q1t)
  have V112 : Arv Z h112 b_102 kb_102 (.object "java/lang/Object") (10 : Int32) [(.ref x1), .null, .null, .null, .null, .null, .null, .null, .null, .null] .null := Arv.set Ar112 q112 S112 M112 H112 G112 rfl W112 0 rfl (by show 0 < 10; decide)
  have N112 := Fr.snoc X112 N102 ge106
  have Z112 : n0 ≤ h112.size := Nat.le_trans Z102 (Keep.of_wr W112).1
  have K112 := KK102.wr W112 (Or.inr sz107)
  have F113 := P102_0.wr W112
  have F114 := F109.wr W112
  have F115 := F110.other W112 ne104
  have F116 := F111.wr W112
  have F117 := P102_1.other W112 (Or.inl ne103)
  have F118 := P102_2.other W112 (Or.inl ne103)
  have F119 := P102_3.other W112 (Or.inl ne103)
  have F120 := P102_4.wr W112
  refine gs m T112 15 #[vR (a1), vR (x1), vR (b_102), vI ((0 : Int32))] [] st112 ?_
  refine gs m T112 16 #[vR (a1), vR (x1), vR (b_102), vI ((0 : Int32))] [(.ref a1)] (fun _ k => XS.aloadN X112.here hx rfl (hb hby q1u) rfl rfl k) ?_
  refine gs m T112 17 #[vR (a1), vR (x1), vR (b_102), vI ((0 : Int32))] [(.int (0 : Int32)), (.ref a1)] (fun _ k => XS.iloadN X112.here hx rfl (hb hby q1v) rfl  k) ?_
  refine gs m T112 18 #[vR (a1), vR (x1), vR (b_102), vI ((0 : Int32))] [(.int (1 : Int32)), (.int (0 : Int32)), (.ref a1)] (fun _ k => XS.iconst X112.here hx rfl (hb hby q1w) k) ?_
  refine gs m T112 19 #[vR (a1), vR (x1), vR (b_102), vI ((0 : Int32))] [(.int (1 : Int32)), (.ref a1)] (fun _ k => XS.iadd X112.here hx rfl (hb hby q1x) rfl k) ?_
  obtain ⟨T121, h121, X121, e121, W121, st121⟩ := putF X112 hx hZ hown (host := "") (Or.inl (hwi hw 70 rfl)) Via.refl e112 F119 F113 (Or.inl (hwi hw 71 rfl)) (hwi hw 11 rfl) (ty := .int) (by decide) rfl rfl (g := (mkF m 19 #[vR (a1), vR (x1), vR (b_102), vI ((0 : Int32))] [(.int (1 : Int32)), (.ref a1)])) rfl rfl (hb hby q1y)
  have N121 := Fr.snoc X121 N112 f1
  have Z121 : n0 ≤ h121.size := Nat.le_trans Z112 (Keep.of_wr W121).1
  have K121 := K112.wr W121 (Or.inl (List.mem_of_getElem? (i := 0) rfl))
  have F122 := F113.wr W121
  have F123 := F114.wr W121
  have F124 := F115.other W121 f7
  have F125 := F116.wr W121
  have F126 := F117.other W121 (Or.inr (slot_ne (Or.inl (hwi hw 32 rfl)) (Or.inl (hwi hw 71 rfl)) (by decide) (t := .int) (t' := .int) (by decide) (by decide)))
  have F127 := F118.other W121 (Or.inr (slot_ne (Or.inl (hwi hw 35 rfl)) (Or.inl (hwi hw 71 rfl)) (by decide) (t := (.array (.object "java/lang/Object"))) (t' := .int) (by decide) (by decide)))
  have F128 := F120.wr W121
  have F129 := V112.other W121 (Ne.symm ne103)
  have F130 := F119.same W121
  refine gs m T121 22 #[vR (a1), vR (x1), vR (b_102), vI ((0 : Int32))] [] st121 ?_
  exact Go.retV X121 hx hret hlk (hb hby q1z) (by rw [e121]; exact ⟨b_102, kb_102, rfl, N121, K121, sz107, F122, F126, F127, F130, F128, F129, R102_0⟩) (by decide) (by decide)
theorem own_ef_jdk_38_method_25_code_RR (m : MethodId) (x0 : Addr) (x1 : Addr) : entryFrame m #[(.ref x0), (.ref x1)] 2 = mkF m 0 #[vR (x0), vR (x1)] [] := by first | (simp [entryFrame, mkF, argsToLocals, Value.category]; done) | rfl | (simp [entryFrame, mkF, argsToLocals, own_cI, own_cJ, own_cR, own_cN]; done)
theorem q20 : decode jdk_38_method_25_code 0 = .ok (.aload_n 0, 1) := by decide +kernel
theorem q21 : decode jdk_38_method_25_code 1 = .ok (.dup, 1) := by decide +kernel
theorem q22 : decode jdk_38_method_25_code 2 = .ok (.getfield 63, 3) := by decide +kernel
theorem q23 : decode jdk_38_method_25_code 5 = .ok (.iconst 1, 1) := by decide +kernel
theorem q24 : decode jdk_38_method_25_code 6 = .ok (.iadd, 1) := by decide +kernel
theorem q25 : decode jdk_38_method_25_code 7 = .ok (.putfield 63, 3) := by decide +kernel
theorem q26 : decode jdk_38_method_25_code 10 = .ok (.aload_n 0, 1) := by decide +kernel
theorem q27 : decode jdk_38_method_25_code 11 = .ok (.aload_n 1, 1) := by decide +kernel
theorem q28 : decode jdk_38_method_25_code 12 = .ok (.aload_n 0, 1) := by decide +kernel
theorem q29 : decode jdk_38_method_25_code 13 = .ok (.getfield 9, 3) := by decide +kernel
theorem q2a : decode jdk_38_method_25_code 16 = .ok (.aload_n 0, 1) := by decide +kernel
theorem q2b : decode jdk_38_method_25_code 17 = .ok (.getfield 48, 3) := by decide +kernel
theorem q2c : decode jdk_38_method_25_code 20 = .ok (.invokevirtual 131, 3) := by decide +kernel
theorem own_pd4 : parseMethodDescriptor "(Ljava/lang/Object;[Ljava/lang/Object;I)V" = some ⟨[(.object "java/lang/Object"), (.array (.object "java/lang/Object")), .int], none⟩ := by decide +kernel
theorem q2d : decode jdk_38_method_25_code 23 = .ok (.iconst 1, 1) := by decide +kernel
theorem q2e : decode jdk_38_method_25_code 24 = .ok (.ireturn, 1) := by decide +kernel
theorem own_add0 (l : Launch) (Z : State) (a0 : Array Value) (hw : ∀ d ∈ tables_1, d.before a0 Z = true) (ws : List Jvm.Cond) (a1 : Addr) (x1 : Addr) (ea : Addr) (ke : ClassId) (mc : Int32) (h0 : Heap) (n0 : Nat) (Z0 : n0 ≤ h0.size) (f0 : Exa Z h0 a1 "java/util/ArrayList") (f1 : n0 ≤ a1) (f2 : Fld Z h0 a1 "java/util/AbstractList" "modCount" "I" (.int mc)) (f3 : Fld Z h0 a1 "java/util/ArrayList" "elementData" "[Ljava/lang/Object;" (.ref ea)) (f4 : Fld Z h0 a1 "java/util/ArrayList" "size" "I" (.int (0 : Int32))) (f5 : Sta Z h0 "java/util/ArrayList" "DEFAULTCAPACITY_EMPTY_ELEMENTDATA" "[Ljava/lang/Object;" (.ref ea)) (f6 : Arv Z h0 ea ke (.object "java/lang/Object") (0 : Int32) [] .null) (f7 : ea ≠ a1) (f8 : Exa Z h0 x1 "java/time/Duration")  :
    Con l Z (⟨"java/util/ArrayList", "add", "(Ljava/lang/Object;)Z"⟩ : MethodName) jdk_38_method_25_code 2 (some .boolean) ({ frames := 4, cells := 1, slots := 10, locals := 56 } : Room) ws #[(.ref a1), (.ref x1)] h0 (fun v h L => ∃ b : Addr, ∃ kb : ClassId, (v = some (.int (1 : Int32))) ∧ (Fr n0 L) ∧ (Keep h0 h [a1]) ∧ (h0.size ≤ b) ∧ (Exa Z h a1 "java/util/ArrayList") ∧ (Fld Z h a1 "java/util/AbstractList" "modCount" "I" (.int (mc + (1 : Int32)))) ∧ (Fld Z h a1 "java/util/ArrayList" "elementData" "[Ljava/lang/Object;" (.ref b)) ∧ (Fld Z h a1 "java/util/ArrayList" "size" "I" (.int (1 : Int32))) ∧ (Exa Z h b "[Ljava/lang/Object;") ∧ (Arv Z h b kb (.object "java/lang/Object") (10 : Int32) [(.ref x1), .null, .null, .null, .null, .null, .null, .null, .null, .null] .null) ∧ (Ovr Z kb "java/lang/Object")) 1 10 := by
  refine Con.of (plainFor_of_name own_pn_ArrayList) ?_
  intro pgm e s m below meth c s₁ X0 hx hZ hby hml hown hnm hret hlk e0 hs0
  have N0 := Fr.nil n0
  have hown : s.vm.findClass "java/util/ArrayList" = some m.cls := hown
  have hnm : meth.name = "add" := hnm
  refine Go.cast (own_ef_jdk_38_method_25_code_RR m a1 x1) ?_
  have K0 := Keep.refl h0 [a1]
  refine gs m s₁ 1 #[vR (a1), vR (x1)] [(.ref a1)] (fun _ k => XS.aloadN X0.here hx rfl (hb hby q20) rfl rfl k) ?_
  refine gs m s₁ 2 #[vR (a1), vR (x1)] [(.ref a1), (.ref a1)] (fun _ k => XS.dup X0.here hx rfl (hb hby q21) rfl rfl k) ?_
  obtain ⟨T101, X101, e101, st101⟩ := getF X0 hx hZ hown (host := "") (Or.inl (hwi hw 140 rfl)) (Via.of (hwi hw 141 rfl)) e0 f2 (g := (mkF m 2 #[vR (a1), vR (x1)] [(.ref a1), (.ref a1)])) rfl rfl (hb hby q22)
  refine gs m T101 5 #[vR (a1), vR (x1)] [(.int mc), (.ref a1)] st101 ?_
  refine gs m T101 6 #[vR (a1), vR (x1)] [(.int (1 : Int32)), (.int mc), (.ref a1)] (fun _ k => XS.iconst X101.here hx rfl (hb hby q23) k) ?_
  refine gs m T101 7 #[vR (a1), vR (x1)] [(.int (mc + (1 : Int32))), (.ref a1)] (fun _ k => XS.iadd X101.here hx rfl (hb hby q24) rfl k) ?_
  obtain ⟨T102, h102, X102, e102, W102, st102⟩ := putF X101 hx hZ hown (host := "") (Or.inl (hwi hw 140 rfl)) (Via.of (hwi hw 141 rfl)) e101 f2 f0 (Or.inl (hwi hw 32 rfl)) (hwi hw 11 rfl) (ty := .int) (by decide) rfl rfl (g := (mkF m 7 #[vR (a1), vR (x1)] [(.int (mc + (1 : Int32))), (.ref a1)])) rfl rfl (hb hby q25)
  have N102 := Fr.snoc X102 N0 f1
  have Z102 : n0 ≤ h102.size := Nat.le_trans Z0 (Keep.of_wr W102).1
  have K102 := K0.wr W102 (Or.inl (List.mem_of_getElem? (i := 0) rfl))
  have F103 := f0.wr W102
  have F104 := f3.other W102 (Or.inr (slot_ne (Or.inl (hwi hw 35 rfl)) (Or.inl (hwi hw 32 rfl)) (by decide) (t := (.array (.object "java/lang/Object"))) (t' := .int) (by decide) (by decide)))
  have F105 := f4.other W102 (Or.inr (slot_ne (Or.inl (hwi hw 71 rfl)) (Or.inl (hwi hw 32 rfl)) (by decide) (t := .int) (t' := .int) (by decide) (by decide)))
  have F106 := f5.wr W102
  have F107 := f6.other W102 f7
  have F108 := f8.wr W102
  have F109 := f2.same W102
  refine gs m T102 10 #[vR (a1), vR (x1)] [] st102 ?_
  refine gs m T102 11 #[vR (a1), vR (x1)] [(.ref a1)] (fun _ k => XS.aloadN X102.here hx rfl (hb hby q26) rfl rfl k) ?_
  refine gs m T102 12 #[vR (a1), vR (x1)] [(.ref x1), (.ref a1)] (fun _ k => XS.aloadN X102.here hx rfl (hb hby q27) rfl rfl k) ?_
  refine gs m T102 13 #[vR (a1), vR (x1)] [(.ref a1), (.ref x1), (.ref a1)] (fun _ k => XS.aloadN X102.here hx rfl (hb hby q28) rfl rfl k) ?_
  obtain ⟨T110, X110, e110, st110⟩ := getF X102 hx hZ hown (host := "") (Or.inl (hwi hw 34 rfl)) Via.refl e102 F104 (g := (mkF m 13 #[vR (a1), vR (x1)] [(.ref a1), (.ref x1), (.ref a1)])) rfl rfl (hb hby q29)
  refine gs m T110 16 #[vR (a1), vR (x1)] [(.ref ea), (.ref x1), (.ref a1)] st110 ?_
  refine gs m T110 17 #[vR (a1), vR (x1)] [(.ref a1), (.ref ea), (.ref x1), (.ref a1)] (fun _ k => XS.aloadN X110.here hx rfl (hb hby q2a) rfl rfl k) ?_
  obtain ⟨T111, X111, e111, st111⟩ := getF X110 hx hZ hown (host := "") (Or.inl (hwi hw 70 rfl)) Via.refl e110 F105 (g := (mkF m 17 #[vR (a1), vR (x1)] [(.ref a1), (.ref ea), (.ref x1), (.ref a1)])) rfl rfl (hb hby q2b)
  refine gs m T111 20 #[vR (a1), vR (x1)] [(.int (0 : Int32)), (.ref ea), (.ref x1), (.ref a1)] st111 ?_
  obtain ⟨cq112, q112, q112'⟩ := F103.cell
  obtain ⟨_, _, ⟨T112, L112, k112, n112⟩, -, X112, ⟨Lc112, hQ112, l112, y112, z112⟩, st112⟩ := X111.privateBack hx (y := (⟨"java/util/ArrayList", "add", "(Ljava/lang/Object;[Ljava/lang/Object;I)V"⟩ : MethodName)) hown (mvT hZ (hwi hw 142 rfl)) (mvT hZ (hwi hw 143 rfl)) (mvT hZ (hwi hw 145 rfl)) (Cond.privateMethod_at (mvP hZ (hwi hw 144 rfl) (args := #[]))) (mvT hZ (hwi hw 146 rfl)) (by decide) (backOf (W := 0) (Q := fun v h L => ∃ b : Addr, ∃ kb : ClassId, (v = none) ∧ (Fr n0 L) ∧ (Keep h102 h [a1]) ∧ (h102.size ≤ b) ∧ (Exa Z h a1 "java/util/ArrayList") ∧ (Fld Z h a1 "java/util/AbstractList" "modCount" "I" (.int (mc + (1 : Int32)))) ∧ (Fld Z h a1 "java/util/ArrayList" "elementData" "[Ljava/lang/Object;" (.ref b)) ∧ (Fld Z h a1 "java/util/ArrayList" "size" "I" (.int (1 : Int32))) ∧ (Exa Z h b "[Ljava/lang/Object;") ∧ (Arv Z h b kb (.object "java/lang/Object") (10 : Int32) [(.ref x1), .null, .null, .null, .null, .null, .null, .null, .null, .null] .null) ∧ (Ovr Z kb "java/lang/Object")) (own_addh0 l Z a0 hw [] a1 x1 ea ke (mc + (1 : Int32)) h102 n0 Z102 F103 f1 F109 F104 F105 F106 F107 f7 F108) hZ (hwi hw 146 rfl) (hwi hw 12 rfl) (by decide) (by decide)) (g := (mkF m 20 #[vR (a1), vR (x1)] [(.int (0 : Int32)), (.ref ea), (.ref x1), (.ref a1)])) rfl (by rw [hml]; rfl) (Steps.refl _) (a := a1) (by rw [e111]; exact q112) q112' (argsL := [(.ref x1), (.ref ea), (.int (0 : Int32))]) (rest := []) (lenOf own_pd4 rfl) rfl (by show 2 * 0 + _ ≤ _; exact Nat.le_of_eq rfl) (hb hby q2c) (fun _ _ => ⟨rfl, e111, (by decide : 0 + 1 ≤ _), (by decide : 0 + 10 ≤ _)⟩)
  dsimp only [Pt.U, Pt.locs, Pt.cells, Pt.slots] at X112 l112 y112 z112 st112 hQ112
  subst l112 y112 z112
  obtain ⟨b_112, kb_112, rfl, N112q, K112, lt112_0, P112_0, P112_1, P112_2, P112_3, P112_4, P112_5, R112_0⟩ := hQ112
  have N112 := Fr.app N102 N112q
  have ne113 : a1 ≠ b_112 := Nat.ne_of_lt (Nat.lt_of_lt_of_le F103.lt lt112_0)
  have ne114 : ea ≠ b_112 := Nat.ne_of_lt (Nat.lt_of_lt_of_le F107.lt lt112_0)
  have ne115 : x1 ≠ b_112 := Nat.ne_of_lt (Nat.lt_of_lt_of_le F108.lt lt112_0)
  have ge116 : n0 ≤ b_112 := Nat.le_trans Z102 lt112_0
  have sz117 : h0.size ≤ b_112 := Nat.le_trans K102.1 lt112_0
  have KK112 := K102.trans K112 (allS (Or.inl (List.mem_of_getElem? (i := 0) rfl)) all0)
  have Z112 : n0 ≤ T112.heap.size := Nat.le_trans Z102 K112.1
  have F118 := F103.keep K112
  have F119 := own_sta_keep F106 K112 (allS (own_plain F103) all0)
  have F120 := F107.keep K112 (ninS f7 nin0)
  have F121 := F108.keep K112
  refine gs m T112 23 #[vR (a1), vR (x1)] [] (fun _ k => st112.trans k) ?_
  refine gs m T112 24 #[vR (a1), vR (x1)] [(.int (1 : Int32))] (fun _ k => XS.iconst X112.here hx rfl (hb hby q2d) k) ?_
  exact Go.retN X112 hx (t := .boolean) hret hlk (by simp) (hb hby q2e) (⟨b_112, kb_112, rfl, N112, KK112, sz117, P112_0, P112_1, P112_2, P112_3, P112_4, P112_5, R112_0⟩) (by decide) (by decide)
theorem own_addh1 (l : Launch) (Z : State) (a0 : Array Value) (hw : ∀ d ∈ tables_1, d.before a0 Z = true) (ws : List Jvm.Cond) (a1 : Addr) (x2 : Addr) (b1 : Addr) (k1 : ClassId) (mc : Int32) (x1 : Addr) (h0 : Heap) (n0 : Nat) (Z0 : n0 ≤ h0.size) (f0 : Exa Z h0 a1 "java/util/ArrayList") (f1 : n0 ≤ a1) (f2 : Fld Z h0 a1 "java/util/AbstractList" "modCount" "I" (.int mc)) (f3 : Fld Z h0 a1 "java/util/ArrayList" "elementData" "[Ljava/lang/Object;" (.ref b1)) (f4 : Fld Z h0 a1 "java/util/ArrayList" "size" "I" (.int (1 : Int32))) (f5 : Exa Z h0 b1 "[Ljava/lang/Object;") (f6 : n0 ≤ b1) (f7 : a1 ≠ b1) (f8 : Arv Z h0 b1 k1 (.object "java/lang/Object") (10 : Int32) [(.ref x1), .null, .null, .null, .null, .null, .null, .null, .null, .null] .null) (f9 : Exa Z h0 x2 "java/time/Duration") (ov1 : Ovr Z k1 "java/lang/Object") :
    Con l Z (⟨"java/util/ArrayList", "add", "(Ljava/lang/Object;[Ljava/lang/Object;I)V"⟩ : MethodName) jdk_38_method_24_code 4 none ({ frames := 0, cells := 0, slots := 0, locals := 0 } : Room) ws #[(.ref a1), (.ref x2), (.ref b1), (.int (1 : Int32))] h0 (fun v h L => (v = none) ∧ (Fr n0 L) ∧ (Keep h0 h [a1, b1]) ∧ (Exa Z h a1 "java/util/ArrayList") ∧ (Fld Z h a1 "java/util/AbstractList" "modCount" "I" (.int mc)) ∧ (Fld Z h a1 "java/util/ArrayList" "elementData" "[Ljava/lang/Object;" (.ref b1)) ∧ (Fld Z h a1 "java/util/ArrayList" "size" "I" (.int (2 : Int32))) ∧ (Exa Z h b1 "[Ljava/lang/Object;") ∧ (Arv Z h b1 k1 (.object "java/lang/Object") (10 : Int32) [(.ref x1), (.ref x2), .null, .null, .null, .null, .null, .null, .null, .null] .null)) 0 0 := by
  refine Con.of (plainFor_of_name own_pn_ArrayList) ?_
  intro pgm e s m below meth c s₁ X0 hx hZ hby hml hown hnm hret hlk e0 hs0
  have N0 := Fr.nil n0
  have hown : s.vm.findClass "java/util/ArrayList" = some m.cls := hown
  have hnm : meth.name = "add" := hnm
  refine Go.cast (own_ef_jdk_38_method_24_code_RRRI m a1 x2 b1 (1 : Int32)) ?_
  have K0 := Keep.refl h0 [a1, b1]
  refine gs m s₁ 1 #[vR (a1), vR (x2), vR (b1), vI ((1 : Int32))] [(.int (1 : Int32))] (fun _ k => XS.iloadN X0.here hx rfl (hb hby q1j) rfl  k) ?_
  refine gs m s₁ 2 #[vR (a1), vR (x2), vR (b1), vI ((1 : Int32))] [(.ref b1), (.int (1 : Int32))] (fun _ k => XS.aloadN X0.here hx rfl (hb hby q1k) rfl rfl k) ?_
  obtain ⟨cl101, Ar101, -, S101, M101, -, -⟩ := id f8
  refine gs m s₁ 3 #[vR (a1), vR (x2), vR (b1), vI ((1 : Int32))] [(.int (10 : Int32)), (.int (1 : Int32))] (fun _ k => X0.arraylength hx (cell := cl101) (by rw [e0]; exact Ar101.1) (State.isArrayOf_alike hZ.alike Ar101.2.1) (g := (mkF m 2 #[vR (a1), vR (x2), vR (b1), vI ((1 : Int32))] [(.ref b1), (.int (1 : Int32))])) rfl (rest := [(.int (1 : Int32))]) rfl (hb hby q1l) _ (by rw [len_of S101 M101]; exact k)) ?_
  refine gs m s₁ 11 #[vR (a1), vR (x2), vR (b1), vI ((1 : Int32))] [] (fun _ k => XS.icmpYes X0.here hx rfl (pc0 := 3) (pc' := 11) rfl (hb hby q1m) rfl (feq (by decide : ¬ ((1 : Int32) = (10 : Int32)))).2 (by decide) (by decide) k) ?_
  refine gs m s₁ 12 #[vR (a1), vR (x2), vR (b1), vI ((1 : Int32))] [(.ref b1)] (fun _ k => XS.aloadN X0.here hx rfl (hb hby q1q) rfl rfl k) ?_
  refine gs m s₁ 13 #[vR (a1), vR (x2), vR (b1), vI ((1 : Int32))] [(.int (1 : Int32)), (.ref b1)] (fun _ k => XS.iloadN X0.here hx rfl (hb hby q1r) rfl  k) ?_
  refine gs m s₁ 14 #[vR (a1), vR (x2), vR (b1), vI ((1 : Int32))] [(.ref x2), (.int (1 : Int32)), (.ref b1)] (fun _ k => XS.aloadN X0.here hx rfl (hb hby q1s) rfl rfl k) ?_
  obtain ⟨cl102, Ar102, q102, S102, M102, H102, G102⟩ := id f8
  obtain ⟨T102, h102, X102, e102, W102, st102⟩ := stR X0 hx hZ e0 Ar102 (j := (1 : Int32)) (inb_of S102 (by decide)) rfl (Sto.ofV Ar102 q102 ov1 (Ins.of_exa f9 (hwi hw 163 rfl))) (g := (mkF m 14 #[vR (a1), vR (x2), vR (b1), vI ((1 : Int32))] [(.ref x2), (.int (1 : Int32)), (.ref b1)])) rfl rfl (hb hby q1t)
  have V102 : Arv Z h102 b1 k1 (.object "java/lang/Object") (10 : Int32) [(.ref x1), (.ref x2), .null, .null, .null, .null, .null, .null, .null, .null] .null := Arv.set Ar102 q102 S102 M102 H102 G102 rfl W102 1 rfl (by show 1 < 10; decide)
  have N102 := Fr.snoc X102 N0 f6
  have Z102 : n0 ≤ h102.size := Nat.le_trans Z0 (Keep.of_wr W102).1
  have K102 := K0.wr W102 (Or.inl (List.mem_of_getElem? (i := 1) rfl))
  have F103 := f0.wr W102
  have F104 := f2.other W102 (Or.inl f7)
  have F105 := f3.other W102 (Or.inl f7)
  have F106 := f4.other W102 (Or.inl f7)
  have F107 := f5.wr W102
  have F108 := f9.wr W102
  refine gs m T102 15 #[vR (a1), vR (x2), vR (b1), vI ((1 : Int32))] [] st102 ?_
  refine gs m T102 16 #[vR (a1), vR (x2), vR (b1), vI ((1 : Int32))] [(.ref a1)] (fun _ k => XS.aloadN X102.here hx rfl (hb hby q1u) rfl rfl k) ?_
  refine gs m T102 17 #[vR (a1), vR (x2), vR (b1), vI ((1 : Int32))] [(.int (1 : Int32)), (.ref a1)] (fun _ k => XS.iloadN X102.here hx rfl (hb hby q1v) rfl  k) ?_
  refine gs m T102 18 #[vR (a1), vR (x2), vR (b1), vI ((1 : Int32))] [(.int (1 : Int32)), (.int (1 : Int32)), (.ref a1)] (fun _ k => XS.iconst X102.here hx rfl (hb hby q1w) k) ?_
  refine gs m T102 19 #[vR (a1), vR (x2), vR (b1), vI ((1 : Int32))] [(.int (2 : Int32)), (.ref a1)] (fun _ k => XS.iadd X102.here hx rfl (hb hby q1x) rfl k) ?_
  obtain ⟨T109, h109, X109, e109, W109, st109⟩ := putF X102 hx hZ hown (host := "") (Or.inl (hwi hw 70 rfl)) Via.refl e102 F106 F103 (Or.inl (hwi hw 71 rfl)) (hwi hw 11 rfl) (ty := .int) (by decide) rfl rfl (g := (mkF m 19 #[vR (a1), vR (x2), vR (b1), vI ((1 : Int32))] [(.int (2 : Int32)), (.ref a1)])) rfl rfl (hb hby q1y)
  have N109 := Fr.snoc X109 N102 f1
  have Z109 : n0 ≤ h109.size := Nat.le_trans Z102 (Keep.of_wr W109).1
  have K109 := K102.wr W109 (Or.inl (List.mem_of_getElem? (i := 0) rfl))
  have F110 := F103.wr W109
  have F111 := F104.other W109 (Or.inr (slot_ne (Or.inl (hwi hw 32 rfl)) (Or.inl (hwi hw 71 rfl)) (by decide) (t := .int) (t' := .int) (by decide) (by decide)))
  have F112 := F105.other W109 (Or.inr (slot_ne (Or.inl (hwi hw 35 rfl)) (Or.inl (hwi hw 71 rfl)) (by decide) (t := (.array (.object "java/lang/Object"))) (t' := .int) (by decide) (by decide)))
  have F113 := F107.wr W109
  have F114 := F108.wr W109
  have F115 := V102.other W109 (Ne.symm f7)
  have F116 := F106.same W109
  refine gs m T109 22 #[vR (a1), vR (x2), vR (b1), vI ((1 : Int32))] [] st109 ?_
  exact Go.retV X109 hx hret hlk (hb hby q1z) (by rw [e109]; exact ⟨rfl, N109, K109, F110, F111, F112, F116, F113, F115⟩) (by decide) (by decide)
theorem own_add1 (l : Launch) (Z : State) (a0 : Array Value) (hw : ∀ d ∈ tables_1, d.before a0 Z = true) (ws : List Jvm.Cond) (a1 : Addr) (x2 : Addr) (b1 : Addr) (k1 : ClassId) (mc : Int32) (x1 : Addr) (h0 : Heap) (n0 : Nat) (Z0 : n0 ≤ h0.size) (f0 : Exa Z h0 a1 "java/util/ArrayList") (f1 : n0 ≤ a1) (f2 : Fld Z h0 a1 "java/util/AbstractList" "modCount" "I" (.int mc)) (f3 : Fld Z h0 a1 "java/util/ArrayList" "elementData" "[Ljava/lang/Object;" (.ref b1)) (f4 : Fld Z h0 a1 "java/util/ArrayList" "size" "I" (.int (1 : Int32))) (f5 : Exa Z h0 b1 "[Ljava/lang/Object;") (f6 : n0 ≤ b1) (f7 : a1 ≠ b1) (f8 : Arv Z h0 b1 k1 (.object "java/lang/Object") (10 : Int32) [(.ref x1), .null, .null, .null, .null, .null, .null, .null, .null, .null] .null) (f9 : Exa Z h0 x2 "java/time/Duration") (ov1 : Ovr Z k1 "java/lang/Object") :
    Con l Z (⟨"java/util/ArrayList", "add", "(Ljava/lang/Object;)Z"⟩ : MethodName) jdk_38_method_25_code 2 (some .boolean) ({ frames := 1, cells := 0, slots := 0, locals := 15 } : Room) ws #[(.ref a1), (.ref x2)] h0 (fun v h L => (v = some (.int (1 : Int32))) ∧ (Fr n0 L) ∧ (Keep h0 h [a1, b1]) ∧ (Exa Z h a1 "java/util/ArrayList") ∧ (Fld Z h a1 "java/util/AbstractList" "modCount" "I" (.int (mc + (1 : Int32)))) ∧ (Fld Z h a1 "java/util/ArrayList" "elementData" "[Ljava/lang/Object;" (.ref b1)) ∧ (Fld Z h a1 "java/util/ArrayList" "size" "I" (.int (2 : Int32))) ∧ (Exa Z h b1 "[Ljava/lang/Object;") ∧ (Arv Z h b1 k1 (.object "java/lang/Object") (10 : Int32) [(.ref x1), (.ref x2), .null, .null, .null, .null, .null, .null, .null, .null] .null)) 0 0 := by
  refine Con.of (plainFor_of_name own_pn_ArrayList) ?_
  intro pgm e s m below meth c s₁ X0 hx hZ hby hml hown hnm hret hlk e0 hs0
  have N0 := Fr.nil n0
  have hown : s.vm.findClass "java/util/ArrayList" = some m.cls := hown
  have hnm : meth.name = "add" := hnm
  refine Go.cast (own_ef_jdk_38_method_25_code_RR m a1 x2) ?_
  have K0 := Keep.refl h0 [a1, b1]
  refine gs m s₁ 1 #[vR (a1), vR (x2)] [(.ref a1)] (fun _ k => XS.aloadN X0.here hx rfl (hb hby q20) rfl rfl k) ?_
  refine gs m s₁ 2 #[vR (a1), vR (x2)] [(.ref a1), (.ref a1)] (fun _ k => XS.dup X0.here hx rfl (hb hby q21) rfl rfl k) ?_
  obtain ⟨T101, X101, e101, st101⟩ := getF X0 hx hZ hown (host := "") (Or.inl (hwi hw 140 rfl)) (Via.of (hwi hw 141 rfl)) e0 f2 (g := (mkF m 2 #[vR (a1), vR (x2)] [(.ref a1), (.ref a1)])) rfl rfl (hb hby q22)
  refine gs m T101 5 #[vR (a1), vR (x2)] [(.int mc), (.ref a1)] st101 ?_
  refine gs m T101 6 #[vR (a1), vR (x2)] [(.int (1 : Int32)), (.int mc), (.ref a1)] (fun _ k => XS.iconst X101.here hx rfl (hb hby q23) k) ?_
  refine gs m T101 7 #[vR (a1), vR (x2)] [(.int (mc + (1 : Int32))), (.ref a1)] (fun _ k => XS.iadd X101.here hx rfl (hb hby q24) rfl k) ?_
  obtain ⟨T102, h102, X102, e102, W102, st102⟩ := putF X101 hx hZ hown (host := "") (Or.inl (hwi hw 140 rfl)) (Via.of (hwi hw 141 rfl)) e101 f2 f0 (Or.inl (hwi hw 32 rfl)) (hwi hw 11 rfl) (ty := .int) (by decide) rfl rfl (g := (mkF m 7 #[vR (a1), vR (x2)] [(.int (mc + (1 : Int32))), (.ref a1)])) rfl rfl (hb hby q25)
  have N102 := Fr.snoc X102 N0 f1
  have Z102 : n0 ≤ h102.size := Nat.le_trans Z0 (Keep.of_wr W102).1
  have K102 := K0.wr W102 (Or.inl (List.mem_of_getElem? (i := 0) rfl))
  have F103 := f0.wr W102
  have F104 := f3.other W102 (Or.inr (slot_ne (Or.inl (hwi hw 35 rfl)) (Or.inl (hwi hw 32 rfl)) (by decide) (t := (.array (.object "java/lang/Object"))) (t' := .int) (by decide) (by decide)))
  have F105 := f4.other W102 (Or.inr (slot_ne (Or.inl (hwi hw 71 rfl)) (Or.inl (hwi hw 32 rfl)) (by decide) (t := .int) (t' := .int) (by decide) (by decide)))
  have F106 := f5.wr W102
  have F107 := f8.other W102 (Ne.symm f7)
  have F108 := f9.wr W102
  have F109 := f2.same W102
  refine gs m T102 10 #[vR (a1), vR (x2)] [] st102 ?_
  refine gs m T102 11 #[vR (a1), vR (x2)] [(.ref a1)] (fun _ k => XS.aloadN X102.here hx rfl (hb hby q26) rfl rfl k) ?_
  refine gs m T102 12 #[vR (a1), vR (x2)] [(.ref x2), (.ref a1)] (fun _ k => XS.aloadN X102.here hx rfl (hb hby q27) rfl rfl k) ?_
  refine gs m T102 13 #[vR (a1), vR (x2)] [(.ref a1), (.ref x2), (.ref a1)] (fun _ k => XS.aloadN X102.here hx rfl (hb hby q28) rfl rfl k) ?_
  obtain ⟨T110, X110, e110, st110⟩ := getF X102 hx hZ hown (host := "") (Or.inl (hwi hw 34 rfl)) Via.refl e102 F104 (g := (mkF m 13 #[vR (a1), vR (x2)] [(.ref a1), (.ref x2), (.ref a1)])) rfl rfl (hb hby q29)
  refine gs m T110 16 #[vR (a1), vR (x2)] [(.ref b1), (.ref x2), (.ref a1)] st110 ?_
  refine gs m T110 17 #[vR (a1), vR (x2)] [(.ref a1), (.ref b1), (.ref x2), (.ref a1)] (fun _ k => XS.aloadN X110.here hx rfl (hb hby q2a) rfl rfl k) ?_
  obtain ⟨T111, X111, e111, st111⟩ := getF X110 hx hZ hown (host := "") (Or.inl (hwi hw 70 rfl)) Via.refl e110 F105 (g := (mkF m 17 #[vR (a1), vR (x2)] [(.ref a1), (.ref b1), (.ref x2), (.ref a1)])) rfl rfl (hb hby q2b)
  refine gs m T111 20 #[vR (a1), vR (x2)] [(.int (1 : Int32)), (.ref b1), (.ref x2), (.ref a1)] st111 ?_
  obtain ⟨cq112, q112, q112'⟩ := F103.cell
  obtain ⟨_, _, ⟨T112, L112, k112, n112⟩, -, X112, ⟨Lc112, hQ112, l112, y112, z112⟩, st112⟩ := X111.privateBack hx (y := (⟨"java/util/ArrayList", "add", "(Ljava/lang/Object;[Ljava/lang/Object;I)V"⟩ : MethodName)) hown (mvT hZ (hwi hw 142 rfl)) (mvT hZ (hwi hw 143 rfl)) (mvT hZ (hwi hw 145 rfl)) (Cond.privateMethod_at (mvP hZ (hwi hw 144 rfl) (args := #[]))) (mvT hZ (hwi hw 146 rfl)) (by decide) (backOf (W := 0) (Q := fun v h L => (v = none) ∧ (Fr n0 L) ∧ (Keep h102 h [a1, b1]) ∧ (Exa Z h a1 "java/util/ArrayList") ∧ (Fld Z h a1 "java/util/AbstractList" "modCount" "I" (.int (mc + (1 : Int32)))) ∧ (Fld Z h a1 "java/util/ArrayList" "elementData" "[Ljava/lang/Object;" (.ref b1)) ∧ (Fld Z h a1 "java/util/ArrayList" "size" "I" (.int (2 : Int32))) ∧ (Exa Z h b1 "[Ljava/lang/Object;") ∧ (Arv Z h b1 k1 (.object "java/lang/Object") (10 : Int32) [(.ref x1), (.ref x2), .null, .null, .null, .null, .null, .null, .null, .null] .null)) (own_addh1 l Z a0 hw [] a1 x2 b1 k1 (mc + (1 : Int32)) x1 h102 n0 Z102 F103 f1 F109 F104 F105 F106 f6 f7 F107 F108 ov1) hZ (hwi hw 146 rfl) (hwi hw 12 rfl) (by decide) (by decide)) (g := (mkF m 20 #[vR (a1), vR (x2)] [(.int (1 : Int32)), (.ref b1), (.ref x2), (.ref a1)])) rfl (by rw [hml]; rfl) (Steps.refl _) (a := a1) (by rw [e111]; exact q112) q112' (argsL := [(.ref x2), (.ref b1), (.int (1 : Int32))]) (rest := []) (lenOf own_pd4 rfl) rfl (by show 2 * 0 + _ ≤ _; exact Nat.le_of_eq rfl) (hb hby q2c) (fun _ _ => ⟨rfl, e111, (by decide : 0 + 0 ≤ _), (by decide : 0 + 0 ≤ _)⟩)
  dsimp only [Pt.U, Pt.locs, Pt.cells, Pt.slots] at X112 l112 y112 z112 st112 hQ112
  subst l112 y112 z112
  obtain ⟨rfl, N112q, K112, P112_0, P112_1, P112_2, P112_3, P112_4, P112_5⟩ := hQ112
  have N112 := Fr.app N102 N112q
  have KK112 := K102.trans K112 (allS (Or.inl (List.mem_of_getElem? (i := 0) rfl)) (allS (Or.inl (List.mem_of_getElem? (i := 1) rfl)) all0))
  have Z112 : n0 ≤ T112.heap.size := Nat.le_trans Z102 K112.1
  have F113 := F103.keep K112
  have F114 := F106.keep K112
  have F115 := F108.keep K112
  refine gs m T112 23 #[vR (a1), vR (x2)] [] (fun _ k => st112.trans k) ?_
  refine gs m T112 24 #[vR (a1), vR (x2)] [(.int (1 : Int32))] (fun _ k => XS.iconst X112.here hx rfl (hb hby q2d) k) ?_
  exact Go.retN X112 hx (t := .boolean) hret hlk (by simp) (hb hby q2e) (⟨rfl, N112, KK112, P112_0, P112_1, P112_2, P112_3, P112_4, P112_5⟩) (by decide) (by decide)
theorem own_ef_jdk_38_method_9_code_R (m : MethodId) (x0 : Addr) : entryFrame m #[(.ref x0)] 1 = mkF m 0 #[vR (x0)] [] := by first | (simp [entryFrame, mkF, argsToLocals, Value.category]; done) | rfl | (simp [entryFrame, mkF, argsToLocals, own_cI, own_cJ, own_cR, own_cN]; done)
theorem q2f : decode jdk_38_method_9_code 0 = .ok (.aload_n 0, 1) := by decide +kernel
theorem q2g : decode jdk_38_method_9_code 1 = .ok (.getfield 48, 3) := by decide +kernel
theorem q2h : decode jdk_38_method_9_code 4 = .ok (.ifCond .ne 7, 3) := by decide +kernel
theorem q2i : decode jdk_38_method_9_code 7 = .ok (.iconst 1, 1) := by decide +kernel
theorem q2j : decode jdk_38_method_9_code 8 = .ok (.goto 4, 3) := by decide +kernel
theorem q2k : decode jdk_38_method_9_code 12 = .ok (.ireturn, 1) := by decide +kernel
theorem own_ise0 (l : Launch) (Z : State) (a0 : Array Value) (hw : ∀ d ∈ tables_1, d.before a0 Z = true) (ws : List Jvm.Cond) (a1 : Addr) (h0 : Heap) (n0 : Nat) (Z0 : n0 ≤ h0.size) (f0 : Fld Z h0 a1 "java/util/ArrayList" "size" "I" (.int (0 : Int32)))  :
    Con l Z (⟨"java/util/ArrayList", "isEmpty", "()Z"⟩ : MethodName) jdk_38_method_9_code 1 (some .boolean) ({ frames := 0, cells := 0, slots := 0, locals := 0 } : Room) ws #[(.ref a1)] h0 (Qret (some (.int (1 : Int32))) h0 n0) 0 0 := by
  refine Con.of (plainFor_of_name own_pn_ArrayList) ?_
  intro pgm e s m below meth c s₁ X0 hx hZ hby hml hown hnm hret hlk e0 hs0
  have N0 := Fr.nil n0
  have hown : s.vm.findClass "java/util/ArrayList" = some m.cls := hown
  have hnm : meth.name = "isEmpty" := hnm
  refine Go.cast (own_ef_jdk_38_method_9_code_R m a1) ?_
  refine gs m s₁ 1 #[vR (a1)] [(.ref a1)] (fun _ k => XS.aloadN X0.here hx rfl (hb hby q2f) rfl rfl k) ?_
  obtain ⟨T101, X101, e101, st101⟩ := getF X0 hx hZ hown (host := "") (Or.inl (hwi hw 70 rfl)) Via.refl e0 f0 (g := (mkF m 1 #[vR (a1)] [(.ref a1)])) rfl rfl (hb hby q2g)
  refine gs m T101 4 #[vR (a1)] [(.int (0 : Int32))] st101 ?_
  refine gs m T101 7 #[vR (a1)] [] (fun _ k => XS.ifNo X101.here hx rfl (hb hby q2h) rfl ((if0 _ _).trans (teq (by decide : (0 : Int32) = (0 : Int32))).2) k) ?_
  refine gs m T101 8 #[vR (a1)] [(.int (1 : Int32))] (fun _ k => XS.iconst X101.here hx rfl (hb hby q2i) k) ?_
  refine gs m T101 12 #[vR (a1)] [(.int (1 : Int32))] (fun _ k => XS.goto X101.here hx rfl (pc0 := 8) (pc' := 12) rfl (hb hby q2j) (by decide) (by decide) k) ?_
  exact Go.retN X101 hx (t := .boolean) hret hlk (by simp) (hb hby q2k) (⟨rfl, N0, e101⟩) (by decide) (by decide)
theorem q2l : decode jdk_38_method_9_code 11 = .ok (.iconst 0, 1) := by decide +kernel
theorem own_ise1 (l : Launch) (Z : State) (a0 : Array Value) (hw : ∀ d ∈ tables_1, d.before a0 Z = true) (ws : List Jvm.Cond) (a1 : Addr) (h0 : Heap) (n0 : Nat) (Z0 : n0 ≤ h0.size) (f0 : Fld Z h0 a1 "java/util/ArrayList" "size" "I" (.int (1 : Int32)))  :
    Con l Z (⟨"java/util/ArrayList", "isEmpty", "()Z"⟩ : MethodName) jdk_38_method_9_code 1 (some .boolean) ({ frames := 0, cells := 0, slots := 0, locals := 0 } : Room) ws #[(.ref a1)] h0 (Qret (some (.int (0 : Int32))) h0 n0) 0 0 := by
  refine Con.of (plainFor_of_name own_pn_ArrayList) ?_
  intro pgm e s m below meth c s₁ X0 hx hZ hby hml hown hnm hret hlk e0 hs0
  have N0 := Fr.nil n0
  have hown : s.vm.findClass "java/util/ArrayList" = some m.cls := hown
  have hnm : meth.name = "isEmpty" := hnm
  refine Go.cast (own_ef_jdk_38_method_9_code_R m a1) ?_
  refine gs m s₁ 1 #[vR (a1)] [(.ref a1)] (fun _ k => XS.aloadN X0.here hx rfl (hb hby q2f) rfl rfl k) ?_
  obtain ⟨T101, X101, e101, st101⟩ := getF X0 hx hZ hown (host := "") (Or.inl (hwi hw 70 rfl)) Via.refl e0 f0 (g := (mkF m 1 #[vR (a1)] [(.ref a1)])) rfl rfl (hb hby q2g)
  refine gs m T101 4 #[vR (a1)] [(.int (1 : Int32))] st101 ?_
  refine gs m T101 11 #[vR (a1)] [] (fun _ k => XS.ifYes X101.here hx rfl (pc0 := 4) (pc' := 11) rfl (hb hby q2h) rfl ((if0 _ _).trans (feq (by decide : ¬ ((1 : Int32) = (0 : Int32)))).2) (by decide) (by decide) k) ?_
  refine gs m T101 12 #[vR (a1)] [(.int (0 : Int32))] (fun _ k => XS.iconst X101.here hx rfl (hb hby q2l) k) ?_
  exact Go.retN X101 hx (t := .boolean) hret hlk (by simp) (hb hby q2k) (⟨rfl, N0, e101⟩) (by decide) (by decide)
theorem own_ise2 (l : Launch) (Z : State) (a0 : Array Value) (hw : ∀ d ∈ tables_1, d.before a0 Z = true) (ws : List Jvm.Cond) (a1 : Addr) (h0 : Heap) (n0 : Nat) (Z0 : n0 ≤ h0.size) (f0 : Fld Z h0 a1 "java/util/ArrayList" "size" "I" (.int (2 : Int32)))  :
    Con l Z (⟨"java/util/ArrayList", "isEmpty", "()Z"⟩ : MethodName) jdk_38_method_9_code 1 (some .boolean) ({ frames := 0, cells := 0, slots := 0, locals := 0 } : Room) ws #[(.ref a1)] h0 (Qret (some (.int (0 : Int32))) h0 n0) 0 0 := by
  refine Con.of (plainFor_of_name own_pn_ArrayList) ?_
  intro pgm e s m below meth c s₁ X0 hx hZ hby hml hown hnm hret hlk e0 hs0
  have N0 := Fr.nil n0
  have hown : s.vm.findClass "java/util/ArrayList" = some m.cls := hown
  have hnm : meth.name = "isEmpty" := hnm
  refine Go.cast (own_ef_jdk_38_method_9_code_R m a1) ?_
  refine gs m s₁ 1 #[vR (a1)] [(.ref a1)] (fun _ k => XS.aloadN X0.here hx rfl (hb hby q2f) rfl rfl k) ?_
  obtain ⟨T101, X101, e101, st101⟩ := getF X0 hx hZ hown (host := "") (Or.inl (hwi hw 70 rfl)) Via.refl e0 f0 (g := (mkF m 1 #[vR (a1)] [(.ref a1)])) rfl rfl (hb hby q2g)
  refine gs m T101 4 #[vR (a1)] [(.int (2 : Int32))] st101 ?_
  refine gs m T101 11 #[vR (a1)] [] (fun _ k => XS.ifYes X101.here hx rfl (pc0 := 4) (pc' := 11) rfl (hb hby q2h) rfl ((if0 _ _).trans (feq (by decide : ¬ ((2 : Int32) = (0 : Int32)))).2) (by decide) (by decide) k) ?_
  refine gs m T101 12 #[vR (a1)] [(.int (0 : Int32))] (fun _ k => XS.iconst X101.here hx rfl (hb hby q2l) k) ?_
  exact Go.retN X101 hx (t := .boolean) hret hlk (by simp) (hb hby q2k) (⟨rfl, N0, e101⟩) (by decide) (by decide)
theorem own_ef_jdk_40_method_36_code_ (m : MethodId)  : entryFrame m #[] 0 = mkF m 0 #[] [] := by first | (simp [entryFrame, mkF, argsToLocals, Value.category]; done) | rfl | (simp [entryFrame, mkF, argsToLocals, own_cI, own_cJ, own_cR, own_cN]; done)
theorem own_pn_List : plainName "java/util/List" = true := by first | (simp [plainName, overriddenIn]; done) | decide +kernel
theorem q2m : decode jdk_40_method_36_code 0 = .ok (.getstatic 90, 3) := by decide +kernel
theorem q2n : decode jdk_40_method_36_code 3 = .ok (.areturn, 1) := by decide +kernel
theorem own_of0 (l : Launch) (Z : State) (a0 : Array Value) (hw : ∀ d ∈ tables_1, d.before a0 Z = true) (ws : List Jvm.Cond) (el : Addr) (h0 : Heap) (n0 : Nat) (Z0 : n0 ≤ h0.size) (f0 : Sta Z h0 "java/util/ImmutableCollections" "EMPTY_LIST" "Ljava/util/ImmutableCollections$ListN;" (.ref el))  :
    Con l Z (⟨"java/util/List", "of", "()Ljava/util/List;"⟩ : MethodName) jdk_40_method_36_code 0 (some (.object "java/util/List")) ({ frames := 0, cells := 0, slots := 0, locals := 0 } : Room) ws #[] h0 (Qret (some (.ref el)) h0 n0) 0 0 := by
  refine Con.of (plainFor_of_name own_pn_List) ?_
  intro pgm e s m below meth c s₁ X0 hx hZ hby hml hown hnm hret hlk e0 hs0
  have N0 := Fr.nil n0
  have hown : s.vm.findClass "java/util/List" = some m.cls := hown
  have hnm : meth.name = "of" := hnm
  refine Go.cast (own_ef_jdk_40_method_36_code_ m ) ?_
  obtain ⟨T101, X101, e101, st101⟩ := getS2 X0 hx hZ hown (host := "") (Or.inl (hwi hw 75 rfl)) Via.refl e0 f0 (g := (mkF m 0 #[] [])) rfl (hb hby q2m)
  refine gs m T101 3 #[] [(.ref el)] st101 ?_
  exact Go.retA X101 hx (t := (.object "java/util/List")) hret rfl hlk rfl (hb hby q2n) (⟨rfl, N0, e101⟩) (by decide) (by decide)
theorem own_ef_jdk_38_method_16_code_R (m : MethodId) (x0 : Addr) : entryFrame m #[(.ref x0)] 1 = mkF m 0 #[vR (x0)] [] := by first | (simp [entryFrame, mkF, argsToLocals, Value.category]; done) | rfl | (simp [entryFrame, mkF, argsToLocals, own_cI, own_cJ, own_cR, own_cN]; done)
theorem q2o : decode jdk_38_method_16_code 0 = .ok (.aload_n 0, 1) := by decide +kernel
theorem q2p : decode jdk_38_method_16_code 1 = .ok (.getfield 9, 3) := by decide +kernel
theorem q2q : decode jdk_38_method_16_code 4 = .ok (.aload_n 0, 1) := by decide +kernel
theorem q2r : decode jdk_38_method_16_code 5 = .ok (.getfield 48, 3) := by decide +kernel
theorem q2s : decode jdk_38_method_16_code 8 = .ok (.invokestatic 66, 3) := by decide +kernel
theorem own_pd5 : parseMethodDescriptor "([Ljava/lang/Object;I)[Ljava/lang/Object;" = some ⟨[(.array (.object "java/lang/Object")), .int], some (.array (.object "java/lang/Object"))⟩ := by decide +kernel
theorem q2t : decode jdk_38_method_16_code 11 = .ok (.areturn, 1) := by decide +kernel
theorem own_toa1 (l : Launch) (Z : State) (a0 : Array Value) (hw : ∀ d ∈ tables_1, d.before a0 Z = true) (ws : List Jvm.Cond) (a1 : Addr) (b1 : Addr) (k1 : ClassId) (x1 : Addr) (s1 : Int64) (h0 : Heap) (n0 : Nat) (Z0 : n0 ≤ h0.size) (f0 : Exa Z h0 a1 "java/util/ArrayList") (f1 : Fld Z h0 a1 "java/util/ArrayList" "elementData" "[Ljava/lang/Object;" (.ref b1)) (f2 : Fld Z h0 a1 "java/util/ArrayList" "size" "I" (.int (1 : Int32))) (f3 : Exa Z h0 b1 "[Ljava/lang/Object;") (f4 : Arv Z h0 b1 k1 (.object "java/lang/Object") (10 : Int32) [(.ref x1), .null, .null, .null, .null, .null, .null, .null, .null, .null] .null) (f5 : Exa Z h0 x1 "java/time/Duration") (f6 : Fld Z h0 x1 "java/time/Duration" "seconds" "J" (.long s1)) (ov1 : Ovr Z k1 "java/lang/Object") (MM : MirrorMade Z "[Ljava/lang/Object;") :
    Con l Z (⟨"java/util/ArrayList", "toArray", "()[Ljava/lang/Object;"⟩ : MethodName) jdk_38_method_16_code 1 (some (.array (.object "java/lang/Object"))) ({ frames := 4, cells := 1, slots := 1, locals := 77 } : Room) ws #[(.ref a1)] h0 (fun v h L => ∃ b : Addr, ∃ kb : ClassId, (v = some (.ref b)) ∧ (Fr n0 L) ∧ (Keep h0 h []) ∧ (h0.size ≤ b) ∧ (Exa Z h b "[Ljava/lang/Object;") ∧ (Arv Z h b kb (.object "java/lang/Object") (1 : Int32) [(.ref x1)] .null)) 1 1 := by
  refine Con.of (plainFor_of_name own_pn_ArrayList) ?_
  intro pgm e s m below meth c s₁ X0 hx hZ hby hml hown hnm hret hlk e0 hs0
  have N0 := Fr.nil n0
  have hown : s.vm.findClass "java/util/ArrayList" = some m.cls := hown
  have hnm : meth.name = "toArray" := hnm
  refine Go.cast (own_ef_jdk_38_method_16_code_R m a1) ?_
  have K0 := Keep.refl h0 []
  refine gs m s₁ 1 #[vR (a1)] [(.ref a1)] (fun _ k => XS.aloadN X0.here hx rfl (hb hby q2o) rfl rfl k) ?_
  obtain ⟨T101, X101, e101, st101⟩ := getF X0 hx hZ hown (host := "") (Or.inl (hwi hw 34 rfl)) Via.refl e0 f1 (g := (mkF m 1 #[vR (a1)] [(.ref a1)])) rfl rfl (hb hby q2p)
  refine gs m T101 4 #[vR (a1)] [(.ref b1)] st101 ?_
  refine gs m T101 5 #[vR (a1)] [(.ref a1), (.ref b1)] (fun _ k => XS.aloadN X101.here hx rfl (hb hby q2q) rfl rfl k) ?_
  obtain ⟨T102, X102, e102, st102⟩ := getF X101 hx hZ hown (host := "") (Or.inl (hwi hw 70 rfl)) Via.refl e101 f2 (g := (mkF m 5 #[vR (a1)] [(.ref a1), (.ref b1)])) rfl rfl (hb hby q2r)
  refine gs m T102 8 #[vR (a1)] [(.int (1 : Int32)), (.ref b1)] st102 ?_
  obtain ⟨_, _, ⟨T103, L103, k103, n103⟩, -, X103, ⟨Lc103, hQ103, l103, y103, z103⟩, st103⟩ := Jvm.LawKit.callS X102 hx (y := (⟨"java/util/Arrays", "copyOf", "([Ljava/lang/Object;I)[Ljava/lang/Object;"⟩ : MethodName)) hown (mvT hZ (hwi hw 183 rfl)) (mvT hZ (hwi hw 184 rfl)) (mvT hZ (hwi hw 185 rfl)) (mvT hZ (hwi hw 186 rfl)) (by decide) (own_cp2 (W := 0) (n := 1) (n0 := n0) (a0 := #[]) hZ (own_tabS (State.Warmed39.refl Z) hw) (own_tabS hZ hw) MM f4 f3 ov1 (fun i => match i with | 0 => Or.inr ⟨x1, rfl, Ins.of_exa f5 (hwi hw 163 rfl)⟩ | 1 => Or.inl rfl | 2 => Or.inl rfl | 3 => Or.inl rfl | 4 => Or.inl rfl | 5 => Or.inl rfl | 6 => Or.inl rfl | 7 => Or.inl rfl | 8 => Or.inl rfl | 9 => Or.inl rfl | (_ + 10) => Or.inl rfl) (by decide) (by decide) (by decide) rfl (by decide) (by decide)) (g := (mkF m 8 #[vR (a1)] [(.int (1 : Int32)), (.ref b1)])) rfl (by rw [hml]; rfl) (argsL := [(.ref b1), (.int (1 : Int32))]) (rest := []) (lenOf own_pd5 rfl) rfl (by show 2 * 0 + _ ≤ _; exact Nat.le_of_eq rfl) (hb hby q2s) (fun _ _ => ⟨rfl, e102, (by decide : 0 + 1 ≤ _), (by decide : 0 + 1 ≤ _)⟩)
  dsimp only [Pt.U, Pt.locs, Pt.cells, Pt.slots] at X103 l103 y103 z103 st103 hQ103
  subst l103 y103 z103
  obtain ⟨kc103, rfl, N103q, E103, EA103, VA103⟩ := hQ103
  have N103 := Fr.app N0 N103q
  obtain ⟨h103, eh103⟩ : ∃ z, z = T103.heap := ⟨_, rfl⟩
  rw [← eh103] at E103 EA103 VA103
  obtain ⟨b103, g103⟩ : ∃ z, z = h0.size := ⟨_, rfl⟩
  rw [← g103] at EA103 VA103 st103
  have ne104 : a1 ≠ b103 := by have q := f0.lt; intro r; rw [r, g103] at q; exact Nat.lt_irrefl _ q
  have ne105 : b1 ≠ b103 := by have q := f3.lt; intro r; rw [r, g103] at q; exact Nat.lt_irrefl _ q
  have ne106 : x1 ≠ b103 := by have q := f5.lt; intro r; rw [r, g103] at q; exact Nat.lt_irrefl _ q
  have ge103 : n0 ≤ b103 := Nat.le_trans Z0 (Nat.le_of_eq g103.symm)
  have Z103 : n0 ≤ h103.size := Nat.le_trans Z0 E103.1
  have sz103 : h0.size ≤ b103 := Nat.le_trans K0.1 (Nat.le_of_eq g103.symm)
  have K103 := K0.ext E103
  have F107 := f0.ext E103
  have F108 := f1.ext E103
  have F109 := f2.ext E103
  have F110 := f3.ext E103
  have F111 := f4.ext E103
  have F112 := f5.ext E103
  have F113 := f6.ext E103
  have V103 : Arv Z h103 b103 kc103 (.object "java/lang/Object") (1 : Int32) [(.ref x1)] .null := VA103
  refine gs m T103 11 #[vR (a1)] [(.ref b103)] (st103) ?_
  exact Go.retA X103 hx (t := (.array (.object "java/lang/Object"))) hret rfl hlk rfl (hb hby q2t) (by rw [eh103.symm]; exact ⟨b103, kc103, rfl, N103, K103, sz103, EA103, V103⟩) (by decide) (by decide)
theorem own_toa2 (l : Launch) (Z : State) (a0 : Array Value) (hw : ∀ d ∈ tables_1, d.before a0 Z = true) (ws : List Jvm.Cond) (a1 : Addr) (b1 : Addr) (k1 : ClassId) (x1 : Addr) (x2 : Addr) (s1 : Int64) (s2 : Int64) (h0 : Heap) (n0 : Nat) (Z0 : n0 ≤ h0.size) (f0 : Exa Z h0 a1 "java/util/ArrayList") (f1 : Fld Z h0 a1 "java/util/ArrayList" "elementData" "[Ljava/lang/Object;" (.ref b1)) (f2 : Fld Z h0 a1 "java/util/ArrayList" "size" "I" (.int (2 : Int32))) (f3 : Exa Z h0 b1 "[Ljava/lang/Object;") (f4 : Arv Z h0 b1 k1 (.object "java/lang/Object") (10 : Int32) [(.ref x1), (.ref x2), .null, .null, .null, .null, .null, .null, .null, .null] .null) (f5 : Exa Z h0 x1 "java/time/Duration") (f6 : Fld Z h0 x1 "java/time/Duration" "seconds" "J" (.long s1)) (f7 : Exa Z h0 x2 "java/time/Duration") (f8 : Fld Z h0 x2 "java/time/Duration" "seconds" "J" (.long s2)) (ov1 : Ovr Z k1 "java/lang/Object") (MM : MirrorMade Z "[Ljava/lang/Object;") :
    Con l Z (⟨"java/util/ArrayList", "toArray", "()[Ljava/lang/Object;"⟩ : MethodName) jdk_38_method_16_code 1 (some (.array (.object "java/lang/Object"))) ({ frames := 4, cells := 1, slots := 2, locals := 77 } : Room) ws #[(.ref a1)] h0 (fun v h L => ∃ b : Addr, ∃ kb : ClassId, (v = some (.ref b)) ∧ (Fr n0 L) ∧ (Keep h0 h []) ∧ (h0.size ≤ b) ∧ (Exa Z h b "[Ljava/lang/Object;") ∧ (Arv Z h b kb (.object "java/lang/Object") (2 : Int32) [(.ref x1), (.ref x2)] .null)) 1 2 := by
  refine Con.of (plainFor_of_name own_pn_ArrayList) ?_
  intro pgm e s m below meth c s₁ X0 hx hZ hby hml hown hnm hret hlk e0 hs0
  have N0 := Fr.nil n0
  have hown : s.vm.findClass "java/util/ArrayList" = some m.cls := hown
  have hnm : meth.name = "toArray" := hnm
  refine Go.cast (own_ef_jdk_38_method_16_code_R m a1) ?_
  have K0 := Keep.refl h0 []
  refine gs m s₁ 1 #[vR (a1)] [(.ref a1)] (fun _ k => XS.aloadN X0.here hx rfl (hb hby q2o) rfl rfl k) ?_
  obtain ⟨T101, X101, e101, st101⟩ := getF X0 hx hZ hown (host := "") (Or.inl (hwi hw 34 rfl)) Via.refl e0 f1 (g := (mkF m 1 #[vR (a1)] [(.ref a1)])) rfl rfl (hb hby q2p)
  refine gs m T101 4 #[vR (a1)] [(.ref b1)] st101 ?_
  refine gs m T101 5 #[vR (a1)] [(.ref a1), (.ref b1)] (fun _ k => XS.aloadN X101.here hx rfl (hb hby q2q) rfl rfl k) ?_
  obtain ⟨T102, X102, e102, st102⟩ := getF X101 hx hZ hown (host := "") (Or.inl (hwi hw 70 rfl)) Via.refl e101 f2 (g := (mkF m 5 #[vR (a1)] [(.ref a1), (.ref b1)])) rfl rfl (hb hby q2r)
  refine gs m T102 8 #[vR (a1)] [(.int (2 : Int32)), (.ref b1)] st102 ?_
  obtain ⟨_, _, ⟨T103, L103, k103, n103⟩, -, X103, ⟨Lc103, hQ103, l103, y103, z103⟩, st103⟩ := Jvm.LawKit.callS X102 hx (y := (⟨"java/util/Arrays", "copyOf", "([Ljava/lang/Object;I)[Ljava/lang/Object;"⟩ : MethodName)) hown (mvT hZ (hwi hw 183 rfl)) (mvT hZ (hwi hw 184 rfl)) (mvT hZ (hwi hw 185 rfl)) (mvT hZ (hwi hw 186 rfl)) (by decide) (own_cp2 (W := 0) (n := 2) (n0 := n0) (a0 := #[]) hZ (own_tabS (State.Warmed39.refl Z) hw) (own_tabS hZ hw) MM f4 f3 ov1 (fun i => match i with | 0 => Or.inr ⟨x1, rfl, Ins.of_exa f5 (hwi hw 163 rfl)⟩ | 1 => Or.inr ⟨x2, rfl, Ins.of_exa f7 (hwi hw 163 rfl)⟩ | 2 => Or.inl rfl | 3 => Or.inl rfl | 4 => Or.inl rfl | 5 => Or.inl rfl | 6 => Or.inl rfl | 7 => Or.inl rfl | 8 => Or.inl rfl | 9 => Or.inl rfl | (_ + 10) => Or.inl rfl) (by decide) (by decide) (by decide) rfl (by decide) (by decide)) (g := (mkF m 8 #[vR (a1)] [(.int (2 : Int32)), (.ref b1)])) rfl (by rw [hml]; rfl) (argsL := [(.ref b1), (.int (2 : Int32))]) (rest := []) (lenOf own_pd5 rfl) rfl (by show 2 * 0 + _ ≤ _; exact Nat.le_of_eq rfl) (hb hby q2s) (fun _ _ => ⟨rfl, e102, (by decide : 0 + 1 ≤ _), (by decide : 0 + 2 ≤ _)⟩)
  dsimp only [Pt.U, Pt.locs, Pt.cells, Pt.slots] at X103 l103 y103 z103 st103 hQ103
  subst l103 y103 z103
  obtain ⟨kc103, rfl, N103q, E103, EA103, VA103⟩ := hQ103
  have N103 := Fr.app N0 N103q
  obtain ⟨h103, eh103⟩ : ∃ z, z = T103.heap := ⟨_, rfl⟩
  rw [← eh103] at E103 EA103 VA103
  obtain ⟨b103, g103⟩ : ∃ z, z = h0.size := ⟨_, rfl⟩
  rw [← g103] at EA103 VA103 st103
  have ne104 : a1 ≠ b103 := by have q := f0.lt; intro r; rw [r, g103] at q; exact Nat.lt_irrefl _ q
  have ne105 : b1 ≠ b103 := by have q := f3.lt; intro r; rw [r, g103] at q; exact Nat.lt_irrefl _ q
  have ne106 : x1 ≠ b103 := by have q := f5.lt; intro r; rw [r, g103] at q; exact Nat.lt_irrefl _ q
  have ne107 : x2 ≠ b103 := by have q := f7.lt; intro r; rw [r, g103] at q; exact Nat.lt_irrefl _ q
  have ge103 : n0 ≤ b103 := Nat.le_trans Z0 (Nat.le_of_eq g103.symm)
  have Z103 : n0 ≤ h103.size := Nat.le_trans Z0 E103.1
  have sz103 : h0.size ≤ b103 := Nat.le_trans K0.1 (Nat.le_of_eq g103.symm)
  have K103 := K0.ext E103
  have F108 := f0.ext E103
  have F109 := f1.ext E103
  have F110 := f2.ext E103
  have F111 := f3.ext E103
  have F112 := f4.ext E103
  have F113 := f5.ext E103
  have F114 := f6.ext E103
  have F115 := f7.ext E103
  have F116 := f8.ext E103
  have V103 : Arv Z h103 b103 kc103 (.object "java/lang/Object") (2 : Int32) [(.ref x1), (.ref x2)] .null := VA103
  refine gs m T103 11 #[vR (a1)] [(.ref b103)] (st103) ?_
  exact Go.retA X103 hx (t := (.array (.object "java/lang/Object"))) hret rfl hlk rfl (hb hby q2t) (by rw [eh103.symm]; exact ⟨b103, kc103, rfl, N103, K103, sz103, EA103, V103⟩) (by decide) (by decide)
theorem own_ef_jdk_31_method_10_code_R (m : MethodId) (x0 : Addr) : entryFrame m #[(.ref x0)] 1 = mkF m 0 #[vR (x0)] [] := by first | (simp [entryFrame, mkF, argsToLocals, Value.category]; done) | rfl | (simp [entryFrame, mkF, argsToLocals, own_cI, own_cJ, own_cR, own_cN]; done)
theorem own_pn_Objects : plainName "java/util/Objects" = true := by first | (simp [plainName, overriddenIn]; done) | decide +kernel
theorem q2u : decode jdk_31_method_10_code 0 = .ok (.aload_n 0, 1) := by decide +kernel
theorem q2v : decode jdk_31_method_10_code 1 = .ok (.ifnonnull 11, 3) := by decide +kernel
theorem q2w : decode jdk_31_method_10_code 12 = .ok (.aload_n 0, 1) := by decide +kernel
theorem q2x : decode jdk_31_method_10_code 13 = .ok (.areturn, 1) := by decide +kernel
theorem own_rnn (l : Launch) (Z : State) (a0 : Array Value) (hw : ∀ d ∈ tables_1, d.before a0 Z = true) (ws : List Jvm.Cond) (y1 : Addr) (h0 : Heap) (n0 : Nat) (Z0 : n0 ≤ h0.size)   :
    Con l Z (⟨"java/util/Objects", "requireNonNull", "(Ljava/lang/Object;)Ljava/lang/Object;"⟩ : MethodName) jdk_31_method_10_code 1 (some (.object "java/lang/Object")) ({ frames := 0, cells := 0, slots := 0, locals := 0 } : Room) ws #[(.ref y1)] h0 (Qret (some (.ref y1)) h0 n0) 0 0 := by
  refine Con.of (plainFor_of_name own_pn_Objects) ?_
  intro pgm e s m below meth c s₁ X0 hx hZ hby hml hown hnm hret hlk e0 hs0
  have N0 := Fr.nil n0
  have hown : s.vm.findClass "java/util/Objects" = some m.cls := hown
  have hnm : meth.name = "requireNonNull" := hnm
  refine Go.cast (own_ef_jdk_31_method_10_code_R m y1) ?_
  refine gs m s₁ 1 #[vR (y1)] [(.ref y1)] (fun _ k => XS.aloadN X0.here hx rfl (hb hby q2u) rfl rfl k) ?_
  refine gs m s₁ 12 #[vR (y1)] [] (fun _ k => XS.ifnonnullYes X0.here hx rfl (pc0 := 1) (pc' := 12) rfl (hb hby q2v) rfl (by decide) (by decide) k) ?_
  refine gs m s₁ 13 #[vR (y1)] [(.ref y1)] (fun _ k => XS.aloadN X0.here hx rfl (hb hby q2w) rfl rfl k) ?_
  exact Go.retA X0 hx (t := (.object "java/lang/Object")) hret rfl hlk rfl (hb hby q2x) (⟨rfl, N0, e0⟩) (by decide) (by decide)
theorem own_ef_jdk_44_method_1_code_RR (m : MethodId) (x0 : Addr) (x1 : Addr) : entryFrame m #[(.ref x0), (.ref x1)] 2 = mkF m 0 #[vR (x0), vR (x1)] [] := by first | (simp [entryFrame, mkF, argsToLocals, Value.category]; done) | rfl | (simp [entryFrame, mkF, argsToLocals, own_cI, own_cJ, own_cR, own_cN]; done)
theorem own_pn_ImmutableCollections_List12 : plainName "java/util/ImmutableCollections$List12" = true := by first | (simp [plainName, overriddenIn]; done) | decide +kernel
theorem q2y : decode jdk_44_method_1_code 0 = .ok (.aload_n 0, 1) := by decide +kernel
theorem q2z : decode jdk_44_method_1_code 1 = .ok (.invokespecial 1, 3) := by decide +kernel
theorem q30 : decode jdk_44_method_1_code 4 = .ok (.aload_n 0, 1) := by decide +kernel
theorem q31 : decode jdk_44_method_1_code 5 = .ok (.aload_n 1, 1) := by decide +kernel
theorem q32 : decode jdk_44_method_1_code 6 = .ok (.invokestatic 7, 3) := by decide +kernel
theorem own_pd6 : parseMethodDescriptor "(Ljava/lang/Object;)Ljava/lang/Object;" = some ⟨[(.object "java/lang/Object")], some (.object "java/lang/Object")⟩ := by decide +kernel
theorem q33 : decode jdk_44_method_1_code 9 = .ok (.putfield 13, 3) := by decide +kernel
theorem q34 : decode jdk_44_method_1_code 12 = .ok (.aload_n 0, 1) := by decide +kernel
theorem q35 : decode jdk_44_method_1_code 13 = .ok (.getstatic 19, 3) := by decide +kernel
theorem q36 : decode jdk_44_method_1_code 16 = .ok (.putfield 24, 3) := by decide +kernel
theorem q37 : decode jdk_44_method_1_code 19 = .ok (.return_, 1) := by decide +kernel
theorem own_l1i (l : Launch) (Z : State) (a0 : Array Value) (hw : ∀ d ∈ tables_1, d.before a0 Z = true) (ws : List Jvm.Cond) (a1 : Addr) (y1 : Addr) (u0 : Value) (u1 : Value) (em : Addr) (h0 : Heap) (n0 : Nat) (Z0 : n0 ≤ h0.size) (f0 : Exa Z h0 a1 "java/util/ImmutableCollections$List12") (f1 : n0 ≤ a1) (f2 : Fld Z h0 a1 "java/util/ImmutableCollections$List12" "e0" "Ljava/lang/Object;" u0) (f3 : Fld Z h0 a1 "java/util/ImmutableCollections$List12" "e1" "Ljava/lang/Object;" u1) (f4 : Sta Z h0 "java/util/ImmutableCollections" "EMPTY" "Ljava/lang/Object;" (.ref em))  :
    Con l Z (⟨"java/util/ImmutableCollections$List12", "<init>", "(Ljava/lang/Object;)V"⟩ : MethodName) jdk_44_method_1_code 2 none ({ frames := 4, cells := 0, slots := 0, locals := 48 } : Room) ws #[(.ref a1), (.ref y1)] h0 (fun v h L => (v = none) ∧ (Fr n0 L) ∧ (Keep h0 h [a1]) ∧ (Exa Z h a1 "java/util/ImmutableCollections$List12") ∧ (Fld Z h a1 "java/util/ImmutableCollections$List12" "e0" "Ljava/lang/Object;" (.ref y1)) ∧ (Fld Z h a1 "java/util/ImmutableCollections$List12" "e1" "Ljava/lang/Object;" (.ref em))) 0 0 := by
  refine Con.of (plainFor_of_name own_pn_ImmutableCollections_List12) ?_
  intro pgm e s m below meth c s₁ X0 hx hZ hby hml hown hnm hret hlk e0 hs0
  have N0 := Fr.nil n0
  have hown : s.vm.findClass "java/util/ImmutableCollections$List12" = some m.cls := hown
  have hnm : meth.name = "<init>" := hnm
  refine Go.cast (own_ef_jdk_44_method_1_code_RR m a1 y1) ?_
  have K0 := Keep.refl h0 [a1]
  refine gs m s₁ 1 #[vR (a1), vR (y1)] [(.ref a1)] (fun _ k => XS.aloadN X0.here hx rfl (hb hby q2y) rfl rfl k) ?_
  obtain ⟨_, _, ⟨T101, L101, k101, n101⟩, -, X101, ⟨Lc101, hQ101, l101, y101, z101⟩, st101⟩ := X0.specialBack hx (y := (⟨"java/util/ImmutableCollections$AbstractImmutableList", "<init>", "()V"⟩ : MethodName)) rfl hown (mvT hZ (hwi hw 261 rfl)) (mvT hZ (hwi hw 222 rfl)) (mvT hZ (hwi hw 225 rfl)) (by decide) (backOf (W := 0) (Q := Qret (none) h0 n0) (own_ail l Z a0 hw [] a1 h0 n0 Z0 ) hZ (hwi hw 225 rfl) (hwi hw 84 rfl) (by decide) (by decide)) (g := (mkF m 1 #[vR (a1), vR (y1)] [(.ref a1)])) rfl (by rw [hml]; rfl) (Steps.refl _) (a := a1) (argsL := []) (rest := []) (lenOf own_pd0 rfl) rfl (by show 2 * 0 + _ ≤ _; exact Nat.le_of_eq rfl) (hb hby q2z) (fun _ _ => ⟨rfl, e0, (by decide : 0 + 0 ≤ _), (by decide : 0 + 0 ≤ _)⟩)
  dsimp only [Pt.U, Pt.locs, Pt.cells, Pt.slots] at X101 l101 y101 z101 st101 hQ101
  subst l101 y101 z101
  obtain ⟨rfl, N101q, eh101⟩ := hQ101
  have N101 := Fr.app N0 N101q
  refine gs m T101 4 #[vR (a1), vR (y1)] [] (fun _ k => st101.trans k) ?_
  refine gs m T101 5 #[vR (a1), vR (y1)] [(.ref a1)] (fun _ k => XS.aloadN X101.here hx rfl (hb hby q30) rfl rfl k) ?_
  refine gs m T101 6 #[vR (a1), vR (y1)] [(.ref y1), (.ref a1)] (fun _ k => XS.aloadN X101.here hx rfl (hb hby q31) rfl rfl k) ?_
  obtain ⟨_, _, ⟨T102, L102, k102, n102⟩, -, X102, ⟨Lc102, hQ102, l102, y102, z102⟩, st102⟩ := Jvm.LawKit.callS X101 hx (y := (⟨"java/util/Objects", "requireNonNull", "(Ljava/lang/Object;)Ljava/lang/Object;"⟩ : MethodName)) hown (mvT hZ (hwi hw 265 rfl)) (mvT hZ (hwi hw 213 rfl)) (mvT hZ (hwi hw 214 rfl)) (mvT hZ (hwi hw 215 rfl)) (by decide) (backOf (W := 1) (Q := Qret (some (.ref y1)) h0 n0) (own_rnn l Z a0 hw [] y1 h0 n0 Z0 ) hZ (hwi hw 215 rfl) (hwi hw 214 rfl) (by decide) (by decide)) (g := (mkF m 6 #[vR (a1), vR (y1)] [(.ref y1), (.ref a1)])) rfl (by rw [hml]; rfl) (argsL := [(.ref y1)]) (rest := [(.ref a1)]) (lenOf own_pd6 rfl) rfl (by show 2 * 0 + _ ≤ _; exact Nat.le_of_eq rfl) (hb hby q32) (fun _ _ => ⟨rfl, eh101, (by decide : 0 + 0 ≤ _), (by decide : 0 + 0 ≤ _)⟩)
  dsimp only [Pt.U, Pt.locs, Pt.cells, Pt.slots] at X102 l102 y102 z102 st102 hQ102
  subst l102 y102 z102
  obtain ⟨rfl, N102q, eh102⟩ := hQ102
  have N102 := Fr.app N101 N102q
  refine gs m T102 9 #[vR (a1), vR (y1)] [(.ref y1), (.ref a1)] (st102) ?_
  obtain ⟨T103, h103, X103, e103, W103, st103⟩ := putF X102 hx hZ hown (host := "") (Or.inl (hwi hw 266 rfl)) Via.refl eh102 f2 f0 (Or.inr ⟨(hwi hw 267 rfl), rfl, hnm⟩) (hwi hw 255 rfl) (ty := (.object "java/lang/Object")) (by decide) rfl rfl (g := (mkF m 9 #[vR (a1), vR (y1)] [(.ref y1), (.ref a1)])) rfl rfl (hb hby q33)
  have N103 := Fr.snoc X103 N102 f1
  have Z103 : n0 ≤ h103.size := Nat.le_trans Z0 (Keep.of_wr W103).1
  have K103 := K0.wr W103 (Or.inl (List.mem_of_getElem? (i := 0) rfl))
  have F104 := f0.wr W103
  have F105 := f3.other W103 (Or.inr (slot_ne (Or.inr (hwi hw 269 rfl)) (Or.inr (hwi hw 267 rfl)) (by decide) (t := (.object "java/lang/Object")) (t' := (.object "java/lang/Object")) (by decide) (by decide)))
  have F106 := f4.wr W103
  have F107 := f2.same W103
  refine gs m T103 12 #[vR (a1), vR (y1)] [] st103 ?_
  refine gs m T103 13 #[vR (a1), vR (y1)] [(.ref a1)] (fun _ k => XS.aloadN X103.here hx rfl (hb hby q34) rfl rfl k) ?_
  obtain ⟨T108, X108, e108, st108⟩ := getS2 X103 hx hZ hown (Or.inr (hwi hw 276 rfl)) Via.refl e103 F106 (g := (mkF m 13 #[vR (a1), vR (y1)] [(.ref a1)])) rfl (hb hby q35)
  refine gs m T108 16 #[vR (a1), vR (y1)] [(.ref em), (.ref a1)] st108 ?_
  obtain ⟨T109, h109, X109, e109, W109, st109⟩ := putF X108 hx hZ hown (host := "") (Or.inl (hwi hw 268 rfl)) Via.refl e108 F105 F104 (Or.inr ⟨(hwi hw 269 rfl), rfl, hnm⟩) (hwi hw 255 rfl) (ty := (.object "java/lang/Object")) (by decide) rfl rfl (g := (mkF m 16 #[vR (a1), vR (y1)] [(.ref em), (.ref a1)])) rfl rfl (hb hby q36)
  have N109 := Fr.snoc X109 N103 f1
  have Z109 : n0 ≤ h109.size := Nat.le_trans Z103 (Keep.of_wr W109).1
  have K109 := K103.wr W109 (Or.inl (List.mem_of_getElem? (i := 0) rfl))
  have F110 := F104.wr W109
  have F111 := F106.wr W109
  have F112 := F107.other W109 (Or.inr (slot_ne (Or.inr (hwi hw 267 rfl)) (Or.inr (hwi hw 269 rfl)) (by decide) (t := (.object "java/lang/Object")) (t' := (.object "java/lang/Object")) (by decide) (by decide)))
  have F113 := F105.same W109
  refine gs m T109 19 #[vR (a1), vR (y1)] [] st109 ?_
  exact Go.retV X109 hx hret hlk (hb hby q37) (by rw [e109]; exact ⟨rfl, N109, K109, F110, F112, F113⟩) (by decide) (by decide)
theorem own_ef_jdk_44_method_2_code_RRR (m : MethodId) (x0 : Addr) (x1 : Addr) (x2 : Addr) : entryFrame m #[(.ref x0), (.ref x1), (.ref x2)] 3 = mkF m 0 #[vR (x0), vR (x1), vR (x2)] [] := by first | (simp [entryFrame, mkF, argsToLocals, Value.category]; done) | rfl | (simp [entryFrame, mkF, argsToLocals, own_cI, own_cJ, own_cR, own_cN]; done)
theorem q38 : decode jdk_44_method_2_code 0 = .ok (.aload_n 0, 1) := by decide +kernel
theorem q39 : decode jdk_44_method_2_code 1 = .ok (.invokespecial 1, 3) := by decide +kernel
theorem q3a : decode jdk_44_method_2_code 4 = .ok (.aload_n 0, 1) := by decide +kernel
theorem q3b : decode jdk_44_method_2_code 5 = .ok (.aload_n 1, 1) := by decide +kernel
theorem q3c : decode jdk_44_method_2_code 6 = .ok (.invokestatic 7, 3) := by decide +kernel
theorem q3d : decode jdk_44_method_2_code 9 = .ok (.putfield 13, 3) := by decide +kernel
theorem q3e : decode jdk_44_method_2_code 12 = .ok (.aload_n 0, 1) := by decide +kernel
theorem q3f : decode jdk_44_method_2_code 13 = .ok (.aload_n 2, 1) := by decide +kernel
theorem q3g : decode jdk_44_method_2_code 14 = .ok (.invokestatic 7, 3) := by decide +kernel
theorem q3h : decode jdk_44_method_2_code 17 = .ok (.putfield 24, 3) := by decide +kernel
theorem q3i : decode jdk_44_method_2_code 20 = .ok (.return_, 1) := by decide +kernel
theorem own_l2i (l : Launch) (Z : State) (a0 : Array Value) (hw : ∀ d ∈ tables_1, d.before a0 Z = true) (ws : List Jvm.Cond) (a1 : Addr) (y1 : Addr) (y2 : Addr) (u0 : Value) (u1 : Value) (h0 : Heap) (n0 : Nat) (Z0 : n0 ≤ h0.size) (f0 : Exa Z h0 a1 "java/util/ImmutableCollections$List12") (f1 : n0 ≤ a1) (f2 : Fld Z h0 a1 "java/util/ImmutableCollections$List12" "e0" "Ljava/lang/Object;" u0) (f3 : Fld Z h0 a1 "java/util/ImmutableCollections$List12" "e1" "Ljava/lang/Object;" u1)  :
    Con l Z (⟨"java/util/ImmutableCollections$List12", "<init>", "(Ljava/lang/Object;Ljava/lang/Object;)V"⟩ : MethodName) jdk_44_method_2_code 3 none ({ frames := 4, cells := 0, slots := 0, locals := 48 } : Room) ws #[(.ref a1), (.ref y1), (.ref y2)] h0 (fun v h L => (v = none) ∧ (Fr n0 L) ∧ (Keep h0 h [a1]) ∧ (Exa Z h a1 "java/util/ImmutableCollections$List12") ∧ (Fld Z h a1 "java/util/ImmutableCollections$List12" "e0" "Ljava/lang/Object;" (.ref y1)) ∧ (Fld Z h a1 "java/util/ImmutableCollections$List12" "e1" "Ljava/lang/Object;" (.ref y2))) 0 0 := by
  refine Con.of (plainFor_of_name own_pn_ImmutableCollections_List12) ?_
  intro pgm e s m below meth c s₁ X0 hx hZ hby hml hown hnm hret hlk e0 hs0
  have N0 := Fr.nil n0
  have hown : s.vm.findClass "java/util/ImmutableCollections$List12" = some m.cls := hown
  have hnm : meth.name = "<init>" := hnm
  refine Go.cast (own_ef_jdk_44_method_2_code_RRR m a1 y1 y2) ?_
  have K0 := Keep.refl h0 [a1]
  refine gs m s₁ 1 #[vR (a1), vR (y1), vR (y2)] [(.ref a1)] (fun _ k => XS.aloadN X0.here hx rfl (hb hby q38) rfl rfl k) ?_
  obtain ⟨_, _, ⟨T101, L101, k101, n101⟩, -, X101, ⟨Lc101, hQ101, l101, y101, z101⟩, st101⟩ := X0.specialBack hx (y := (⟨"java/util/ImmutableCollections$AbstractImmutableList", "<init>", "()V"⟩ : MethodName)) rfl hown (mvT hZ (hwi hw 261 rfl)) (mvT hZ (hwi hw 222 rfl)) (mvT hZ (hwi hw 225 rfl)) (by decide) (backOf (W := 0) (Q := Qret (none) h0 n0) (own_ail l Z a0 hw [] a1 h0 n0 Z0 ) hZ (hwi hw 225 rfl) (hwi hw 84 rfl) (by decide) (by decide)) (g := (mkF m 1 #[vR (a1), vR (y1), vR (y2)] [(.ref a1)])) rfl (by rw [hml]; rfl) (Steps.refl _) (a := a1) (argsL := []) (rest := []) (lenOf own_pd0 rfl) rfl (by show 2 * 0 + _ ≤ _; exact Nat.le_of_eq rfl) (hb hby q39) (fun _ _ => ⟨rfl, e0, (by decide : 0 + 0 ≤ _), (by decide : 0 + 0 ≤ _)⟩)
  dsimp only [Pt.U, Pt.locs, Pt.cells, Pt.slots] at X101 l101 y101 z101 st101 hQ101
  subst l101 y101 z101
  obtain ⟨rfl, N101q, eh101⟩ := hQ101
  have N101 := Fr.app N0 N101q
  refine gs m T101 4 #[vR (a1), vR (y1), vR (y2)] [] (fun _ k => st101.trans k) ?_
  refine gs m T101 5 #[vR (a1), vR (y1), vR (y2)] [(.ref a1)] (fun _ k => XS.aloadN X101.here hx rfl (hb hby q3a) rfl rfl k) ?_
  refine gs m T101 6 #[vR (a1), vR (y1), vR (y2)] [(.ref y1), (.ref a1)] (fun _ k => XS.aloadN X101.here hx rfl (hb hby q3b) rfl rfl k) ?_
  obtain ⟨_, _, ⟨T102, L102, k102, n102⟩, -, X102, ⟨Lc102, hQ102, l102, y102, z102⟩, st102⟩ := Jvm.LawKit.callS X101 hx (y := (⟨"java/util/Objects", "requireNonNull", "(Ljava/lang/Object;)Ljava/lang/Object;"⟩ : MethodName)) hown (mvT hZ (hwi hw 265 rfl)) (mvT hZ (hwi hw 213 rfl)) (mvT hZ (hwi hw 214 rfl)) (mvT hZ (hwi hw 215 rfl)) (by decide) (backOf (W := 1) (Q := Qret (some (.ref y1)) h0 n0) (own_rnn l Z a0 hw [] y1 h0 n0 Z0 ) hZ (hwi hw 215 rfl) (hwi hw 214 rfl) (by decide) (by decide)) (g := (mkF m 6 #[vR (a1), vR (y1), vR (y2)] [(.ref y1), (.ref a1)])) rfl (by rw [hml]; rfl) (argsL := [(.ref y1)]) (rest := [(.ref a1)]) (lenOf own_pd6 rfl) rfl (by show 2 * 0 + _ ≤ _; exact Nat.le_of_eq rfl) (hb hby q3c) (fun _ _ => ⟨rfl, eh101, (by decide : 0 + 0 ≤ _), (by decide : 0 + 0 ≤ _)⟩)
  dsimp only [Pt.U, Pt.locs, Pt.cells, Pt.slots] at X102 l102 y102 z102 st102 hQ102
  subst l102 y102 z102
  obtain ⟨rfl, N102q, eh102⟩ := hQ102
  have N102 := Fr.app N101 N102q
  refine gs m T102 9 #[vR (a1), vR (y1), vR (y2)] [(.ref y1), (.ref a1)] (st102) ?_
  obtain ⟨T103, h103, X103, e103, W103, st103⟩ := putF X102 hx hZ hown (host := "") (Or.inl (hwi hw 266 rfl)) Via.refl eh102 f2 f0 (Or.inr ⟨(hwi hw 267 rfl), rfl, hnm⟩) (hwi hw 255 rfl) (ty := (.object "java/lang/Object")) (by decide) rfl rfl (g := (mkF m 9 #[vR (a1), vR (y1), vR (y2)] [(.ref y1), (.ref a1)])) rfl rfl (hb hby q3d)
  have N103 := Fr.snoc X103 N102 f1
  have Z103 : n0 ≤ h103.size := Nat.le_trans Z0 (Keep.of_wr W103).1
  have K103 := K0.wr W103 (Or.inl (List.mem_of_getElem? (i := 0) rfl))
  have F104 := f0.wr W103
  have F105 := f3.other W103 (Or.inr (slot_ne (Or.inr (hwi hw 269 rfl)) (Or.inr (hwi hw 267 rfl)) (by decide) (t := (.object "java/lang/Object")) (t' := (.object "java/lang/Object")) (by decide) (by decide)))
  have F106 := f2.same W103
  refine gs m T103 12 #[vR (a1), vR (y1), vR (y2)] [] st103 ?_
  refine gs m T103 13 #[vR (a1), vR (y1), vR (y2)] [(.ref a1)] (fun _ k => XS.aloadN X103.here hx rfl (hb hby q3e) rfl rfl k) ?_
  refine gs m T103 14 #[vR (a1), vR (y1), vR (y2)] [(.ref y2), (.ref a1)] (fun _ k => XS.aloadN X103.here hx rfl (hb hby q3f) rfl rfl k) ?_
  obtain ⟨_, _, ⟨T107, L107, k107, n107⟩, -, X107, ⟨Lc107, hQ107, l107, y107, z107⟩, st107⟩ := Jvm.LawKit.callS X103 hx (y := (⟨"java/util/Objects", "requireNonNull", "(Ljava/lang/Object;)Ljava/lang/Object;"⟩ : MethodName)) hown (mvT hZ (hwi hw 265 rfl)) (mvT hZ (hwi hw 213 rfl)) (mvT hZ (hwi hw 214 rfl)) (mvT hZ (hwi hw 215 rfl)) (by decide) (backOf (W := 1) (Q := Qret (some (.ref y2)) h103 n0) (own_rnn l Z a0 hw [] y2 h103 n0 Z103 ) hZ (hwi hw 215 rfl) (hwi hw 214 rfl) (by decide) (by decide)) (g := (mkF m 14 #[vR (a1), vR (y1), vR (y2)] [(.ref y2), (.ref a1)])) rfl (by rw [hml]; rfl) (argsL := [(.ref y2)]) (rest := [(.ref a1)]) (lenOf own_pd6 rfl) rfl (by show 2 * 0 + _ ≤ _; exact Nat.le_of_eq rfl) (hb hby q3g) (fun _ _ => ⟨rfl, e103, (by decide : 0 + 0 ≤ _), (by decide : 0 + 0 ≤ _)⟩)
  dsimp only [Pt.U, Pt.locs, Pt.cells, Pt.slots] at X107 l107 y107 z107 st107 hQ107
  subst l107 y107 z107
  obtain ⟨rfl, N107q, eh107⟩ := hQ107
  have N107 := Fr.app N103 N107q
  refine gs m T107 17 #[vR (a1), vR (y1), vR (y2)] [(.ref y2), (.ref a1)] (st107) ?_
  obtain ⟨T108, h108, X108, e108, W108, st108⟩ := putF X107 hx hZ hown (host := "") (Or.inl (hwi hw 268 rfl)) Via.refl eh107 F105 F104 (Or.inr ⟨(hwi hw 269 rfl), rfl, hnm⟩) (hwi hw 255 rfl) (ty := (.object "java/lang/Object")) (by decide) rfl rfl (g := (mkF m 17 #[vR (a1), vR (y1), vR (y2)] [(.ref y2), (.ref a1)])) rfl rfl (hb hby q3h)
  have N108 := Fr.snoc X108 N107 f1
  have Z108 : n0 ≤ h108.size := Nat.le_trans Z103 (Keep.of_wr W108).1
  have K108 := K103.wr W108 (Or.inl (List.mem_of_getElem? (i := 0) rfl))
  have F109 := F104.wr W108
  have F110 := F106.other W108 (Or.inr (slot_ne (Or.inr (hwi hw 267 rfl)) (Or.inr (hwi hw 269 rfl)) (by decide) (t := (.object "java/lang/Object")) (t' := (.object "java/lang/Object")) (by decide) (by decide)))
  have F111 := F105.same W108
  refine gs m T108 20 #[vR (a1), vR (y1), vR (y2)] [] st108 ?_
  exact Go.retV X108 hx hret hlk (hb hby q3i) (by rw [e108]; exact ⟨rfl, N108, K108, F109, F110, F111⟩) (by decide) (by decide)
theorem own_ef_jdk_40_method_47_code_R (m : MethodId) (x0 : Addr) : entryFrame m #[(.ref x0)] 2 = mkF m 0 #[vR (x0), sU] [] := by first | (simp [entryFrame, mkF, argsToLocals, Value.category]; done) | rfl | (simp [entryFrame, mkF, argsToLocals, own_cI, own_cJ, own_cR, own_cN]; done)
theorem q3j : decode jdk_40_method_47_code 0 = .ok (.aload_n 0, 1) := by decide +kernel
theorem q3k : decode jdk_40_method_47_code 1 = .ok (.arraylength, 1) := by decide +kernel
theorem q3l : decode jdk_40_method_47_code 2 = .ok (.tableswitch 57 0 2 #[26, 32, 43], 26) := by decide +kernel
theorem q3m : decode jdk_40_method_47_code 34 = .ok (.new 96, 3) := by decide +kernel
theorem q3n : decode jdk_40_method_47_code 37 = .ok (.dup, 1) := by decide +kernel
theorem q3o : decode jdk_40_method_47_code 38 = .ok (.aload_n 0, 1) := by decide +kernel
theorem q3p : decode jdk_40_method_47_code 39 = .ok (.iconst 0, 1) := by decide +kernel
theorem q3q : decode jdk_40_method_47_code 40 = .ok (.aaload, 1) := by decide +kernel
theorem q3r : decode jdk_40_method_47_code 41 = .ok (.invokespecial 98, 3) := by decide +kernel
theorem own_pd7 : parseMethodDescriptor "(Ljava/lang/Object;)V" = some ⟨[(.object "java/lang/Object")], none⟩ := by decide +kernel
theorem q3s : decode jdk_40_method_47_code 44 = .ok (.areturn, 1) := by decide +kernel
theorem own_ofa1 (l : Launch) (Z : State) (a0 : Array Value) (hw : ∀ d ∈ tables_1, d.before a0 Z = true) (ws : List Jvm.Cond) (b1 : Addr) (k1 : ClassId) (x1 : Addr) (s1 : Int64) (em : Addr) (h0 : Heap) (n0 : Nat) (Z0 : n0 ≤ h0.size) (f0 : Exa Z h0 b1 "[Ljava/lang/Object;") (f1 : Arv Z h0 b1 k1 (.object "java/lang/Object") (1 : Int32) [(.ref x1)] .null) (f2 : Exa Z h0 x1 "java/time/Duration") (f3 : Fld Z h0 x1 "java/time/Duration" "seconds" "J" (.long s1)) (f4 : Sta Z h0 "java/util/ImmutableCollections" "EMPTY" "Ljava/lang/Object;" (.ref em))  :
    Con l Z (⟨"java/util/List", "of", "([Ljava/lang/Object;)Ljava/util/List;"⟩ : MethodName) jdk_40_method_47_code 2 (some (.object "java/util/List")) ({ frames := 5, cells := 1, slots := 2, locals := 62 } : Room) ws #[(.ref b1)] h0 (fun v h L => ∃ lst : Addr, (v = some (.ref lst)) ∧ (Fr n0 L) ∧ (Keep h0 h []) ∧ (h0.size ≤ lst) ∧ (Exa Z h lst "java/util/ImmutableCollections$List12") ∧ (Fld Z h lst "java/util/ImmutableCollections$List12" "e0" "Ljava/lang/Object;" (.ref x1)) ∧ (Fld Z h lst "java/util/ImmutableCollections$List12" "e1" "Ljava/lang/Object;" (.ref em))) 1 2 := by
  refine Con.of (plainFor_of_name own_pn_List) ?_
  intro pgm e s m below meth c s₁ X0 hx hZ hby hml hown hnm hret hlk e0 hs0
  have N0 := Fr.nil n0
  have hown : s.vm.findClass "java/util/List" = some m.cls := hown
  have hnm : meth.name = "of" := hnm
  refine Go.cast (own_ef_jdk_40_method_47_code_R m b1) ?_
  have K0 := Keep.refl h0 []
  refine gs m s₁ 1 #[vR (b1), sU] [(.ref b1)] (fun _ k => XS.aloadN X0.here hx rfl (hb hby q3j) rfl rfl k) ?_
  obtain ⟨cl101, Ar101, -, S101, M101, -, -⟩ := id f1
  refine gs m s₁ 2 #[vR (b1), sU] [(.int (1 : Int32))] (fun _ k => X0.arraylength hx (cell := cl101) (by rw [e0]; exact Ar101.1) (State.isArrayOf_alike hZ.alike Ar101.2.1) (g := (mkF m 1 #[vR (b1), sU] [(.ref b1)])) rfl (rest := []) rfl (hb hby q3k) _ (by rw [len_of S101 M101]; exact k)) ?_
  refine gs m s₁ 34 #[vR (b1), sU] [] (fun _ k => XS.tswIn X0.here hx rfl (pc0 := 2) (pc' := 34) rfl (hb hby q3l) rfl (by decide) (o := 32) (by decide) (by decide) (by decide) k) ?_
  obtain ⟨T102, h102, X102, e102, E102, A102, D102, -, st102⟩ := newO X0 hx hZ hown (hwi hw 254 rfl) (hwi hw 255 rfl) (hwi hw 256 rfl) e0 (g := (mkF m 34 #[vR (b1), sU] [])) rfl (hb hby q3m) (by decide) (by decide)
  obtain ⟨b102, g102⟩ : ∃ z, z = h0.size := ⟨_, rfl⟩
  rw [← g102] at A102 D102 st102
  have ne103 : b1 ≠ b102 := by have q := f0.lt; intro r; rw [r, g102] at q; exact Nat.lt_irrefl _ q
  have ne104 : x1 ≠ b102 := by have q := f2.lt; intro r; rw [r, g102] at q; exact Nat.lt_irrefl _ q
  have ge102 : n0 ≤ b102 := Nat.le_trans Z0 (Nat.le_of_eq g102.symm)
  have Z102 : n0 ≤ h102.size := Nat.le_trans Z0 E102.1
  have sz102 : h0.size ≤ b102 := Nat.le_trans K0.1 (Nat.le_of_eq g102.symm)
  have K102 := K0.ext E102
  have F105 := f0.ext E102
  have F106 := f1.ext E102
  have F107 := f2.ext E102
  have F108 := f3.ext E102
  have F109 := f4.ext E102
  have F110 : Fld Z h102 b102 "java/util/ImmutableCollections$List12" "e0" "Ljava/lang/Object;" .null := D102 (Or.inr (hwi hw 267 rfl)) (ty := (.object "java/lang/Object")) (by decide)
  have F111 : Fld Z h102 b102 "java/util/ImmutableCollections$List12" "e1" "Ljava/lang/Object;" .null := D102 (Or.inr (hwi hw 269 rfl)) (ty := (.object "java/lang/Object")) (by decide)
  refine gs m T102 37 #[vR (b1), sU] [(.ref b102)] st102 ?_
  refine gs m T102 38 #[vR (b1), sU] [(.ref b102), (.ref b102)] (fun _ k => XS.dup X102.here hx rfl (hb hby q3n) rfl rfl k) ?_
  refine gs m T102 39 #[vR (b1), sU] [(.ref b1), (.ref b102), (.ref b102)] (fun _ k => XS.aloadN X102.here hx rfl (hb hby q3o) rfl rfl k) ?_
  refine gs m T102 40 #[vR (b1), sU] [(.int (0 : Int32)), (.ref b1), (.ref b102), (.ref b102)] (fun _ k => XS.iconst X102.here hx rfl (hb hby q3p) k) ?_
  obtain ⟨cl112, Ar112, q112, S112, M112, H112, G112⟩ := id F106
  have I112 := inb_of (j := (0 : Int32)) S112 (by decide)
  refine gs m T102 41 #[vR (b1), sU] [(.ref x1), (.ref b102), (.ref b102)] (fun _ k => X102.aaload hx (j := (0 : Int32)) (v := (.ref x1)) (by rw [e102]; exact Ar112.1) (State.isArrayOf_alike hZ.alike Ar112.2.1) rfl Ar112.2.2 I112 (Has.at H112 I112 rfl) (g := (mkF m 40 #[vR (b1), sU] [(.int (0 : Int32)), (.ref b1), (.ref b102), (.ref b102)])) rfl rfl (hb hby q3q) _ k) ?_
  obtain ⟨_, _, ⟨T113, L113, k113, n113⟩, -, X113, ⟨Lc113, hQ113, l113, y113, z113⟩, st113⟩ := X102.specialBack hx (y := (⟨"java/util/ImmutableCollections$List12", "<init>", "(Ljava/lang/Object;)V"⟩ : MethodName)) rfl hown (mvT hZ (hwi hw 285 rfl)) (mvT hZ (hwi hw 286 rfl)) (mvT hZ (hwi hw 287 rfl)) (by decide) (backOf (W := 1) (Q := fun v h L => (v = none) ∧ (Fr n0 L) ∧ (Keep h102 h [b102]) ∧ (Exa Z h b102 "java/util/ImmutableCollections$List12") ∧ (Fld Z h b102 "java/util/ImmutableCollections$List12" "e0" "Ljava/lang/Object;" (.ref x1)) ∧ (Fld Z h b102 "java/util/ImmutableCollections$List12" "e1" "Ljava/lang/Object;" (.ref em))) (own_l1i l Z a0 hw [] b102 x1 .null .null em h102 n0 Z102 A102 ge102 F110 F111 F109) hZ (hwi hw 287 rfl) (hwi hw 256 rfl) (by decide) (by decide)) (g := (mkF m 41 #[vR (b1), sU] [(.ref x1), (.ref b102), (.ref b102)])) rfl (by rw [hml]; rfl) (Steps.refl _) (a := b102) (argsL := [(.ref x1)]) (rest := [(.ref b102)]) (lenOf own_pd7 rfl) rfl (by show 2 * 0 + _ ≤ _; exact Nat.le_of_eq rfl) (hb hby q3r) (fun _ _ => ⟨rfl, e102, (by decide : 1 + 0 ≤ _), (by decide : 2 + 0 ≤ _)⟩)
  dsimp only [Pt.U, Pt.locs, Pt.cells, Pt.slots] at X113 l113 y113 z113 st113 hQ113
  subst l113 y113 z113
  obtain ⟨rfl, N113q, K113, P113_0, P113_1, P113_2⟩ := hQ113
  have N113 := Fr.app N0 N113q
  have KK113 := K102.trans K113 (allS (Or.inr sz102) all0)
  have Z113 : n0 ≤ T113.heap.size := Nat.le_trans Z102 K113.1
  have F114 := F105.keep K113
  have F115 := F106.keep K113 (ninS ne103 nin0)
  have F116 := F107.keep K113
  have F117 := F108.keep K113 (ninS ne104 nin0)
  have F118 := own_sta_keep F109 K113 (allS (own_plain A102) all0)
  have F119 := A102.keep K113
  refine gs m T113 44 #[vR (b1), sU] [(.ref b102)] (fun _ k => st113.trans k) ?_
  exact Go.retA X113 hx (t := (.object "java/util/List")) hret rfl hlk rfl (hb hby q3s) (⟨b102, rfl, N113, KK113, sz102, P113_0, P113_1, P113_2⟩) (by decide) (by decide)
theorem q3t : decode jdk_40_method_47_code 45 = .ok (.new 96, 3) := by decide +kernel
theorem q3u : decode jdk_40_method_47_code 48 = .ok (.dup, 1) := by decide +kernel
theorem q3v : decode jdk_40_method_47_code 49 = .ok (.aload_n 0, 1) := by decide +kernel
theorem q3w : decode jdk_40_method_47_code 50 = .ok (.iconst 0, 1) := by decide +kernel
theorem q3x : decode jdk_40_method_47_code 51 = .ok (.aaload, 1) := by decide +kernel
theorem q3y : decode jdk_40_method_47_code 52 = .ok (.aload_n 0, 1) := by decide +kernel
theorem q3z : decode jdk_40_method_47_code 53 = .ok (.iconst 1, 1) := by decide +kernel
theorem q40 : decode jdk_40_method_47_code 54 = .ok (.aaload, 1) := by decide +kernel
theorem q41 : decode jdk_40_method_47_code 55 = .ok (.invokespecial 100, 3) := by decide +kernel
theorem own_pd8 : parseMethodDescriptor "(Ljava/lang/Object;Ljava/lang/Object;)V" = some ⟨[(.object "java/lang/Object"), (.object "java/lang/Object")], none⟩ := by decide +kernel
theorem q42 : decode jdk_40_method_47_code 58 = .ok (.areturn, 1) := by decide +kernel
theorem own_ofa2 (l : Launch) (Z : State) (a0 : Array Value) (hw : ∀ d ∈ tables_1, d.before a0 Z = true) (ws : List Jvm.Cond) (b1 : Addr) (k1 : ClassId) (x1 : Addr) (x2 : Addr) (s1 : Int64) (s2 : Int64) (h0 : Heap) (n0 : Nat) (Z0 : n0 ≤ h0.size) (f0 : Exa Z h0 b1 "[Ljava/lang/Object;") (f1 : Arv Z h0 b1 k1 (.object "java/lang/Object") (2 : Int32) [(.ref x1), (.ref x2)] .null) (f2 : Exa Z h0 x1 "java/time/Duration") (f3 : Fld Z h0 x1 "java/time/Duration" "seconds" "J" (.long s1)) (f4 : Exa Z h0 x2 "java/time/Duration") (f5 : Fld Z h0 x2 "java/time/Duration" "seconds" "J" (.long s2))  :
    Con l Z (⟨"java/util/List", "of", "([Ljava/lang/Object;)Ljava/util/List;"⟩ : MethodName) jdk_40_method_47_code 2 (some (.object "java/util/List")) ({ frames := 5, cells := 1, slots := 2, locals := 63 } : Room) ws #[(.ref b1)] h0 (fun v h L => ∃ lst : Addr, (v = some (.ref lst)) ∧ (Fr n0 L) ∧ (Keep h0 h []) ∧ (h0.size ≤ lst) ∧ (Exa Z h lst "java/util/ImmutableCollections$List12") ∧ (Fld Z h lst "java/util/ImmutableCollections$List12" "e0" "Ljava/lang/Object;" (.ref x1)) ∧ (Fld Z h lst "java/util/ImmutableCollections$List12" "e1" "Ljava/lang/Object;" (.ref x2))) 1 2 := by
  refine Con.of (plainFor_of_name own_pn_List) ?_
  intro pgm e s m below meth c s₁ X0 hx hZ hby hml hown hnm hret hlk e0 hs0
  have N0 := Fr.nil n0
  have hown : s.vm.findClass "java/util/List" = some m.cls := hown
  have hnm : meth.name = "of" := hnm
  refine Go.cast (own_ef_jdk_40_method_47_code_R m b1) ?_
  have K0 := Keep.refl h0 []
  refine gs m s₁ 1 #[vR (b1), sU] [(.ref b1)] (fun _ k => XS.aloadN X0.here hx rfl (hb hby q3j) rfl rfl k) ?_
  obtain ⟨cl101, Ar101, -, S101, M101, -, -⟩ := id f1
  refine gs m s₁ 2 #[vR (b1), sU] [(.int (2 : Int32))] (fun _ k => X0.arraylength hx (cell := cl101) (by rw [e0]; exact Ar101.1) (State.isArrayOf_alike hZ.alike Ar101.2.1) (g := (mkF m 1 #[vR (b1), sU] [(.ref b1)])) rfl (rest := []) rfl (hb hby q3k) _ (by rw [len_of S101 M101]; exact k)) ?_
  refine gs m s₁ 45 #[vR (b1), sU] [] (fun _ k => XS.tswIn X0.here hx rfl (pc0 := 2) (pc' := 45) rfl (hb hby q3l) rfl (by decide) (o := 43) (by decide) (by decide) (by decide) k) ?_
  obtain ⟨T102, h102, X102, e102, E102, A102, D102, -, st102⟩ := newO X0 hx hZ hown (hwi hw 254 rfl) (hwi hw 255 rfl) (hwi hw 256 rfl) e0 (g := (mkF m 45 #[vR (b1), sU] [])) rfl (hb hby q3t) (by decide) (by decide)
  obtain ⟨b102, g102⟩ : ∃ z, z = h0.size := ⟨_, rfl⟩
  rw [← g102] at A102 D102 st102
  have ne103 : b1 ≠ b102 := by have q := f0.lt; intro r; rw [r, g102] at q; exact Nat.lt_irrefl _ q
  have ne104 : x1 ≠ b102 := by have q := f2.lt; intro r; rw [r, g102] at q; exact Nat.lt_irrefl _ q
  have ne105 : x2 ≠ b102 := by have q := f4.lt; intro r; rw [r, g102] at q; exact Nat.lt_irrefl _ q
  have ge102 : n0 ≤ b102 := Nat.le_trans Z0 (Nat.le_of_eq g102.symm)
  have Z102 : n0 ≤ h102.size := Nat.le_trans Z0 E102.1
  have sz102 : h0.size ≤ b102 := Nat.le_trans K0.1 (Nat.le_of_eq g102.symm)
  have K102 := K0.ext E102
  have F106 := f0.ext E102
  have F107 := f1.ext E102
  have F108 := f2.ext E102
  have F109 := f3.ext E102
  have F110 := f4.ext E102
  have F111 := f5.ext E102
  have F112 : Fld Z h102 b102 "java/util/ImmutableCollections$List12" "e0" "Ljava/lang/Object;" .null := D102 (Or.inr (hwi hw 267 rfl)) (ty := (.object "java/lang/Object")) (by decide)
  have F113 : Fld Z h102 b102 "java/util/ImmutableCollections$List12" "e1" "Ljava/lang/Object;" .null := D102 (Or.inr (hwi hw 269 rfl)) (ty := (.object "java/lang/Object")) (by decide)
  refine gs m T102 48 #[vR (b1), sU] [(.ref b102)] st102 ?_
  refine gs m T102 49 #[vR (b1), sU] [(.ref b102), (.ref b102)] (fun _ k => XS.dup X102.here hx rfl (hb hby q3u) rfl rfl k) ?_
  refine gs m T102 50 #[vR (b1), sU] [(.ref b1), (.ref b102), (.ref b102)] (fun _ k => XS.aloadN X102.here hx rfl (hb hby q3v) rfl rfl k) ?_
  refine gs m T102 51 #[vR (b1), sU] [(.int (0 : Int32)), (.ref b1), (.ref b102), (.ref b102)] (fun _ k => XS.iconst X102.here hx rfl (hb hby q3w) k) ?_
  obtain ⟨cl114, Ar114, q114, S114, M114, H114, G114⟩ := id F107
  have I114 := inb_of (j := (0 : Int32)) S114 (by decide)
  refine gs m T102 52 #[vR (b1), sU] [(.ref x1), (.ref b102), (.ref b102)] (fun _ k => X102.aaload hx (j := (0 : Int32)) (v := (.ref x1)) (by rw [e102]; exact Ar114.1) (State.isArrayOf_alike hZ.alike Ar114.2.1) rfl Ar114.2.2 I114 (Has.at H114 I114 rfl) (g := (mkF m 51 #[vR (b1), sU] [(.int (0 : Int32)), (.ref b1), (.ref b102), (.ref b102)])) rfl rfl (hb hby q3x) _ k) ?_
  refine gs m T102 53 #[vR (b1), sU] [(.ref b1), (.ref x1), (.ref b102), (.ref b102)] (fun _ k => XS.aloadN X102.here hx rfl (hb hby q3y) rfl rfl k) ?_
  refine gs m T102 54 #[vR (b1), sU] [(.int (1 : Int32)), (.ref b1), (.ref x1), (.ref b102), (.ref b102)] (fun _ k => XS.iconst X102.here hx rfl (hb hby q3z) k) ?_
  obtain ⟨cl115, Ar115, q115, S115, M115, H115, G115⟩ := id F107
  have I115 := inb_of (j := (1 : Int32)) S115 (by decide)
  refine gs m T102 55 #[vR (b1), sU] [(.ref x2), (.ref x1), (.ref b102), (.ref b102)] (fun _ k => X102.aaload hx (j := (1 : Int32)) (v := (.ref x2)) (by rw [e102]; exact Ar115.1) (State.isArrayOf_alike hZ.alike Ar115.2.1) rfl Ar115.2.2 I115 (Has.at H115 I115 rfl) (g := (mkF m 54 #[vR (b1), sU] [(.int (1 : Int32)), (.ref b1), (.ref x1), (.ref b102), (.ref b102)])) rfl rfl (hb hby q40) _ k) ?_
  obtain ⟨_, _, ⟨T116, L116, k116, n116⟩, -, X116, ⟨Lc116, hQ116, l116, y116, z116⟩, st116⟩ := X102.specialBack hx (y := (⟨"java/util/ImmutableCollections$List12", "<init>", "(Ljava/lang/Object;Ljava/lang/Object;)V"⟩ : MethodName)) rfl hown (mvT hZ (hwi hw 257 rfl)) (mvT hZ (hwi hw 258 rfl)) (mvT hZ (hwi hw 260 rfl)) (by decide) (backOf (W := 1) (Q := fun v h L => (v = none) ∧ (Fr n0 L) ∧ (Keep h102 h [b102]) ∧ (Exa Z h b102 "java/util/ImmutableCollections$List12") ∧ (Fld Z h b102 "java/util/ImmutableCollections$List12" "e0" "Ljava/lang/Object;" (.ref x1)) ∧ (Fld Z h b102 "java/util/ImmutableCollections$List12" "e1" "Ljava/lang/Object;" (.ref x2))) (own_l2i l Z a0 hw [] b102 x1 x2 .null .null h102 n0 Z102 A102 ge102 F112 F113) hZ (hwi hw 260 rfl) (hwi hw 256 rfl) (by decide) (by decide)) (g := (mkF m 55 #[vR (b1), sU] [(.ref x2), (.ref x1), (.ref b102), (.ref b102)])) rfl (by rw [hml]; rfl) (Steps.refl _) (a := b102) (argsL := [(.ref x1), (.ref x2)]) (rest := [(.ref b102)]) (lenOf own_pd8 rfl) rfl (by show 2 * 0 + _ ≤ _; exact Nat.le_of_eq rfl) (hb hby q41) (fun _ _ => ⟨rfl, e102, (by decide : 1 + 0 ≤ _), (by decide : 2 + 0 ≤ _)⟩)
  dsimp only [Pt.U, Pt.locs, Pt.cells, Pt.slots] at X116 l116 y116 z116 st116 hQ116
  subst l116 y116 z116
  obtain ⟨rfl, N116q, K116, P116_0, P116_1, P116_2⟩ := hQ116
  have N116 := Fr.app N0 N116q
  have KK116 := K102.trans K116 (allS (Or.inr sz102) all0)
  have Z116 : n0 ≤ T116.heap.size := Nat.le_trans Z102 K116.1
  have F117 := F106.keep K116
  have F118 := F107.keep K116 (ninS ne103 nin0)
  have F119 := F108.keep K116
  have F120 := F109.keep K116 (ninS ne104 nin0)
  have F121 := F110.keep K116
  have F122 := F111.keep K116 (ninS ne105 nin0)
  have F123 := A102.keep K116
  refine gs m T116 58 #[vR (b1), sU] [(.ref b102)] (fun _ k => st116.trans k) ?_
  exact Go.retA X116 hx (t := (.object "java/util/List")) hret rfl hlk rfl (hb hby q42) (⟨b102, rfl, N116, KK116, sz102, P116_0, P116_1, P116_2⟩) (by decide) (by decide)
theorem own_ef_jdk_56_method_3_code_R (m : MethodId) (x0 : Addr) : entryFrame m #[(.ref x0)] 2 = mkF m 0 #[vR (x0), sU] [] := by first | (simp [entryFrame, mkF, argsToLocals, Value.category]; done) | rfl | (simp [entryFrame, mkF, argsToLocals, own_cI, own_cJ, own_cR, own_cN]; done)
theorem own_pn_ImmutableCollections : plainName "java/util/ImmutableCollections" = true := by first | (simp [plainName, overriddenIn]; done) | decide +kernel
theorem q43 : decode jdk_56_method_3_code 0 = .ok (.aload_n 0, 1) := by decide +kernel
theorem q44 : decode jdk_56_method_3_code 1 = .ok (.instanceof 10, 3) := by decide +kernel
theorem q45 : decode jdk_56_method_3_code 4 = .ok (.ifCond .ne 22, 3) := by decide +kernel
theorem q46 : decode jdk_56_method_3_code 7 = .ok (.aload_n 0, 1) := by decide +kernel
theorem q47 : decode jdk_56_method_3_code 8 = .ok (.instanceof 12, 3) := by decide +kernel
theorem q48 : decode jdk_56_method_3_code 11 = .ok (.ifCond .eq 20, 3) := by decide +kernel
theorem q49 : decode jdk_56_method_3_code 31 = .ok (.aload_n 0, 1) := by decide +kernel
theorem q4a : decode jdk_56_method_3_code 32 = .ok (.invokeinterface 20 1, 5) := by decide +kernel
theorem own_pd9 : parseMethodDescriptor "()Z" = some ⟨[], some .boolean⟩ := by decide +kernel
theorem q4b : decode jdk_56_method_3_code 37 = .ok (.ifCond .eq 7, 3) := by decide +kernel
theorem q4c : decode jdk_56_method_3_code 40 = .ok (.invokestatic 26, 3) := by decide +kernel
theorem own_pd10 : parseMethodDescriptor "()Ljava/util/List;" = some ⟨[], some (.object "java/util/List")⟩ := by decide +kernel
theorem q4d : decode jdk_56_method_3_code 43 = .ok (.areturn, 1) := by decide +kernel
theorem own_lcp0 (l : Launch) (Z : State) (a0 : Array Value) (hw : ∀ d ∈ tables_1, d.before a0 Z = true) (ws : List Jvm.Cond) (a1 : Addr) (el : Addr) (h0 : Heap) (n0 : Nat) (Z0 : n0 ≤ h0.size) (f0 : Exa Z h0 a1 "java/util/ArrayList") (f1 : Fld Z h0 a1 "java/util/ArrayList" "size" "I" (.int (0 : Int32))) (f2 : Sta Z h0 "java/util/ImmutableCollections" "EMPTY_LIST" "Ljava/util/ImmutableCollections$ListN;" (.ref el))  :
    Con l Z (⟨"java/util/ImmutableCollections", "listCopy", "(Ljava/util/Collection;)Ljava/util/List;"⟩ : MethodName) jdk_56_method_3_code 2 (some (.object "java/util/List")) ({ frames := 1, cells := 0, slots := 0, locals := 12 } : Room) ws #[(.ref a1)] h0 (Qret (some (.ref el)) h0 n0) 0 0 := by
  refine Con.of (plainFor_of_name own_pn_ImmutableCollections) ?_
  intro pgm e s m below meth c s₁ X0 hx hZ hby hml hown hnm hret hlk e0 hs0
  have N0 := Fr.nil n0
  have hown : s.vm.findClass "java/util/ImmutableCollections" = some m.cls := hown
  have hnm : meth.name = "listCopy" := hnm
  refine Go.cast (own_ef_jdk_56_method_3_code_R m a1) ?_
  refine gs m s₁ 1 #[vR (a1), sU] [(.ref a1)] (fun _ k => XS.aloadN X0.here hx rfl (hb hby q43) rfl rfl k) ?_
  obtain ⟨T101, X101, e101, st101⟩ := instNo X0 hx hZ hown (hwi hw 55 rfl) e0 f0 (own_noas f0 (t := ["java/util/AbstractList", "java/util/AbstractCollection", "java/lang/Object"]) (fun w hm => by simp only [Cond.chainWords, List.mem_cons, List.not_mem_nil, or_false] at hm; rcases hm with rfl | rfl | rfl | rfl <;> first | exact (hwi hw 56 rfl) | exact (hwi hw 57 rfl) | exact (hwi hw 58 rfl) | exact (hwi hw 59 rfl)) (hwi hw 255 rfl) (by decide)) (g := (mkF m 1 #[vR (a1), sU] [(.ref a1)])) rfl rfl (hb hby q44)
  refine gs m T101 4 #[vR (a1), sU] [(.int (0 : Int32))] st101 ?_
  refine gs m T101 7 #[vR (a1), sU] [] (fun _ k => XS.ifNo X101.here hx rfl (hb hby q45) rfl ((if0 _ _).trans (teq (by decide : (0 : Int32) = (0 : Int32))).2) k) ?_
  refine gs m T101 8 #[vR (a1), sU] [(.ref a1)] (fun _ k => XS.aloadN X101.here hx rfl (hb hby q46) rfl rfl k) ?_
  obtain ⟨T102, X102, e102, st102⟩ := instNo X101 hx hZ hown (hwi hw 60 rfl) e101 f0 (own_noas f0 (t := ["java/util/AbstractList", "java/util/AbstractCollection", "java/lang/Object"]) (fun w hm => by simp only [Cond.chainWords, List.mem_cons, List.not_mem_nil, or_false] at hm; rcases hm with rfl | rfl | rfl | rfl <;> first | exact (hwi hw 56 rfl) | exact (hwi hw 57 rfl) | exact (hwi hw 58 rfl) | exact (hwi hw 59 rfl)) (hwi hw 216 rfl) (by decide)) (g := (mkF m 8 #[vR (a1), sU] [(.ref a1)])) rfl rfl (hb hby q47)
  refine gs m T102 11 #[vR (a1), sU] [(.int (0 : Int32))] st102 ?_
  refine gs m T102 31 #[vR (a1), sU] [] (fun _ k => XS.ifYes X102.here hx rfl (pc0 := 11) (pc' := 31) rfl (hb hby q48) rfl ((if0 _ _).trans (teq (by decide : (0 : Int32) = (0 : Int32))).1) (by decide) (by decide) k) ?_
  refine gs m T102 32 #[vR (a1), sU] [(.ref a1)] (fun _ k => XS.aloadN X102.here hx rfl (hb hby q49) rfl rfl k) ?_
  obtain ⟨cq103, kq103, q103a, q103b, q103c⟩ := isOf hZ e102 f0
  obtain ⟨_, _, ⟨T103, L103, k103, n103⟩, -, X103, ⟨Lc103, hQ103, l103, y103, z103⟩, st103⟩ := X102.interfaceBack hx (xi := (⟨"java/util/Collection", "isEmpty", "()Z"⟩ : MethodName)) (y := (⟨"java/util/ArrayList", "isEmpty", "()Z"⟩ : MethodName)) hown (mvT hZ (hwi hw 61 rfl)) (mvT hZ (hwi hw 62 rfl)) (mvT hZ (hwi hw 63 rfl)) (mvT hZ (hwi hw 64 rfl)) (mvT hZ (hwi hw 65 rfl)) (mvT hZ (hwi hw 66 rfl)) (mvT hZ (hwi hw 67 rfl)) (mvT hZ (hwi hw 68 rfl)) (by decide) (backOf (W := 0) (Q := Qret (some (.int (1 : Int32))) h0 n0) (own_ise0 l Z a0 hw [] a1 h0 n0 Z0 f1) hZ (hwi hw 69 rfl) (hwi hw 12 rfl) (by decide) (by decide)) q103a q103b q103c (g := (mkF m 32 #[vR (a1), sU] [(.ref a1)])) rfl (by rw [hml]; rfl) (Steps.refl _) (argsL := []) (rest := []) (lenOf own_pd9 rfl) rfl (by show 2 * 0 + _ ≤ _; exact Nat.le_of_eq rfl) (hb hby q4a) (fun _ _ => ⟨rfl, e102, (by decide : 0 + 0 ≤ _), (by decide : 0 + 0 ≤ _)⟩)
  dsimp only [Pt.U, Pt.locs, Pt.cells, Pt.slots] at X103 l103 y103 z103 st103 hQ103
  subst l103 y103 z103
  obtain ⟨rfl, N103q, eh103⟩ := hQ103
  have N103 := Fr.app N0 N103q
  refine gs m T103 37 #[vR (a1), sU] [(.int (1 : Int32))] (fun _ k => st103.trans k) ?_
  refine gs m T103 40 #[vR (a1), sU] [] (fun _ k => XS.ifNo X103.here hx rfl (hb hby q4b) rfl ((if0 _ _).trans (feq (by decide : ¬ ((1 : Int32) = (0 : Int32)))).1) k) ?_
  obtain ⟨_, _, ⟨T104, L104, k104, n104⟩, -, X104, ⟨Lc104, hQ104, l104, y104, z104⟩, st104⟩ := Jvm.LawKit.callS X103 hx (y := (⟨"java/util/List", "of", "()Ljava/util/List;"⟩ : MethodName)) hown (mvT hZ (hwi hw 72 rfl)) (mvT hZ (hwi hw 73 rfl)) (mvT hZ (hwi hw 49 rfl)) (mvT hZ (hwi hw 74 rfl)) (by decide) (backOf (W := 0) (Q := Qret (some (.ref el)) h0 n0) (own_of0 l Z a0 hw [] el h0 n0 Z0 f2) hZ (hwi hw 74 rfl) (hwi hw 49 rfl) (by decide) (by decide)) (g := (mkF m 40 #[vR (a1), sU] [])) rfl (by rw [hml]; rfl) (argsL := []) (rest := []) (lenOf own_pd10 rfl) rfl (by show 2 * 0 + _ ≤ _; exact Nat.le_of_eq rfl) (hb hby q4c) (fun _ _ => ⟨rfl, eh103, (by decide : 0 + 0 ≤ _), (by decide : 0 + 0 ≤ _)⟩)
  dsimp only [Pt.U, Pt.locs, Pt.cells, Pt.slots] at X104 l104 y104 z104 st104 hQ104
  subst l104 y104 z104
  obtain ⟨rfl, N104q, eh104⟩ := hQ104
  have N104 := Fr.app N103 N104q
  refine gs m T104 43 #[vR (a1), sU] [(.ref el)] (st104) ?_
  exact Go.retA X104 hx (t := (.object "java/util/List")) hret rfl hlk rfl (hb hby q4d) (⟨rfl, N104, eh104⟩) (by decide) (by decide)
theorem own_ef_jdk_40_method_48_code_R (m : MethodId) (x0 : Addr) : entryFrame m #[(.ref x0)] 1 = mkF m 0 #[vR (x0)] [] := by first | (simp [entryFrame, mkF, argsToLocals, Value.category]; done) | rfl | (simp [entryFrame, mkF, argsToLocals, own_cI, own_cJ, own_cR, own_cN]; done)
theorem q4e : decode jdk_40_method_48_code 0 = .ok (.aload_n 0, 1) := by decide +kernel
theorem q4f : decode jdk_40_method_48_code 1 = .ok (.invokestatic 112, 3) := by decide +kernel
theorem own_pd11 : parseMethodDescriptor "(Ljava/util/Collection;)Ljava/util/List;" = some ⟨[(.object "java/util/Collection")], some (.object "java/util/List")⟩ := by decide +kernel
theorem q4g : decode jdk_40_method_48_code 4 = .ok (.areturn, 1) := by decide +kernel
theorem own_cof0 (l : Launch) (Z : State) (a0 : Array Value) (hw : ∀ d ∈ tables_1, d.before a0 Z = true) (ws : List Jvm.Cond) (a1 : Addr) (el : Addr) (h0 : Heap) (n0 : Nat) (Z0 : n0 ≤ h0.size) (f0 : Exa Z h0 a1 "java/util/ArrayList") (f1 : Fld Z h0 a1 "java/util/ArrayList" "size" "I" (.int (0 : Int32))) (f2 : Sta Z h0 "java/util/ImmutableCollections" "EMPTY_LIST" "Ljava/util/ImmutableCollections$ListN;" (.ref el))  :
    Con l Z (⟨"java/util/List", "copyOf", "(Ljava/util/Collection;)Ljava/util/List;"⟩ : MethodName) jdk_40_method_48_code 1 (some (.object "java/util/List")) ({ frames := 2, cells := 0, slots := 0, locals := 25 } : Room) ws #[(.ref a1)] h0 (Qret (some (.ref el)) h0 n0) 0 0 := by
  refine Con.of (plainFor_of_name own_pn_List) ?_
  intro pgm e s m below meth c s₁ X0 hx hZ hby hml hown hnm hret hlk e0 hs0
  have N0 := Fr.nil n0
  have hown : s.vm.findClass "java/util/List" = some m.cls := hown
  have hnm : meth.name = "copyOf" := hnm
  refine Go.cast (own_ef_jdk_40_method_48_code_R m a1) ?_
  refine gs m s₁ 1 #[vR (a1)] [(.ref a1)] (fun _ k => XS.aloadN X0.here hx rfl (hb hby q4e) rfl rfl k) ?_
  obtain ⟨_, _, ⟨T101, L101, k101, n101⟩, -, X101, ⟨Lc101, hQ101, l101, y101, z101⟩, st101⟩ := Jvm.LawKit.callS X0 hx (y := (⟨"java/util/ImmutableCollections", "listCopy", "(Ljava/util/Collection;)Ljava/util/List;"⟩ : MethodName)) hown (mvT hZ (hwi hw 51 rfl)) (mvT hZ (hwi hw 52 rfl)) (mvT hZ (hwi hw 53 rfl)) (mvT hZ (hwi hw 54 rfl)) (by decide) (backOf (W := 0) (Q := Qret (some (.ref el)) h0 n0) (own_lcp0 l Z a0 hw [] a1 el h0 n0 Z0 f0 f1 f2) hZ (hwi hw 54 rfl) (hwi hw 53 rfl) (by decide) (by decide)) (g := (mkF m 1 #[vR (a1)] [(.ref a1)])) rfl (by rw [hml]; rfl) (argsL := [(.ref a1)]) (rest := []) (lenOf own_pd11 rfl) rfl (by show 2 * 0 + _ ≤ _; exact Nat.le_of_eq rfl) (hb hby q4f) (fun _ _ => ⟨rfl, e0, (by decide : 0 + 0 ≤ _), (by decide : 0 + 0 ≤ _)⟩)
  dsimp only [Pt.U, Pt.locs, Pt.cells, Pt.slots] at X101 l101 y101 z101 st101 hQ101
  subst l101 y101 z101
  obtain ⟨rfl, N101q, eh101⟩ := hQ101
  have N101 := Fr.app N0 N101q
  refine gs m T101 4 #[vR (a1)] [(.ref el)] (st101) ?_
  exact Go.retA X101 hx (t := (.object "java/util/List")) hret rfl hlk rfl (hb hby q4g) (⟨rfl, N101, eh101⟩) (by decide) (by decide)
theorem q4h : decode jdk_56_method_3_code 44 = .ok (.aload_n 0, 1) := by decide +kernel
theorem q4i : decode jdk_56_method_3_code 45 = .ok (.invokeinterface 30 1, 5) := by decide +kernel
theorem q4j : decode jdk_56_method_3_code 50 = .ok (.invokestatic 34, 3) := by decide +kernel
theorem own_pd12 : parseMethodDescriptor "([Ljava/lang/Object;)Ljava/util/List;" = some ⟨[(.array (.object "java/lang/Object"))], some (.object "java/util/List")⟩ := by decide +kernel
theorem q4k : decode jdk_56_method_3_code 53 = .ok (.areturn, 1) := by decide +kernel
theorem own_lcp1 (l : Launch) (Z : State) (a0 : Array Value) (hw : ∀ d ∈ tables_1, d.before a0 Z = true) (ws : List Jvm.Cond) (a1 : Addr) (b1 : Addr) (k1 : ClassId) (x1 : Addr) (s1 : Int64) (em : Addr) (h0 : Heap) (n0 : Nat) (Z0 : n0 ≤ h0.size) (f0 : Exa Z h0 a1 "java/util/ArrayList") (f1 : Fld Z h0 a1 "java/util/ArrayList" "elementData" "[Ljava/lang/Object;" (.ref b1)) (f2 : Fld Z h0 a1 "java/util/ArrayList" "size" "I" (.int (1 : Int32))) (f3 : Exa Z h0 b1 "[Ljava/lang/Object;") (f4 : Arv Z h0 b1 k1 (.object "java/lang/Object") (10 : Int32) [(.ref x1), .null, .null, .null, .null, .null, .null, .null, .null, .null] .null) (f5 : Exa Z h0 x1 "java/time/Duration") (f6 : Fld Z h0 x1 "java/time/Duration" "seconds" "J" (.long s1)) (f7 : Sta Z h0 "java/util/ImmutableCollections" "EMPTY" "Ljava/lang/Object;" (.ref em)) (ov1 : Ovr Z k1 "java/lang/Object") (MM : MirrorMade Z "[Ljava/lang/Object;") :
    Con l Z (⟨"java/util/ImmutableCollections", "listCopy", "(Ljava/util/Collection;)Ljava/util/List;"⟩ : MethodName) jdk_56_method_3_code 2 (some (.object "java/util/List")) ({ frames := 6, cells := 2, slots := 3, locals := 89 } : Room) ws #[(.ref a1)] h0 (fun v h L => ∃ lst : Addr, (v = some (.ref lst)) ∧ (Fr n0 L) ∧ (Keep h0 h []) ∧ (h0.size ≤ lst) ∧ (Exa Z h lst "java/util/ImmutableCollections$List12") ∧ (Fld Z h lst "java/util/ImmutableCollections$List12" "e0" "Ljava/lang/Object;" (.ref x1)) ∧ (Fld Z h lst "java/util/ImmutableCollections$List12" "e1" "Ljava/lang/Object;" (.ref em))) 2 3 := by
  refine Con.of (plainFor_of_name own_pn_ImmutableCollections) ?_
  intro pgm e s m below meth c s₁ X0 hx hZ hby hml hown hnm hret hlk e0 hs0
  have N0 := Fr.nil n0
  have hown : s.vm.findClass "java/util/ImmutableCollections" = some m.cls := hown
  have hnm : meth.name = "listCopy" := hnm
  refine Go.cast (own_ef_jdk_56_method_3_code_R m a1) ?_
  have K0 := Keep.refl h0 []
  refine gs m s₁ 1 #[vR (a1), sU] [(.ref a1)] (fun _ k => XS.aloadN X0.here hx rfl (hb hby q43) rfl rfl k) ?_
  obtain ⟨T101, X101, e101, st101⟩ := instNo X0 hx hZ hown (hwi hw 55 rfl) e0 f0 (own_noas f0 (t := ["java/util/AbstractList", "java/util/AbstractCollection", "java/lang/Object"]) (fun w hm => by simp only [Cond.chainWords, List.mem_cons, List.not_mem_nil, or_false] at hm; rcases hm with rfl | rfl | rfl | rfl <;> first | exact (hwi hw 56 rfl) | exact (hwi hw 57 rfl) | exact (hwi hw 58 rfl) | exact (hwi hw 59 rfl)) (hwi hw 255 rfl) (by decide)) (g := (mkF m 1 #[vR (a1), sU] [(.ref a1)])) rfl rfl (hb hby q44)
  refine gs m T101 4 #[vR (a1), sU] [(.int (0 : Int32))] st101 ?_
  refine gs m T101 7 #[vR (a1), sU] [] (fun _ k => XS.ifNo X101.here hx rfl (hb hby q45) rfl ((if0 _ _).trans (teq (by decide : (0 : Int32) = (0 : Int32))).2) k) ?_
  refine gs m T101 8 #[vR (a1), sU] [(.ref a1)] (fun _ k => XS.aloadN X101.here hx rfl (hb hby q46) rfl rfl k) ?_
  obtain ⟨T102, X102, e102, st102⟩ := instNo X101 hx hZ hown (hwi hw 60 rfl) e101 f0 (own_noas f0 (t := ["java/util/AbstractList", "java/util/AbstractCollection", "java/lang/Object"]) (fun w hm => by simp only [Cond.chainWords, List.mem_cons, List.not_mem_nil, or_false] at hm; rcases hm with rfl | rfl | rfl | rfl <;> first | exact (hwi hw 56 rfl) | exact (hwi hw 57 rfl) | exact (hwi hw 58 rfl) | exact (hwi hw 59 rfl)) (hwi hw 216 rfl) (by decide)) (g := (mkF m 8 #[vR (a1), sU] [(.ref a1)])) rfl rfl (hb hby q47)
  refine gs m T102 11 #[vR (a1), sU] [(.int (0 : Int32))] st102 ?_
  refine gs m T102 31 #[vR (a1), sU] [] (fun _ k => XS.ifYes X102.here hx rfl (pc0 := 11) (pc' := 31) rfl (hb hby q48) rfl ((if0 _ _).trans (teq (by decide : (0 : Int32) = (0 : Int32))).1) (by decide) (by decide) k) ?_
  refine gs m T102 32 #[vR (a1), sU] [(.ref a1)] (fun _ k => XS.aloadN X102.here hx rfl (hb hby q49) rfl rfl k) ?_
  obtain ⟨cq103, kq103, q103a, q103b, q103c⟩ := isOf hZ e102 f0
  obtain ⟨_, _, ⟨T103, L103, k103, n103⟩, -, X103, ⟨Lc103, hQ103, l103, y103, z103⟩, st103⟩ := X102.interfaceBack hx (xi := (⟨"java/util/Collection", "isEmpty", "()Z"⟩ : MethodName)) (y := (⟨"java/util/ArrayList", "isEmpty", "()Z"⟩ : MethodName)) hown (mvT hZ (hwi hw 61 rfl)) (mvT hZ (hwi hw 62 rfl)) (mvT hZ (hwi hw 63 rfl)) (mvT hZ (hwi hw 64 rfl)) (mvT hZ (hwi hw 65 rfl)) (mvT hZ (hwi hw 66 rfl)) (mvT hZ (hwi hw 67 rfl)) (mvT hZ (hwi hw 68 rfl)) (by decide) (backOf (W := 0) (Q := Qret (some (.int (0 : Int32))) h0 n0) (own_ise1 l Z a0 hw [] a1 h0 n0 Z0 f2) hZ (hwi hw 69 rfl) (hwi hw 12 rfl) (by decide) (by decide)) q103a q103b q103c (g := (mkF m 32 #[vR (a1), sU] [(.ref a1)])) rfl (by rw [hml]; rfl) (Steps.refl _) (argsL := []) (rest := []) (lenOf own_pd9 rfl) rfl (by show 2 * 0 + _ ≤ _; exact Nat.le_of_eq rfl) (hb hby q4a) (fun _ _ => ⟨rfl, e102, (by decide : 0 + 0 ≤ _), (by decide : 0 + 0 ≤ _)⟩)
  dsimp only [Pt.U, Pt.locs, Pt.cells, Pt.slots] at X103 l103 y103 z103 st103 hQ103
  subst l103 y103 z103
  obtain ⟨rfl, N103q, eh103⟩ := hQ103
  have N103 := Fr.app N0 N103q
  refine gs m T103 37 #[vR (a1), sU] [(.int (0 : Int32))] (fun _ k => st103.trans k) ?_
  refine gs m T103 44 #[vR (a1), sU] [] (fun _ k => XS.ifYes X103.here hx rfl (pc0 := 37) (pc' := 44) rfl (hb hby q4b) rfl ((if0 _ _).trans (teq (by decide : (0 : Int32) = (0 : Int32))).1) (by decide) (by decide) k) ?_
  refine gs m T103 45 #[vR (a1), sU] [(.ref a1)] (fun _ k => XS.aloadN X103.here hx rfl (hb hby q4h) rfl rfl k) ?_
  obtain ⟨cq104, kq104, q104a, q104b, q104c⟩ := isOf hZ eh103 f0
  obtain ⟨_, _, ⟨T104, L104, k104, n104⟩, -, X104, ⟨Lc104, hQ104, l104, y104, z104⟩, st104⟩ := X103.interfaceBack hx (xi := (⟨"java/util/Collection", "toArray", "()[Ljava/lang/Object;"⟩ : MethodName)) (y := (⟨"java/util/ArrayList", "toArray", "()[Ljava/lang/Object;"⟩ : MethodName)) hown (mvT hZ (hwi hw 175 rfl)) (mvT hZ (hwi hw 176 rfl)) (mvT hZ (hwi hw 177 rfl)) (mvT hZ (hwi hw 178 rfl)) (mvT hZ (hwi hw 179 rfl)) (mvT hZ (hwi hw 180 rfl)) (mvT hZ (hwi hw 181 rfl)) (mvT hZ (hwi hw 68 rfl)) (by decide) (backOf (W := 0) (Q := fun v h L => ∃ b : Addr, ∃ kb : ClassId, (v = some (.ref b)) ∧ (Fr n0 L) ∧ (Keep h0 h []) ∧ (h0.size ≤ b) ∧ (Exa Z h b "[Ljava/lang/Object;") ∧ (Arv Z h b kb (.object "java/lang/Object") (1 : Int32) [(.ref x1)] .null)) (own_toa1 l Z a0 hw [] a1 b1 k1 x1 s1 h0 n0 Z0 f0 f1 f2 f3 f4 f5 f6 ov1 MM) hZ (hwi hw 182 rfl) (hwi hw 12 rfl) (by decide) (by decide)) q104a q104b q104c (g := (mkF m 45 #[vR (a1), sU] [(.ref a1)])) rfl (by rw [hml]; rfl) (Steps.refl _) (argsL := []) (rest := []) (lenOf own_pd3 rfl) rfl (by show 2 * 0 + _ ≤ _; exact Nat.le_of_eq rfl) (hb hby q4i) (fun _ _ => ⟨rfl, eh103, (by decide : 0 + 1 ≤ _), (by decide : 0 + 1 ≤ _)⟩)
  dsimp only [Pt.U, Pt.locs, Pt.cells, Pt.slots] at X104 l104 y104 z104 st104 hQ104
  subst l104 y104 z104
  obtain ⟨b_104, kb_104, rfl, N104q, K104, lt104_0, P104_0, P104_1⟩ := hQ104
  have N104 := Fr.app N103 N104q
  have ne105 : a1 ≠ b_104 := Nat.ne_of_lt (Nat.lt_of_lt_of_le f0.lt lt104_0)
  have ne106 : b1 ≠ b_104 := Nat.ne_of_lt (Nat.lt_of_lt_of_le f3.lt lt104_0)
  have ne107 : x1 ≠ b_104 := Nat.ne_of_lt (Nat.lt_of_lt_of_le f5.lt lt104_0)
  have ge108 : n0 ≤ b_104 := Nat.le_trans Z0 lt104_0
  have sz109 : h0.size ≤ b_104 := Nat.le_trans K0.1 lt104_0
  have KK104 := K0.trans K104 all0
  have Z104 : n0 ≤ T104.heap.size := Nat.le_trans Z0 K104.1
  have F110 := f0.keep K104
  have F111 := f1.keep K104 nin0
  have F112 := f2.keep K104 nin0
  have F113 := f3.keep K104
  have F114 := f4.keep K104 nin0
  have F115 := f5.keep K104
  have F116 := f6.keep K104 nin0
  have F117 := own_sta_keep f7 K104 all0
  refine gs m T104 50 #[vR (a1), sU] [(.ref b_104)] (fun _ k => st104.trans k) ?_
  obtain ⟨_, _, ⟨T118, L118, k118, n118⟩, -, X118, ⟨Lc118, hQ118, l118, y118, z118⟩, st118⟩ := Jvm.LawKit.callS X104 hx (y := (⟨"java/util/List", "of", "([Ljava/lang/Object;)Ljava/util/List;"⟩ : MethodName)) hown (mvT hZ (hwi hw 205 rfl)) (mvT hZ (hwi hw 206 rfl)) (mvT hZ (hwi hw 49 rfl)) (mvT hZ (hwi hw 207 rfl)) (by decide) (backOf (W := 0) (Q := fun v h L => ∃ lst : Addr, (v = some (.ref lst)) ∧ (Fr n0 L) ∧ (Keep T104.heap h []) ∧ (T104.heap.size ≤ lst) ∧ (Exa Z h lst "java/util/ImmutableCollections$List12") ∧ (Fld Z h lst "java/util/ImmutableCollections$List12" "e0" "Ljava/lang/Object;" (.ref x1)) ∧ (Fld Z h lst "java/util/ImmutableCollections$List12" "e1" "Ljava/lang/Object;" (.ref em))) (own_ofa1 l Z a0 hw [] b_104 kb_104 x1 s1 em T104.heap n0 Z104 P104_0 P104_1 F115 F116 F117) hZ (hwi hw 207 rfl) (hwi hw 49 rfl) (by decide) (by decide)) (g := (mkF m 50 #[vR (a1), sU] [(.ref b_104)])) rfl (by rw [hml]; rfl) (argsL := [(.ref b_104)]) (rest := []) (lenOf own_pd12 rfl) rfl (by show 2 * 0 + _ ≤ _; exact Nat.le_of_eq rfl) (hb hby q4j) (fun _ _ => ⟨rfl, rfl, (by decide : 1 + 1 ≤ _), (by decide : 1 + 2 ≤ _)⟩)
  dsimp only [Pt.U, Pt.locs, Pt.cells, Pt.slots] at X118 l118 y118 z118 st118 hQ118
  subst l118 y118 z118
  obtain ⟨lst_118, rfl, N118q, K118, lt118_0, P118_0, P118_1, P118_2⟩ := hQ118
  have N118 := Fr.app N104 N118q
  have ne119 : a1 ≠ lst_118 := Nat.ne_of_lt (Nat.lt_of_lt_of_le F110.lt lt118_0)
  have ne120 : b1 ≠ lst_118 := Nat.ne_of_lt (Nat.lt_of_lt_of_le F113.lt lt118_0)
  have ne121 : x1 ≠ lst_118 := Nat.ne_of_lt (Nat.lt_of_lt_of_le F115.lt lt118_0)
  have ne122 : b_104 ≠ lst_118 := Nat.ne_of_lt (Nat.lt_of_lt_of_le P104_0.lt lt118_0)
  have ge123 : n0 ≤ lst_118 := Nat.le_trans Z104 lt118_0
  have sz124 : h0.size ≤ lst_118 := Nat.le_trans KK104.1 lt118_0
  have KK118 := KK104.trans K118 all0
  have Z118 : n0 ≤ T118.heap.size := Nat.le_trans Z104 K118.1
  have F125 := F110.keep K118
  have F126 := F111.keep K118 nin0
  have F127 := F112.keep K118 nin0
  have F128 := F113.keep K118
  have F129 := F114.keep K118 nin0
  have F130 := F115.keep K118
  have F131 := F116.keep K118 nin0
  have F132 := own_sta_keep F117 K118 all0
  have F133 := P104_0.keep K118
  have F134 := P104_1.keep K118 nin0
  refine gs m T118 53 #[vR (a1), sU] [(.ref lst_118)] (st118) ?_
  exact Go.retA X118 hx (t := (.object "java/util/List")) hret rfl hlk rfl (hb hby q4k) (⟨lst_118, rfl, N118, KK118, sz124, P118_0, P118_1, P118_2⟩) (by decide) (by decide)
theorem own_cof1 (l : Launch) (Z : State) (a0 : Array Value) (hw : ∀ d ∈ tables_1, d.before a0 Z = true) (ws : List Jvm.Cond) (a1 : Addr) (b1 : Addr) (k1 : ClassId) (x1 : Addr) (s1 : Int64) (em : Addr) (h0 : Heap) (n0 : Nat) (Z0 : n0 ≤ h0.size) (f0 : Exa Z h0 a1 "java/util/ArrayList") (f1 : Fld Z h0 a1 "java/util/ArrayList" "elementData" "[Ljava/lang/Object;" (.ref b1)) (f2 : Fld Z h0 a1 "java/util/ArrayList" "size" "I" (.int (1 : Int32))) (f3 : Exa Z h0 b1 "[Ljava/lang/Object;") (f4 : Arv Z h0 b1 k1 (.object "java/lang/Object") (10 : Int32) [(.ref x1), .null, .null, .null, .null, .null, .null, .null, .null, .null] .null) (f5 : Exa Z h0 x1 "java/time/Duration") (f6 : Fld Z h0 x1 "java/time/Duration" "seconds" "J" (.long s1)) (f7 : Sta Z h0 "java/util/ImmutableCollections" "EMPTY" "Ljava/lang/Object;" (.ref em)) (ov1 : Ovr Z k1 "java/lang/Object") (MM : MirrorMade Z "[Ljava/lang/Object;") :
    Con l Z (⟨"java/util/List", "copyOf", "(Ljava/util/Collection;)Ljava/util/List;"⟩ : MethodName) jdk_40_method_48_code 1 (some (.object "java/util/List")) ({ frames := 7, cells := 2, slots := 3, locals := 102 } : Room) ws #[(.ref a1)] h0 (fun v h L => ∃ lst : Addr, (v = some (.ref lst)) ∧ (Fr n0 L) ∧ (Keep h0 h []) ∧ (h0.size ≤ lst) ∧ (Exa Z h lst "java/util/ImmutableCollections$List12") ∧ (Fld Z h lst "java/util/ImmutableCollections$List12" "e0" "Ljava/lang/Object;" (.ref x1)) ∧ (Fld Z h lst "java/util/ImmutableCollections$List12" "e1" "Ljava/lang/Object;" (.ref em))) 2 3 := by
  refine Con.of (plainFor_of_name own_pn_List) ?_
  intro pgm e s m below meth c s₁ X0 hx hZ hby hml hown hnm hret hlk e0 hs0
  have N0 := Fr.nil n0
  have hown : s.vm.findClass "java/util/List" = some m.cls := hown
  have hnm : meth.name = "copyOf" := hnm
  refine Go.cast (own_ef_jdk_40_method_48_code_R m a1) ?_
  have K0 := Keep.refl h0 []
  refine gs m s₁ 1 #[vR (a1)] [(.ref a1)] (fun _ k => XS.aloadN X0.here hx rfl (hb hby q4e) rfl rfl k) ?_
  obtain ⟨_, _, ⟨T101, L101, k101, n101⟩, -, X101, ⟨Lc101, hQ101, l101, y101, z101⟩, st101⟩ := Jvm.LawKit.callS X0 hx (y := (⟨"java/util/ImmutableCollections", "listCopy", "(Ljava/util/Collection;)Ljava/util/List;"⟩ : MethodName)) hown (mvT hZ (hwi hw 51 rfl)) (mvT hZ (hwi hw 52 rfl)) (mvT hZ (hwi hw 53 rfl)) (mvT hZ (hwi hw 54 rfl)) (by decide) (backOf (W := 0) (Q := fun v h L => ∃ lst : Addr, (v = some (.ref lst)) ∧ (Fr n0 L) ∧ (Keep h0 h []) ∧ (h0.size ≤ lst) ∧ (Exa Z h lst "java/util/ImmutableCollections$List12") ∧ (Fld Z h lst "java/util/ImmutableCollections$List12" "e0" "Ljava/lang/Object;" (.ref x1)) ∧ (Fld Z h lst "java/util/ImmutableCollections$List12" "e1" "Ljava/lang/Object;" (.ref em))) (own_lcp1 l Z a0 hw [] a1 b1 k1 x1 s1 em h0 n0 Z0 f0 f1 f2 f3 f4 f5 f6 f7 ov1 MM) hZ (hwi hw 54 rfl) (hwi hw 53 rfl) (by decide) (by decide)) (g := (mkF m 1 #[vR (a1)] [(.ref a1)])) rfl (by rw [hml]; rfl) (argsL := [(.ref a1)]) (rest := []) (lenOf own_pd11 rfl) rfl (by show 2 * 0 + _ ≤ _; exact Nat.le_of_eq rfl) (hb hby q4f) (fun _ _ => ⟨rfl, e0, (by decide : 0 + 2 ≤ _), (by decide : 0 + 3 ≤ _)⟩)
  dsimp only [Pt.U, Pt.locs, Pt.cells, Pt.slots] at X101 l101 y101 z101 st101 hQ101
  subst l101 y101 z101
  obtain ⟨lst_101, rfl, N101q, K101, lt101_0, P101_0, P101_1, P101_2⟩ := hQ101
  have N101 := Fr.app N0 N101q
  have ne102 : a1 ≠ lst_101 := Nat.ne_of_lt (Nat.lt_of_lt_of_le f0.lt lt101_0)
  have ne103 : b1 ≠ lst_101 := Nat.ne_of_lt (Nat.lt_of_lt_of_le f3.lt lt101_0)
  have ne104 : x1 ≠ lst_101 := Nat.ne_of_lt (Nat.lt_of_lt_of_le f5.lt lt101_0)
  have ge105 : n0 ≤ lst_101 := Nat.le_trans Z0 lt101_0
  have sz106 : h0.size ≤ lst_101 := Nat.le_trans K0.1 lt101_0
  have KK101 := K0.trans K101 all0
  have Z101 : n0 ≤ T101.heap.size := Nat.le_trans Z0 K101.1
  have F107 := f0.keep K101
  have F108 := f1.keep K101 nin0
  have F109 := f2.keep K101 nin0
  have F110 := f3.keep K101
  have F111 := f4.keep K101 nin0
  have F112 := f5.keep K101
  have F113 := f6.keep K101 nin0
  have F114 := own_sta_keep f7 K101 all0
  refine gs m T101 4 #[vR (a1)] [(.ref lst_101)] (st101) ?_
  exact Go.retA X101 hx (t := (.object "java/util/List")) hret rfl hlk rfl (hb hby q4g) (⟨lst_101, rfl, N101, KK101, sz106, P101_0, P101_1, P101_2⟩) (by decide) (by decide)
theorem own_lcp2 (l : Launch) (Z : State) (a0 : Array Value) (hw : ∀ d ∈ tables_1, d.before a0 Z = true) (ws : List Jvm.Cond) (a1 : Addr) (b1 : Addr) (k1 : ClassId) (x1 : Addr) (x2 : Addr) (s1 : Int64) (s2 : Int64) (h0 : Heap) (n0 : Nat) (Z0 : n0 ≤ h0.size) (f0 : Exa Z h0 a1 "java/util/ArrayList") (f1 : Fld Z h0 a1 "java/util/ArrayList" "elementData" "[Ljava/lang/Object;" (.ref b1)) (f2 : Fld Z h0 a1 "java/util/ArrayList" "size" "I" (.int (2 : Int32))) (f3 : Exa Z h0 b1 "[Ljava/lang/Object;") (f4 : Arv Z h0 b1 k1 (.object "java/lang/Object") (10 : Int32) [(.ref x1), (.ref x2), .null, .null, .null, .null, .null, .null, .null, .null] .null) (f5 : Exa Z h0 x1 "java/time/Duration") (f6 : Fld Z h0 x1 "java/time/Duration" "seconds" "J" (.long s1)) (f7 : Exa Z h0 x2 "java/time/Duration") (f8 : Fld Z h0 x2 "java/time/Duration" "seconds" "J" (.long s2)) (ov1 : Ovr Z k1 "java/lang/Object") (MM : MirrorMade Z "[Ljava/lang/Object;") :
    Con l Z (⟨"java/util/ImmutableCollections", "listCopy", "(Ljava/util/Collection;)Ljava/util/List;"⟩ : MethodName) jdk_56_method_3_code 2 (some (.object "java/util/List")) ({ frames := 6, cells := 2, slots := 4, locals := 89 } : Room) ws #[(.ref a1)] h0 (fun v h L => ∃ lst : Addr, (v = some (.ref lst)) ∧ (Fr n0 L) ∧ (Keep h0 h []) ∧ (h0.size ≤ lst) ∧ (Exa Z h lst "java/util/ImmutableCollections$List12") ∧ (Fld Z h lst "java/util/ImmutableCollections$List12" "e0" "Ljava/lang/Object;" (.ref x1)) ∧ (Fld Z h lst "java/util/ImmutableCollections$List12" "e1" "Ljava/lang/Object;" (.ref x2))) 2 4 := by
  refine Con.of (plainFor_of_name own_pn_ImmutableCollections) ?_
  intro pgm e s m below meth c s₁ X0 hx hZ hby hml hown hnm hret hlk e0 hs0
  have N0 := Fr.nil n0
  have hown : s.vm.findClass "java/util/ImmutableCollections" = some m.cls := hown
  have hnm : meth.name = "listCopy" := hnm
  refine Go.cast (own_ef_jdk_56_method_3_code_R m a1) ?_
  have K0 := Keep.refl h0 []
  refine gs m s₁ 1 #[vR (a1), sU] [(.ref a1)] (fun _ k => XS.aloadN X0.here hx rfl (hb hby q43) rfl rfl k) ?_
  obtain ⟨T101, X101, e101, st101⟩ := instNo X0 hx hZ hown (hwi hw 55 rfl) e0 f0 (own_noas f0 (t := ["java/util/AbstractList", "java/util/AbstractCollection", "java/lang/Object"]) (fun w hm => by simp only [Cond.chainWords, List.mem_cons, List.not_mem_nil, or_false] at hm; rcases hm with rfl | rfl | rfl | rfl <;> first | exact (hwi hw 56 rfl) | exact (hwi hw 57 rfl) | exact (hwi hw 58 rfl) | exact (hwi hw 59 rfl)) (hwi hw 255 rfl) (by decide)) (g := (mkF m 1 #[vR (a1), sU] [(.ref a1)])) rfl rfl (hb hby q44)
  refine gs m T101 4 #[vR (a1), sU] [(.int (0 : Int32))] st101 ?_
  refine gs m T101 7 #[vR (a1), sU] [] (fun _ k => XS.ifNo X101.here hx rfl (hb hby q45) rfl ((if0 _ _).trans (teq (by decide : (0 : Int32) = (0 : Int32))).2) k) ?_
  refine gs m T101 8 #[vR (a1), sU] [(.ref a1)] (fun _ k => XS.aloadN X101.here hx rfl (hb hby q46) rfl rfl k) ?_
  obtain ⟨T102, X102, e102, st102⟩ := instNo X101 hx hZ hown (hwi hw 60 rfl) e101 f0 (own_noas f0 (t := ["java/util/AbstractList", "java/util/AbstractCollection", "java/lang/Object"]) (fun w hm => by simp only [Cond.chainWords, List.mem_cons, List.not_mem_nil, or_false] at hm; rcases hm with rfl | rfl | rfl | rfl <;> first | exact (hwi hw 56 rfl) | exact (hwi hw 57 rfl) | exact (hwi hw 58 rfl) | exact (hwi hw 59 rfl)) (hwi hw 216 rfl) (by decide)) (g := (mkF m 8 #[vR (a1), sU] [(.ref a1)])) rfl rfl (hb hby q47)
  refine gs m T102 11 #[vR (a1), sU] [(.int (0 : Int32))] st102 ?_
  refine gs m T102 31 #[vR (a1), sU] [] (fun _ k => XS.ifYes X102.here hx rfl (pc0 := 11) (pc' := 31) rfl (hb hby q48) rfl ((if0 _ _).trans (teq (by decide : (0 : Int32) = (0 : Int32))).1) (by decide) (by decide) k) ?_
  refine gs m T102 32 #[vR (a1), sU] [(.ref a1)] (fun _ k => XS.aloadN X102.here hx rfl (hb hby q49) rfl rfl k) ?_
  obtain ⟨cq103, kq103, q103a, q103b, q103c⟩ := isOf hZ e102 f0
  obtain ⟨_, _, ⟨T103, L103, k103, n103⟩, -, X103, ⟨Lc103, hQ103, l103, y103, z103⟩, st103⟩ := X102.interfaceBack hx (xi := (⟨"java/util/Collection", "isEmpty", "()Z"⟩ : MethodName)) (y := (⟨"java/util/ArrayList", "isEmpty", "()Z"⟩ : MethodName)) hown (mvT hZ (hwi hw 61 rfl)) (mvT hZ (hwi hw 62 rfl)) (mvT hZ (hwi hw 63 rfl)) (mvT hZ (hwi hw 64 rfl)) (mvT hZ (hwi hw 65 rfl)) (mvT hZ (hwi hw 66 rfl)) (mvT hZ (hwi hw 67 rfl)) (mvT hZ (hwi hw 68 rfl)) (by decide) (backOf (W := 0) (Q := Qret (some (.int (0 : Int32))) h0 n0) (own_ise2 l Z a0 hw [] a1 h0 n0 Z0 f2) hZ (hwi hw 69 rfl) (hwi hw 12 rfl) (by decide) (by decide)) q103a q103b q103c (g := (mkF m 32 #[vR (a1), sU] [(.ref a1)])) rfl (by rw [hml]; rfl) (Steps.refl _) (argsL := []) (rest := []) (lenOf own_pd9 rfl) rfl (by show 2 * 0 + _ ≤ _; exact Nat.le_of_eq rfl) (hb hby q4a) (fun _ _ => ⟨rfl, e102, (by decide : 0 + 0 ≤ _), (by decide : 0 + 0 ≤ _)⟩)
  dsimp only [Pt.U, Pt.locs, Pt.cells, Pt.slots] at X103 l103 y103 z103 st103 hQ103
  subst l103 y103 z103
  obtain ⟨rfl, N103q, eh103⟩ := hQ103
  have N103 := Fr.app N0 N103q
  refine gs m T103 37 #[vR (a1), sU] [(.int (0 : Int32))] (fun _ k => st103.trans k) ?_
  refine gs m T103 44 #[vR (a1), sU] [] (fun _ k => XS.ifYes X103.here hx rfl (pc0 := 37) (pc' := 44) rfl (hb hby q4b) rfl ((if0 _ _).trans (teq (by decide : (0 : Int32) = (0 : Int32))).1) (by decide) (by decide) k) ?_
  refine gs m T103 45 #[vR (a1), sU] [(.ref a1)] (fun _ k => XS.aloadN X103.here hx rfl (hb hby q4h) rfl rfl k) ?_
  obtain ⟨cq104, kq104, q104a, q104b, q104c⟩ := isOf hZ eh103 f0
  obtain ⟨_, _, ⟨T104, L104, k104, n104⟩, -, X104, ⟨Lc104, hQ104, l104, y104, z104⟩, st104⟩ := X103.interfaceBack hx (xi := (⟨"java/util/Collection", "toArray", "()[Ljava/lang/Object;"⟩ : MethodName)) (y := (⟨"java/util/ArrayList", "toArray", "()[Ljava/lang/Object;"⟩ : MethodName)) hown (mvT hZ (hwi hw 175 rfl)) (mvT hZ (hwi hw 176 rfl)) (mvT hZ (hwi hw 177 rfl)) (mvT hZ (hwi hw 178 rfl)) (mvT hZ (hwi hw 179 rfl)) (mvT hZ (hwi hw 180 rfl)) (mvT hZ (hwi hw 181 rfl)) (mvT hZ (hwi hw 68 rfl)) (by decide) (backOf (W := 0) (Q := fun v h L => ∃ b : Addr, ∃ kb : ClassId, (v = some (.ref b)) ∧ (Fr n0 L) ∧ (Keep h0 h []) ∧ (h0.size ≤ b) ∧ (Exa Z h b "[Ljava/lang/Object;") ∧ (Arv Z h b kb (.object "java/lang/Object") (2 : Int32) [(.ref x1), (.ref x2)] .null)) (own_toa2 l Z a0 hw [] a1 b1 k1 x1 x2 s1 s2 h0 n0 Z0 f0 f1 f2 f3 f4 f5 f6 f7 f8 ov1 MM) hZ (hwi hw 182 rfl) (hwi hw 12 rfl) (by decide) (by decide)) q104a q104b q104c (g := (mkF m 45 #[vR (a1), sU] [(.ref a1)])) rfl (by rw [hml]; rfl) (Steps.refl _) (argsL := []) (rest := []) (lenOf own_pd3 rfl) rfl (by show 2 * 0 + _ ≤ _; exact Nat.le_of_eq rfl) (hb hby q4i) (fun _ _ => ⟨rfl, eh103, (by decide : 0 + 1 ≤ _), (by decide : 0 + 2 ≤ _)⟩)
  dsimp only [Pt.U, Pt.locs, Pt.cells, Pt.slots] at X104 l104 y104 z104 st104 hQ104
  subst l104 y104 z104
  obtain ⟨b_104, kb_104, rfl, N104q, K104, lt104_0, P104_0, P104_1⟩ := hQ104
  have N104 := Fr.app N103 N104q
  have ne105 : a1 ≠ b_104 := Nat.ne_of_lt (Nat.lt_of_lt_of_le f0.lt lt104_0)
  have ne106 : b1 ≠ b_104 := Nat.ne_of_lt (Nat.lt_of_lt_of_le f3.lt lt104_0)
  have ne107 : x1 ≠ b_104 := Nat.ne_of_lt (Nat.lt_of_lt_of_le f5.lt lt104_0)
  have ne108 : x2 ≠ b_104 := Nat.ne_of_lt (Nat.lt_of_lt_of_le f7.lt lt104_0)
  have ge109 : n0 ≤ b_104 := Nat.le_trans Z0 lt104_0
  have sz110 : h0.size ≤ b_104 := Nat.le_trans K0.1 lt104_0
  have KK104 := K0.trans K104 all0
  have Z104 : n0 ≤ T104.heap.size := Nat.le_trans Z0 K104.1
  have F111 := f0.keep K104
  have F112 := f1.keep K104 nin0
  have F113 := f2.keep K104 nin0
  have F114 := f3.keep K104
  have F115 := f4.keep K104 nin0
  have F116 := f5.keep K104
  have F117 := f6.keep K104 nin0
  have F118 := f7.keep K104
  have F119 := f8.keep K104 nin0
  refine gs m T104 50 #[vR (a1), sU] [(.ref b_104)] (fun _ k => st104.trans k) ?_
  obtain ⟨_, _, ⟨T120, L120, k120, n120⟩, -, X120, ⟨Lc120, hQ120, l120, y120, z120⟩, st120⟩ := Jvm.LawKit.callS X104 hx (y := (⟨"java/util/List", "of", "([Ljava/lang/Object;)Ljava/util/List;"⟩ : MethodName)) hown (mvT hZ (hwi hw 205 rfl)) (mvT hZ (hwi hw 206 rfl)) (mvT hZ (hwi hw 49 rfl)) (mvT hZ (hwi hw 207 rfl)) (by decide) (backOf (W := 0) (Q := fun v h L => ∃ lst : Addr, (v = some (.ref lst)) ∧ (Fr n0 L) ∧ (Keep T104.heap h []) ∧ (T104.heap.size ≤ lst) ∧ (Exa Z h lst "java/util/ImmutableCollections$List12") ∧ (Fld Z h lst "java/util/ImmutableCollections$List12" "e0" "Ljava/lang/Object;" (.ref x1)) ∧ (Fld Z h lst "java/util/ImmutableCollections$List12" "e1" "Ljava/lang/Object;" (.ref x2))) (own_ofa2 l Z a0 hw [] b_104 kb_104 x1 x2 s1 s2 T104.heap n0 Z104 P104_0 P104_1 F116 F117 F118 F119) hZ (hwi hw 207 rfl) (hwi hw 49 rfl) (by decide) (by decide)) (g := (mkF m 50 #[vR (a1), sU] [(.ref b_104)])) rfl (by rw [hml]; rfl) (argsL := [(.ref b_104)]) (rest := []) (lenOf own_pd12 rfl) rfl (by show 2 * 0 + _ ≤ _; exact Nat.le_of_eq rfl) (hb hby q4j) (fun _ _ => ⟨rfl, rfl, (by decide : 1 + 1 ≤ _), (by decide : 2 + 2 ≤ _)⟩)
  dsimp only [Pt.U, Pt.locs, Pt.cells, Pt.slots] at X120 l120 y120 z120 st120 hQ120
  subst l120 y120 z120
  obtain ⟨lst_120, rfl, N120q, K120, lt120_0, P120_0, P120_1, P120_2⟩ := hQ120
  have N120 := Fr.app N104 N120q
  have ne121 : a1 ≠ lst_120 := Nat.ne_of_lt (Nat.lt_of_lt_of_le F111.lt lt120_0)
  have ne122 : b1 ≠ lst_120 := Nat.ne_of_lt (Nat.lt_of_lt_of_le F114.lt lt120_0)
  have ne123 : x1 ≠ lst_120 := Nat.ne_of_lt (Nat.lt_of_lt_of_le F116.lt lt120_0)
  have ne124 : x2 ≠ lst_120 := Nat.ne_of_lt (Nat.lt_of_lt_of_le F118.lt lt120_0)
  have ne125 : b_104 ≠ lst_120 := Nat.ne_of_lt (Nat.lt_of_lt_of_le P104_0.lt lt120_0)
  have ge126 : n0 ≤ lst_120 := Nat.le_trans Z104 lt120_0
  have sz127 : h0.size ≤ lst_120 := Nat.le_trans KK104.1 lt120_0
  have KK120 := KK104.trans K120 all0
  have Z120 : n0 ≤ T120.heap.size := Nat.le_trans Z104 K120.1
  have F128 := F111.keep K120
  have F129 := F112.keep K120 nin0
  have F130 := F113.keep K120 nin0
  have F131 := F114.keep K120
  have F132 := F115.keep K120 nin0
  have F133 := F116.keep K120
  have F134 := F117.keep K120 nin0
  have F135 := F118.keep K120
  have F136 := F119.keep K120 nin0
  have F137 := P104_0.keep K120
  have F138 := P104_1.keep K120 nin0
  refine gs m T120 53 #[vR (a1), sU] [(.ref lst_120)] (st120) ?_
  exact Go.retA X120 hx (t := (.object "java/util/List")) hret rfl hlk rfl (hb hby q4k) (⟨lst_120, rfl, N120, KK120, sz127, P120_0, P120_1, P120_2⟩) (by decide) (by decide)
theorem own_cof2 (l : Launch) (Z : State) (a0 : Array Value) (hw : ∀ d ∈ tables_1, d.before a0 Z = true) (ws : List Jvm.Cond) (a1 : Addr) (b1 : Addr) (k1 : ClassId) (x1 : Addr) (x2 : Addr) (s1 : Int64) (s2 : Int64) (h0 : Heap) (n0 : Nat) (Z0 : n0 ≤ h0.size) (f0 : Exa Z h0 a1 "java/util/ArrayList") (f1 : Fld Z h0 a1 "java/util/ArrayList" "elementData" "[Ljava/lang/Object;" (.ref b1)) (f2 : Fld Z h0 a1 "java/util/ArrayList" "size" "I" (.int (2 : Int32))) (f3 : Exa Z h0 b1 "[Ljava/lang/Object;") (f4 : Arv Z h0 b1 k1 (.object "java/lang/Object") (10 : Int32) [(.ref x1), (.ref x2), .null, .null, .null, .null, .null, .null, .null, .null] .null) (f5 : Exa Z h0 x1 "java/time/Duration") (f6 : Fld Z h0 x1 "java/time/Duration" "seconds" "J" (.long s1)) (f7 : Exa Z h0 x2 "java/time/Duration") (f8 : Fld Z h0 x2 "java/time/Duration" "seconds" "J" (.long s2)) (ov1 : Ovr Z k1 "java/lang/Object") (MM : MirrorMade Z "[Ljava/lang/Object;") :
    Con l Z (⟨"java/util/List", "copyOf", "(Ljava/util/Collection;)Ljava/util/List;"⟩ : MethodName) jdk_40_method_48_code 1 (some (.object "java/util/List")) ({ frames := 7, cells := 2, slots := 4, locals := 102 } : Room) ws #[(.ref a1)] h0 (fun v h L => ∃ lst : Addr, (v = some (.ref lst)) ∧ (Fr n0 L) ∧ (Keep h0 h []) ∧ (h0.size ≤ lst) ∧ (Exa Z h lst "java/util/ImmutableCollections$List12") ∧ (Fld Z h lst "java/util/ImmutableCollections$List12" "e0" "Ljava/lang/Object;" (.ref x1)) ∧ (Fld Z h lst "java/util/ImmutableCollections$List12" "e1" "Ljava/lang/Object;" (.ref x2))) 2 4 := by
  refine Con.of (plainFor_of_name own_pn_List) ?_
  intro pgm e s m below meth c s₁ X0 hx hZ hby hml hown hnm hret hlk e0 hs0
  have N0 := Fr.nil n0
  have hown : s.vm.findClass "java/util/List" = some m.cls := hown
  have hnm : meth.name = "copyOf" := hnm
  refine Go.cast (own_ef_jdk_40_method_48_code_R m a1) ?_
  have K0 := Keep.refl h0 []
  refine gs m s₁ 1 #[vR (a1)] [(.ref a1)] (fun _ k => XS.aloadN X0.here hx rfl (hb hby q4e) rfl rfl k) ?_
  obtain ⟨_, _, ⟨T101, L101, k101, n101⟩, -, X101, ⟨Lc101, hQ101, l101, y101, z101⟩, st101⟩ := Jvm.LawKit.callS X0 hx (y := (⟨"java/util/ImmutableCollections", "listCopy", "(Ljava/util/Collection;)Ljava/util/List;"⟩ : MethodName)) hown (mvT hZ (hwi hw 51 rfl)) (mvT hZ (hwi hw 52 rfl)) (mvT hZ (hwi hw 53 rfl)) (mvT hZ (hwi hw 54 rfl)) (by decide) (backOf (W := 0) (Q := fun v h L => ∃ lst : Addr, (v = some (.ref lst)) ∧ (Fr n0 L) ∧ (Keep h0 h []) ∧ (h0.size ≤ lst) ∧ (Exa Z h lst "java/util/ImmutableCollections$List12") ∧ (Fld Z h lst "java/util/ImmutableCollections$List12" "e0" "Ljava/lang/Object;" (.ref x1)) ∧ (Fld Z h lst "java/util/ImmutableCollections$List12" "e1" "Ljava/lang/Object;" (.ref x2))) (own_lcp2 l Z a0 hw [] a1 b1 k1 x1 x2 s1 s2 h0 n0 Z0 f0 f1 f2 f3 f4 f5 f6 f7 f8 ov1 MM) hZ (hwi hw 54 rfl) (hwi hw 53 rfl) (by decide) (by decide)) (g := (mkF m 1 #[vR (a1)] [(.ref a1)])) rfl (by rw [hml]; rfl) (argsL := [(.ref a1)]) (rest := []) (lenOf own_pd11 rfl) rfl (by show 2 * 0 + _ ≤ _; exact Nat.le_of_eq rfl) (hb hby q4f) (fun _ _ => ⟨rfl, e0, (by decide : 0 + 2 ≤ _), (by decide : 0 + 4 ≤ _)⟩)
  dsimp only [Pt.U, Pt.locs, Pt.cells, Pt.slots] at X101 l101 y101 z101 st101 hQ101
  subst l101 y101 z101
  obtain ⟨lst_101, rfl, N101q, K101, lt101_0, P101_0, P101_1, P101_2⟩ := hQ101
  have N101 := Fr.app N0 N101q
  have ne102 : a1 ≠ lst_101 := Nat.ne_of_lt (Nat.lt_of_lt_of_le f0.lt lt101_0)
  have ne103 : b1 ≠ lst_101 := Nat.ne_of_lt (Nat.lt_of_lt_of_le f3.lt lt101_0)
  have ne104 : x1 ≠ lst_101 := Nat.ne_of_lt (Nat.lt_of_lt_of_le f5.lt lt101_0)
  have ne105 : x2 ≠ lst_101 := Nat.ne_of_lt (Nat.lt_of_lt_of_le f7.lt lt101_0)
  have ge106 : n0 ≤ lst_101 := Nat.le_trans Z0 lt101_0
  have sz107 : h0.size ≤ lst_101 := Nat.le_trans K0.1 lt101_0
  have KK101 := K0.trans K101 all0
  have Z101 : n0 ≤ T101.heap.size := Nat.le_trans Z0 K101.1
  have F108 := f0.keep K101
  have F109 := f1.keep K101 nin0
  have F110 := f2.keep K101 nin0
  have F111 := f3.keep K101
  have F112 := f4.keep K101 nin0
  have F113 := f5.keep K101
  have F114 := f6.keep K101 nin0
  have F115 := f7.keep K101
  have F116 := f8.keep K101 nin0
  refine gs m T101 4 #[vR (a1)] [(.ref lst_101)] (st101) ?_
  exact Go.retA X101 hx (t := (.object "java/util/List")) hret rfl hlk rfl (hb hby q4g) (⟨lst_101, rfl, N101, KK101, sz107, P101_0, P101_1, P101_2⟩) (by decide) (by decide)
theorem own_ef_jdk_45_method_3_code_R (m : MethodId) (x0 : Addr) : entryFrame m #[(.ref x0)] 1 = mkF m 0 #[vR (x0)] [] := by first | (simp [entryFrame, mkF, argsToLocals, Value.category]; done) | rfl | (simp [entryFrame, mkF, argsToLocals, own_cI, own_cJ, own_cR, own_cN]; done)
theorem own_pn_ImmutableCollections_ListN : plainName "java/util/ImmutableCollections$ListN" = true := by first | (simp [plainName, overriddenIn]; done) | decide +kernel
theorem q4l : decode jdk_45_method_3_code 0 = .ok (.aload_n 0, 1) := by decide +kernel
theorem q4m : decode jdk_45_method_3_code 1 = .ok (.getfield 7, 3) := by decide +kernel
theorem q4n : decode jdk_45_method_3_code 4 = .ok (.arraylength, 1) := by decide +kernel
theorem q4o : decode jdk_45_method_3_code 5 = .ok (.ireturn, 1) := by decide +kernel
theorem own_siz0 (l : Launch) (Z : State) (a0 : Array Value) (hw : ∀ d ∈ tables_1, d.before a0 Z = true) (ws : List Jvm.Cond) (a1 : Addr) (b2 : Addr) (k2 : ClassId) (h0 : Heap) (n0 : Nat) (Z0 : n0 ≤ h0.size) (f0 : Exa Z h0 a1 "java/util/ImmutableCollections$ListN") (f1 : Fld Z h0 a1 "java/util/ImmutableCollections$ListN" "elements" "[Ljava/lang/Object;" (.ref b2)) (f2 : Arv Z h0 b2 k2 (.object "java/lang/Object") (0 : Int32) [] .null)  :
    Con l Z (⟨"java/util/ImmutableCollections$ListN", "size", "()I"⟩ : MethodName) jdk_45_method_3_code 1 (some .int) ({ frames := 0, cells := 0, slots := 0, locals := 0 } : Room) ws #[(.ref a1)] h0 (Qret (some (.int (0 : Int32))) h0 n0) 0 0 := by
  refine Con.of (plainFor_of_name own_pn_ImmutableCollections_ListN) ?_
  intro pgm e s m below meth c s₁ X0 hx hZ hby hml hown hnm hret hlk e0 hs0
  have N0 := Fr.nil n0
  have hown : s.vm.findClass "java/util/ImmutableCollections$ListN" = some m.cls := hown
  have hnm : meth.name = "size" := hnm
  refine Go.cast (own_ef_jdk_45_method_3_code_R m a1) ?_
  refine gs m s₁ 1 #[vR (a1)] [(.ref a1)] (fun _ k => XS.aloadN X0.here hx rfl (hb hby q4l) rfl rfl k) ?_
  obtain ⟨T101, X101, e101, st101⟩ := getF X0 hx hZ hown (host := "") (Or.inl (hwi hw 96 rfl)) Via.refl e0 f1 (g := (mkF m 1 #[vR (a1)] [(.ref a1)])) rfl rfl (hb hby q4m)
  refine gs m T101 4 #[vR (a1)] [(.ref b2)] st101 ?_
  obtain ⟨cl102, Ar102, -, S102, M102, -, -⟩ := id f2
  refine gs m T101 5 #[vR (a1)] [(.int (0 : Int32))] (fun _ k => X101.arraylength hx (cell := cl102) (by rw [e101]; exact Ar102.1) (State.isArrayOf_alike hZ.alike Ar102.2.1) (g := (mkF m 4 #[vR (a1)] [(.ref b2)])) rfl (rest := []) rfl (hb hby q4n) _ (by rw [len_of S102 M102]; exact k)) ?_
  exact Go.retI X101 hx hret hlk (hb hby q4o) (⟨rfl, N0, e101⟩) (by decide) (by decide)
theorem own_ef_jdk_44_method_3_code_R (m : MethodId) (x0 : Addr) : entryFrame m #[(.ref x0)] 1 = mkF m 0 #[vR (x0)] [] := by first | (simp [entryFrame, mkF, argsToLocals, Value.category]; done) | rfl | (simp [entryFrame, mkF, argsToLocals, own_cI, own_cJ, own_cR, own_cN]; done)
theorem q4p : decode jdk_44_method_3_code 0 = .ok (.aload_n 0, 1) := by decide +kernel
theorem q4q : decode jdk_44_method_3_code 1 = .ok (.getfield 24, 3) := by decide +kernel
theorem q4r : decode jdk_44_method_3_code 4 = .ok (.getstatic 19, 3) := by decide +kernel
theorem q4s : decode jdk_44_method_3_code 7 = .ok (.if_acmp .eq 7, 3) := by decide +kernel
theorem q4t : decode jdk_44_method_3_code 14 = .ok (.iconst 1, 1) := by decide +kernel
theorem q4u : decode jdk_44_method_3_code 15 = .ok (.ireturn, 1) := by decide +kernel
theorem own_siz1 (l : Launch) (Z : State) (a0 : Array Value) (hw : ∀ d ∈ tables_1, d.before a0 Z = true) (ws : List Jvm.Cond) (a1 : Addr) (x1 : Addr) (em : Addr) (h0 : Heap) (n0 : Nat) (Z0 : n0 ≤ h0.size) (f0 : Exa Z h0 a1 "java/util/ImmutableCollections$List12") (f1 : Fld Z h0 a1 "java/util/ImmutableCollections$List12" "e0" "Ljava/lang/Object;" (.ref x1)) (f2 : Fld Z h0 a1 "java/util/ImmutableCollections$List12" "e1" "Ljava/lang/Object;" (.ref em)) (f3 : Sta Z h0 "java/util/ImmutableCollections" "EMPTY" "Ljava/lang/Object;" (.ref em))  :
    Con l Z (⟨"java/util/ImmutableCollections$List12", "size", "()I"⟩ : MethodName) jdk_44_method_3_code 1 (some .int) ({ frames := 0, cells := 0, slots := 0, locals := 0 } : Room) ws #[(.ref a1)] h0 (Qret (some (.int (1 : Int32))) h0 n0) 0 0 := by
  refine Con.of (plainFor_of_name own_pn_ImmutableCollections_List12) ?_
  intro pgm e s m below meth c s₁ X0 hx hZ hby hml hown hnm hret hlk e0 hs0
  have N0 := Fr.nil n0
  have hown : s.vm.findClass "java/util/ImmutableCollections$List12" = some m.cls := hown
  have hnm : meth.name = "size" := hnm
  refine Go.cast (own_ef_jdk_44_method_3_code_R m a1) ?_
  refine gs m s₁ 1 #[vR (a1)] [(.ref a1)] (fun _ k => XS.aloadN X0.here hx rfl (hb hby q4p) rfl rfl k) ?_
  obtain ⟨T101, X101, e101, st101⟩ := getF X0 hx hZ hown (host := "") (Or.inl (hwi hw 268 rfl)) Via.refl e0 f2 (g := (mkF m 1 #[vR (a1)] [(.ref a1)])) rfl rfl (hb hby q4q)
  refine gs m T101 4 #[vR (a1)] [(.ref em)] st101 ?_
  obtain ⟨T102, X102, e102, st102⟩ := getS2 X101 hx hZ hown (Or.inr (hwi hw 276 rfl)) Via.refl e101 f3 (g := (mkF m 4 #[vR (a1)] [(.ref em)])) rfl (hb hby q4r)
  refine gs m T102 7 #[vR (a1)] [(.ref em), (.ref em)] st102 ?_
  refine gs m T102 14 #[vR (a1)] [] (fun _ k => Jvm.RoadKit.acmp (g := (mkF m 7 #[vR (a1)] [(.ref em), (.ref em)])) X102 hx rfl rfl rfl (pc0 := 7) (pc' := 14) (same := true) rfl (hb hby q4s) rfl (decide_eq_true rfl) (by decide) (by decide) k) ?_
  refine gs m T102 15 #[vR (a1)] [(.int (1 : Int32))] (fun _ k => XS.iconst X102.here hx rfl (hb hby q4t) k) ?_
  exact Go.retI X102 hx hret hlk (hb hby q4u) (⟨rfl, N0, e102⟩) (by decide) (by decide)
theorem own_ef_jdk_44_method_5_code_RI (m : MethodId) (x0 : Addr) (x1 : Int32) : entryFrame m #[(.ref x0), (.int x1)] 2 = mkF m 0 #[vR (x0), vI (x1)] [] := by first | (simp [entryFrame, mkF, argsToLocals, Value.category]; done) | rfl | (simp [entryFrame, mkF, argsToLocals, own_cI, own_cJ, own_cR, own_cN]; done)
theorem q4v : decode jdk_44_method_5_code 0 = .ok (.iload_n 1, 1) := by decide +kernel
theorem q4w : decode jdk_44_method_5_code 1 = .ok (.ifCond .ne 8, 3) := by decide +kernel
theorem q4x : decode jdk_44_method_5_code 4 = .ok (.aload_n 0, 1) := by decide +kernel
theorem q4y : decode jdk_44_method_5_code 5 = .ok (.getfield 13, 3) := by decide +kernel
theorem q4z : decode jdk_44_method_5_code 8 = .ok (.areturn, 1) := by decide +kernel
theorem own_get1_0 (l : Launch) (Z : State) (a0 : Array Value) (hw : ∀ d ∈ tables_1, d.before a0 Z = true) (ws : List Jvm.Cond) (a1 : Addr) (x1 : Addr) (em : Addr) (h0 : Heap) (n0 : Nat) (Z0 : n0 ≤ h0.size) (f0 : Exa Z h0 a1 "java/util/ImmutableCollections$List12") (f1 : Fld Z h0 a1 "java/util/ImmutableCollections$List12" "e0" "Ljava/lang/Object;" (.ref x1)) (f2 : Fld Z h0 a1 "java/util/ImmutableCollections$List12" "e1" "Ljava/lang/Object;" (.ref em)) (f3 : Sta Z h0 "java/util/ImmutableCollections" "EMPTY" "Ljava/lang/Object;" (.ref em))  :
    Con l Z (⟨"java/util/ImmutableCollections$List12", "get", "(I)Ljava/lang/Object;"⟩ : MethodName) jdk_44_method_5_code 2 (some (.object "java/lang/Object")) ({ frames := 0, cells := 0, slots := 0, locals := 0 } : Room) ws #[(.ref a1), (.int (0 : Int32))] h0 (Qret (some (.ref x1)) h0 n0) 0 0 := by
  refine Con.of (plainFor_of_name own_pn_ImmutableCollections_List12) ?_
  intro pgm e s m below meth c s₁ X0 hx hZ hby hml hown hnm hret hlk e0 hs0
  have N0 := Fr.nil n0
  have hown : s.vm.findClass "java/util/ImmutableCollections$List12" = some m.cls := hown
  have hnm : meth.name = "get" := hnm
  refine Go.cast (own_ef_jdk_44_method_5_code_RI m a1 (0 : Int32)) ?_
  refine gs m s₁ 1 #[vR (a1), vI ((0 : Int32))] [(.int (0 : Int32))] (fun _ k => XS.iloadN X0.here hx rfl (hb hby q4v) rfl  k) ?_
  refine gs m s₁ 4 #[vR (a1), vI ((0 : Int32))] [] (fun _ k => XS.ifNo X0.here hx rfl (hb hby q4w) rfl ((if0 _ _).trans (teq (by decide : (0 : Int32) = (0 : Int32))).2) k) ?_
  refine gs m s₁ 5 #[vR (a1), vI ((0 : Int32))] [(.ref a1)] (fun _ k => XS.aloadN X0.here hx rfl (hb hby q4x) rfl rfl k) ?_
  obtain ⟨T101, X101, e101, st101⟩ := getF X0 hx hZ hown (host := "") (Or.inl (hwi hw 266 rfl)) Via.refl e0 f1 (g := (mkF m 5 #[vR (a1), vI ((0 : Int32))] [(.ref a1)])) rfl rfl (hb hby q4y)
  refine gs m T101 8 #[vR (a1), vI ((0 : Int32))] [(.ref x1)] st101 ?_
  exact Go.retA X101 hx (t := (.object "java/lang/Object")) hret rfl hlk rfl (hb hby q4z) (⟨rfl, N0, e101⟩) (by decide) (by decide)
theorem q50 : decode jdk_44_method_3_code 10 = .ok (.iconst 2, 1) := by decide +kernel
theorem q51 : decode jdk_44_method_3_code 11 = .ok (.goto 4, 3) := by decide +kernel
theorem own_siz2 (l : Launch) (Z : State) (a0 : Array Value) (hw : ∀ d ∈ tables_1, d.before a0 Z = true) (ws : List Jvm.Cond) (a1 : Addr) (x1 : Addr) (x2 : Addr) (em : Addr) (h0 : Heap) (n0 : Nat) (Z0 : n0 ≤ h0.size) (f0 : Exa Z h0 a1 "java/util/ImmutableCollections$List12") (f1 : Fld Z h0 a1 "java/util/ImmutableCollections$List12" "e0" "Ljava/lang/Object;" (.ref x1)) (f2 : Fld Z h0 a1 "java/util/ImmutableCollections$List12" "e1" "Ljava/lang/Object;" (.ref x2)) (f3 : Sta Z h0 "java/util/ImmutableCollections" "EMPTY" "Ljava/lang/Object;" (.ref em)) (f4 : x2 ≠ em)  :
    Con l Z (⟨"java/util/ImmutableCollections$List12", "size", "()I"⟩ : MethodName) jdk_44_method_3_code 1 (some .int) ({ frames := 0, cells := 0, slots := 0, locals := 0 } : Room) ws #[(.ref a1)] h0 (Qret (some (.int (2 : Int32))) h0 n0) 0 0 := by
  refine Con.of (plainFor_of_name own_pn_ImmutableCollections_List12) ?_
  intro pgm e s m below meth c s₁ X0 hx hZ hby hml hown hnm hret hlk e0 hs0
  have N0 := Fr.nil n0
  have hown : s.vm.findClass "java/util/ImmutableCollections$List12" = some m.cls := hown
  have hnm : meth.name = "size" := hnm
  refine Go.cast (own_ef_jdk_44_method_3_code_R m a1) ?_
  refine gs m s₁ 1 #[vR (a1)] [(.ref a1)] (fun _ k => XS.aloadN X0.here hx rfl (hb hby q4p) rfl rfl k) ?_
  obtain ⟨T101, X101, e101, st101⟩ := getF X0 hx hZ hown (host := "") (Or.inl (hwi hw 268 rfl)) Via.refl e0 f2 (g := (mkF m 1 #[vR (a1)] [(.ref a1)])) rfl rfl (hb hby q4q)
  refine gs m T101 4 #[vR (a1)] [(.ref x2)] st101 ?_
  obtain ⟨T102, X102, e102, st102⟩ := getS2 X101 hx hZ hown (Or.inr (hwi hw 276 rfl)) Via.refl e101 f3 (g := (mkF m 4 #[vR (a1)] [(.ref x2)])) rfl (hb hby q4r)
  refine gs m T102 7 #[vR (a1)] [(.ref em), (.ref x2)] st102 ?_
  refine gs m T102 10 #[vR (a1)] [] (fun _ k => Jvm.RoadKit.acmp (g := (mkF m 7 #[vR (a1)] [(.ref em), (.ref x2)])) X102 hx rfl rfl rfl (pc0 := 7) (pc' := 10) (same := false) rfl (hb hby q4s) rfl (decide_eq_false fun q => f4 (Value.ref.inj q)) (by decide) (by decide) k) ?_
  refine gs m T102 11 #[vR (a1)] [(.int (2 : Int32))] (fun _ k => XS.iconst X102.here hx rfl (hb hby q50) k) ?_
  refine gs m T102 15 #[vR (a1)] [(.int (2 : Int32))] (fun _ k => XS.goto X102.here hx rfl (pc0 := 11) (pc' := 15) rfl (hb hby q51) (by decide) (by decide) k) ?_
  exact Go.retI X102 hx hret hlk (hb hby q4u) (⟨rfl, N0, e102⟩) (by decide) (by decide)
theorem own_get2_0 (l : Launch) (Z : State) (a0 : Array Value) (hw : ∀ d ∈ tables_1, d.before a0 Z = true) (ws : List Jvm.Cond) (a1 : Addr) (x1 : Addr) (x2 : Addr) (em : Addr) (h0 : Heap) (n0 : Nat) (Z0 : n0 ≤ h0.size) (f0 : Exa Z h0 a1 "java/util/ImmutableCollections$List12") (f1 : Fld Z h0 a1 "java/util/ImmutableCollections$List12" "e0" "Ljava/lang/Object;" (.ref x1)) (f2 : Fld Z h0 a1 "java/util/ImmutableCollections$List12" "e1" "Ljava/lang/Object;" (.ref x2)) (f3 : Sta Z h0 "java/util/ImmutableCollections" "EMPTY" "Ljava/lang/Object;" (.ref em)) (f4 : x2 ≠ em)  :
    Con l Z (⟨"java/util/ImmutableCollections$List12", "get", "(I)Ljava/lang/Object;"⟩ : MethodName) jdk_44_method_5_code 2 (some (.object "java/lang/Object")) ({ frames := 0, cells := 0, slots := 0, locals := 0 } : Room) ws #[(.ref a1), (.int (0 : Int32))] h0 (Qret (some (.ref x1)) h0 n0) 0 0 := by
  refine Con.of (plainFor_of_name own_pn_ImmutableCollections_List12) ?_
  intro pgm e s m below meth c s₁ X0 hx hZ hby hml hown hnm hret hlk e0 hs0
  have N0 := Fr.nil n0
  have hown : s.vm.findClass "java/util/ImmutableCollections$List12" = some m.cls := hown
  have hnm : meth.name = "get" := hnm
  refine Go.cast (own_ef_jdk_44_method_5_code_RI m a1 (0 : Int32)) ?_
  refine gs m s₁ 1 #[vR (a1), vI ((0 : Int32))] [(.int (0 : Int32))] (fun _ k => XS.iloadN X0.here hx rfl (hb hby q4v) rfl  k) ?_
  refine gs m s₁ 4 #[vR (a1), vI ((0 : Int32))] [] (fun _ k => XS.ifNo X0.here hx rfl (hb hby q4w) rfl ((if0 _ _).trans (teq (by decide : (0 : Int32) = (0 : Int32))).2) k) ?_
  refine gs m s₁ 5 #[vR (a1), vI ((0 : Int32))] [(.ref a1)] (fun _ k => XS.aloadN X0.here hx rfl (hb hby q4x) rfl rfl k) ?_
  obtain ⟨T101, X101, e101, st101⟩ := getF X0 hx hZ hown (host := "") (Or.inl (hwi hw 266 rfl)) Via.refl e0 f1 (g := (mkF m 5 #[vR (a1), vI ((0 : Int32))] [(.ref a1)])) rfl rfl (hb hby q4y)
  refine gs m T101 8 #[vR (a1), vI ((0 : Int32))] [(.ref x1)] st101 ?_
  exact Go.retA X101 hx (t := (.object "java/lang/Object")) hret rfl hlk rfl (hb hby q4z) (⟨rfl, N0, e101⟩) (by decide) (by decide)
theorem q52 : decode jdk_44_method_5_code 9 = .ok (.iload_n 1, 1) := by decide +kernel
theorem q53 : decode jdk_44_method_5_code 10 = .ok (.iconst 1, 1) := by decide +kernel
theorem q54 : decode jdk_44_method_5_code 11 = .ok (.if_icmp .ne 18, 3) := by decide +kernel
theorem q55 : decode jdk_44_method_5_code 14 = .ok (.aload_n 0, 1) := by decide +kernel
theorem q56 : decode jdk_44_method_5_code 15 = .ok (.getfield 24, 3) := by decide +kernel
theorem q57 : decode jdk_44_method_5_code 18 = .ok (.getstatic 19, 3) := by decide +kernel
theorem q58 : decode jdk_44_method_5_code 21 = .ok (.if_acmp .eq 8, 3) := by decide +kernel
theorem q59 : decode jdk_44_method_5_code 24 = .ok (.aload_n 0, 1) := by decide +kernel
theorem q5a : decode jdk_44_method_5_code 25 = .ok (.getfield 24, 3) := by decide +kernel
theorem q5b : decode jdk_44_method_5_code 28 = .ok (.areturn, 1) := by decide +kernel
theorem own_get2_1 (l : Launch) (Z : State) (a0 : Array Value) (hw : ∀ d ∈ tables_1, d.before a0 Z = true) (ws : List Jvm.Cond) (a1 : Addr) (x1 : Addr) (x2 : Addr) (em : Addr) (h0 : Heap) (n0 : Nat) (Z0 : n0 ≤ h0.size) (f0 : Exa Z h0 a1 "java/util/ImmutableCollections$List12") (f1 : Fld Z h0 a1 "java/util/ImmutableCollections$List12" "e0" "Ljava/lang/Object;" (.ref x1)) (f2 : Fld Z h0 a1 "java/util/ImmutableCollections$List12" "e1" "Ljava/lang/Object;" (.ref x2)) (f3 : Sta Z h0 "java/util/ImmutableCollections" "EMPTY" "Ljava/lang/Object;" (.ref em)) (f4 : x2 ≠ em)  :
    Con l Z (⟨"java/util/ImmutableCollections$List12", "get", "(I)Ljava/lang/Object;"⟩ : MethodName) jdk_44_method_5_code 2 (some (.object "java/lang/Object")) ({ frames := 0, cells := 0, slots := 0, locals := 0 } : Room) ws #[(.ref a1), (.int (1 : Int32))] h0 (Qret (some (.ref x2)) h0 n0) 0 0 := by
  refine Con.of (plainFor_of_name own_pn_ImmutableCollections_List12) ?_
  intro pgm e s m below meth c s₁ X0 hx hZ hby hml hown hnm hret hlk e0 hs0
  have N0 := Fr.nil n0
  have hown : s.vm.findClass "java/util/ImmutableCollections$List12" = some m.cls := hown
  have hnm : meth.name = "get" := hnm
  refine Go.cast (own_ef_jdk_44_method_5_code_RI m a1 (1 : Int32)) ?_
  refine gs m s₁ 1 #[vR (a1), vI ((1 : Int32))] [(.int (1 : Int32))] (fun _ k => XS.iloadN X0.here hx rfl (hb hby q4v) rfl  k) ?_
  refine gs m s₁ 9 #[vR (a1), vI ((1 : Int32))] [] (fun _ k => XS.ifYes X0.here hx rfl (pc0 := 1) (pc' := 9) rfl (hb hby q4w) rfl ((if0 _ _).trans (feq (by decide : ¬ ((1 : Int32) = (0 : Int32)))).2) (by decide) (by decide) k) ?_
  refine gs m s₁ 10 #[vR (a1), vI ((1 : Int32))] [(.int (1 : Int32))] (fun _ k => XS.iloadN X0.here hx rfl (hb hby q52) rfl  k) ?_
  refine gs m s₁ 11 #[vR (a1), vI ((1 : Int32))] [(.int (1 : Int32)), (.int (1 : Int32))] (fun _ k => XS.iconst X0.here hx rfl (hb hby q53) k) ?_
  refine gs m s₁ 14 #[vR (a1), vI ((1 : Int32))] [] (fun _ k => XS.icmpNo X0.here hx rfl (hb hby q54) rfl (teq (by decide : (1 : Int32) = (1 : Int32))).2 k) ?_
  refine gs m s₁ 15 #[vR (a1), vI ((1 : Int32))] [(.ref a1)] (fun _ k => XS.aloadN X0.here hx rfl (hb hby q55) rfl rfl k) ?_
  obtain ⟨T101, X101, e101, st101⟩ := getF X0 hx hZ hown (host := "") (Or.inl (hwi hw 268 rfl)) Via.refl e0 f2 (g := (mkF m 15 #[vR (a1), vI ((1 : Int32))] [(.ref a1)])) rfl rfl (hb hby q56)
  refine gs m T101 18 #[vR (a1), vI ((1 : Int32))] [(.ref x2)] st101 ?_
  obtain ⟨T102, X102, e102, st102⟩ := getS2 X101 hx hZ hown (Or.inr (hwi hw 276 rfl)) Via.refl e101 f3 (g := (mkF m 18 #[vR (a1), vI ((1 : Int32))] [(.ref x2)])) rfl (hb hby q57)
  refine gs m T102 21 #[vR (a1), vI ((1 : Int32))] [(.ref em), (.ref x2)] st102 ?_
  refine gs m T102 24 #[vR (a1), vI ((1 : Int32))] [] (fun _ k => Jvm.RoadKit.acmp (g := (mkF m 21 #[vR (a1), vI ((1 : Int32))] [(.ref em), (.ref x2)])) X102 hx rfl rfl rfl (pc0 := 21) (pc' := 24) (same := false) rfl (hb hby q58) rfl (decide_eq_false fun q => f4 (Value.ref.inj q)) (by decide) (by decide) k) ?_
  refine gs m T102 25 #[vR (a1), vI ((1 : Int32))] [(.ref a1)] (fun _ k => XS.aloadN X102.here hx rfl (hb hby q59) rfl rfl k) ?_
  obtain ⟨T103, X103, e103, st103⟩ := getF X102 hx hZ hown (host := "") (Or.inl (hwi hw 268 rfl)) Via.refl e102 f2 (g := (mkF m 25 #[vR (a1), vI ((1 : Int32))] [(.ref a1)])) rfl rfl (hb hby q5a)
  refine gs m T103 28 #[vR (a1), vI ((1 : Int32))] [(.ref x2)] st103 ?_
  exact Go.retA X103 hx (t := (.object "java/lang/Object")) hret rfl hlk rfl (hb hby q5b) (⟨rfl, N0, e103⟩) (by decide) (by decide)
theorem own_ef_jdk_53_method_1_code_RRI (m : MethodId) (x0 : Addr) (x1 : Addr) (x2 : Int32) : entryFrame m #[(.ref x0), (.ref x1), (.int x2)] 3 = mkF m 0 #[vR (x0), vR (x1), vI (x2)] [] := by first | (simp [entryFrame, mkF, argsToLocals, Value.category]; done) | rfl | (simp [entryFrame, mkF, argsToLocals, own_cI, own_cJ, own_cR, own_cN]; done)
theorem own_pn_ImmutableCollections_ListItr : plainName "java/util/ImmutableCollections$ListItr" = true := by first | (simp [plainName, overriddenIn]; done) | decide +kernel
theorem q5c : decode jdk_53_method_1_code 0 = .ok (.aload_n 0, 1) := by decide +kernel
theorem q5d : decode jdk_53_method_1_code 1 = .ok (.invokespecial 1, 3) := by decide +kernel
theorem q5e : decode jdk_53_method_1_code 4 = .ok (.aload_n 0, 1) := by decide +kernel
theorem q5f : decode jdk_53_method_1_code 5 = .ok (.aload_n 1, 1) := by decide +kernel
theorem q5g : decode jdk_53_method_1_code 6 = .ok (.putfield 7, 3) := by decide +kernel
theorem q5h : decode jdk_53_method_1_code 9 = .ok (.aload_n 0, 1) := by decide +kernel
theorem q5i : decode jdk_53_method_1_code 10 = .ok (.iload_n 2, 1) := by decide +kernel
theorem q5j : decode jdk_53_method_1_code 11 = .ok (.putfield 13, 3) := by decide +kernel
theorem q5k : decode jdk_53_method_1_code 14 = .ok (.aload_n 0, 1) := by decide +kernel
theorem q5l : decode jdk_53_method_1_code 15 = .ok (.iconst 0, 1) := by decide +kernel
theorem q5m : decode jdk_53_method_1_code 16 = .ok (.putfield 17, 3) := by decide +kernel
theorem q5n : decode jdk_53_method_1_code 19 = .ok (.aload_n 0, 1) := by decide +kernel
theorem q5o : decode jdk_53_method_1_code 20 = .ok (.iconst 0, 1) := by decide +kernel
theorem q5p : decode jdk_53_method_1_code 21 = .ok (.putfield 20, 3) := by decide +kernel
theorem q5q : decode jdk_53_method_1_code 24 = .ok (.return_, 1) := by decide +kernel
theorem own_lii (l : Launch) (Z : State) (a0 : Array Value) (hw : ∀ d ∈ tables_1, d.before a0 Z = true) (ws : List Jvm.Cond) (a1 : Addr) (l1 : Addr) (nn : Int32) (u0 : Value) (u1 : Value) (u2 : Value) (u3 : Value) (h0 : Heap) (n0 : Nat) (Z0 : n0 ≤ h0.size) (f0 : Exa Z h0 a1 "java/util/ImmutableCollections$ListItr") (f1 : n0 ≤ a1) (f2 : Fld Z h0 a1 "java/util/ImmutableCollections$ListItr" "list" "Ljava/util/List;" u0) (f3 : Fld Z h0 a1 "java/util/ImmutableCollections$ListItr" "size" "I" u1) (f4 : Fld Z h0 a1 "java/util/ImmutableCollections$ListItr" "cursor" "I" u2) (f5 : Fld Z h0 a1 "java/util/ImmutableCollections$ListItr" "isListIterator" "Z" u3)  :
    Con l Z (⟨"java/util/ImmutableCollections$ListItr", "<init>", "(Ljava/util/List;I)V"⟩ : MethodName) jdk_53_method_1_code 3 none ({ frames := 1, cells := 0, slots := 0, locals := 12 } : Room) ws #[(.ref a1), (.ref l1), (.int nn)] h0 (fun v h L => (v = none) ∧ (Fr n0 L) ∧ (Keep h0 h [a1]) ∧ (Exa Z h a1 "java/util/ImmutableCollections$ListItr") ∧ (Fld Z h a1 "java/util/ImmutableCollections$ListItr" "list" "Ljava/util/List;" (.ref l1)) ∧ (Fld Z h a1 "java/util/ImmutableCollections$ListItr" "size" "I" (.int nn)) ∧ (Fld Z h a1 "java/util/ImmutableCollections$ListItr" "cursor" "I" (.int (0 : Int32)))) 0 0 := by
  refine Con.of (plainFor_of_name own_pn_ImmutableCollections_ListItr) ?_
  intro pgm e s m below meth c s₁ X0 hx hZ hby hml hown hnm hret hlk e0 hs0
  have N0 := Fr.nil n0
  have hown : s.vm.findClass "java/util/ImmutableCollections$ListItr" = some m.cls := hown
  have hnm : meth.name = "<init>" := hnm
  refine Go.cast (own_ef_jdk_53_method_1_code_RRI m a1 l1 nn) ?_
  have K0 := Keep.refl h0 [a1]
  refine gs m s₁ 1 #[vR (a1), vR (l1), vI (nn)] [(.ref a1)] (fun _ k => XS.aloadN X0.here hx rfl (hb hby q5c) rfl rfl k) ?_
  obtain ⟨T101, X101, e101, st101⟩ := initO X0 hx hZ hown (hwi hw 102 rfl) (hwi hw 29 rfl) (hwi hw 30 rfl) e0 (g := (mkF m 1 #[vR (a1), vR (l1), vI (nn)] [(.ref a1)])) rfl (by rw [hml]; rfl) rfl (hb hby q5d) (by decide) (W := 0) (by show 2 * 0 + _ ≤ _; exact Nat.le_of_eq rfl) (by decide)
  refine gs m T101 4 #[vR (a1), vR (l1), vI (nn)] [] st101 ?_
  refine gs m T101 5 #[vR (a1), vR (l1), vI (nn)] [(.ref a1)] (fun _ k => XS.aloadN X101.here hx rfl (hb hby q5e) rfl rfl k) ?_
  refine gs m T101 6 #[vR (a1), vR (l1), vI (nn)] [(.ref l1), (.ref a1)] (fun _ k => XS.aloadN X101.here hx rfl (hb hby q5f) rfl rfl k) ?_
  obtain ⟨T102, h102, X102, e102, W102, st102⟩ := putF X101 hx hZ hown (host := "") (Or.inl (hwi hw 103 rfl)) Via.refl e101 f2 f0 (Or.inr ⟨(hwi hw 104 rfl), rfl, hnm⟩) (hwi hw 87 rfl) (ty := (.object "java/util/List")) (by decide) rfl rfl (g := (mkF m 6 #[vR (a1), vR (l1), vI (nn)] [(.ref l1), (.ref a1)])) rfl rfl (hb hby q5g)
  have N102 := Fr.snoc X102 N0 f1
  have Z102 : n0 ≤ h102.size := Nat.le_trans Z0 (Keep.of_wr W102).1
  have K102 := K0.wr W102 (Or.inl (List.mem_of_getElem? (i := 0) rfl))
  have F103 := f0.wr W102
  have F104 := f3.other W102 (Or.inr (slot_ne (Or.inr (hwi hw 106 rfl)) (Or.inr (hwi hw 104 rfl)) (by decide) (t := .int) (t' := (.object "java/util/List")) (by decide) (by decide)))
  have F105 := f4.other W102 (Or.inr (slot_ne (Or.inl (hwi hw 108 rfl)) (Or.inr (hwi hw 104 rfl)) (by decide) (t := .int) (t' := (.object "java/util/List")) (by decide) (by decide)))
  have F106 := f5.other W102 (Or.inr (slot_ne (Or.inr (hwi hw 110 rfl)) (Or.inr (hwi hw 104 rfl)) (by decide) (t := .boolean) (t' := (.object "java/util/List")) (by decide) (by decide)))
  have F107 := f2.same W102
  refine gs m T102 9 #[vR (a1), vR (l1), vI (nn)] [] st102 ?_
  refine gs m T102 10 #[vR (a1), vR (l1), vI (nn)] [(.ref a1)] (fun _ k => XS.aloadN X102.here hx rfl (hb hby q5h) rfl rfl k) ?_
  refine gs m T102 11 #[vR (a1), vR (l1), vI (nn)] [(.int nn), (.ref a1)] (fun _ k => XS.iloadN X102.here hx rfl (hb hby q5i) rfl  k) ?_
  obtain ⟨T108, h108, X108, e108, W108, st108⟩ := putF X102 hx hZ hown (host := "") (Or.inl (hwi hw 105 rfl)) Via.refl e102 F104 F103 (Or.inr ⟨(hwi hw 106 rfl), rfl, hnm⟩) (hwi hw 87 rfl) (ty := .int) (by decide) rfl rfl (g := (mkF m 11 #[vR (a1), vR (l1), vI (nn)] [(.int nn), (.ref a1)])) rfl rfl (hb hby q5j)
  have N108 := Fr.snoc X108 N102 f1
  have Z108 : n0 ≤ h108.size := Nat.le_trans Z102 (Keep.of_wr W108).1
  have K108 := K102.wr W108 (Or.inl (List.mem_of_getElem? (i := 0) rfl))
  have F109 := F103.wr W108
  have F110 := F105.other W108 (Or.inr (slot_ne (Or.inl (hwi hw 108 rfl)) (Or.inr (hwi hw 106 rfl)) (by decide) (t := .int) (t' := .int) (by decide) (by decide)))
  have F111 := F106.other W108 (Or.inr (slot_ne (Or.inr (hwi hw 110 rfl)) (Or.inr (hwi hw 106 rfl)) (by decide) (t := .boolean) (t' := .int) (by decide) (by decide)))
  have F112 := F107.other W108 (Or.inr (slot_ne (Or.inr (hwi hw 104 rfl)) (Or.inr (hwi hw 106 rfl)) (by decide) (t := (.object "java/util/List")) (t' := .int) (by decide) (by decide)))
  have F113 := F104.same W108
  refine gs m T108 14 #[vR (a1), vR (l1), vI (nn)] [] st108 ?_
  refine gs m T108 15 #[vR (a1), vR (l1), vI (nn)] [(.ref a1)] (fun _ k => XS.aloadN X108.here hx rfl (hb hby q5k) rfl rfl k) ?_
  refine gs m T108 16 #[vR (a1), vR (l1), vI (nn)] [(.int (0 : Int32)), (.ref a1)] (fun _ k => XS.iconst X108.here hx rfl (hb hby q5l) k) ?_
  obtain ⟨T114, h114, X114, e114, W114, st114⟩ := putF X108 hx hZ hown (host := "") (Or.inl (hwi hw 107 rfl)) Via.refl e108 F110 F109 (Or.inl (hwi hw 108 rfl)) (hwi hw 87 rfl) (ty := .int) (by decide) rfl rfl (g := (mkF m 16 #[vR (a1), vR (l1), vI (nn)] [(.int (0 : Int32)), (.ref a1)])) rfl rfl (hb hby q5m)
  have N114 := Fr.snoc X114 N108 f1
  have Z114 : n0 ≤ h114.size := Nat.le_trans Z108 (Keep.of_wr W114).1
  have K114 := K108.wr W114 (Or.inl (List.mem_of_getElem? (i := 0) rfl))
  have F115 := F109.wr W114
  have F116 := F111.other W114 (Or.inr (slot_ne (Or.inr (hwi hw 110 rfl)) (Or.inl (hwi hw 108 rfl)) (by decide) (t := .boolean) (t' := .int) (by decide) (by decide)))
  have F117 := F112.other W114 (Or.inr (slot_ne (Or.inr (hwi hw 104 rfl)) (Or.inl (hwi hw 108 rfl)) (by decide) (t := (.object "java/util/List")) (t' := .int) (by decide) (by decide)))
  have F118 := F113.other W114 (Or.inr (slot_ne (Or.inr (hwi hw 106 rfl)) (Or.inl (hwi hw 108 rfl)) (by decide) (t := .int) (t' := .int) (by decide) (by decide)))
  have F119 := F110.same W114
  refine gs m T114 19 #[vR (a1), vR (l1), vI (nn)] [] st114 ?_
  refine gs m T114 20 #[vR (a1), vR (l1), vI (nn)] [(.ref a1)] (fun _ k => XS.aloadN X114.here hx rfl (hb hby q5n) rfl rfl k) ?_
  refine gs m T114 21 #[vR (a1), vR (l1), vI (nn)] [(.int (0 : Int32)), (.ref a1)] (fun _ k => XS.iconst X114.here hx rfl (hb hby q5o) k) ?_
  obtain ⟨T120, h120, X120, e120, W120, st120⟩ := putFN X114 hx hZ hown (hwi hw 109 rfl) Via.refl e114 F116 F115 (Or.inr ⟨(hwi hw 110 rfl), rfl, hnm⟩) (hwi hw 87 rfl) (ty := .boolean) (v' := (.int (0 : Int32))) (by decide) (rfl) (by decide) (g := (mkF m 21 #[vR (a1), vR (l1), vI (nn)] [(.int (0 : Int32)), (.ref a1)])) rfl rfl (hb hby q5p)
  have N120 := Fr.snoc X120 N114 f1
  have Z120 : n0 ≤ h120.size := Nat.le_trans Z114 (Keep.of_wr W120).1
  have K120 := K114.wr W120 (Or.inl (List.mem_of_getElem? (i := 0) rfl))
  have F121 := F115.wr W120
  have F122 := F117.other W120 (Or.inr (slot_ne (Or.inr (hwi hw 104 rfl)) (Or.inr (hwi hw 110 rfl)) (by decide) (t := (.object "java/util/List")) (t' := .boolean) (by decide) (by decide)))
  have F123 := F118.other W120 (Or.inr (slot_ne (Or.inr (hwi hw 106 rfl)) (Or.inr (hwi hw 110 rfl)) (by decide) (t := .int) (t' := .boolean) (by decide) (by decide)))
  have F124 := F119.other W120 (Or.inr (slot_ne (Or.inl (hwi hw 108 rfl)) (Or.inr (hwi hw 110 rfl)) (by decide) (t := .int) (t' := .boolean) (by decide) (by decide)))
  have F125 := F116.same W120
  refine gs m T120 24 #[vR (a1), vR (l1), vI (nn)] [] st120 ?_
  exact Go.retV X120 hx hret hlk (hb hby q5q) (by rw [e120]; exact ⟨rfl, N120, K120, F121, F122, F123, F124⟩) (by decide) (by decide)
theorem own_ef_jdk_46_method_10_code_R (m : MethodId) (x0 : Addr) : entryFrame m #[(.ref x0)] 1 = mkF m 0 #[vR (x0)] [] := by first | (simp [entryFrame, mkF, argsToLocals, Value.category]; done) | rfl | (simp [entryFrame, mkF, argsToLocals, own_cI, own_cJ, own_cR, own_cN]; done)
theorem q5r : decode jdk_46_method_10_code 0 = .ok (.new 61, 3) := by decide +kernel
theorem q5s : decode jdk_46_method_10_code 3 = .ok (.dup, 1) := by decide +kernel
theorem q5t : decode jdk_46_method_10_code 4 = .ok (.aload_n 0, 1) := by decide +kernel
theorem q5u : decode jdk_46_method_10_code 5 = .ok (.aload_n 0, 1) := by decide +kernel
theorem q5v : decode jdk_46_method_10_code 6 = .ok (.invokevirtual 13, 3) := by decide +kernel
theorem own_pd13 : parseMethodDescriptor "()I" = some ⟨[], some .int⟩ := by decide +kernel
theorem q5w : decode jdk_46_method_10_code 9 = .ok (.invokespecial 63, 3) := by decide +kernel
theorem own_pd14 : parseMethodDescriptor "(Ljava/util/List;I)V" = some ⟨[(.object "java/util/List"), .int], none⟩ := by decide +kernel
theorem q5x : decode jdk_46_method_10_code 12 = .ok (.areturn, 1) := by decide +kernel
theorem own_itr0 (l : Launch) (Z : State) (a0 : Array Value) (hw : ∀ d ∈ tables_1, d.before a0 Z = true) (ws : List Jvm.Cond) (a1 : Addr) (b2 : Addr) (k2 : ClassId) (h0 : Heap) (n0 : Nat) (Z0 : n0 ≤ h0.size) (f0 : Exa Z h0 a1 "java/util/ImmutableCollections$ListN") (f1 : Fld Z h0 a1 "java/util/ImmutableCollections$ListN" "elements" "[Ljava/lang/Object;" (.ref b2)) (f2 : Arv Z h0 b2 k2 (.object "java/lang/Object") (0 : Int32) [] .null)  :
    Con l Z (⟨"java/util/ImmutableCollections$AbstractImmutableList", "iterator", "()Ljava/util/Iterator;"⟩ : MethodName) jdk_46_method_10_code 1 (some (.object "java/util/Iterator")) ({ frames := 2, cells := 1, slots := 4, locals := 27 } : Room) ws #[(.ref a1)] h0 (fun v h L => ∃ it : Addr, (v = some (.ref it)) ∧ (Fr n0 L) ∧ (Keep h0 h []) ∧ (h0.size ≤ it) ∧ (Exa Z h it "java/util/ImmutableCollections$ListItr") ∧ (Fld Z h it "java/util/ImmutableCollections$ListItr" "list" "Ljava/util/List;" (.ref a1)) ∧ (Fld Z h it "java/util/ImmutableCollections$ListItr" "size" "I" (.int (0 : Int32))) ∧ (Fld Z h it "java/util/ImmutableCollections$ListItr" "cursor" "I" (.int (0 : Int32)))) 1 4 := by
  refine Con.of (plainFor_of_name own_pn_ImmutableCollections_AbstractImmutableList) ?_
  intro pgm e s m below meth c s₁ X0 hx hZ hby hml hown hnm hret hlk e0 hs0
  have N0 := Fr.nil n0
  have hown : s.vm.findClass "java/util/ImmutableCollections$AbstractImmutableList" = some m.cls := hown
  have hnm : meth.name = "iterator" := hnm
  refine Go.cast (own_ef_jdk_46_method_10_code_R m a1) ?_
  have K0 := Keep.refl h0 []
  obtain ⟨T101, h101, X101, e101, E101, A101, D101, -, st101⟩ := newO X0 hx hZ hown (hwi hw 86 rfl) (hwi hw 87 rfl) (hwi hw 88 rfl) e0 (g := (mkF m 0 #[vR (a1)] [])) rfl (hb hby q5r) (by decide) (by decide)
  obtain ⟨b101, g101⟩ : ∃ z, z = h0.size := ⟨_, rfl⟩
  rw [← g101] at A101 D101 st101
  have ne102 : a1 ≠ b101 := by have q := f0.lt; intro r; rw [r, g101] at q; exact Nat.lt_irrefl _ q
  have ne103 : b2 ≠ b101 := by have q := f2.lt; intro r; rw [r, g101] at q; exact Nat.lt_irrefl _ q
  have ge101 : n0 ≤ b101 := Nat.le_trans Z0 (Nat.le_of_eq g101.symm)
  have Z101 : n0 ≤ h101.size := Nat.le_trans Z0 E101.1
  have sz101 : h0.size ≤ b101 := Nat.le_trans K0.1 (Nat.le_of_eq g101.symm)
  have K101 := K0.ext E101
  have F104 := f0.ext E101
  have F105 := f1.ext E101
  have F106 := f2.ext E101
  have F107 : Fld Z h101 b101 "java/util/ImmutableCollections$ListItr" "list" "Ljava/util/List;" .null := D101 (Or.inr (hwi hw 104 rfl)) (ty := (.object "java/util/List")) (by decide)
  have F108 : Fld Z h101 b101 "java/util/ImmutableCollections$ListItr" "size" "I" (.int (0 : Int32)) := D101 (Or.inr (hwi hw 106 rfl)) (ty := .int) (by decide)
  have F109 : Fld Z h101 b101 "java/util/ImmutableCollections$ListItr" "cursor" "I" (.int (0 : Int32)) := D101 (Or.inl (hwi hw 108 rfl)) (ty := .int) (by decide)
  have F110 : Fld Z h101 b101 "java/util/ImmutableCollections$ListItr" "isListIterator" "Z" (.int (0 : Int32)) := D101 (Or.inr (hwi hw 110 rfl)) (ty := .boolean) (by decide)
  refine gs m T101 3 #[vR (a1)] [(.ref b101)] st101 ?_
  refine gs m T101 4 #[vR (a1)] [(.ref b101), (.ref b101)] (fun _ k => XS.dup X101.here hx rfl (hb hby q5s) rfl rfl k) ?_
  refine gs m T101 5 #[vR (a1)] [(.ref a1), (.ref b101), (.ref b101)] (fun _ k => XS.aloadN X101.here hx rfl (hb hby q5t) rfl rfl k) ?_
  refine gs m T101 6 #[vR (a1)] [(.ref a1), (.ref a1), (.ref b101), (.ref b101)] (fun _ k => XS.aloadN X101.here hx rfl (hb hby q5u) rfl rfl k) ?_
  obtain ⟨cq111, kq111, q111a, q111b, q111c⟩ := isOf hZ e101 F104
  obtain ⟨_, _, ⟨T111, L111, k111, n111⟩, -, X111, ⟨Lc111, hQ111, l111, y111, z111⟩, st111⟩ := X101.virtualBackUp hx (owner := "java/util/AbstractCollection") (x := (⟨"java/util/ImmutableCollections$AbstractImmutableList", "size", "()I"⟩ : MethodName)) (y := (⟨"java/util/ImmutableCollections$ListN", "size", "()I"⟩ : MethodName)) hown (mvT hZ (hwi hw 89 rfl)) (mvT hZ (hwi hw 90 rfl)) (mvT hZ (hwi hw 91 rfl)) (by decide) (mvT hZ (hwi hw 92 rfl)) (mvT hZ (hwi hw 93 rfl)) (backOf (W := 3) (Q := Qret (some (.int (0 : Int32))) h101 n0) (own_siz0 l Z a0 hw [] a1 b2 k2 h101 n0 Z101 F104 F105 F106) hZ (hwi hw 95 rfl) (hwi hw 94 rfl) (by decide) (by decide)) q111a q111c (g := (mkF m 6 #[vR (a1)] [(.ref a1), (.ref a1), (.ref b101), (.ref b101)])) rfl (by rw [hml]; rfl) (Steps.refl _) (argsL := []) (rest := [(.ref a1), (.ref b101), (.ref b101)]) (lenOf own_pd13 rfl) rfl (by show 2 * 0 + _ ≤ _; exact Nat.le_of_eq rfl) (hb hby q5v) (fun _ _ => ⟨rfl, e101, (by decide : 1 + 0 ≤ _), (by decide : 4 + 0 ≤ _)⟩)
  dsimp only [Pt.U, Pt.locs, Pt.cells, Pt.slots] at X111 l111 y111 z111 st111 hQ111
  subst l111 y111 z111
  obtain ⟨rfl, N111q, eh111⟩ := hQ111
  have N111 := Fr.app N0 N111q
  refine gs m T111 9 #[vR (a1)] [(.int (0 : Int32)), (.ref a1), (.ref b101), (.ref b101)] (fun _ k => st111.trans k) ?_
  obtain ⟨_, _, ⟨T112, L112, k112, n112⟩, -, X112, ⟨Lc112, hQ112, l112, y112, z112⟩, st112⟩ := X111.specialBack hx (y := (⟨"java/util/ImmutableCollections$ListItr", "<init>", "(Ljava/util/List;I)V"⟩ : MethodName)) rfl hown (mvT hZ (hwi hw 98 rfl)) (mvT hZ (hwi hw 99 rfl)) (mvT hZ (hwi hw 101 rfl)) (by decide) (backOf (W := 1) (Q := fun v h L => (v = none) ∧ (Fr n0 L) ∧ (Keep h101 h [b101]) ∧ (Exa Z h b101 "java/util/ImmutableCollections$ListItr") ∧ (Fld Z h b101 "java/util/ImmutableCollections$ListItr" "list" "Ljava/util/List;" (.ref a1)) ∧ (Fld Z h b101 "java/util/ImmutableCollections$ListItr" "size" "I" (.int (0 : Int32))) ∧ (Fld Z h b101 "java/util/ImmutableCollections$ListItr" "cursor" "I" (.int (0 : Int32)))) (own_lii l Z a0 hw [] b101 a1 (0 : Int32) .null (.int (0 : Int32)) (.int (0 : Int32)) (.int (0 : Int32)) h101 n0 Z101 A101 ge101 F107 F108 F109 F110) hZ (hwi hw 101 rfl) (hwi hw 88 rfl) (by decide) (by decide)) (g := (mkF m 9 #[vR (a1)] [(.int (0 : Int32)), (.ref a1), (.ref b101), (.ref b101)])) rfl (by rw [hml]; rfl) (Steps.refl _) (a := b101) (argsL := [(.ref a1), (.int (0 : Int32))]) (rest := [(.ref b101)]) (lenOf own_pd14 rfl) rfl (by show 2 * 0 + _ ≤ _; exact Nat.le_of_eq rfl) (hb hby q5w) (fun _ _ => ⟨rfl, eh111, (by decide : 1 + 0 ≤ _), (by decide : 4 + 0 ≤ _)⟩)
  dsimp only [Pt.U, Pt.locs, Pt.cells, Pt.slots] at X112 l112 y112 z112 st112 hQ112
  subst l112 y112 z112
  obtain ⟨rfl, N112q, K112, P112_0, P112_1, P112_2, P112_3⟩ := hQ112
  have N112 := Fr.app N111 N112q
  have KK112 := K101.trans K112 (allS (Or.inr sz101) all0)
  have Z112 : n0 ≤ T112.heap.size := Nat.le_trans Z101 K112.1
  have F113 := F104.keep K112
  have F114 := F105.keep K112 (ninS ne102 nin0)
  have F115 := F106.keep K112 (ninS ne103 nin0)
  have F116 := A101.keep K112
  refine gs m T112 12 #[vR (a1)] [(.ref b101)] (fun _ k => st112.trans k) ?_
  exact Go.retA X112 hx (t := (.object "java/util/Iterator")) hret rfl hlk rfl (hb hby q5x) (⟨b101, rfl, N112, KK112, sz101, P112_0, P112_1, P112_2, P112_3⟩) (by decide) (by decide)
theorem own_ef_jdk_53_method_3_code_R (m : MethodId) (x0 : Addr) : entryFrame m #[(.ref x0)] 1 = mkF m 0 #[vR (x0)] [] := by first | (simp [entryFrame, mkF, argsToLocals, Value.category]; done) | rfl | (simp [entryFrame, mkF, argsToLocals, own_cI, own_cJ, own_cR, own_cN]; done)
theorem q5y : decode jdk_53_method_3_code 0 = .ok (.aload_n 0, 1) := by decide +kernel
theorem q5z : decode jdk_53_method_3_code 1 = .ok (.getfield 17, 3) := by decide +kernel
theorem q60 : decode jdk_53_method_3_code 4 = .ok (.aload_n 0, 1) := by decide +kernel
theorem q61 : decode jdk_53_method_3_code 5 = .ok (.getfield 13, 3) := by decide +kernel
theorem q62 : decode jdk_53_method_3_code 8 = .ok (.if_icmp .eq 7, 3) := by decide +kernel
theorem q63 : decode jdk_53_method_3_code 15 = .ok (.iconst 0, 1) := by decide +kernel
theorem q64 : decode jdk_53_method_3_code 16 = .ok (.ireturn, 1) := by decide +kernel
theorem own_hn0_0 (l : Launch) (Z : State) (a0 : Array Value) (hw : ∀ d ∈ tables_1, d.before a0 Z = true) (ws : List Jvm.Cond) (it : Addr) (a1 : Addr) (h0 : Heap) (n0 : Nat) (Z0 : n0 ≤ h0.size) (f0 : Exa Z h0 it "java/util/ImmutableCollections$ListItr") (f1 : Fld Z h0 it "java/util/ImmutableCollections$ListItr" "list" "Ljava/util/List;" (.ref a1)) (f2 : Fld Z h0 it "java/util/ImmutableCollections$ListItr" "size" "I" (.int (0 : Int32))) (f3 : Fld Z h0 it "java/util/ImmutableCollections$ListItr" "cursor" "I" (.int (0 : Int32)))  :
    Con l Z (⟨"java/util/ImmutableCollections$ListItr", "hasNext", "()Z"⟩ : MethodName) jdk_53_method_3_code 1 (some .boolean) ({ frames := 0, cells := 0, slots := 0, locals := 0 } : Room) ws #[(.ref it)] h0 (Qret (some (.int (0 : Int32))) h0 n0) 0 0 := by
  refine Con.of (plainFor_of_name own_pn_ImmutableCollections_ListItr) ?_
  intro pgm e s m below meth c s₁ X0 hx hZ hby hml hown hnm hret hlk e0 hs0
  have N0 := Fr.nil n0
  have hown : s.vm.findClass "java/util/ImmutableCollections$ListItr" = some m.cls := hown
  have hnm : meth.name = "hasNext" := hnm
  refine Go.cast (own_ef_jdk_53_method_3_code_R m it) ?_
  refine gs m s₁ 1 #[vR (it)] [(.ref it)] (fun _ k => XS.aloadN X0.here hx rfl (hb hby q5y) rfl rfl k) ?_
  obtain ⟨T101, X101, e101, st101⟩ := getF X0 hx hZ hown (host := "") (Or.inl (hwi hw 107 rfl)) Via.refl e0 f3 (g := (mkF m 1 #[vR (it)] [(.ref it)])) rfl rfl (hb hby q5z)
  refine gs m T101 4 #[vR (it)] [(.int (0 : Int32))] st101 ?_
  refine gs m T101 5 #[vR (it)] [(.ref it), (.int (0 : Int32))] (fun _ k => XS.aloadN X101.here hx rfl (hb hby q60) rfl rfl k) ?_
  obtain ⟨T102, X102, e102, st102⟩ := getF X101 hx hZ hown (host := "") (Or.inl (hwi hw 105 rfl)) Via.refl e101 f2 (g := (mkF m 5 #[vR (it)] [(.ref it), (.int (0 : Int32))])) rfl rfl (hb hby q61)
  refine gs m T102 8 #[vR (it)] [(.int (0 : Int32)), (.int (0 : Int32))] st102 ?_
  refine gs m T102 15 #[vR (it)] [] (fun _ k => XS.icmpYes X102.here hx rfl (pc0 := 8) (pc' := 15) rfl (hb hby q62) rfl (teq (by decide : (0 : Int32) = (0 : Int32))).1 (by decide) (by decide) k) ?_
  refine gs m T102 16 #[vR (it)] [(.int (0 : Int32))] (fun _ k => XS.iconst X102.here hx rfl (hb hby q63) k) ?_
  exact Go.retN X102 hx (t := .boolean) hret hlk (by simp) (hb hby q64) (⟨rfl, N0, e102⟩) (by decide) (by decide)
theorem own_itr1 (l : Launch) (Z : State) (a0 : Array Value) (hw : ∀ d ∈ tables_1, d.before a0 Z = true) (ws : List Jvm.Cond) (a1 : Addr) (x1 : Addr) (em : Addr) (h0 : Heap) (n0 : Nat) (Z0 : n0 ≤ h0.size) (f0 : Exa Z h0 a1 "java/util/ImmutableCollections$List12") (f1 : Fld Z h0 a1 "java/util/ImmutableCollections$List12" "e0" "Ljava/lang/Object;" (.ref x1)) (f2 : Fld Z h0 a1 "java/util/ImmutableCollections$List12" "e1" "Ljava/lang/Object;" (.ref em)) (f3 : Sta Z h0 "java/util/ImmutableCollections" "EMPTY" "Ljava/lang/Object;" (.ref em))  :
    Con l Z (⟨"java/util/ImmutableCollections$AbstractImmutableList", "iterator", "()Ljava/util/Iterator;"⟩ : MethodName) jdk_46_method_10_code 1 (some (.object "java/util/Iterator")) ({ frames := 2, cells := 1, slots := 4, locals := 27 } : Room) ws #[(.ref a1)] h0 (fun v h L => ∃ it : Addr, (v = some (.ref it)) ∧ (Fr n0 L) ∧ (Keep h0 h []) ∧ (h0.size ≤ it) ∧ (Exa Z h it "java/util/ImmutableCollections$ListItr") ∧ (Fld Z h it "java/util/ImmutableCollections$ListItr" "list" "Ljava/util/List;" (.ref a1)) ∧ (Fld Z h it "java/util/ImmutableCollections$ListItr" "size" "I" (.int (1 : Int32))) ∧ (Fld Z h it "java/util/ImmutableCollections$ListItr" "cursor" "I" (.int (0 : Int32)))) 1 4 := by
  refine Con.of (plainFor_of_name own_pn_ImmutableCollections_AbstractImmutableList) ?_
  intro pgm e s m below meth c s₁ X0 hx hZ hby hml hown hnm hret hlk e0 hs0
  have N0 := Fr.nil n0
  have hown : s.vm.findClass "java/util/ImmutableCollections$AbstractImmutableList" = some m.cls := hown
  have hnm : meth.name = "iterator" := hnm
  refine Go.cast (own_ef_jdk_46_method_10_code_R m a1) ?_
  have K0 := Keep.refl h0 []
  obtain ⟨T101, h101, X101, e101, E101, A101, D101, -, st101⟩ := newO X0 hx hZ hown (hwi hw 86 rfl) (hwi hw 87 rfl) (hwi hw 88 rfl) e0 (g := (mkF m 0 #[vR (a1)] [])) rfl (hb hby q5r) (by decide) (by decide)
  obtain ⟨b101, g101⟩ : ∃ z, z = h0.size := ⟨_, rfl⟩
  rw [← g101] at A101 D101 st101
  have ne102 : a1 ≠ b101 := by have q := f0.lt; intro r; rw [r, g101] at q; exact Nat.lt_irrefl _ q
  have ge101 : n0 ≤ b101 := Nat.le_trans Z0 (Nat.le_of_eq g101.symm)
  have Z101 : n0 ≤ h101.size := Nat.le_trans Z0 E101.1
  have sz101 : h0.size ≤ b101 := Nat.le_trans K0.1 (Nat.le_of_eq g101.symm)
  have K101 := K0.ext E101
  have F103 := f0.ext E101
  have F104 := f1.ext E101
  have F105 := f2.ext E101
  have F106 := f3.ext E101
  have F107 : Fld Z h101 b101 "java/util/ImmutableCollections$ListItr" "list" "Ljava/util/List;" .null := D101 (Or.inr (hwi hw 104 rfl)) (ty := (.object "java/util/List")) (by decide)
  have F108 : Fld Z h101 b101 "java/util/ImmutableCollections$ListItr" "size" "I" (.int (0 : Int32)) := D101 (Or.inr (hwi hw 106 rfl)) (ty := .int) (by decide)
  have F109 : Fld Z h101 b101 "java/util/ImmutableCollections$ListItr" "cursor" "I" (.int (0 : Int32)) := D101 (Or.inl (hwi hw 108 rfl)) (ty := .int) (by decide)
  have F110 : Fld Z h101 b101 "java/util/ImmutableCollections$ListItr" "isListIterator" "Z" (.int (0 : Int32)) := D101 (Or.inr (hwi hw 110 rfl)) (ty := .boolean) (by decide)
  refine gs m T101 3 #[vR (a1)] [(.ref b101)] st101 ?_
  refine gs m T101 4 #[vR (a1)] [(.ref b101), (.ref b101)] (fun _ k => XS.dup X101.here hx rfl (hb hby q5s) rfl rfl k) ?_
  refine gs m T101 5 #[vR (a1)] [(.ref a1), (.ref b101), (.ref b101)] (fun _ k => XS.aloadN X101.here hx rfl (hb hby q5t) rfl rfl k) ?_
  refine gs m T101 6 #[vR (a1)] [(.ref a1), (.ref a1), (.ref b101), (.ref b101)] (fun _ k => XS.aloadN X101.here hx rfl (hb hby q5u) rfl rfl k) ?_
  obtain ⟨cq111, kq111, q111a, q111b, q111c⟩ := isOf hZ e101 F103
  obtain ⟨_, _, ⟨T111, L111, k111, n111⟩, -, X111, ⟨Lc111, hQ111, l111, y111, z111⟩, st111⟩ := X101.virtualBackUp hx (owner := "java/util/AbstractCollection") (x := (⟨"java/util/ImmutableCollections$AbstractImmutableList", "size", "()I"⟩ : MethodName)) (y := (⟨"java/util/ImmutableCollections$List12", "size", "()I"⟩ : MethodName)) hown (mvT hZ (hwi hw 89 rfl)) (mvT hZ (hwi hw 90 rfl)) (mvT hZ (hwi hw 91 rfl)) (by decide) (mvT hZ (hwi hw 273 rfl)) (mvT hZ (hwi hw 274 rfl)) (backOf (W := 3) (Q := Qret (some (.int (1 : Int32))) h101 n0) (own_siz1 l Z a0 hw [] a1 x1 em h101 n0 Z101 F103 F104 F105 F106) hZ (hwi hw 275 rfl) (hwi hw 256 rfl) (by decide) (by decide)) q111a q111c (g := (mkF m 6 #[vR (a1)] [(.ref a1), (.ref a1), (.ref b101), (.ref b101)])) rfl (by rw [hml]; rfl) (Steps.refl _) (argsL := []) (rest := [(.ref a1), (.ref b101), (.ref b101)]) (lenOf own_pd13 rfl) rfl (by show 2 * 0 + _ ≤ _; exact Nat.le_of_eq rfl) (hb hby q5v) (fun _ _ => ⟨rfl, e101, (by decide : 1 + 0 ≤ _), (by decide : 4 + 0 ≤ _)⟩)
  dsimp only [Pt.U, Pt.locs, Pt.cells, Pt.slots] at X111 l111 y111 z111 st111 hQ111
  subst l111 y111 z111
  obtain ⟨rfl, N111q, eh111⟩ := hQ111
  have N111 := Fr.app N0 N111q
  refine gs m T111 9 #[vR (a1)] [(.int (1 : Int32)), (.ref a1), (.ref b101), (.ref b101)] (fun _ k => st111.trans k) ?_
  obtain ⟨_, _, ⟨T112, L112, k112, n112⟩, -, X112, ⟨Lc112, hQ112, l112, y112, z112⟩, st112⟩ := X111.specialBack hx (y := (⟨"java/util/ImmutableCollections$ListItr", "<init>", "(Ljava/util/List;I)V"⟩ : MethodName)) rfl hown (mvT hZ (hwi hw 98 rfl)) (mvT hZ (hwi hw 99 rfl)) (mvT hZ (hwi hw 101 rfl)) (by decide) (backOf (W := 1) (Q := fun v h L => (v = none) ∧ (Fr n0 L) ∧ (Keep h101 h [b101]) ∧ (Exa Z h b101 "java/util/ImmutableCollections$ListItr") ∧ (Fld Z h b101 "java/util/ImmutableCollections$ListItr" "list" "Ljava/util/List;" (.ref a1)) ∧ (Fld Z h b101 "java/util/ImmutableCollections$ListItr" "size" "I" (.int (1 : Int32))) ∧ (Fld Z h b101 "java/util/ImmutableCollections$ListItr" "cursor" "I" (.int (0 : Int32)))) (own_lii l Z a0 hw [] b101 a1 (1 : Int32) .null (.int (0 : Int32)) (.int (0 : Int32)) (.int (0 : Int32)) h101 n0 Z101 A101 ge101 F107 F108 F109 F110) hZ (hwi hw 101 rfl) (hwi hw 88 rfl) (by decide) (by decide)) (g := (mkF m 9 #[vR (a1)] [(.int (1 : Int32)), (.ref a1), (.ref b101), (.ref b101)])) rfl (by rw [hml]; rfl) (Steps.refl _) (a := b101) (argsL := [(.ref a1), (.int (1 : Int32))]) (rest := [(.ref b101)]) (lenOf own_pd14 rfl) rfl (by show 2 * 0 + _ ≤ _; exact Nat.le_of_eq rfl) (hb hby q5w) (fun _ _ => ⟨rfl, eh111, (by decide : 1 + 0 ≤ _), (by decide : 4 + 0 ≤ _)⟩)
  dsimp only [Pt.U, Pt.locs, Pt.cells, Pt.slots] at X112 l112 y112 z112 st112 hQ112
  subst l112 y112 z112
  obtain ⟨rfl, N112q, K112, P112_0, P112_1, P112_2, P112_3⟩ := hQ112
  have N112 := Fr.app N111 N112q
  have KK112 := K101.trans K112 (allS (Or.inr sz101) all0)
  have Z112 : n0 ≤ T112.heap.size := Nat.le_trans Z101 K112.1
  have F113 := F103.keep K112
  have F114 := F104.keep K112 (ninS ne102 nin0)
  have F115 := F105.keep K112 (ninS ne102 nin0)
  have F116 := own_sta_keep F106 K112 (allS (own_plain A101) all0)
  have F117 := A101.keep K112
  refine gs m T112 12 #[vR (a1)] [(.ref b101)] (fun _ k => st112.trans k) ?_
  exact Go.retA X112 hx (t := (.object "java/util/Iterator")) hret rfl hlk rfl (hb hby q5x) (⟨b101, rfl, N112, KK112, sz101, P112_0, P112_1, P112_2, P112_3⟩) (by decide) (by decide)
theorem q65 : decode jdk_53_method_3_code 11 = .ok (.iconst 1, 1) := by decide +kernel
theorem q66 : decode jdk_53_method_3_code 12 = .ok (.goto 4, 3) := by decide +kernel
theorem own_hn1_0 (l : Launch) (Z : State) (a0 : Array Value) (hw : ∀ d ∈ tables_1, d.before a0 Z = true) (ws : List Jvm.Cond) (it : Addr) (a1 : Addr) (h0 : Heap) (n0 : Nat) (Z0 : n0 ≤ h0.size) (f0 : Exa Z h0 it "java/util/ImmutableCollections$ListItr") (f1 : Fld Z h0 it "java/util/ImmutableCollections$ListItr" "list" "Ljava/util/List;" (.ref a1)) (f2 : Fld Z h0 it "java/util/ImmutableCollections$ListItr" "size" "I" (.int (1 : Int32))) (f3 : Fld Z h0 it "java/util/ImmutableCollections$ListItr" "cursor" "I" (.int (0 : Int32)))  :
    Con l Z (⟨"java/util/ImmutableCollections$ListItr", "hasNext", "()Z"⟩ : MethodName) jdk_53_method_3_code 1 (some .boolean) ({ frames := 0, cells := 0, slots := 0, locals := 0 } : Room) ws #[(.ref it)] h0 (Qret (some (.int (1 : Int32))) h0 n0) 0 0 := by
  refine Con.of (plainFor_of_name own_pn_ImmutableCollections_ListItr) ?_
  intro pgm e s m below meth c s₁ X0 hx hZ hby hml hown hnm hret hlk e0 hs0
  have N0 := Fr.nil n0
  have hown : s.vm.findClass "java/util/ImmutableCollections$ListItr" = some m.cls := hown
  have hnm : meth.name = "hasNext" := hnm
  refine Go.cast (own_ef_jdk_53_method_3_code_R m it) ?_
  refine gs m s₁ 1 #[vR (it)] [(.ref it)] (fun _ k => XS.aloadN X0.here hx rfl (hb hby q5y) rfl rfl k) ?_
  obtain ⟨T101, X101, e101, st101⟩ := getF X0 hx hZ hown (host := "") (Or.inl (hwi hw 107 rfl)) Via.refl e0 f3 (g := (mkF m 1 #[vR (it)] [(.ref it)])) rfl rfl (hb hby q5z)
  refine gs m T101 4 #[vR (it)] [(.int (0 : Int32))] st101 ?_
  refine gs m T101 5 #[vR (it)] [(.ref it), (.int (0 : Int32))] (fun _ k => XS.aloadN X101.here hx rfl (hb hby q60) rfl rfl k) ?_
  obtain ⟨T102, X102, e102, st102⟩ := getF X101 hx hZ hown (host := "") (Or.inl (hwi hw 105 rfl)) Via.refl e101 f2 (g := (mkF m 5 #[vR (it)] [(.ref it), (.int (0 : Int32))])) rfl rfl (hb hby q61)
  refine gs m T102 8 #[vR (it)] [(.int (1 : Int32)), (.int (0 : Int32))] st102 ?_
  refine gs m T102 11 #[vR (it)] [] (fun _ k => XS.icmpNo X102.here hx rfl (hb hby q62) rfl (feq (by decide : ¬ ((0 : Int32) = (1 : Int32)))).1 k) ?_
  refine gs m T102 12 #[vR (it)] [(.int (1 : Int32))] (fun _ k => XS.iconst X102.here hx rfl (hb hby q65) k) ?_
  refine gs m T102 16 #[vR (it)] [(.int (1 : Int32))] (fun _ k => XS.goto X102.here hx rfl (pc0 := 12) (pc' := 16) rfl (hb hby q66) (by decide) (by decide) k) ?_
  exact Go.retN X102 hx (t := .boolean) hret hlk (by simp) (hb hby q64) (⟨rfl, N0, e102⟩) (by decide) (by decide)
theorem own_ef_jdk_53_method_4_code_R (m : MethodId) (x0 : Addr) : entryFrame m #[(.ref x0)] 3 = mkF m 0 #[vR (x0), sU, sU] [] := by first | (simp [entryFrame, mkF, argsToLocals, Value.category]; done) | rfl | (simp [entryFrame, mkF, argsToLocals, own_cI, own_cJ, own_cR, own_cN]; done)
theorem q67 : decode jdk_53_method_4_code 0 = .ok (.aload_n 0, 1) := by decide +kernel
theorem q68 : decode jdk_53_method_4_code 1 = .ok (.getfield 17, 3) := by decide +kernel
theorem q69 : decode jdk_53_method_4_code 4 = .ok (.istore_n 1, 1) := by decide +kernel
theorem q6a : decode jdk_53_method_4_code 5 = .ok (.aload_n 0, 1) := by decide +kernel
theorem q6b : decode jdk_53_method_4_code 6 = .ok (.getfield 7, 3) := by decide +kernel
theorem q6c : decode jdk_53_method_4_code 9 = .ok (.iload_n 1, 1) := by decide +kernel
theorem q6d : decode jdk_53_method_4_code 10 = .ok (.invokeinterface 24 2, 5) := by decide +kernel
theorem own_pd15 : parseMethodDescriptor "(I)Ljava/lang/Object;" = some ⟨[.int], some (.object "java/lang/Object")⟩ := by decide +kernel
theorem q6e : decode jdk_53_method_4_code 15 = .ok (.astore_n 2, 1) := by decide +kernel
theorem q6f : decode jdk_53_method_4_code 16 = .ok (.aload_n 0, 1) := by decide +kernel
theorem q6g : decode jdk_53_method_4_code 17 = .ok (.iload_n 1, 1) := by decide +kernel
theorem q6h : decode jdk_53_method_4_code 18 = .ok (.iconst 1, 1) := by decide +kernel
theorem q6i : decode jdk_53_method_4_code 19 = .ok (.iadd, 1) := by decide +kernel
theorem q6j : decode jdk_53_method_4_code 20 = .ok (.putfield 17, 3) := by decide +kernel
theorem q6k : decode jdk_53_method_4_code 23 = .ok (.aload_n 2, 1) := by decide +kernel
theorem q6l : decode jdk_53_method_4_code 24 = .ok (.areturn, 1) := by decide +kernel
theorem own_nx1_0 (l : Launch) (Z : State) (a0 : Array Value) (hw : ∀ d ∈ tables_1, d.before a0 Z = true) (ws : List Jvm.Cond) (it : Addr) (a1 : Addr) (x1 : Addr) (em : Addr) (h0 : Heap) (n0 : Nat) (Z0 : n0 ≤ h0.size) (f0 : Exa Z h0 it "java/util/ImmutableCollections$ListItr") (f1 : Fld Z h0 it "java/util/ImmutableCollections$ListItr" "list" "Ljava/util/List;" (.ref a1)) (f2 : Fld Z h0 it "java/util/ImmutableCollections$ListItr" "size" "I" (.int (1 : Int32))) (f3 : Fld Z h0 it "java/util/ImmutableCollections$ListItr" "cursor" "I" (.int (0 : Int32))) (f4 : n0 ≤ it) (f5 : Exa Z h0 a1 "java/util/ImmutableCollections$List12") (f6 : Fld Z h0 a1 "java/util/ImmutableCollections$List12" "e0" "Ljava/lang/Object;" (.ref x1)) (f7 : Fld Z h0 a1 "java/util/ImmutableCollections$List12" "e1" "Ljava/lang/Object;" (.ref em)) (f8 : Sta Z h0 "java/util/ImmutableCollections" "EMPTY" "Ljava/lang/Object;" (.ref em)) (f9 : a1 ≠ it)  :
    ConH [((0 : Nat), (24 : Nat), (25 : Nat), (30 : Nat))] l Z (⟨"java/util/ImmutableCollections$ListItr", "next", "()Ljava/lang/Object;"⟩ : MethodName) jdk_53_method_4_code 3 (some (.object "java/lang/Object")) ({ frames := 1, cells := 0, slots := 0, locals := 13 } : Room) ws #[(.ref it)] h0 (fun v h L => (v = some (.ref x1)) ∧ (Fr n0 L) ∧ (Keep h0 h [it]) ∧ (Exa Z h it "java/util/ImmutableCollections$ListItr") ∧ (Fld Z h it "java/util/ImmutableCollections$ListItr" "list" "Ljava/util/List;" (.ref a1)) ∧ (Fld Z h it "java/util/ImmutableCollections$ListItr" "size" "I" (.int (1 : Int32))) ∧ (Fld Z h it "java/util/ImmutableCollections$ListItr" "cursor" "I" (.int (1 : Int32)))) 0 0 := by
  refine ConH.of (plainFor_of_name own_pn_ImmutableCollections_ListItr) ?_
  intro pgm e s m below meth c s₁ X0 hx hZ hby hml hown hnm hret hlk e0 hs0
  have N0 := Fr.nil n0
  have hown : s.vm.findClass "java/util/ImmutableCollections$ListItr" = some m.cls := hown
  have hnm : meth.name = "next" := hnm
  refine Go.cast (own_ef_jdk_53_method_4_code_R m it) ?_
  have K0 := Keep.refl h0 [it]
  refine gs m s₁ 1 #[vR (it), sU, sU] [(.ref it)] (fun _ k => XS.aloadN X0.here hx rfl (hb hby q67) rfl rfl k) ?_
  obtain ⟨T101, X101, e101, st101⟩ := getF X0 hx hZ hown (host := "") (Or.inl (hwi hw 107 rfl)) Via.refl e0 f3 (g := (mkF m 1 #[vR (it), sU, sU] [(.ref it)])) rfl rfl (hb hby q68)
  refine gs m T101 4 #[vR (it), sU, sU] [(.int (0 : Int32))] st101 ?_
  refine gs m T101 5 #[vR (it), vI ((0 : Int32)), sU] [] (fun _ k => XS.istoreN X101.here hx rfl (hb hby q69) rfl (l' := #[vR (it), vI ((0 : Int32)), sU]) rfl k) ?_
  refine gs m T101 6 #[vR (it), vI ((0 : Int32)), sU] [(.ref it)] (fun _ k => XS.aloadN X101.here hx rfl (hb hby q6a) rfl rfl k) ?_
  obtain ⟨T102, X102, e102, st102⟩ := getF X101 hx hZ hown (host := "") (Or.inl (hwi hw 103 rfl)) Via.refl e101 f1 (g := (mkF m 6 #[vR (it), vI ((0 : Int32)), sU] [(.ref it)])) rfl rfl (hb hby q6b)
  refine gs m T102 9 #[vR (it), vI ((0 : Int32)), sU] [(.ref a1)] st102 ?_
  refine gs m T102 10 #[vR (it), vI ((0 : Int32)), sU] [(.int (0 : Int32)), (.ref a1)] (fun _ k => XS.iloadN X102.here hx rfl (hb hby q6c) rfl  k) ?_
  obtain ⟨cq103, kq103, q103a, q103b, q103c⟩ := isOf hZ e102 f5
  obtain ⟨_, _, ⟨T103, L103, k103, n103⟩, -, X103, ⟨Lc103, hQ103, l103, y103, z103⟩, st103⟩ := X102.interfaceBack hx (xi := (⟨"java/util/List", "get", "(I)Ljava/lang/Object;"⟩ : MethodName)) (y := (⟨"java/util/ImmutableCollections$List12", "get", "(I)Ljava/lang/Object;"⟩ : MethodName)) hown (mvT hZ (hwi hw 244 rfl)) (mvT hZ (hwi hw 126 rfl)) (mvT hZ (hwi hw 127 rfl)) (mvT hZ (hwi hw 277 rfl)) (mvT hZ (hwi hw 278 rfl)) (mvT hZ (hwi hw 279 rfl)) (mvT hZ (hwi hw 280 rfl)) (mvT hZ (hwi hw 272 rfl)) (by decide) (backOf (W := 0) (Q := Qret (some (.ref x1)) h0 n0) (own_get1_0 l Z a0 hw [] a1 x1 em h0 n0 Z0 f5 f6 f7 f8) hZ (hwi hw 281 rfl) (hwi hw 256 rfl) (by decide) (by decide)) q103a q103b q103c (g := (mkF m 10 #[vR (it), vI ((0 : Int32)), sU] [(.int (0 : Int32)), (.ref a1)])) rfl (by rw [hml]; rfl) (Steps.refl _) (argsL := [(.int (0 : Int32))]) (rest := []) (lenOf own_pd15 rfl) rfl (by show 2 * 0 + _ ≤ _; exact Nat.le_of_eq rfl) (hb hby q6d) (fun _ _ => ⟨rfl, e102, (by decide : 0 + 0 ≤ _), (by decide : 0 + 0 ≤ _)⟩)
  dsimp only [Pt.U, Pt.locs, Pt.cells, Pt.slots] at X103 l103 y103 z103 st103 hQ103
  subst l103 y103 z103
  obtain ⟨rfl, N103q, eh103⟩ := hQ103
  have N103 := Fr.app N0 N103q
  refine gs m T103 15 #[vR (it), vI ((0 : Int32)), sU] [(.ref x1)] (fun _ k => st103.trans k) ?_
  refine gs m T103 16 #[vR (it), vI ((0 : Int32)), vR (x1)] [] (fun _ k => XS.astoreN X103.here hx rfl (hb hby q6e) rfl rfl (l' := #[vR (it), vI ((0 : Int32)), vR (x1)]) rfl k) ?_
  refine gs m T103 17 #[vR (it), vI ((0 : Int32)), vR (x1)] [(.ref it)] (fun _ k => XS.aloadN X103.here hx rfl (hb hby q6f) rfl rfl k) ?_
  refine gs m T103 18 #[vR (it), vI ((0 : Int32)), vR (x1)] [(.int (0 : Int32)), (.ref it)] (fun _ k => XS.iloadN X103.here hx rfl (hb hby q6g) rfl  k) ?_
  refine gs m T103 19 #[vR (it), vI ((0 : Int32)), vR (x1)] [(.int (1 : Int32)), (.int (0 : Int32)), (.ref it)] (fun _ k => XS.iconst X103.here hx rfl (hb hby q6h) k) ?_
  refine gs m T103 20 #[vR (it), vI ((0 : Int32)), vR (x1)] [(.int (1 : Int32)), (.ref it)] (fun _ k => XS.iadd X103.here hx rfl (hb hby q6i) rfl k) ?_
  obtain ⟨T104, h104, X104, e104, W104, st104⟩ := putF X103 hx hZ hown (host := "") (Or.inl (hwi hw 107 rfl)) Via.refl eh103 f3 f0 (Or.inl (hwi hw 108 rfl)) (hwi hw 87 rfl) (ty := .int) (by decide) rfl rfl (g := (mkF m 20 #[vR (it), vI ((0 : Int32)), vR (x1)] [(.int (1 : Int32)), (.ref it)])) rfl rfl (hb hby q6j)
  have N104 := Fr.snoc X104 N103 f4
  have Z104 : n0 ≤ h104.size := Nat.le_trans Z0 (Keep.of_wr W104).1
  have K104 := K0.wr W104 (Or.inl (List.mem_of_getElem? (i := 0) rfl))
  have F105 := f0.wr W104
  have F106 := f1.other W104 (Or.inr (slot_ne (Or.inr (hwi hw 104 rfl)) (Or.inl (hwi hw 108 rfl)) (by decide) (t := (.object "java/util/List")) (t' := .int) (by decide) (by decide)))
  have F107 := f2.other W104 (Or.inr (slot_ne (Or.inr (hwi hw 106 rfl)) (Or.inl (hwi hw 108 rfl)) (by decide) (t := .int) (t' := .int) (by decide) (by decide)))
  have F108 := f5.wr W104
  have F109 := f6.other W104 (Or.inl f9)
  have F110 := f7.other W104 (Or.inl f9)
  have F111 := f8.wr W104
  have F112 := f3.same W104
  refine gs m T104 23 #[vR (it), vI ((0 : Int32)), vR (x1)] [] st104 ?_
  refine gs m T104 24 #[vR (it), vI ((0 : Int32)), vR (x1)] [(.ref x1)] (fun _ k => XS.aloadN X104.here hx rfl (hb hby q6k) rfl rfl k) ?_
  exact Go.retA X104 hx (t := (.object "java/lang/Object")) hret rfl hlk rfl (hb hby q6l) (by rw [e104]; exact ⟨rfl, N104, K104, F105, F106, F107, F112⟩) (by decide) (by decide)
theorem own_hn1_1 (l : Launch) (Z : State) (a0 : Array Value) (hw : ∀ d ∈ tables_1, d.before a0 Z = true) (ws : List Jvm.Cond) (it : Addr) (a1 : Addr) (h0 : Heap) (n0 : Nat) (Z0 : n0 ≤ h0.size) (f0 : Exa Z h0 it "java/util/ImmutableCollections$ListItr") (f1 : Fld Z h0 it "java/util/ImmutableCollections$ListItr" "list" "Ljava/util/List;" (.ref a1)) (f2 : Fld Z h0 it "java/util/ImmutableCollections$ListItr" "size" "I" (.int (1 : Int32))) (f3 : Fld Z h0 it "java/util/ImmutableCollections$ListItr" "cursor" "I" (.int (1 : Int32)))  :
    Con l Z (⟨"java/util/ImmutableCollections$ListItr", "hasNext", "()Z"⟩ : MethodName) jdk_53_method_3_code 1 (some .boolean) ({ frames := 0, cells := 0, slots := 0, locals := 0 } : Room) ws #[(.ref it)] h0 (Qret (some (.int (0 : Int32))) h0 n0) 0 0 := by
  refine Con.of (plainFor_of_name own_pn_ImmutableCollections_ListItr) ?_
  intro pgm e s m below meth c s₁ X0 hx hZ hby hml hown hnm hret hlk e0 hs0
  have N0 := Fr.nil n0
  have hown : s.vm.findClass "java/util/ImmutableCollections$ListItr" = some m.cls := hown
  have hnm : meth.name = "hasNext" := hnm
  refine Go.cast (own_ef_jdk_53_method_3_code_R m it) ?_
  refine gs m s₁ 1 #[vR (it)] [(.ref it)] (fun _ k => XS.aloadN X0.here hx rfl (hb hby q5y) rfl rfl k) ?_
  obtain ⟨T101, X101, e101, st101⟩ := getF X0 hx hZ hown (host := "") (Or.inl (hwi hw 107 rfl)) Via.refl e0 f3 (g := (mkF m 1 #[vR (it)] [(.ref it)])) rfl rfl (hb hby q5z)
  refine gs m T101 4 #[vR (it)] [(.int (1 : Int32))] st101 ?_
  refine gs m T101 5 #[vR (it)] [(.ref it), (.int (1 : Int32))] (fun _ k => XS.aloadN X101.here hx rfl (hb hby q60) rfl rfl k) ?_
  obtain ⟨T102, X102, e102, st102⟩ := getF X101 hx hZ hown (host := "") (Or.inl (hwi hw 105 rfl)) Via.refl e101 f2 (g := (mkF m 5 #[vR (it)] [(.ref it), (.int (1 : Int32))])) rfl rfl (hb hby q61)
  refine gs m T102 8 #[vR (it)] [(.int (1 : Int32)), (.int (1 : Int32))] st102 ?_
  refine gs m T102 15 #[vR (it)] [] (fun _ k => XS.icmpYes X102.here hx rfl (pc0 := 8) (pc' := 15) rfl (hb hby q62) rfl (teq (by decide : (1 : Int32) = (1 : Int32))).1 (by decide) (by decide) k) ?_
  refine gs m T102 16 #[vR (it)] [(.int (0 : Int32))] (fun _ k => XS.iconst X102.here hx rfl (hb hby q63) k) ?_
  exact Go.retN X102 hx (t := .boolean) hret hlk (by simp) (hb hby q64) (⟨rfl, N0, e102⟩) (by decide) (by decide)
theorem own_itr2 (l : Launch) (Z : State) (a0 : Array Value) (hw : ∀ d ∈ tables_1, d.before a0 Z = true) (ws : List Jvm.Cond) (a1 : Addr) (x1 : Addr) (x2 : Addr) (em : Addr) (h0 : Heap) (n0 : Nat) (Z0 : n0 ≤ h0.size) (f0 : Exa Z h0 a1 "java/util/ImmutableCollections$List12") (f1 : Fld Z h0 a1 "java/util/ImmutableCollections$List12" "e0" "Ljava/lang/Object;" (.ref x1)) (f2 : Fld Z h0 a1 "java/util/ImmutableCollections$List12" "e1" "Ljava/lang/Object;" (.ref x2)) (f3 : Sta Z h0 "java/util/ImmutableCollections" "EMPTY" "Ljava/lang/Object;" (.ref em)) (f4 : x2 ≠ em)  :
    Con l Z (⟨"java/util/ImmutableCollections$AbstractImmutableList", "iterator", "()Ljava/util/Iterator;"⟩ : MethodName) jdk_46_method_10_code 1 (some (.object "java/util/Iterator")) ({ frames := 2, cells := 1, slots := 4, locals := 27 } : Room) ws #[(.ref a1)] h0 (fun v h L => ∃ it : Addr, (v = some (.ref it)) ∧ (Fr n0 L) ∧ (Keep h0 h []) ∧ (h0.size ≤ it) ∧ (Exa Z h it "java/util/ImmutableCollections$ListItr") ∧ (Fld Z h it "java/util/ImmutableCollections$ListItr" "list" "Ljava/util/List;" (.ref a1)) ∧ (Fld Z h it "java/util/ImmutableCollections$ListItr" "size" "I" (.int (2 : Int32))) ∧ (Fld Z h it "java/util/ImmutableCollections$ListItr" "cursor" "I" (.int (0 : Int32)))) 1 4 := by
  refine Con.of (plainFor_of_name own_pn_ImmutableCollections_AbstractImmutableList) ?_
  intro pgm e s m below meth c s₁ X0 hx hZ hby hml hown hnm hret hlk e0 hs0
  have N0 := Fr.nil n0
  have hown : s.vm.findClass "java/util/ImmutableCollections$AbstractImmutableList" = some m.cls := hown
  have hnm : meth.name = "iterator" := hnm
  refine Go.cast (own_ef_jdk_46_method_10_code_R m a1) ?_
  have K0 := Keep.refl h0 []
  obtain ⟨T101, h101, X101, e101, E101, A101, D101, -, st101⟩ := newO X0 hx hZ hown (hwi hw 86 rfl) (hwi hw 87 rfl) (hwi hw 88 rfl) e0 (g := (mkF m 0 #[vR (a1)] [])) rfl (hb hby q5r) (by decide) (by decide)
  obtain ⟨b101, g101⟩ : ∃ z, z = h0.size := ⟨_, rfl⟩
  rw [← g101] at A101 D101 st101
  have ne102 : a1 ≠ b101 := by have q := f0.lt; intro r; rw [r, g101] at q; exact Nat.lt_irrefl _ q
  have ge101 : n0 ≤ b101 := Nat.le_trans Z0 (Nat.le_of_eq g101.symm)
  have Z101 : n0 ≤ h101.size := Nat.le_trans Z0 E101.1
  have sz101 : h0.size ≤ b101 := Nat.le_trans K0.1 (Nat.le_of_eq g101.symm)
  have K101 := K0.ext E101
  have F103 := f0.ext E101
  have F104 := f1.ext E101
  have F105 := f2.ext E101
  have F106 := f3.ext E101
  have F107 : Fld Z h101 b101 "java/util/ImmutableCollections$ListItr" "list" "Ljava/util/List;" .null := D101 (Or.inr (hwi hw 104 rfl)) (ty := (.object "java/util/List")) (by decide)
  have F108 : Fld Z h101 b101 "java/util/ImmutableCollections$ListItr" "size" "I" (.int (0 : Int32)) := D101 (Or.inr (hwi hw 106 rfl)) (ty := .int) (by decide)
  have F109 : Fld Z h101 b101 "java/util/ImmutableCollections$ListItr" "cursor" "I" (.int (0 : Int32)) := D101 (Or.inl (hwi hw 108 rfl)) (ty := .int) (by decide)
  have F110 : Fld Z h101 b101 "java/util/ImmutableCollections$ListItr" "isListIterator" "Z" (.int (0 : Int32)) := D101 (Or.inr (hwi hw 110 rfl)) (ty := .boolean) (by decide)
  refine gs m T101 3 #[vR (a1)] [(.ref b101)] st101 ?_
  refine gs m T101 4 #[vR (a1)] [(.ref b101), (.ref b101)] (fun _ k => XS.dup X101.here hx rfl (hb hby q5s) rfl rfl k) ?_
  refine gs m T101 5 #[vR (a1)] [(.ref a1), (.ref b101), (.ref b101)] (fun _ k => XS.aloadN X101.here hx rfl (hb hby q5t) rfl rfl k) ?_
  refine gs m T101 6 #[vR (a1)] [(.ref a1), (.ref a1), (.ref b101), (.ref b101)] (fun _ k => XS.aloadN X101.here hx rfl (hb hby q5u) rfl rfl k) ?_
  obtain ⟨cq111, kq111, q111a, q111b, q111c⟩ := isOf hZ e101 F103
  obtain ⟨_, _, ⟨T111, L111, k111, n111⟩, -, X111, ⟨Lc111, hQ111, l111, y111, z111⟩, st111⟩ := X101.virtualBackUp hx (owner := "java/util/AbstractCollection") (x := (⟨"java/util/ImmutableCollections$AbstractImmutableList", "size", "()I"⟩ : MethodName)) (y := (⟨"java/util/ImmutableCollections$List12", "size", "()I"⟩ : MethodName)) hown (mvT hZ (hwi hw 89 rfl)) (mvT hZ (hwi hw 90 rfl)) (mvT hZ (hwi hw 91 rfl)) (by decide) (mvT hZ (hwi hw 273 rfl)) (mvT hZ (hwi hw 274 rfl)) (backOf (W := 3) (Q := Qret (some (.int (2 : Int32))) h101 n0) (own_siz2 l Z a0 hw [] a1 x1 x2 em h101 n0 Z101 F103 F104 F105 F106 f4) hZ (hwi hw 275 rfl) (hwi hw 256 rfl) (by decide) (by decide)) q111a q111c (g := (mkF m 6 #[vR (a1)] [(.ref a1), (.ref a1), (.ref b101), (.ref b101)])) rfl (by rw [hml]; rfl) (Steps.refl _) (argsL := []) (rest := [(.ref a1), (.ref b101), (.ref b101)]) (lenOf own_pd13 rfl) rfl (by show 2 * 0 + _ ≤ _; exact Nat.le_of_eq rfl) (hb hby q5v) (fun _ _ => ⟨rfl, e101, (by decide : 1 + 0 ≤ _), (by decide : 4 + 0 ≤ _)⟩)
  dsimp only [Pt.U, Pt.locs, Pt.cells, Pt.slots] at X111 l111 y111 z111 st111 hQ111
  subst l111 y111 z111
  obtain ⟨rfl, N111q, eh111⟩ := hQ111
  have N111 := Fr.app N0 N111q
  refine gs m T111 9 #[vR (a1)] [(.int (2 : Int32)), (.ref a1), (.ref b101), (.ref b101)] (fun _ k => st111.trans k) ?_
  obtain ⟨_, _, ⟨T112, L112, k112, n112⟩, -, X112, ⟨Lc112, hQ112, l112, y112, z112⟩, st112⟩ := X111.specialBack hx (y := (⟨"java/util/ImmutableCollections$ListItr", "<init>", "(Ljava/util/List;I)V"⟩ : MethodName)) rfl hown (mvT hZ (hwi hw 98 rfl)) (mvT hZ (hwi hw 99 rfl)) (mvT hZ (hwi hw 101 rfl)) (by decide) (backOf (W := 1) (Q := fun v h L => (v = none) ∧ (Fr n0 L) ∧ (Keep h101 h [b101]) ∧ (Exa Z h b101 "java/util/ImmutableCollections$ListItr") ∧ (Fld Z h b101 "java/util/ImmutableCollections$ListItr" "list" "Ljava/util/List;" (.ref a1)) ∧ (Fld Z h b101 "java/util/ImmutableCollections$ListItr" "size" "I" (.int (2 : Int32))) ∧ (Fld Z h b101 "java/util/ImmutableCollections$ListItr" "cursor" "I" (.int (0 : Int32)))) (own_lii l Z a0 hw [] b101 a1 (2 : Int32) .null (.int (0 : Int32)) (.int (0 : Int32)) (.int (0 : Int32)) h101 n0 Z101 A101 ge101 F107 F108 F109 F110) hZ (hwi hw 101 rfl) (hwi hw 88 rfl) (by decide) (by decide)) (g := (mkF m 9 #[vR (a1)] [(.int (2 : Int32)), (.ref a1), (.ref b101), (.ref b101)])) rfl (by rw [hml]; rfl) (Steps.refl _) (a := b101) (argsL := [(.ref a1), (.int (2 : Int32))]) (rest := [(.ref b101)]) (lenOf own_pd14 rfl) rfl (by show 2 * 0 + _ ≤ _; exact Nat.le_of_eq rfl) (hb hby q5w) (fun _ _ => ⟨rfl, eh111, (by decide : 1 + 0 ≤ _), (by decide : 4 + 0 ≤ _)⟩)
  dsimp only [Pt.U, Pt.locs, Pt.cells, Pt.slots] at X112 l112 y112 z112 st112 hQ112
  subst l112 y112 z112
  obtain ⟨rfl, N112q, K112, P112_0, P112_1, P112_2, P112_3⟩ := hQ112
  have N112 := Fr.app N111 N112q
  have KK112 := K101.trans K112 (allS (Or.inr sz101) all0)
  have Z112 : n0 ≤ T112.heap.size := Nat.le_trans Z101 K112.1
  have F113 := F103.keep K112
  have F114 := F104.keep K112 (ninS ne102 nin0)
  have F115 := F105.keep K112 (ninS ne102 nin0)
  have F116 := own_sta_keep F106 K112 (allS (own_plain A101) all0)
  have F117 := A101.keep K112
  refine gs m T112 12 #[vR (a1)] [(.ref b101)] (fun _ k => st112.trans k) ?_
  exact Go.retA X112 hx (t := (.object "java/util/Iterator")) hret rfl hlk rfl (hb hby q5x) (⟨b101, rfl, N112, KK112, sz101, P112_0, P112_1, P112_2, P112_3⟩) (by decide) (by decide)
theorem own_hn2_0 (l : Launch) (Z : State) (a0 : Array Value) (hw : ∀ d ∈ tables_1, d.before a0 Z = true) (ws : List Jvm.Cond) (it : Addr) (a1 : Addr) (h0 : Heap) (n0 : Nat) (Z0 : n0 ≤ h0.size) (f0 : Exa Z h0 it "java/util/ImmutableCollections$ListItr") (f1 : Fld Z h0 it "java/util/ImmutableCollections$ListItr" "list" "Ljava/util/List;" (.ref a1)) (f2 : Fld Z h0 it "java/util/ImmutableCollections$ListItr" "size" "I" (.int (2 : Int32))) (f3 : Fld Z h0 it "java/util/ImmutableCollections$ListItr" "cursor" "I" (.int (0 : Int32)))  :
    Con l Z (⟨"java/util/ImmutableCollections$ListItr", "hasNext", "()Z"⟩ : MethodName) jdk_53_method_3_code 1 (some .boolean) ({ frames := 0, cells := 0, slots := 0, locals := 0 } : Room) ws #[(.ref it)] h0 (Qret (some (.int (1 : Int32))) h0 n0) 0 0 := by
  refine Con.of (plainFor_of_name own_pn_ImmutableCollections_ListItr) ?_
  intro pgm e s m below meth c s₁ X0 hx hZ hby hml hown hnm hret hlk e0 hs0
  have N0 := Fr.nil n0
  have hown : s.vm.findClass "java/util/ImmutableCollections$ListItr" = some m.cls := hown
  have hnm : meth.name = "hasNext" := hnm
  refine Go.cast (own_ef_jdk_53_method_3_code_R m it) ?_
  refine gs m s₁ 1 #[vR (it)] [(.ref it)] (fun _ k => XS.aloadN X0.here hx rfl (hb hby q5y) rfl rfl k) ?_
  obtain ⟨T101, X101, e101, st101⟩ := getF X0 hx hZ hown (host := "") (Or.inl (hwi hw 107 rfl)) Via.refl e0 f3 (g := (mkF m 1 #[vR (it)] [(.ref it)])) rfl rfl (hb hby q5z)
  refine gs m T101 4 #[vR (it)] [(.int (0 : Int32))] st101 ?_
  refine gs m T101 5 #[vR (it)] [(.ref it), (.int (0 : Int32))] (fun _ k => XS.aloadN X101.here hx rfl (hb hby q60) rfl rfl k) ?_
  obtain ⟨T102, X102, e102, st102⟩ := getF X101 hx hZ hown (host := "") (Or.inl (hwi hw 105 rfl)) Via.refl e101 f2 (g := (mkF m 5 #[vR (it)] [(.ref it), (.int (0 : Int32))])) rfl rfl (hb hby q61)
  refine gs m T102 8 #[vR (it)] [(.int (2 : Int32)), (.int (0 : Int32))] st102 ?_
  refine gs m T102 11 #[vR (it)] [] (fun _ k => XS.icmpNo X102.here hx rfl (hb hby q62) rfl (feq (by decide : ¬ ((0 : Int32) = (2 : Int32)))).1 k) ?_
  refine gs m T102 12 #[vR (it)] [(.int (1 : Int32))] (fun _ k => XS.iconst X102.here hx rfl (hb hby q65) k) ?_
  refine gs m T102 16 #[vR (it)] [(.int (1 : Int32))] (fun _ k => XS.goto X102.here hx rfl (pc0 := 12) (pc' := 16) rfl (hb hby q66) (by decide) (by decide) k) ?_
  exact Go.retN X102 hx (t := .boolean) hret hlk (by simp) (hb hby q64) (⟨rfl, N0, e102⟩) (by decide) (by decide)
theorem own_nx2_0 (l : Launch) (Z : State) (a0 : Array Value) (hw : ∀ d ∈ tables_1, d.before a0 Z = true) (ws : List Jvm.Cond) (it : Addr) (a1 : Addr) (x1 : Addr) (x2 : Addr) (em : Addr) (h0 : Heap) (n0 : Nat) (Z0 : n0 ≤ h0.size) (f0 : Exa Z h0 it "java/util/ImmutableCollections$ListItr") (f1 : Fld Z h0 it "java/util/ImmutableCollections$ListItr" "list" "Ljava/util/List;" (.ref a1)) (f2 : Fld Z h0 it "java/util/ImmutableCollections$ListItr" "size" "I" (.int (2 : Int32))) (f3 : Fld Z h0 it "java/util/ImmutableCollections$ListItr" "cursor" "I" (.int (0 : Int32))) (f4 : n0 ≤ it) (f5 : Exa Z h0 a1 "java/util/ImmutableCollections$List12") (f6 : Fld Z h0 a1 "java/util/ImmutableCollections$List12" "e0" "Ljava/lang/Object;" (.ref x1)) (f7 : Fld Z h0 a1 "java/util/ImmutableCollections$List12" "e1" "Ljava/lang/Object;" (.ref x2)) (f8 : Sta Z h0 "java/util/ImmutableCollections" "EMPTY" "Ljava/lang/Object;" (.ref em)) (f9 : x2 ≠ em) (f10 : a1 ≠ it)  :
    ConH [((0 : Nat), (24 : Nat), (25 : Nat), (30 : Nat))] l Z (⟨"java/util/ImmutableCollections$ListItr", "next", "()Ljava/lang/Object;"⟩ : MethodName) jdk_53_method_4_code 3 (some (.object "java/lang/Object")) ({ frames := 1, cells := 0, slots := 0, locals := 13 } : Room) ws #[(.ref it)] h0 (fun v h L => (v = some (.ref x1)) ∧ (Fr n0 L) ∧ (Keep h0 h [it]) ∧ (Exa Z h it "java/util/ImmutableCollections$ListItr") ∧ (Fld Z h it "java/util/ImmutableCollections$ListItr" "list" "Ljava/util/List;" (.ref a1)) ∧ (Fld Z h it "java/util/ImmutableCollections$ListItr" "size" "I" (.int (2 : Int32))) ∧ (Fld Z h it "java/util/ImmutableCollections$ListItr" "cursor" "I" (.int (1 : Int32)))) 0 0 := by
  refine ConH.of (plainFor_of_name own_pn_ImmutableCollections_ListItr) ?_
  intro pgm e s m below meth c s₁ X0 hx hZ hby hml hown hnm hret hlk e0 hs0
  have N0 := Fr.nil n0
  have hown : s.vm.findClass "java/util/ImmutableCollections$ListItr" = some m.cls := hown
  have hnm : meth.name = "next" := hnm
  refine Go.cast (own_ef_jdk_53_method_4_code_R m it) ?_
  have K0 := Keep.refl h0 [it]
  refine gs m s₁ 1 #[vR (it), sU, sU] [(.ref it)] (fun _ k => XS.aloadN X0.here hx rfl (hb hby q67) rfl rfl k) ?_
  obtain ⟨T101, X101, e101, st101⟩ := getF X0 hx hZ hown (host := "") (Or.inl (hwi hw 107 rfl)) Via.refl e0 f3 (g := (mkF m 1 #[vR (it), sU, sU] [(.ref it)])) rfl rfl (hb hby q68)
  refine gs m T101 4 #[vR (it), sU, sU] [(.int (0 : Int32))] st101 ?_
  refine gs m T101 5 #[vR (it), vI ((0 : Int32)), sU] [] (fun _ k => XS.istoreN X101.here hx rfl (hb hby q69) rfl (l' := #[vR (it), vI ((0 : Int32)), sU]) rfl k) ?_
  refine gs m T101 6 #[vR (it), vI ((0 : Int32)), sU] [(.ref it)] (fun _ k => XS.aloadN X101.here hx rfl (hb hby q6a) rfl rfl k) ?_
  obtain ⟨T102, X102, e102, st102⟩ := getF X101 hx hZ hown (host := "") (Or.inl (hwi hw 103 rfl)) Via.refl e101 f1 (g := (mkF m 6 #[vR (it), vI ((0 : Int32)), sU] [(.ref it)])) rfl rfl (hb hby q6b)
  refine gs m T102 9 #[vR (it), vI ((0 : Int32)), sU] [(.ref a1)] st102 ?_
  refine gs m T102 10 #[vR (it), vI ((0 : Int32)), sU] [(.int (0 : Int32)), (.ref a1)] (fun _ k => XS.iloadN X102.here hx rfl (hb hby q6c) rfl  k) ?_
  obtain ⟨cq103, kq103, q103a, q103b, q103c⟩ := isOf hZ e102 f5
  obtain ⟨_, _, ⟨T103, L103, k103, n103⟩, -, X103, ⟨Lc103, hQ103, l103, y103, z103⟩, st103⟩ := X102.interfaceBack hx (xi := (⟨"java/util/List", "get", "(I)Ljava/lang/Object;"⟩ : MethodName)) (y := (⟨"java/util/ImmutableCollections$List12", "get", "(I)Ljava/lang/Object;"⟩ : MethodName)) hown (mvT hZ (hwi hw 244 rfl)) (mvT hZ (hwi hw 126 rfl)) (mvT hZ (hwi hw 127 rfl)) (mvT hZ (hwi hw 277 rfl)) (mvT hZ (hwi hw 278 rfl)) (mvT hZ (hwi hw 279 rfl)) (mvT hZ (hwi hw 280 rfl)) (mvT hZ (hwi hw 272 rfl)) (by decide) (backOf (W := 0) (Q := Qret (some (.ref x1)) h0 n0) (own_get2_0 l Z a0 hw [] a1 x1 x2 em h0 n0 Z0 f5 f6 f7 f8 f9) hZ (hwi hw 281 rfl) (hwi hw 256 rfl) (by decide) (by decide)) q103a q103b q103c (g := (mkF m 10 #[vR (it), vI ((0 : Int32)), sU] [(.int (0 : Int32)), (.ref a1)])) rfl (by rw [hml]; rfl) (Steps.refl _) (argsL := [(.int (0 : Int32))]) (rest := []) (lenOf own_pd15 rfl) rfl (by show 2 * 0 + _ ≤ _; exact Nat.le_of_eq rfl) (hb hby q6d) (fun _ _ => ⟨rfl, e102, (by decide : 0 + 0 ≤ _), (by decide : 0 + 0 ≤ _)⟩)
  dsimp only [Pt.U, Pt.locs, Pt.cells, Pt.slots] at X103 l103 y103 z103 st103 hQ103
  subst l103 y103 z103
  obtain ⟨rfl, N103q, eh103⟩ := hQ103
  have N103 := Fr.app N0 N103q
  refine gs m T103 15 #[vR (it), vI ((0 : Int32)), sU] [(.ref x1)] (fun _ k => st103.trans k) ?_
  refine gs m T103 16 #[vR (it), vI ((0 : Int32)), vR (x1)] [] (fun _ k => XS.astoreN X103.here hx rfl (hb hby q6e) rfl rfl (l' := #[vR (it), vI ((0 : Int32)), vR (x1)]) rfl k) ?_
  refine gs m T103 17 #[vR (it), vI ((0 : Int32)), vR (x1)] [(.ref it)] (fun _ k => XS.aloadN X103.here hx rfl (hb hby q6f) rfl rfl k) ?_
  refine gs m T103 18 #[vR (it), vI ((0 : Int32)), vR (x1)] [(.int (0 : Int32)), (.ref it)] (fun _ k => XS.iloadN X103.here hx rfl (hb hby q6g) rfl  k) ?_
  refine gs m T103 19 #[vR (it), vI ((0 : Int32)), vR (x1)] [(.int (1 : Int32)), (.int (0 : Int32)), (.ref it)] (fun _ k => XS.iconst X103.here hx rfl (hb hby q6h) k) ?_
  refine gs m T103 20 #[vR (it), vI ((0 : Int32)), vR (x1)] [(.int (1 : Int32)), (.ref it)] (fun _ k => XS.iadd X103.here hx rfl (hb hby q6i) rfl k) ?_
  obtain ⟨T104, h104, X104, e104, W104, st104⟩ := putF X103 hx hZ hown (host := "") (Or.inl (hwi hw 107 rfl)) Via.refl eh103 f3 f0 (Or.inl (hwi hw 108 rfl)) (hwi hw 87 rfl) (ty := .int) (by decide) rfl rfl (g := (mkF m 20 #[vR (it), vI ((0 : Int32)), vR (x1)] [(.int (1 : Int32)), (.ref it)])) rfl rfl (hb hby q6j)
  have N104 := Fr.snoc X104 N103 f4
  have Z104 : n0 ≤ h104.size := Nat.le_trans Z0 (Keep.of_wr W104).1
  have K104 := K0.wr W104 (Or.inl (List.mem_of_getElem? (i := 0) rfl))
  have F105 := f0.wr W104
  have F106 := f1.other W104 (Or.inr (slot_ne (Or.inr (hwi hw 104 rfl)) (Or.inl (hwi hw 108 rfl)) (by decide) (t := (.object "java/util/List")) (t' := .int) (by decide) (by decide)))
  have F107 := f2.other W104 (Or.inr (slot_ne (Or.inr (hwi hw 106 rfl)) (Or.inl (hwi hw 108 rfl)) (by decide) (t := .int) (t' := .int) (by decide) (by decide)))
  have F108 := f5.wr W104
  have F109 := f6.other W104 (Or.inl f10)
  have F110 := f7.other W104 (Or.inl f10)
  have F111 := f8.wr W104
  have F112 := f3.same W104
  refine gs m T104 23 #[vR (it), vI ((0 : Int32)), vR (x1)] [] st104 ?_
  refine gs m T104 24 #[vR (it), vI ((0 : Int32)), vR (x1)] [(.ref x1)] (fun _ k => XS.aloadN X104.here hx rfl (hb hby q6k) rfl rfl k) ?_
  exact Go.retA X104 hx (t := (.object "java/lang/Object")) hret rfl hlk rfl (hb hby q6l) (by rw [e104]; exact ⟨rfl, N104, K104, F105, F106, F107, F112⟩) (by decide) (by decide)
theorem own_hn2_1 (l : Launch) (Z : State) (a0 : Array Value) (hw : ∀ d ∈ tables_1, d.before a0 Z = true) (ws : List Jvm.Cond) (it : Addr) (a1 : Addr) (h0 : Heap) (n0 : Nat) (Z0 : n0 ≤ h0.size) (f0 : Exa Z h0 it "java/util/ImmutableCollections$ListItr") (f1 : Fld Z h0 it "java/util/ImmutableCollections$ListItr" "list" "Ljava/util/List;" (.ref a1)) (f2 : Fld Z h0 it "java/util/ImmutableCollections$ListItr" "size" "I" (.int (2 : Int32))) (f3 : Fld Z h0 it "java/util/ImmutableCollections$ListItr" "cursor" "I" (.int (1 : Int32)))  :
    Con l Z (⟨"java/util/ImmutableCollections$ListItr", "hasNext", "()Z"⟩ : MethodName) jdk_53_method_3_code 1 (some .boolean) ({ frames := 0, cells := 0, slots := 0, locals := 0 } : Room) ws #[(.ref it)] h0 (Qret (some (.int (1 : Int32))) h0 n0) 0 0 := by
  refine Con.of (plainFor_of_name own_pn_ImmutableCollections_ListItr) ?_
  intro pgm e s m below meth c s₁ X0 hx hZ hby hml hown hnm hret hlk e0 hs0
  have N0 := Fr.nil n0
  have hown : s.vm.findClass "java/util/ImmutableCollections$ListItr" = some m.cls := hown
  have hnm : meth.name = "hasNext" := hnm
  refine Go.cast (own_ef_jdk_53_method_3_code_R m it) ?_
  refine gs m s₁ 1 #[vR (it)] [(.ref it)] (fun _ k => XS.aloadN X0.here hx rfl (hb hby q5y) rfl rfl k) ?_
  obtain ⟨T101, X101, e101, st101⟩ := getF X0 hx hZ hown (host := "") (Or.inl (hwi hw 107 rfl)) Via.refl e0 f3 (g := (mkF m 1 #[vR (it)] [(.ref it)])) rfl rfl (hb hby q5z)
  refine gs m T101 4 #[vR (it)] [(.int (1 : Int32))] st101 ?_
  refine gs m T101 5 #[vR (it)] [(.ref it), (.int (1 : Int32))] (fun _ k => XS.aloadN X101.here hx rfl (hb hby q60) rfl rfl k) ?_
  obtain ⟨T102, X102, e102, st102⟩ := getF X101 hx hZ hown (host := "") (Or.inl (hwi hw 105 rfl)) Via.refl e101 f2 (g := (mkF m 5 #[vR (it)] [(.ref it), (.int (1 : Int32))])) rfl rfl (hb hby q61)
  refine gs m T102 8 #[vR (it)] [(.int (2 : Int32)), (.int (1 : Int32))] st102 ?_
  refine gs m T102 11 #[vR (it)] [] (fun _ k => XS.icmpNo X102.here hx rfl (hb hby q62) rfl (feq (by decide : ¬ ((1 : Int32) = (2 : Int32)))).1 k) ?_
  refine gs m T102 12 #[vR (it)] [(.int (1 : Int32))] (fun _ k => XS.iconst X102.here hx rfl (hb hby q65) k) ?_
  refine gs m T102 16 #[vR (it)] [(.int (1 : Int32))] (fun _ k => XS.goto X102.here hx rfl (pc0 := 12) (pc' := 16) rfl (hb hby q66) (by decide) (by decide) k) ?_
  exact Go.retN X102 hx (t := .boolean) hret hlk (by simp) (hb hby q64) (⟨rfl, N0, e102⟩) (by decide) (by decide)
theorem own_nx2_1 (l : Launch) (Z : State) (a0 : Array Value) (hw : ∀ d ∈ tables_1, d.before a0 Z = true) (ws : List Jvm.Cond) (it : Addr) (a1 : Addr) (x1 : Addr) (x2 : Addr) (em : Addr) (h0 : Heap) (n0 : Nat) (Z0 : n0 ≤ h0.size) (f0 : Exa Z h0 it "java/util/ImmutableCollections$ListItr") (f1 : Fld Z h0 it "java/util/ImmutableCollections$ListItr" "list" "Ljava/util/List;" (.ref a1)) (f2 : Fld Z h0 it "java/util/ImmutableCollections$ListItr" "size" "I" (.int (2 : Int32))) (f3 : Fld Z h0 it "java/util/ImmutableCollections$ListItr" "cursor" "I" (.int (1 : Int32))) (f4 : n0 ≤ it) (f5 : Exa Z h0 a1 "java/util/ImmutableCollections$List12") (f6 : Fld Z h0 a1 "java/util/ImmutableCollections$List12" "e0" "Ljava/lang/Object;" (.ref x1)) (f7 : Fld Z h0 a1 "java/util/ImmutableCollections$List12" "e1" "Ljava/lang/Object;" (.ref x2)) (f8 : Sta Z h0 "java/util/ImmutableCollections" "EMPTY" "Ljava/lang/Object;" (.ref em)) (f9 : x2 ≠ em) (f10 : a1 ≠ it)  :
    ConH [((0 : Nat), (24 : Nat), (25 : Nat), (30 : Nat))] l Z (⟨"java/util/ImmutableCollections$ListItr", "next", "()Ljava/lang/Object;"⟩ : MethodName) jdk_53_method_4_code 3 (some (.object "java/lang/Object")) ({ frames := 1, cells := 0, slots := 0, locals := 13 } : Room) ws #[(.ref it)] h0 (fun v h L => (v = some (.ref x2)) ∧ (Fr n0 L) ∧ (Keep h0 h [it]) ∧ (Exa Z h it "java/util/ImmutableCollections$ListItr") ∧ (Fld Z h it "java/util/ImmutableCollections$ListItr" "list" "Ljava/util/List;" (.ref a1)) ∧ (Fld Z h it "java/util/ImmutableCollections$ListItr" "size" "I" (.int (2 : Int32))) ∧ (Fld Z h it "java/util/ImmutableCollections$ListItr" "cursor" "I" (.int (2 : Int32)))) 0 0 := by
  refine ConH.of (plainFor_of_name own_pn_ImmutableCollections_ListItr) ?_
  intro pgm e s m below meth c s₁ X0 hx hZ hby hml hown hnm hret hlk e0 hs0
  have N0 := Fr.nil n0
  have hown : s.vm.findClass "java/util/ImmutableCollections$ListItr" = some m.cls := hown
  have hnm : meth.name = "next" := hnm
  refine Go.cast (own_ef_jdk_53_method_4_code_R m it) ?_
  have K0 := Keep.refl h0 [it]
  refine gs m s₁ 1 #[vR (it), sU, sU] [(.ref it)] (fun _ k => XS.aloadN X0.here hx rfl (hb hby q67) rfl rfl k) ?_
  obtain ⟨T101, X101, e101, st101⟩ := getF X0 hx hZ hown (host := "") (Or.inl (hwi hw 107 rfl)) Via.refl e0 f3 (g := (mkF m 1 #[vR (it), sU, sU] [(.ref it)])) rfl rfl (hb hby q68)
  refine gs m T101 4 #[vR (it), sU, sU] [(.int (1 : Int32))] st101 ?_
  refine gs m T101 5 #[vR (it), vI ((1 : Int32)), sU] [] (fun _ k => XS.istoreN X101.here hx rfl (hb hby q69) rfl (l' := #[vR (it), vI ((1 : Int32)), sU]) rfl k) ?_
  refine gs m T101 6 #[vR (it), vI ((1 : Int32)), sU] [(.ref it)] (fun _ k => XS.aloadN X101.here hx rfl (hb hby q6a) rfl rfl k) ?_
  obtain ⟨T102, X102, e102, st102⟩ := getF X101 hx hZ hown (host := "") (Or.inl (hwi hw 103 rfl)) Via.refl e101 f1 (g := (mkF m 6 #[vR (it), vI ((1 : Int32)), sU] [(.ref it)])) rfl rfl (hb hby q6b)
  refine gs m T102 9 #[vR (it), vI ((1 : Int32)), sU] [(.ref a1)] st102 ?_
  refine gs m T102 10 #[vR (it), vI ((1 : Int32)), sU] [(.int (1 : Int32)), (.ref a1)] (fun _ k => XS.iloadN X102.here hx rfl (hb hby q6c) rfl  k) ?_
  obtain ⟨cq103, kq103, q103a, q103b, q103c⟩ := isOf hZ e102 f5
  obtain ⟨_, _, ⟨T103, L103, k103, n103⟩, -, X103, ⟨Lc103, hQ103, l103, y103, z103⟩, st103⟩ := X102.interfaceBack hx (xi := (⟨"java/util/List", "get", "(I)Ljava/lang/Object;"⟩ : MethodName)) (y := (⟨"java/util/ImmutableCollections$List12", "get", "(I)Ljava/lang/Object;"⟩ : MethodName)) hown (mvT hZ (hwi hw 244 rfl)) (mvT hZ (hwi hw 126 rfl)) (mvT hZ (hwi hw 127 rfl)) (mvT hZ (hwi hw 277 rfl)) (mvT hZ (hwi hw 278 rfl)) (mvT hZ (hwi hw 279 rfl)) (mvT hZ (hwi hw 280 rfl)) (mvT hZ (hwi hw 272 rfl)) (by decide) (backOf (W := 0) (Q := Qret (some (.ref x2)) h0 n0) (own_get2_1 l Z a0 hw [] a1 x1 x2 em h0 n0 Z0 f5 f6 f7 f8 f9) hZ (hwi hw 281 rfl) (hwi hw 256 rfl) (by decide) (by decide)) q103a q103b q103c (g := (mkF m 10 #[vR (it), vI ((1 : Int32)), sU] [(.int (1 : Int32)), (.ref a1)])) rfl (by rw [hml]; rfl) (Steps.refl _) (argsL := [(.int (1 : Int32))]) (rest := []) (lenOf own_pd15 rfl) rfl (by show 2 * 0 + _ ≤ _; exact Nat.le_of_eq rfl) (hb hby q6d) (fun _ _ => ⟨rfl, e102, (by decide : 0 + 0 ≤ _), (by decide : 0 + 0 ≤ _)⟩)
  dsimp only [Pt.U, Pt.locs, Pt.cells, Pt.slots] at X103 l103 y103 z103 st103 hQ103
  subst l103 y103 z103
  obtain ⟨rfl, N103q, eh103⟩ := hQ103
  have N103 := Fr.app N0 N103q
  refine gs m T103 15 #[vR (it), vI ((1 : Int32)), sU] [(.ref x2)] (fun _ k => st103.trans k) ?_
  refine gs m T103 16 #[vR (it), vI ((1 : Int32)), vR (x2)] [] (fun _ k => XS.astoreN X103.here hx rfl (hb hby q6e) rfl rfl (l' := #[vR (it), vI ((1 : Int32)), vR (x2)]) rfl k) ?_
  refine gs m T103 17 #[vR (it), vI ((1 : Int32)), vR (x2)] [(.ref it)] (fun _ k => XS.aloadN X103.here hx rfl (hb hby q6f) rfl rfl k) ?_
  refine gs m T103 18 #[vR (it), vI ((1 : Int32)), vR (x2)] [(.int (1 : Int32)), (.ref it)] (fun _ k => XS.iloadN X103.here hx rfl (hb hby q6g) rfl  k) ?_
  refine gs m T103 19 #[vR (it), vI ((1 : Int32)), vR (x2)] [(.int (1 : Int32)), (.int (1 : Int32)), (.ref it)] (fun _ k => XS.iconst X103.here hx rfl (hb hby q6h) k) ?_
  refine gs m T103 20 #[vR (it), vI ((1 : Int32)), vR (x2)] [(.int (2 : Int32)), (.ref it)] (fun _ k => XS.iadd X103.here hx rfl (hb hby q6i) rfl k) ?_
  obtain ⟨T104, h104, X104, e104, W104, st104⟩ := putF X103 hx hZ hown (host := "") (Or.inl (hwi hw 107 rfl)) Via.refl eh103 f3 f0 (Or.inl (hwi hw 108 rfl)) (hwi hw 87 rfl) (ty := .int) (by decide) rfl rfl (g := (mkF m 20 #[vR (it), vI ((1 : Int32)), vR (x2)] [(.int (2 : Int32)), (.ref it)])) rfl rfl (hb hby q6j)
  have N104 := Fr.snoc X104 N103 f4
  have Z104 : n0 ≤ h104.size := Nat.le_trans Z0 (Keep.of_wr W104).1
  have K104 := K0.wr W104 (Or.inl (List.mem_of_getElem? (i := 0) rfl))
  have F105 := f0.wr W104
  have F106 := f1.other W104 (Or.inr (slot_ne (Or.inr (hwi hw 104 rfl)) (Or.inl (hwi hw 108 rfl)) (by decide) (t := (.object "java/util/List")) (t' := .int) (by decide) (by decide)))
  have F107 := f2.other W104 (Or.inr (slot_ne (Or.inr (hwi hw 106 rfl)) (Or.inl (hwi hw 108 rfl)) (by decide) (t := .int) (t' := .int) (by decide) (by decide)))
  have F108 := f5.wr W104
  have F109 := f6.other W104 (Or.inl f10)
  have F110 := f7.other W104 (Or.inl f10)
  have F111 := f8.wr W104
  have F112 := f3.same W104
  refine gs m T104 23 #[vR (it), vI ((1 : Int32)), vR (x2)] [] st104 ?_
  refine gs m T104 24 #[vR (it), vI ((1 : Int32)), vR (x2)] [(.ref x2)] (fun _ k => XS.aloadN X104.here hx rfl (hb hby q6k) rfl rfl k) ?_
  exact Go.retA X104 hx (t := (.object "java/lang/Object")) hret rfl hlk rfl (hb hby q6l) (by rw [e104]; exact ⟨rfl, N104, K104, F105, F106, F107, F112⟩) (by decide) (by decide)
theorem own_hn2_2 (l : Launch) (Z : State) (a0 : Array Value) (hw : ∀ d ∈ tables_1, d.before a0 Z = true) (ws : List Jvm.Cond) (it : Addr) (a1 : Addr) (h0 : Heap) (n0 : Nat) (Z0 : n0 ≤ h0.size) (f0 : Exa Z h0 it "java/util/ImmutableCollections$ListItr") (f1 : Fld Z h0 it "java/util/ImmutableCollections$ListItr" "list" "Ljava/util/List;" (.ref a1)) (f2 : Fld Z h0 it "java/util/ImmutableCollections$ListItr" "size" "I" (.int (2 : Int32))) (f3 : Fld Z h0 it "java/util/ImmutableCollections$ListItr" "cursor" "I" (.int (2 : Int32)))  :
    Con l Z (⟨"java/util/ImmutableCollections$ListItr", "hasNext", "()Z"⟩ : MethodName) jdk_53_method_3_code 1 (some .boolean) ({ frames := 0, cells := 0, slots := 0, locals := 0 } : Room) ws #[(.ref it)] h0 (Qret (some (.int (0 : Int32))) h0 n0) 0 0 := by
  refine Con.of (plainFor_of_name own_pn_ImmutableCollections_ListItr) ?_
  intro pgm e s m below meth c s₁ X0 hx hZ hby hml hown hnm hret hlk e0 hs0
  have N0 := Fr.nil n0
  have hown : s.vm.findClass "java/util/ImmutableCollections$ListItr" = some m.cls := hown
  have hnm : meth.name = "hasNext" := hnm
  refine Go.cast (own_ef_jdk_53_method_3_code_R m it) ?_
  refine gs m s₁ 1 #[vR (it)] [(.ref it)] (fun _ k => XS.aloadN X0.here hx rfl (hb hby q5y) rfl rfl k) ?_
  obtain ⟨T101, X101, e101, st101⟩ := getF X0 hx hZ hown (host := "") (Or.inl (hwi hw 107 rfl)) Via.refl e0 f3 (g := (mkF m 1 #[vR (it)] [(.ref it)])) rfl rfl (hb hby q5z)
  refine gs m T101 4 #[vR (it)] [(.int (2 : Int32))] st101 ?_
  refine gs m T101 5 #[vR (it)] [(.ref it), (.int (2 : Int32))] (fun _ k => XS.aloadN X101.here hx rfl (hb hby q60) rfl rfl k) ?_
  obtain ⟨T102, X102, e102, st102⟩ := getF X101 hx hZ hown (host := "") (Or.inl (hwi hw 105 rfl)) Via.refl e101 f2 (g := (mkF m 5 #[vR (it)] [(.ref it), (.int (2 : Int32))])) rfl rfl (hb hby q61)
  refine gs m T102 8 #[vR (it)] [(.int (2 : Int32)), (.int (2 : Int32))] st102 ?_
  refine gs m T102 15 #[vR (it)] [] (fun _ k => XS.icmpYes X102.here hx rfl (pc0 := 8) (pc' := 15) rfl (hb hby q62) rfl (teq (by decide : (2 : Int32) = (2 : Int32))).1 (by decide) (by decide) k) ?_
  refine gs m T102 16 #[vR (it)] [(.int (0 : Int32))] (fun _ k => XS.iconst X102.here hx rfl (hb hby q63) k) ?_
  exact Go.retN X102 hx (t := .boolean) hret hlk (by simp) (hb hby q64) (⟨rfl, N0, e102⟩) (by decide) (by decide)
theorem own_ef_jdk_2316_method_22_code_R (m : MethodId) (x0 : Addr) : entryFrame m #[(.ref x0)] 1 = mkF m 0 #[vR (x0)] [] := by first | (simp [entryFrame, mkF, argsToLocals, Value.category]; done) | rfl | (simp [entryFrame, mkF, argsToLocals, own_cI, own_cJ, own_cR, own_cN]; done)
theorem own_pn_Duration : plainName "java/time/Duration" = true := by first | (simp [plainName, overriddenIn]; done) | decide +kernel
theorem q6m : decode jdk_2316_method_22_code 0 = .ok (.aload_n 0, 1) := by decide +kernel
theorem q6n : decode jdk_2316_method_22_code 1 = .ok (.getfield 221, 3) := by decide +kernel
theorem q6o : decode jdk_2316_method_22_code 4 = .ok (.lconst 0, 1) := by decide +kernel
theorem q6p : decode jdk_2316_method_22_code 5 = .ok (.lcmp, 1) := by decide +kernel
theorem q6q : decode jdk_2316_method_22_code 6 = .ok (.ifCond .ge 7, 3) := by decide +kernel
theorem q6r : decode jdk_2316_method_22_code 13 = .ok (.iconst 0, 1) := by decide +kernel
theorem q6s : decode jdk_2316_method_22_code 14 = .ok (.ireturn, 1) := by decide +kernel
theorem own_neg (l : Launch) (Z : State) (a0 : Array Value) (hw : ∀ d ∈ tables_1, d.before a0 Z = true) (ws : List Jvm.Cond) (a1 : Addr) (s1 : Int64) (h0 : Heap) (n0 : Nat) (Z0 : n0 ≤ h0.size) (f0 : Fld Z h0 a1 "java/time/Duration" "seconds" "J" (.long s1)) (hs : ¬ lcmpW s1 (0 : Int64) < (0 : Int32)) :
    Con l Z (⟨"java/time/Duration", "isNegative", "()Z"⟩ : MethodName) jdk_2316_method_22_code 1 (some .boolean) ({ frames := 0, cells := 0, slots := 0, locals := 0 } : Room) ws #[(.ref a1)] h0 (Qret (some (.int (0 : Int32))) h0 n0) 0 0 := by
  refine Con.of (plainFor_of_name own_pn_Duration) ?_
  intro pgm e s m below meth c s₁ X0 hx hZ hby hml hown hnm hret hlk e0 hs0
  have N0 := Fr.nil n0
  have hown : s.vm.findClass "java/time/Duration" = some m.cls := hown
  have hnm : meth.name = "isNegative" := hnm
  refine Go.cast (own_ef_jdk_2316_method_22_code_R m a1) ?_
  refine gs m s₁ 1 #[vR (a1)] [(.ref a1)] (fun _ k => XS.aloadN X0.here hx rfl (hb hby q6m) rfl rfl k) ?_
  obtain ⟨T101, X101, e101, st101⟩ := getF X0 hx hZ hown (host := "") (Or.inl (hwi hw 252 rfl)) Via.refl e0 f0 (g := (mkF m 1 #[vR (a1)] [(.ref a1)])) rfl rfl (hb hby q6n)
  refine gs m T101 4 #[vR (a1)] [(.long s1)] st101 ?_
  refine gs m T101 5 #[vR (a1)] [(.long (0 : Int64)), (.long s1)] (fun _ k => XS.lconst X101.here hx rfl (hb hby q6o) k) ?_
  refine gs m T101 6 #[vR (a1)] [(.int (lcmpW s1 (0 : Int64)))] (fun _ k => XS.lcmp X101.here hx rfl (hb hby q6p) rfl k) ?_
  refine gs m T101 13 #[vR (a1)] [] (fun _ k => XS.ifYes X101.here hx rfl (pc0 := 6) (pc' := 13) rfl (hb hby q6q) rfl ((if0 _ _).trans (flt hs).2.1) (by decide) (by decide) k) ?_
  refine gs m T101 14 #[vR (a1)] [(.int (0 : Int32))] (fun _ k => XS.iconst X101.here hx rfl (hb hby q6r) k) ?_
  exact Go.retN X101 hx (t := .boolean) hret hlk (by simp) (hb hby q6s) (⟨rfl, N0, e101⟩) (by decide) (by decide)
theorem own_ef_prog_7_method_1_code_RR (m : MethodId) (x0 : Addr) (x1 : Addr) : entryFrame m #[(.ref x0), (.ref x1)] 4 = mkF m 0 #[vR (x0), vR (x1), sU, sU] [] := by first | (simp [entryFrame, mkF, argsToLocals, Value.category]; done) | rfl | (simp [entryFrame, mkF, argsToLocals, own_cI, own_cJ, own_cR, own_cN]; done)
theorem own_pn_RetrySchedule : plainName "com/example/nuthatch/nuthatch/RetrySchedule" = true := by first | (simp [plainName, overriddenIn]; done) | decide +kernel
theorem q6t : decode prog_7_method_1_code 0 = .ok (.aload_n 0, 1) := by decide +kernel
theorem q6u : decode prog_7_method_1_code 1 = .ok (.invokespecial 1, 3) := by decide +kernel
theorem q6v : decode prog_7_method_1_code 4 = .ok (.aload_n 1, 1) := by decide +kernel
theorem q6w : decode prog_7_method_1_code 5 = .ok (.invokestatic 7, 3) := by decide +kernel
theorem q6x : decode prog_7_method_1_code 8 = .ok (.astore_n 1, 1) := by decide +kernel
theorem q6y : decode prog_7_method_1_code 9 = .ok (.aload_n 1, 1) := by decide +kernel
theorem q6z : decode prog_7_method_1_code 10 = .ok (.invokeinterface 13 1, 5) := by decide +kernel
theorem own_pd16 : parseMethodDescriptor "()Ljava/util/Iterator;" = some ⟨[], some (.object "java/util/Iterator")⟩ := by decide +kernel
theorem q70 : decode prog_7_method_1_code 15 = .ok (.astore_n 2, 1) := by decide +kernel
theorem q71 : decode prog_7_method_1_code 16 = .ok (.aload_n 2, 1) := by decide +kernel
theorem q72 : decode prog_7_method_1_code 17 = .ok (.invokeinterface 17 1, 5) := by decide +kernel
theorem q73 : decode prog_7_method_1_code 22 = .ok (.ifCond .eq 40, 3) := by decide +kernel
theorem q74 : decode prog_7_method_1_code 62 = .ok (.aload_n 0, 1) := by decide +kernel
theorem q75 : decode prog_7_method_1_code 63 = .ok (.aload_n 1, 1) := by decide +kernel
theorem q76 : decode prog_7_method_1_code 64 = .ok (.putfield 47, 3) := by decide +kernel
theorem q77 : decode prog_7_method_1_code 67 = .ok (.return_, 1) := by decide +kernel
theorem own_rsi0 (l : Launch) (Z : State) (a0 : Array Value) (hw : ∀ d ∈ tables_1, d.before a0 Z = true) (ws : List Jvm.Cond) (a1 : Addr) (al : Addr) (u0 : Value) (el : Addr) (b2 : Addr) (k2 : ClassId) (h0 : Heap) (n0 : Nat) (Z0 : n0 ≤ h0.size) (f0 : Exa Z h0 a1 "com/example/nuthatch/nuthatch/RetrySchedule") (f1 : n0 ≤ a1) (f2 : Fld Z h0 a1 "com/example/nuthatch/nuthatch/RetrySchedule" "delays" "Ljava/util/List;" u0) (f3 : Exa Z h0 al "java/util/ArrayList") (f4 : Fld Z h0 al "java/util/ArrayList" "size" "I" (.int (0 : Int32))) (f5 : Sta Z h0 "java/util/ImmutableCollections" "EMPTY_LIST" "Ljava/util/ImmutableCollections$ListN;" (.ref el)) (f6 : Exa Z h0 el "java/util/ImmutableCollections$ListN") (f7 : Fld Z h0 el "java/util/ImmutableCollections$ListN" "elements" "[Ljava/lang/Object;" (.ref b2)) (f8 : Arv Z h0 b2 k2 (.object "java/lang/Object") (0 : Int32) [] .null) (f9 : al ≠ a1) (f10 : el ≠ a1) (f11 : b2 ≠ a1)  :
    Con l Z (⟨"com/example/nuthatch/nuthatch/RetrySchedule", "<init>", "(Ljava/util/List;)V"⟩ : MethodName) prog_7_method_1_code 4 none ({ frames := 3, cells := 1, slots := 4, locals := 39 } : Room) ws #[(.ref a1), (.ref al)] h0 (fun v h L => (v = none) ∧ (Fr n0 L) ∧ (Keep h0 h [a1]) ∧ (Exa Z h a1 "com/example/nuthatch/nuthatch/RetrySchedule") ∧ (Fld Z h a1 "com/example/nuthatch/nuthatch/RetrySchedule" "delays" "Ljava/util/List;" (.ref el))) 1 4 := by
  refine Con.of (plainFor_of_name own_pn_RetrySchedule) ?_
  intro pgm e s m below meth c s₁ X0 hx hZ hby hml hown hnm hret hlk e0 hs0
  have N0 := Fr.nil n0
  have hown : s.vm.findClass "com/example/nuthatch/nuthatch/RetrySchedule" = some m.cls := hown
  have hnm : meth.name = "<init>" := hnm
  refine Go.cast (own_ef_prog_7_method_1_code_RR m a1 al) ?_
  have K0 := Keep.refl h0 [a1]
  refine gs m s₁ 1 #[vR (a1), vR (al), sU, sU] [(.ref a1)] (fun _ k => XS.aloadN X0.here hx rfl (hb hby q6t) rfl rfl k) ?_
  obtain ⟨_, _, ⟨T101, L101, k101, n101⟩, -, X101, ⟨Lc101, hQ101, l101, y101, z101⟩, st101⟩ := X0.specialBack hx (y := (⟨"java/lang/Record", "<init>", "()V"⟩ : MethodName)) rfl hown (mvT hZ (hwi hw 41 rfl)) (mvT hZ (hwi hw 42 rfl)) (mvT hZ (hwi hw 45 rfl)) (by decide) (backOf (W := 0) (Q := Qret (none) h0 n0) (own_rec l Z a0 hw [] a1 h0 n0 Z0 ) hZ (hwi hw 45 rfl) (hwi hw 44 rfl) (by decide) (by decide)) (g := (mkF m 1 #[vR (a1), vR (al), sU, sU] [(.ref a1)])) rfl (by rw [hml]; rfl) (Steps.refl _) (a := a1) (argsL := []) (rest := []) (lenOf own_pd0 rfl) rfl (by show 2 * 0 + _ ≤ _; exact Nat.le_of_eq rfl) (hb hby q6u) (fun _ _ => ⟨rfl, e0, (by decide : 0 + 0 ≤ _), (by decide : 0 + 0 ≤ _)⟩)
  dsimp only [Pt.U, Pt.locs, Pt.cells, Pt.slots] at X101 l101 y101 z101 st101 hQ101
  subst l101 y101 z101
  obtain ⟨rfl, N101q, eh101⟩ := hQ101
  have N101 := Fr.app N0 N101q
  refine gs m T101 4 #[vR (a1), vR (al), sU, sU] [] (fun _ k => st101.trans k) ?_
  refine gs m T101 5 #[vR (a1), vR (al), sU, sU] [(.ref al)] (fun _ k => XS.aloadN X101.here hx rfl (hb hby q6v) rfl rfl k) ?_
  obtain ⟨_, _, ⟨T102, L102, k102, n102⟩, -, X102, ⟨Lc102, hQ102, l102, y102, z102⟩, st102⟩ := Jvm.LawKit.callS X101 hx (y := (⟨"java/util/List", "copyOf", "(Ljava/util/Collection;)Ljava/util/List;"⟩ : MethodName)) hown (mvT hZ (hwi hw 47 rfl)) (mvT hZ (hwi hw 48 rfl)) (mvT hZ (hwi hw 49 rfl)) (mvT hZ (hwi hw 50 rfl)) (by decide) (backOf (W := 0) (Q := Qret (some (.ref el)) h0 n0) (own_cof0 l Z a0 hw [] al el h0 n0 Z0 f3 f4 f5) hZ (hwi hw 50 rfl) (hwi hw 49 rfl) (by decide) (by decide)) (g := (mkF m 5 #[vR (a1), vR (al), sU, sU] [(.ref al)])) rfl (by rw [hml]; rfl) (argsL := [(.ref al)]) (rest := []) (lenOf own_pd11 rfl) rfl (by show 2 * 0 + _ ≤ _; exact Nat.le_of_eq rfl) (hb hby q6w) (fun _ _ => ⟨rfl, eh101, (by decide : 0 + 0 ≤ _), (by decide : 0 + 0 ≤ _)⟩)
  dsimp only [Pt.U, Pt.locs, Pt.cells, Pt.slots] at X102 l102 y102 z102 st102 hQ102
  subst l102 y102 z102
  obtain ⟨rfl, N102q, eh102⟩ := hQ102
  have N102 := Fr.app N101 N102q
  refine gs m T102 8 #[vR (a1), vR (al), sU, sU] [(.ref el)] (st102) ?_
  refine gs m T102 9 #[vR (a1), vR (el), sU, sU] [] (fun _ k => XS.astoreN X102.here hx rfl (hb hby q6x) rfl rfl (l' := #[vR (a1), vR (el), sU, sU]) rfl k) ?_
  refine gs m T102 10 #[vR (a1), vR (el), sU, sU] [(.ref el)] (fun _ k => XS.aloadN X102.here hx rfl (hb hby q6y) rfl rfl k) ?_
  obtain ⟨cq103, kq103, q103a, q103b, q103c⟩ := isOf hZ eh102 f6
  obtain ⟨_, _, ⟨T103, L103, k103, n103⟩, -, X103, ⟨Lc103, hQ103, l103, y103, z103⟩, st103⟩ := X102.interfaceBack hx (xi := (⟨"java/util/List", "iterator", "()Ljava/util/Iterator;"⟩ : MethodName)) (y := (⟨"java/util/ImmutableCollections$AbstractImmutableList", "iterator", "()Ljava/util/Iterator;"⟩ : MethodName)) hown (mvT hZ (hwi hw 76 rfl)) (mvT hZ (hwi hw 77 rfl)) (mvT hZ (hwi hw 78 rfl)) (mvT hZ (hwi hw 79 rfl)) (mvT hZ (hwi hw 80 rfl)) (mvT hZ (hwi hw 81 rfl)) (mvT hZ (hwi hw 82 rfl)) (mvT hZ (hwi hw 83 rfl)) (by decide) (backOf (W := 0) (Q := fun v h L => ∃ it : Addr, (v = some (.ref it)) ∧ (Fr n0 L) ∧ (Keep h0 h []) ∧ (h0.size ≤ it) ∧ (Exa Z h it "java/util/ImmutableCollections$ListItr") ∧ (Fld Z h it "java/util/ImmutableCollections$ListItr" "list" "Ljava/util/List;" (.ref el)) ∧ (Fld Z h it "java/util/ImmutableCollections$ListItr" "size" "I" (.int (0 : Int32))) ∧ (Fld Z h it "java/util/ImmutableCollections$ListItr" "cursor" "I" (.int (0 : Int32)))) (own_itr0 l Z a0 hw [] el b2 k2 h0 n0 Z0 f6 f7 f8) hZ (hwi hw 85 rfl) (hwi hw 84 rfl) (by decide) (by decide)) q103a q103b q103c (g := (mkF m 10 #[vR (a1), vR (el), sU, sU] [(.ref el)])) rfl (by rw [hml]; rfl) (Steps.refl _) (argsL := []) (rest := []) (lenOf own_pd16 rfl) rfl (by show 2 * 0 + _ ≤ _; exact Nat.le_of_eq rfl) (hb hby q6z) (fun _ _ => ⟨rfl, eh102, (by decide : 0 + 1 ≤ _), (by decide : 0 + 4 ≤ _)⟩)
  dsimp only [Pt.U, Pt.locs, Pt.cells, Pt.slots] at X103 l103 y103 z103 st103 hQ103
  subst l103 y103 z103
  obtain ⟨it_103, rfl, N103q, K103, lt103_0, P103_0, P103_1, P103_2, P103_3⟩ := hQ103
  have N103 := Fr.app N102 N103q
  have ne104 : a1 ≠ it_103 := Nat.ne_of_lt (Nat.lt_of_lt_of_le f0.lt lt103_0)
  have ne105 : al ≠ it_103 := Nat.ne_of_lt (Nat.lt_of_lt_of_le f3.lt lt103_0)
  have ne106 : el ≠ it_103 := Nat.ne_of_lt (Nat.lt_of_lt_of_le f6.lt lt103_0)
  have ne107 : b2 ≠ it_103 := Nat.ne_of_lt (Nat.lt_of_lt_of_le f8.lt lt103_0)
  have ge108 : n0 ≤ it_103 := Nat.le_trans Z0 lt103_0
  have sz109 : h0.size ≤ it_103 := Nat.le_trans K0.1 lt103_0
  have KK103 := K0.trans K103 all0
  have Z103 : n0 ≤ T103.heap.size := Nat.le_trans Z0 K103.1
  have F110 := f0.keep K103
  have F111 := f2.keep K103 nin0
  have F112 := f3.keep K103
  have F113 := f4.keep K103 nin0
  have F114 := own_sta_keep f5 K103 all0
  have F115 := f6.keep K103
  have F116 := f7.keep K103 nin0
  have F117 := f8.keep K103 nin0
  refine gs m T103 15 #[vR (a1), vR (el), sU, sU] [(.ref it_103)] (fun _ k => st103.trans k) ?_
  refine gs m T103 16 #[vR (a1), vR (el), vR (it_103), sU] [] (fun _ k => XS.astoreN X103.here hx rfl (hb hby q70) rfl rfl (l' := #[vR (a1), vR (el), vR (it_103), sU]) rfl k) ?_
  refine gs m T103 17 #[vR (a1), vR (el), vR (it_103), sU] [(.ref it_103)] (fun _ k => XS.aloadN X103.here hx rfl (hb hby q71) rfl rfl k) ?_
  obtain ⟨cq118, kq118, q118a, q118b, q118c⟩ := isOf hZ rfl P103_0
  obtain ⟨_, _, ⟨T118, L118, k118, n118⟩, -, X118, ⟨Lc118, hQ118, l118, y118, z118⟩, st118⟩ := X103.interfaceBack hx (xi := (⟨"java/util/Iterator", "hasNext", "()Z"⟩ : MethodName)) (y := (⟨"java/util/ImmutableCollections$ListItr", "hasNext", "()Z"⟩ : MethodName)) hown (mvT hZ (hwi hw 111 rfl)) (mvT hZ (hwi hw 112 rfl)) (mvT hZ (hwi hw 113 rfl)) (mvT hZ (hwi hw 114 rfl)) (mvT hZ (hwi hw 115 rfl)) (mvT hZ (hwi hw 116 rfl)) (mvT hZ (hwi hw 117 rfl)) (mvT hZ (hwi hw 118 rfl)) (by decide) (backOf (W := 0) (Q := Qret (some (.int (0 : Int32))) T103.heap n0) (own_hn0_0 l Z a0 hw [] it_103 el T103.heap n0 Z103 P103_0 P103_1 P103_2 P103_3) hZ (hwi hw 119 rfl) (hwi hw 88 rfl) (by decide) (by decide)) q118a q118b q118c (g := (mkF m 17 #[vR (a1), vR (el), vR (it_103), sU] [(.ref it_103)])) rfl (by rw [hml]; rfl) (Steps.refl _) (argsL := []) (rest := []) (lenOf own_pd9 rfl) rfl (by show 2 * 0 + _ ≤ _; exact Nat.le_of_eq rfl) (hb hby q72) (fun _ _ => ⟨rfl, rfl, (by decide : 1 + 0 ≤ _), (by decide : 4 + 0 ≤ _)⟩)
  dsimp only [Pt.U, Pt.locs, Pt.cells, Pt.slots] at X118 l118 y118 z118 st118 hQ118
  subst l118 y118 z118
  obtain ⟨rfl, N118q, eh118⟩ := hQ118
  have N118 := Fr.app N103 N118q
  refine gs m T118 22 #[vR (a1), vR (el), vR (it_103), sU] [(.int (0 : Int32))] (fun _ k => st118.trans k) ?_
  refine gs m T118 62 #[vR (a1), vR (el), vR (it_103), sU] [] (fun _ k => XS.ifYes X118.here hx rfl (pc0 := 22) (pc' := 62) rfl (hb hby q73) rfl ((if0 _ _).trans (teq (by decide : (0 : Int32) = (0 : Int32))).1) (by decide) (by decide) k) ?_
  refine gs m T118 63 #[vR (a1), vR (el), vR (it_103), sU] [(.ref a1)] (fun _ k => XS.aloadN X118.here hx rfl (hb hby q74) rfl rfl k) ?_
  refine gs m T118 64 #[vR (a1), vR (el), vR (it_103), sU] [(.ref el), (.ref a1)] (fun _ k => XS.aloadN X118.here hx rfl (hb hby q75) rfl rfl k) ?_
  obtain ⟨T119, h119, X119, e119, W119, st119⟩ := putF X118 hx hZ hown (host := "") (Or.inl (hwi hw 8 rfl)) Via.refl eh118 F111 F110 (Or.inr ⟨(hwi hw 9 rfl), rfl, hnm⟩) (hwi hw 37 rfl) (ty := (.object "java/util/List")) (by decide) rfl rfl (g := (mkF m 64 #[vR (a1), vR (el), vR (it_103), sU] [(.ref el), (.ref a1)])) rfl rfl (hb hby q76)
  have N119 := Fr.snoc X119 N118 f1
  have Z119 : n0 ≤ h119.size := Nat.le_trans Z103 (Keep.of_wr W119).1
  have K119 := KK103.wr W119 (Or.inl (List.mem_of_getElem? (i := 0) rfl))
  have F120 := F110.wr W119
  have F121 := F112.wr W119
  have F122 := F113.other W119 (Or.inl f9)
  have F123 := F114.wr W119
  have F124 := F115.wr W119
  have F125 := F116.other W119 (Or.inl f10)
  have F126 := F117.other W119 f11
  have F127 := P103_0.wr W119
  have F128 := P103_1.other W119 (Or.inl (Ne.symm ne104))
  have F129 := P103_2.other W119 (Or.inl (Ne.symm ne104))
  have F130 := P103_3.other W119 (Or.inl (Ne.symm ne104))
  have F131 := F111.same W119
  refine gs m T119 67 #[vR (a1), vR (el), vR (it_103), sU] [] st119 ?_
  exact Go.retV X119 hx hret hlk (hb hby q77) (by rw [e119]; exact ⟨rfl, N119, K119, F120, F131⟩) (by decide) (by decide)
theorem q78 : decode prog_7_method_1_code 25 = .ok (.aload_n 2, 1) := by decide +kernel
theorem q79 : decode prog_7_method_1_code 26 = .ok (.invokeinterface 23 1, 5) := by decide +kernel
theorem own_pd17 : parseMethodDescriptor "()Ljava/lang/Object;" = some ⟨[], some (.object "java/lang/Object")⟩ := by decide +kernel
theorem q7a : decode prog_7_method_1_code 31 = .ok (.checkcast 27, 3) := by decide +kernel
theorem q7b : decode prog_7_method_1_code 34 = .ok (.astore_n 3, 1) := by decide +kernel
theorem q7c : decode prog_7_method_1_code 35 = .ok (.aload_n 3, 1) := by decide +kernel
theorem q7d : decode prog_7_method_1_code 36 = .ok (.invokevirtual 29, 3) := by decide +kernel
theorem q7e : decode prog_7_method_1_code 39 = .ok (.ifCond .eq 20, 3) := by decide +kernel
theorem q7f : decode prog_7_method_1_code 59 = .ok (.goto (-43), 3) := by decide +kernel
theorem own_rsi1 (l : Launch) (Z : State) (a0 : Array Value) (hw : ∀ d ∈ tables_1, d.before a0 Z = true) (ws : List Jvm.Cond) (a1 : Addr) (al : Addr) (u0 : Value) (b1 : Addr) (k1 : ClassId) (x1 : Addr) (s1 : Int64) (em : Addr) (h0 : Heap) (n0 : Nat) (Z0 : n0 ≤ h0.size) (f0 : Exa Z h0 a1 "com/example/nuthatch/nuthatch/RetrySchedule") (f1 : n0 ≤ a1) (f2 : Fld Z h0 a1 "com/example/nuthatch/nuthatch/RetrySchedule" "delays" "Ljava/util/List;" u0) (f3 : Exa Z h0 al "java/util/ArrayList") (f4 : Fld Z h0 al "java/util/ArrayList" "elementData" "[Ljava/lang/Object;" (.ref b1)) (f5 : Fld Z h0 al "java/util/ArrayList" "size" "I" (.int (1 : Int32))) (f6 : Exa Z h0 b1 "[Ljava/lang/Object;") (f7 : Arv Z h0 b1 k1 (.object "java/lang/Object") (10 : Int32) [(.ref x1), .null, .null, .null, .null, .null, .null, .null, .null, .null] .null) (f8 : Exa Z h0 x1 "java/time/Duration") (f9 : Fld Z h0 x1 "java/time/Duration" "seconds" "J" (.long s1)) (f10 : Sta Z h0 "java/util/ImmutableCollections" "EMPTY" "Ljava/lang/Object;" (.ref em)) (f11 : al ≠ a1) (f12 : b1 ≠ a1) (f13 : x1 ≠ a1) (ov1 : Ovr Z k1 "java/lang/Object") (MM : MirrorMade Z "[Ljava/lang/Object;") (hs1 : ¬ lcmpW s1 (0 : Int64) < (0 : Int32)) :
    Con l Z (⟨"com/example/nuthatch/nuthatch/RetrySchedule", "<init>", "(Ljava/util/List;)V"⟩ : MethodName) prog_7_method_1_code 4 none ({ frames := 8, cells := 3, slots := 7, locals := 114 } : Room) ws #[(.ref a1), (.ref al)] h0 (fun v h L => ∃ lst : Addr, (v = none) ∧ (Fr n0 L) ∧ (Keep h0 h [a1]) ∧ (h0.size ≤ lst) ∧ (Exa Z h a1 "com/example/nuthatch/nuthatch/RetrySchedule") ∧ (Fld Z h a1 "com/example/nuthatch/nuthatch/RetrySchedule" "delays" "Ljava/util/List;" (.ref lst)) ∧ (Exa Z h lst "java/util/ImmutableCollections$List12") ∧ (Fld Z h lst "java/util/ImmutableCollections$List12" "e0" "Ljava/lang/Object;" (.ref x1)) ∧ (Fld Z h lst "java/util/ImmutableCollections$List12" "e1" "Ljava/lang/Object;" (.ref em))) 3 7 := by
  refine Con.of (plainFor_of_name own_pn_RetrySchedule) ?_
  intro pgm e s m below meth c s₁ X0 hx hZ hby hml hown hnm hret hlk e0 hs0
  have N0 := Fr.nil n0
  have hown : s.vm.findClass "com/example/nuthatch/nuthatch/RetrySchedule" = some m.cls := hown
  have hnm : meth.name = "<init>" := hnm
  refine Go.cast (own_ef_prog_7_method_1_code_RR m a1 al) ?_
  have K0 := Keep.refl h0 [a1]
  refine gs m s₁ 1 #[vR (a1), vR (al), sU, sU] [(.ref a1)] (fun _ k => XS.aloadN X0.here hx rfl (hb hby q6t) rfl rfl k) ?_
  obtain ⟨_, _, ⟨T101, L101, k101, n101⟩, -, X101, ⟨Lc101, hQ101, l101, y101, z101⟩, st101⟩ := X0.specialBack hx (y := (⟨"java/lang/Record", "<init>", "()V"⟩ : MethodName)) rfl hown (mvT hZ (hwi hw 41 rfl)) (mvT hZ (hwi hw 42 rfl)) (mvT hZ (hwi hw 45 rfl)) (by decide) (backOf (W := 0) (Q := Qret (none) h0 n0) (own_rec l Z a0 hw [] a1 h0 n0 Z0 ) hZ (hwi hw 45 rfl) (hwi hw 44 rfl) (by decide) (by decide)) (g := (mkF m 1 #[vR (a1), vR (al), sU, sU] [(.ref a1)])) rfl (by rw [hml]; rfl) (Steps.refl _) (a := a1) (argsL := []) (rest := []) (lenOf own_pd0 rfl) rfl (by show 2 * 0 + _ ≤ _; exact Nat.le_of_eq rfl) (hb hby q6u) (fun _ _ => ⟨rfl, e0, (by decide : 0 + 0 ≤ _), (by decide : 0 + 0 ≤ _)⟩)
  dsimp only [Pt.U, Pt.locs, Pt.cells, Pt.slots] at X101 l101 y101 z101 st101 hQ101
  subst l101 y101 z101
  obtain ⟨rfl, N101q, eh101⟩ := hQ101
  have N101 := Fr.app N0 N101q
  refine gs m T101 4 #[vR (a1), vR (al), sU, sU] [] (fun _ k => st101.trans k) ?_
  refine gs m T101 5 #[vR (a1), vR (al), sU, sU] [(.ref al)] (fun _ k => XS.aloadN X101.here hx rfl (hb hby q6v) rfl rfl k) ?_
  obtain ⟨_, _, ⟨T102, L102, k102, n102⟩, -, X102, ⟨Lc102, hQ102, l102, y102, z102⟩, st102⟩ := Jvm.LawKit.callS X101 hx (y := (⟨"java/util/List", "copyOf", "(Ljava/util/Collection;)Ljava/util/List;"⟩ : MethodName)) hown (mvT hZ (hwi hw 47 rfl)) (mvT hZ (hwi hw 48 rfl)) (mvT hZ (hwi hw 49 rfl)) (mvT hZ (hwi hw 50 rfl)) (by decide) (backOf (W := 0) (Q := fun v h L => ∃ lst : Addr, (v = some (.ref lst)) ∧ (Fr n0 L) ∧ (Keep h0 h []) ∧ (h0.size ≤ lst) ∧ (Exa Z h lst "java/util/ImmutableCollections$List12") ∧ (Fld Z h lst "java/util/ImmutableCollections$List12" "e0" "Ljava/lang/Object;" (.ref x1)) ∧ (Fld Z h lst "java/util/ImmutableCollections$List12" "e1" "Ljava/lang/Object;" (.ref em))) (own_cof1 l Z a0 hw [] al b1 k1 x1 s1 em h0 n0 Z0 f3 f4 f5 f6 f7 f8 f9 f10 ov1 MM) hZ (hwi hw 50 rfl) (hwi hw 49 rfl) (by decide) (by decide)) (g := (mkF m 5 #[vR (a1), vR (al), sU, sU] [(.ref al)])) rfl (by rw [hml]; rfl) (argsL := [(.ref al)]) (rest := []) (lenOf own_pd11 rfl) rfl (by show 2 * 0 + _ ≤ _; exact Nat.le_of_eq rfl) (hb hby q6w) (fun _ _ => ⟨rfl, eh101, (by decide : 0 + 2 ≤ _), (by decide : 0 + 3 ≤ _)⟩)
  dsimp only [Pt.U, Pt.locs, Pt.cells, Pt.slots] at X102 l102 y102 z102 st102 hQ102
  subst l102 y102 z102
  obtain ⟨lst_102, rfl, N102q, K102, lt102_0, P102_0, P102_1, P102_2⟩ := hQ102
  have N102 := Fr.app N101 N102q
  have ne103 : a1 ≠ lst_102 := Nat.ne_of_lt (Nat.lt_of_lt_of_le f0.lt lt102_0)
  have ne104 : al ≠ lst_102 := Nat.ne_of_lt (Nat.lt_of_lt_of_le f3.lt lt102_0)
  have ne105 : b1 ≠ lst_102 := Nat.ne_of_lt (Nat.lt_of_lt_of_le f6.lt lt102_0)
  have ne106 : x1 ≠ lst_102 := Nat.ne_of_lt (Nat.lt_of_lt_of_le f8.lt lt102_0)
  have ge107 : n0 ≤ lst_102 := Nat.le_trans Z0 lt102_0
  have sz108 : h0.size ≤ lst_102 := Nat.le_trans K0.1 lt102_0
  have KK102 := K0.trans K102 all0
  have Z102 : n0 ≤ T102.heap.size := Nat.le_trans Z0 K102.1
  have F109 := f0.keep K102
  have F110 := f2.keep K102 nin0
  have F111 := f3.keep K102
  have F112 := f4.keep K102 nin0
  have F113 := f5.keep K102 nin0
  have F114 := f6.keep K102
  have F115 := f7.keep K102 nin0
  have F116 := f8.keep K102
  have F117 := f9.keep K102 nin0
  have F118 := own_sta_keep f10 K102 all0
  refine gs m T102 8 #[vR (a1), vR (al), sU, sU] [(.ref lst_102)] (st102) ?_
  refine gs m T102 9 #[vR (a1), vR (lst_102), sU, sU] [] (fun _ k => XS.astoreN X102.here hx rfl (hb hby q6x) rfl rfl (l' := #[vR (a1), vR (lst_102), sU, sU]) rfl k) ?_
  refine gs m T102 10 #[vR (a1), vR (lst_102), sU, sU] [(.ref lst_102)] (fun _ k => XS.aloadN X102.here hx rfl (hb hby q6y) rfl rfl k) ?_
  obtain ⟨cq119, kq119, q119a, q119b, q119c⟩ := isOf hZ rfl P102_0
  obtain ⟨_, _, ⟨T119, L119, k119, n119⟩, -, X119, ⟨Lc119, hQ119, l119, y119, z119⟩, st119⟩ := X102.interfaceBack hx (xi := (⟨"java/util/List", "iterator", "()Ljava/util/Iterator;"⟩ : MethodName)) (y := (⟨"java/util/ImmutableCollections$AbstractImmutableList", "iterator", "()Ljava/util/Iterator;"⟩ : MethodName)) hown (mvT hZ (hwi hw 76 rfl)) (mvT hZ (hwi hw 77 rfl)) (mvT hZ (hwi hw 78 rfl)) (mvT hZ (hwi hw 270 rfl)) (mvT hZ (hwi hw 80 rfl)) (mvT hZ (hwi hw 81 rfl)) (mvT hZ (hwi hw 271 rfl)) (mvT hZ (hwi hw 272 rfl)) (by decide) (backOf (W := 0) (Q := fun v h L => ∃ it : Addr, (v = some (.ref it)) ∧ (Fr n0 L) ∧ (Keep T102.heap h []) ∧ (T102.heap.size ≤ it) ∧ (Exa Z h it "java/util/ImmutableCollections$ListItr") ∧ (Fld Z h it "java/util/ImmutableCollections$ListItr" "list" "Ljava/util/List;" (.ref lst_102)) ∧ (Fld Z h it "java/util/ImmutableCollections$ListItr" "size" "I" (.int (1 : Int32))) ∧ (Fld Z h it "java/util/ImmutableCollections$ListItr" "cursor" "I" (.int (0 : Int32)))) (own_itr1 l Z a0 hw [] lst_102 x1 em T102.heap n0 Z102 P102_0 P102_1 P102_2 F118) hZ (hwi hw 85 rfl) (hwi hw 84 rfl) (by decide) (by decide)) q119a q119b q119c (g := (mkF m 10 #[vR (a1), vR (lst_102), sU, sU] [(.ref lst_102)])) rfl (by rw [hml]; rfl) (Steps.refl _) (argsL := []) (rest := []) (lenOf own_pd16 rfl) rfl (by show 2 * 0 + _ ≤ _; exact Nat.le_of_eq rfl) (hb hby q6z) (fun _ _ => ⟨rfl, rfl, (by decide : 2 + 1 ≤ _), (by decide : 3 + 4 ≤ _)⟩)
  dsimp only [Pt.U, Pt.locs, Pt.cells, Pt.slots] at X119 l119 y119 z119 st119 hQ119
  subst l119 y119 z119
  obtain ⟨it_119, rfl, N119q, K119, lt119_0, P119_0, P119_1, P119_2, P119_3⟩ := hQ119
  have N119 := Fr.app N102 N119q
  have ne120 : a1 ≠ it_119 := Nat.ne_of_lt (Nat.lt_of_lt_of_le F109.lt lt119_0)
  have ne121 : al ≠ it_119 := Nat.ne_of_lt (Nat.lt_of_lt_of_le F111.lt lt119_0)
  have ne122 : b1 ≠ it_119 := Nat.ne_of_lt (Nat.lt_of_lt_of_le F114.lt lt119_0)
  have ne123 : x1 ≠ it_119 := Nat.ne_of_lt (Nat.lt_of_lt_of_le F116.lt lt119_0)
  have ne124 : lst_102 ≠ it_119 := Nat.ne_of_lt (Nat.lt_of_lt_of_le P102_0.lt lt119_0)
  have ge125 : n0 ≤ it_119 := Nat.le_trans Z102 lt119_0
  have sz126 : h0.size ≤ it_119 := Nat.le_trans KK102.1 lt119_0
  have KK119 := KK102.trans K119 all0
  have Z119 : n0 ≤ T119.heap.size := Nat.le_trans Z102 K119.1
  have F127 := F109.keep K119
  have F128 := F110.keep K119 nin0
  have F129 := F111.keep K119
  have F130 := F112.keep K119 nin0
  have F131 := F113.keep K119 nin0
  have F132 := F114.keep K119
  have F133 := F115.keep K119 nin0
  have F134 := F116.keep K119
  have F135 := F117.keep K119 nin0
  have F136 := own_sta_keep F118 K119 all0
  have F137 := P102_0.keep K119
  have F138 := P102_1.keep K119 nin0
  have F139 := P102_2.keep K119 nin0
  refine gs m T119 15 #[vR (a1), vR (lst_102), sU, sU] [(.ref it_119)] (fun _ k => st119.trans k) ?_
  refine gs m T119 16 #[vR (a1), vR (lst_102), vR (it_119), sU] [] (fun _ k => XS.astoreN X119.here hx rfl (hb hby q70) rfl rfl (l' := #[vR (a1), vR (lst_102), vR (it_119), sU]) rfl k) ?_
  refine gs m T119 17 #[vR (a1), vR (lst_102), vR (it_119), sU] [(.ref it_119)] (fun _ k => XS.aloadN X119.here hx rfl (hb hby q71) rfl rfl k) ?_
  obtain ⟨cq140, kq140, q140a, q140b, q140c⟩ := isOf hZ rfl P119_0
  obtain ⟨_, _, ⟨T140, L140, k140, n140⟩, -, X140, ⟨Lc140, hQ140, l140, y140, z140⟩, st140⟩ := X119.interfaceBack hx (xi := (⟨"java/util/Iterator", "hasNext", "()Z"⟩ : MethodName)) (y := (⟨"java/util/ImmutableCollections$ListItr", "hasNext", "()Z"⟩ : MethodName)) hown (mvT hZ (hwi hw 111 rfl)) (mvT hZ (hwi hw 112 rfl)) (mvT hZ (hwi hw 113 rfl)) (mvT hZ (hwi hw 114 rfl)) (mvT hZ (hwi hw 115 rfl)) (mvT hZ (hwi hw 116 rfl)) (mvT hZ (hwi hw 117 rfl)) (mvT hZ (hwi hw 118 rfl)) (by decide) (backOf (W := 0) (Q := Qret (some (.int (1 : Int32))) T119.heap n0) (own_hn1_0 l Z a0 hw [] it_119 lst_102 T119.heap n0 Z119 P119_0 P119_1 P119_2 P119_3) hZ (hwi hw 119 rfl) (hwi hw 88 rfl) (by decide) (by decide)) q140a q140b q140c (g := (mkF m 17 #[vR (a1), vR (lst_102), vR (it_119), sU] [(.ref it_119)])) rfl (by rw [hml]; rfl) (Steps.refl _) (argsL := []) (rest := []) (lenOf own_pd9 rfl) rfl (by show 2 * 0 + _ ≤ _; exact Nat.le_of_eq rfl) (hb hby q72) (fun _ _ => ⟨rfl, rfl, (by decide : 3 + 0 ≤ _), (by decide : 7 + 0 ≤ _)⟩)
  dsimp only [Pt.U, Pt.locs, Pt.cells, Pt.slots] at X140 l140 y140 z140 st140 hQ140
  subst l140 y140 z140
  obtain ⟨rfl, N140q, eh140⟩ := hQ140
  have N140 := Fr.app N119 N140q
  refine gs m T140 22 #[vR (a1), vR (lst_102), vR (it_119), sU] [(.int (1 : Int32))] (fun _ k => st140.trans k) ?_
  refine gs m T140 25 #[vR (a1), vR (lst_102), vR (it_119), sU] [] (fun _ k => XS.ifNo X140.here hx rfl (hb hby q73) rfl ((if0 _ _).trans (feq (by decide : ¬ ((1 : Int32) = (0 : Int32)))).1) k) ?_
  refine gs m T140 26 #[vR (a1), vR (lst_102), vR (it_119), sU] [(.ref it_119)] (fun _ k => XS.aloadN X140.here hx rfl (hb hby q78) rfl rfl k) ?_
  obtain ⟨cq141, kq141, q141a, q141b, q141c⟩ := isOf hZ eh140 P119_0
  obtain ⟨_, _, ⟨T141, L141, k141, n141⟩, -, X141, ⟨Lc141, hQ141, l141, y141, z141⟩, st141⟩ := X140.interfaceBack hx (xi := (⟨"java/util/Iterator", "next", "()Ljava/lang/Object;"⟩ : MethodName)) (y := (⟨"java/util/ImmutableCollections$ListItr", "next", "()Ljava/lang/Object;"⟩ : MethodName)) hown (mvT hZ (hwi hw 236 rfl)) (mvT hZ (hwi hw 237 rfl)) (mvT hZ (hwi hw 238 rfl)) (mvT hZ (hwi hw 239 rfl)) (mvT hZ (hwi hw 240 rfl)) (mvT hZ (hwi hw 241 rfl)) (mvT hZ (hwi hw 242 rfl)) (mvT hZ (hwi hw 118 rfl)) (by decide) (backOfWith (W := 0) (Q := fun v h L => (v = some (.ref x1)) ∧ (Fr n0 L) ∧ (Keep T119.heap h [it_119]) ∧ (Exa Z h it_119 "java/util/ImmutableCollections$ListItr") ∧ (Fld Z h it_119 "java/util/ImmutableCollections$ListItr" "list" "Ljava/util/List;" (.ref lst_102)) ∧ (Fld Z h it_119 "java/util/ImmutableCollections$ListItr" "size" "I" (.int (1 : Int32))) ∧ (Fld Z h it_119 "java/util/ImmutableCollections$ListItr" "cursor" "I" (.int (1 : Int32)))) (own_nx1_0 l Z a0 hw [] it_119 lst_102 x1 em T119.heap n0 Z119 P119_0 P119_1 P119_2 P119_3 ge125 F137 F138 F139 F136 ne124) hZ (hwi hw 243 rfl) (hwi hw 88 rfl) (by decide) (by decide)) q141a q141b q141c (g := (mkF m 26 #[vR (a1), vR (lst_102), vR (it_119), sU] [(.ref it_119)])) rfl (by rw [hml]; rfl) (Steps.refl _) (argsL := []) (rest := []) (lenOf own_pd17 rfl) rfl (by show 2 * 0 + _ ≤ _; exact Nat.le_of_eq rfl) (hb hby q79) (fun _ _ => ⟨rfl, eh140, (by decide : 3 + 0 ≤ _), (by decide : 7 + 0 ≤ _)⟩)
  dsimp only [Pt.U, Pt.locs, Pt.cells, Pt.slots] at X141 l141 y141 z141 st141 hQ141
  subst l141 y141 z141
  obtain ⟨rfl, N141q, K141, P141_0, P141_1, P141_2, P141_3⟩ := hQ141
  have N141 := Fr.app N140 N141q
  have KK141 := KK119.trans K141 (allS (Or.inr sz126) all0)
  have Z141 : n0 ≤ T141.heap.size := Nat.le_trans Z119 K141.1
  have F142 := F127.keep K141
  have F143 := F128.keep K141 (ninS ne120 nin0)
  have F144 := F129.keep K141
  have F145 := F130.keep K141 (ninS ne121 nin0)
  have F146 := F131.keep K141 (ninS ne121 nin0)
  have F147 := F132.keep K141
  have F148 := F133.keep K141 (ninS ne122 nin0)
  have F149 := F134.keep K141
  have F150 := F135.keep K141 (ninS ne123 nin0)
  have F151 := own_sta_keep F136 K141 (allS (own_plain P119_0) all0)
  have F152 := F137.keep K141
  have F153 := F138.keep K141 (ninS ne124 nin0)
  have F154 := F139.keep K141 (ninS ne124 nin0)
  have F155 := P119_0.keep K141
  refine gs m T141 31 #[vR (a1), vR (lst_102), vR (it_119), sU] [(.ref x1)] (fun _ k => st141.trans k) ?_
  obtain ⟨T156, X156, e156, st156⟩ := castY X141 hx hZ hown (hwi hw 245 rfl) rfl (Ins.self F149) (g := (mkF m 31 #[vR (a1), vR (lst_102), vR (it_119), sU] [(.ref x1)])) rfl rfl (hb hby q7a)
  refine gs m T156 34 #[vR (a1), vR (lst_102), vR (it_119), sU] [(.ref x1)] st156 ?_
  refine gs m T156 35 #[vR (a1), vR (lst_102), vR (it_119), vR (x1)] [] (fun _ k => XS.astoreN X156.here hx rfl (hb hby q7b) rfl rfl (l' := #[vR (a1), vR (lst_102), vR (it_119), vR (x1)]) rfl k) ?_
  refine gs m T156 36 #[vR (a1), vR (lst_102), vR (it_119), vR (x1)] [(.ref x1)] (fun _ k => XS.aloadN X156.here hx rfl (hb hby q7c) rfl rfl k) ?_
  obtain ⟨cq157, kq157, q157a, q157b, q157c⟩ := isOf hZ e156 F149
  obtain ⟨_, _, ⟨T157, L157, k157, n157⟩, -, X157, ⟨Lc157, hQ157, l157, y157, z157⟩, st157⟩ := X156.virtualBack hx (y := (⟨"java/time/Duration", "isNegative", "()Z"⟩ : MethodName)) (z := (⟨"java/time/Duration", "isNegative", "()Z"⟩ : MethodName)) hown (mvT hZ (hwi hw 246 rfl)) (mvT hZ (hwi hw 247 rfl)) (notFace_of_selects (args := #[]) (mvT hZ (hwi hw 249 rfl))) (mvT hZ (hwi hw 249 rfl)) (mvT hZ (hwi hw 248 rfl)) (by decide) (backOf (W := 0) (Q := Qret (some (.int (0 : Int32))) T141.heap n0) (own_neg l Z a0 hw [] x1 s1 T141.heap n0 Z141 F150 hs1) hZ (hwi hw 251 rfl) (hwi hw 250 rfl) (by decide) (by decide)) q157a q157c (g := (mkF m 36 #[vR (a1), vR (lst_102), vR (it_119), vR (x1)] [(.ref x1)])) rfl (by rw [hml]; rfl) (Steps.refl _) (argsL := []) (rest := []) (lenOf own_pd9 rfl) rfl (by show 2 * 0 + _ ≤ _; exact Nat.le_of_eq rfl) (hb hby q7d) (fun _ _ => ⟨rfl, e156, (by decide : 3 + 0 ≤ _), (by decide : 7 + 0 ≤ _)⟩)
  dsimp only [Pt.U, Pt.locs, Pt.cells, Pt.slots] at X157 l157 y157 z157 st157 hQ157
  subst l157 y157 z157
  obtain ⟨rfl, N157q, eh157⟩ := hQ157
  have N157 := Fr.app N141 N157q
  refine gs m T157 39 #[vR (a1), vR (lst_102), vR (it_119), vR (x1)] [(.int (0 : Int32))] (fun _ k => st157.trans k) ?_
  refine gs m T157 59 #[vR (a1), vR (lst_102), vR (it_119), vR (x1)] [] (fun _ k => XS.ifYes X157.here hx rfl (pc0 := 39) (pc' := 59) rfl (hb hby q7e) rfl ((if0 _ _).trans (teq (by decide : (0 : Int32) = (0 : Int32))).1) (by decide) (by decide) k) ?_
  refine gs m T157 16 #[vR (a1), vR (lst_102), vR (it_119), vR (x1)] [] (fun _ k => XS.goto X157.here hx rfl (pc0 := 59) (pc' := 16) rfl (hb hby q7f) (by decide) (by decide) k) ?_
  refine gs m T157 17 #[vR (a1), vR (lst_102), vR (it_119), vR (x1)] [(.ref it_119)] (fun _ k => XS.aloadN X157.here hx rfl (hb hby q71) rfl rfl k) ?_
  obtain ⟨cq158, kq158, q158a, q158b, q158c⟩ := isOf hZ eh157 P141_0
  obtain ⟨_, _, ⟨T158, L158, k158, n158⟩, -, X158, ⟨Lc158, hQ158, l158, y158, z158⟩, st158⟩ := X157.interfaceBack hx (xi := (⟨"java/util/Iterator", "hasNext", "()Z"⟩ : MethodName)) (y := (⟨"java/util/ImmutableCollections$ListItr", "hasNext", "()Z"⟩ : MethodName)) hown (mvT hZ (hwi hw 111 rfl)) (mvT hZ (hwi hw 112 rfl)) (mvT hZ (hwi hw 113 rfl)) (mvT hZ (hwi hw 114 rfl)) (mvT hZ (hwi hw 115 rfl)) (mvT hZ (hwi hw 116 rfl)) (mvT hZ (hwi hw 117 rfl)) (mvT hZ (hwi hw 118 rfl)) (by decide) (backOf (W := 0) (Q := Qret (some (.int (0 : Int32))) T141.heap n0) (own_hn1_1 l Z a0 hw [] it_119 lst_102 T141.heap n0 Z141 P141_0 P141_1 P141_2 P141_3) hZ (hwi hw 119 rfl) (hwi hw 88 rfl) (by decide) (by decide)) q158a q158b q158c (g := (mkF m 17 #[vR (a1), vR (lst_102), vR (it_119), vR (x1)] [(.ref it_119)])) rfl (by rw [hml]; rfl) (Steps.refl _) (argsL := []) (rest := []) (lenOf own_pd9 rfl) rfl (by show 2 * 0 + _ ≤ _; exact Nat.le_of_eq rfl) (hb hby q72) (fun _ _ => ⟨rfl, eh157, (by decide : 3 + 0 ≤ _), (by decide : 7 + 0 ≤ _)⟩)
  dsimp only [Pt.U, Pt.locs, Pt.cells, Pt.slots] at X158 l158 y158 z158 st158 hQ158
  subst l158 y158 z158
  obtain ⟨rfl, N158q, eh158⟩ := hQ158
  have N158 := Fr.app N157 N158q
  refine gs m T158 22 #[vR (a1), vR (lst_102), vR (it_119), vR (x1)] [(.int (0 : Int32))] (fun _ k => st158.trans k) ?_
  refine gs m T158 62 #[vR (a1), vR (lst_102), vR (it_119), vR (x1)] [] (fun _ k => XS.ifYes X158.here hx rfl (pc0 := 22) (pc' := 62) rfl (hb hby q73) rfl ((if0 _ _).trans (teq (by decide : (0 : Int32) = (0 : Int32))).1) (by decide) (by decide) k) ?_
  refine gs m T158 63 #[vR (a1), vR (lst_102), vR (it_119), vR (x1)] [(.ref a1)] (fun _ k => XS.aloadN X158.here hx rfl (hb hby q74) rfl rfl k) ?_
  refine gs m T158 64 #[vR (a1), vR (lst_102), vR (it_119), vR (x1)] [(.ref lst_102), (.ref a1)] (fun _ k => XS.aloadN X158.here hx rfl (hb hby q75) rfl rfl k) ?_
  obtain ⟨T159, h159, X159, e159, W159, st159⟩ := putF X158 hx hZ hown (host := "") (Or.inl (hwi hw 8 rfl)) Via.refl eh158 F143 F142 (Or.inr ⟨(hwi hw 9 rfl), rfl, hnm⟩) (hwi hw 37 rfl) (ty := (.object "java/util/List")) (by decide) rfl rfl (g := (mkF m 64 #[vR (a1), vR (lst_102), vR (it_119), vR (x1)] [(.ref lst_102), (.ref a1)])) rfl rfl (hb hby q76)
  have N159 := Fr.snoc X159 N158 f1
  have Z159 : n0 ≤ h159.size := Nat.le_trans Z141 (Keep.of_wr W159).1
  have K159 := KK141.wr W159 (Or.inl (List.mem_of_getElem? (i := 0) rfl))
  have F160 := F142.wr W159
  have F161 := F144.wr W159
  have F162 := F145.other W159 (Or.inl f11)
  have F163 := F146.other W159 (Or.inl f11)
  have F164 := F147.wr W159
  have F165 := F148.other W159 f12
  have F166 := F149.wr W159
  have F167 := F150.other W159 (Or.inl f13)
  have F168 := F151.wr W159
  have F169 := F152.wr W159
  have F170 := F153.other W159 (Or.inl (Ne.symm ne103))
  have F171 := F154.other W159 (Or.inl (Ne.symm ne103))
  have F172 := P141_0.wr W159
  have F173 := P141_1.other W159 (Or.inl (Ne.symm ne120))
  have F174 := P141_2.other W159 (Or.inl (Ne.symm ne120))
  have F175 := P141_3.other W159 (Or.inl (Ne.symm ne120))
  have F176 := F143.same W159
  refine gs m T159 67 #[vR (a1), vR (lst_102), vR (it_119), vR (x1)] [] st159 ?_
  exact Go.retV X159 hx hret hlk (hb hby q77) (by rw [e159]; exact ⟨lst_102, rfl, N159, K159, sz108, F160, F176, F169, F170, F171⟩) (by decide) (by decide)
theorem own_rsi2 (l : Launch) (Z : State) (a0 : Array Value) (hw : ∀ d ∈ tables_1, d.before a0 Z = true) (ws : List Jvm.Cond) (a1 : Addr) (al : Addr) (u0 : Value) (b1 : Addr) (k1 : ClassId) (x1 : Addr) (x2 : Addr) (s1 : Int64) (s2 : Int64) (em : Addr) (h0 : Heap) (n0 : Nat) (Z0 : n0 ≤ h0.size) (f0 : Exa Z h0 a1 "com/example/nuthatch/nuthatch/RetrySchedule") (f1 : n0 ≤ a1) (f2 : Fld Z h0 a1 "com/example/nuthatch/nuthatch/RetrySchedule" "delays" "Ljava/util/List;" u0) (f3 : Exa Z h0 al "java/util/ArrayList") (f4 : Fld Z h0 al "java/util/ArrayList" "elementData" "[Ljava/lang/Object;" (.ref b1)) (f5 : Fld Z h0 al "java/util/ArrayList" "size" "I" (.int (2 : Int32))) (f6 : Exa Z h0 b1 "[Ljava/lang/Object;") (f7 : Arv Z h0 b1 k1 (.object "java/lang/Object") (10 : Int32) [(.ref x1), (.ref x2), .null, .null, .null, .null, .null, .null, .null, .null] .null) (f8 : Exa Z h0 x1 "java/time/Duration") (f9 : Fld Z h0 x1 "java/time/Duration" "seconds" "J" (.long s1)) (f10 : Exa Z h0 x2 "java/time/Duration") (f11 : Fld Z h0 x2 "java/time/Duration" "seconds" "J" (.long s2)) (f12 : al ≠ a1) (f13 : b1 ≠ a1) (f14 : x1 ≠ a1) (f15 : x2 ≠ a1) (f16 : Sta Z h0 "java/util/ImmutableCollections" "EMPTY" "Ljava/lang/Object;" (.ref em)) (f17 : x2 ≠ em) (ov1 : Ovr Z k1 "java/lang/Object") (MM : MirrorMade Z "[Ljava/lang/Object;") (hs1 : ¬ lcmpW s1 (0 : Int64) < (0 : Int32)) (hs2 : ¬ lcmpW s2 (0 : Int64) < (0 : Int32)) :
    Con l Z (⟨"com/example/nuthatch/nuthatch/RetrySchedule", "<init>", "(Ljava/util/List;)V"⟩ : MethodName) prog_7_method_1_code 4 none ({ frames := 8, cells := 3, slots := 8, locals := 114 } : Room) ws #[(.ref a1), (.ref al)] h0 (fun v h L => ∃ lst : Addr, (v = none) ∧ (Fr n0 L) ∧ (Keep h0 h [a1]) ∧ (h0.size ≤ lst) ∧ (Exa Z h a1 "com/example/nuthatch/nuthatch/RetrySchedule") ∧ (Fld Z h a1 "com/example/nuthatch/nuthatch/RetrySchedule" "delays" "Ljava/util/List;" (.ref lst)) ∧ (Exa Z h lst "java/util/ImmutableCollections$List12") ∧ (Fld Z h lst "java/util/ImmutableCollections$List12" "e0" "Ljava/lang/Object;" (.ref x1)) ∧ (Fld Z h lst "java/util/ImmutableCollections$List12" "e1" "Ljava/lang/Object;" (.ref x2))) 3 8 := by
  refine Con.of (plainFor_of_name own_pn_RetrySchedule) ?_
  intro pgm e s m below meth c s₁ X0 hx hZ hby hml hown hnm hret hlk e0 hs0
  have N0 := Fr.nil n0
  have hown : s.vm.findClass "com/example/nuthatch/nuthatch/RetrySchedule" = some m.cls := hown
  have hnm : meth.name = "<init>" := hnm
  refine Go.cast (own_ef_prog_7_method_1_code_RR m a1 al) ?_
  have K0 := Keep.refl h0 [a1]
  refine gs m s₁ 1 #[vR (a1), vR (al), sU, sU] [(.ref a1)] (fun _ k => XS.aloadN X0.here hx rfl (hb hby q6t) rfl rfl k) ?_
  obtain ⟨_, _, ⟨T101, L101, k101, n101⟩, -, X101, ⟨Lc101, hQ101, l101, y101, z101⟩, st101⟩ := X0.specialBack hx (y := (⟨"java/lang/Record", "<init>", "()V"⟩ : MethodName)) rfl hown (mvT hZ (hwi hw 41 rfl)) (mvT hZ (hwi hw 42 rfl)) (mvT hZ (hwi hw 45 rfl)) (by decide) (backOf (W := 0) (Q := Qret (none) h0 n0) (own_rec l Z a0 hw [] a1 h0 n0 Z0 ) hZ (hwi hw 45 rfl) (hwi hw 44 rfl) (by decide) (by decide)) (g := (mkF m 1 #[vR (a1), vR (al), sU, sU] [(.ref a1)])) rfl (by rw [hml]; rfl) (Steps.refl _) (a := a1) (argsL := []) (rest := []) (lenOf own_pd0 rfl) rfl (by show 2 * 0 + _ ≤ _; exact Nat.le_of_eq rfl) (hb hby q6u) (fun _ _ => ⟨rfl, e0, (by decide : 0 + 0 ≤ _), (by decide : 0 + 0 ≤ _)⟩)
  dsimp only [Pt.U, Pt.locs, Pt.cells, Pt.slots] at X101 l101 y101 z101 st101 hQ101
  subst l101 y101 z101
  obtain ⟨rfl, N101q, eh101⟩ := hQ101
  have N101 := Fr.app N0 N101q
  refine gs m T101 4 #[vR (a1), vR (al), sU, sU] [] (fun _ k => st101.trans k) ?_
  refine gs m T101 5 #[vR (a1), vR (al), sU, sU] [(.ref al)] (fun _ k => XS.aloadN X101.here hx rfl (hb hby q6v) rfl rfl k) ?_
  obtain ⟨_, _, ⟨T102, L102, k102, n102⟩, -, X102, ⟨Lc102, hQ102, l102, y102, z102⟩, st102⟩ := Jvm.LawKit.callS X101 hx (y := (⟨"java/util/List", "copyOf", "(Ljava/util/Collection;)Ljava/util/List;"⟩ : MethodName)) hown (mvT hZ (hwi hw 47 rfl)) (mvT hZ (hwi hw 48 rfl)) (mvT hZ (hwi hw 49 rfl)) (mvT hZ (hwi hw 50 rfl)) (by decide) (backOf (W := 0) (Q := fun v h L => ∃ lst : Addr, (v = some (.ref lst)) ∧ (Fr n0 L) ∧ (Keep h0 h []) ∧ (h0.size ≤ lst) ∧ (Exa Z h lst "java/util/ImmutableCollections$List12") ∧ (Fld Z h lst "java/util/ImmutableCollections$List12" "e0" "Ljava/lang/Object;" (.ref x1)) ∧ (Fld Z h lst "java/util/ImmutableCollections$List12" "e1" "Ljava/lang/Object;" (.ref x2))) (own_cof2 l Z a0 hw [] al b1 k1 x1 x2 s1 s2 h0 n0 Z0 f3 f4 f5 f6 f7 f8 f9 f10 f11 ov1 MM) hZ (hwi hw 50 rfl) (hwi hw 49 rfl) (by decide) (by decide)) (g := (mkF m 5 #[vR (a1), vR (al), sU, sU] [(.ref al)])) rfl (by rw [hml]; rfl) (argsL := [(.ref al)]) (rest := []) (lenOf own_pd11 rfl) rfl (by show 2 * 0 + _ ≤ _; exact Nat.le_of_eq rfl) (hb hby q6w) (fun _ _ => ⟨rfl, eh101, (by decide : 0 + 2 ≤ _), (by decide : 0 + 4 ≤ _)⟩)
  dsimp only [Pt.U, Pt.locs, Pt.cells, Pt.slots] at X102 l102 y102 z102 st102 hQ102
  subst l102 y102 z102
  obtain ⟨lst_102, rfl, N102q, K102, lt102_0, P102_0, P102_1, P102_2⟩ := hQ102
  have N102 := Fr.app N101 N102q
  have ne103 : a1 ≠ lst_102 := Nat.ne_of_lt (Nat.lt_of_lt_of_le f0.lt lt102_0)
  have ne104 : al ≠ lst_102 := Nat.ne_of_lt (Nat.lt_of_lt_of_le f3.lt lt102_0)
  have ne105 : b1 ≠ lst_102 := Nat.ne_of_lt (Nat.lt_of_lt_of_le f6.lt lt102_0)
  have ne106 : x1 ≠ lst_102 := Nat.ne_of_lt (Nat.lt_of_lt_of_le f8.lt lt102_0)
  have ne107 : x2 ≠ lst_102 := Nat.ne_of_lt (Nat.lt_of_lt_of_le f10.lt lt102_0)
  have ge108 : n0 ≤ lst_102 := Nat.le_trans Z0 lt102_0
  have sz109 : h0.size ≤ lst_102 := Nat.le_trans K0.1 lt102_0
  have KK102 := K0.trans K102 all0
  have Z102 : n0 ≤ T102.heap.size := Nat.le_trans Z0 K102.1
  have F110 := f0.keep K102
  have F111 := f2.keep K102 nin0
  have F112 := f3.keep K102
  have F113 := f4.keep K102 nin0
  have F114 := f5.keep K102 nin0
  have F115 := f6.keep K102
  have F116 := f7.keep K102 nin0
  have F117 := f8.keep K102
  have F118 := f9.keep K102 nin0
  have F119 := f10.keep K102
  have F120 := f11.keep K102 nin0
  have F121 := own_sta_keep f16 K102 all0
  refine gs m T102 8 #[vR (a1), vR (al), sU, sU] [(.ref lst_102)] (st102) ?_
  refine gs m T102 9 #[vR (a1), vR (lst_102), sU, sU] [] (fun _ k => XS.astoreN X102.here hx rfl (hb hby q6x) rfl rfl (l' := #[vR (a1), vR (lst_102), sU, sU]) rfl k) ?_
  refine gs m T102 10 #[vR (a1), vR (lst_102), sU, sU] [(.ref lst_102)] (fun _ k => XS.aloadN X102.here hx rfl (hb hby q6y) rfl rfl k) ?_
  obtain ⟨cq122, kq122, q122a, q122b, q122c⟩ := isOf hZ rfl P102_0
  obtain ⟨_, _, ⟨T122, L122, k122, n122⟩, -, X122, ⟨Lc122, hQ122, l122, y122, z122⟩, st122⟩ := X102.interfaceBack hx (xi := (⟨"java/util/List", "iterator", "()Ljava/util/Iterator;"⟩ : MethodName)) (y := (⟨"java/util/ImmutableCollections$AbstractImmutableList", "iterator", "()Ljava/util/Iterator;"⟩ : MethodName)) hown (mvT hZ (hwi hw 76 rfl)) (mvT hZ (hwi hw 77 rfl)) (mvT hZ (hwi hw 78 rfl)) (mvT hZ (hwi hw 270 rfl)) (mvT hZ (hwi hw 80 rfl)) (mvT hZ (hwi hw 81 rfl)) (mvT hZ (hwi hw 271 rfl)) (mvT hZ (hwi hw 272 rfl)) (by decide) (backOf (W := 0) (Q := fun v h L => ∃ it : Addr, (v = some (.ref it)) ∧ (Fr n0 L) ∧ (Keep T102.heap h []) ∧ (T102.heap.size ≤ it) ∧ (Exa Z h it "java/util/ImmutableCollections$ListItr") ∧ (Fld Z h it "java/util/ImmutableCollections$ListItr" "list" "Ljava/util/List;" (.ref lst_102)) ∧ (Fld Z h it "java/util/ImmutableCollections$ListItr" "size" "I" (.int (2 : Int32))) ∧ (Fld Z h it "java/util/ImmutableCollections$ListItr" "cursor" "I" (.int (0 : Int32)))) (own_itr2 l Z a0 hw [] lst_102 x1 x2 em T102.heap n0 Z102 P102_0 P102_1 P102_2 F121 f17) hZ (hwi hw 85 rfl) (hwi hw 84 rfl) (by decide) (by decide)) q122a q122b q122c (g := (mkF m 10 #[vR (a1), vR (lst_102), sU, sU] [(.ref lst_102)])) rfl (by rw [hml]; rfl) (Steps.refl _) (argsL := []) (rest := []) (lenOf own_pd16 rfl) rfl (by show 2 * 0 + _ ≤ _; exact Nat.le_of_eq rfl) (hb hby q6z) (fun _ _ => ⟨rfl, rfl, (by decide : 2 + 1 ≤ _), (by decide : 4 + 4 ≤ _)⟩)
  dsimp only [Pt.U, Pt.locs, Pt.cells, Pt.slots] at X122 l122 y122 z122 st122 hQ122
  subst l122 y122 z122
  obtain ⟨it_122, rfl, N122q, K122, lt122_0, P122_0, P122_1, P122_2, P122_3⟩ := hQ122
  have N122 := Fr.app N102 N122q
  have ne123 : a1 ≠ it_122 := Nat.ne_of_lt (Nat.lt_of_lt_of_le F110.lt lt122_0)
  have ne124 : al ≠ it_122 := Nat.ne_of_lt (Nat.lt_of_lt_of_le F112.lt lt122_0)
  have ne125 : b1 ≠ it_122 := Nat.ne_of_lt (Nat.lt_of_lt_of_le F115.lt lt122_0)
  have ne126 : x1 ≠ it_122 := Nat.ne_of_lt (Nat.lt_of_lt_of_le F117.lt lt122_0)
  have ne127 : x2 ≠ it_122 := Nat.ne_of_lt (Nat.lt_of_lt_of_le F119.lt lt122_0)
  have ne128 : lst_102 ≠ it_122 := Nat.ne_of_lt (Nat.lt_of_lt_of_le P102_0.lt lt122_0)
  have ge129 : n0 ≤ it_122 := Nat.le_trans Z102 lt122_0
  have sz130 : h0.size ≤ it_122 := Nat.le_trans KK102.1 lt122_0
  have KK122 := KK102.trans K122 all0
  have Z122 : n0 ≤ T122.heap.size := Nat.le_trans Z102 K122.1
  have F131 := F110.keep K122
  have F132 := F111.keep K122 nin0
  have F133 := F112.keep K122
  have F134 := F113.keep K122 nin0
  have F135 := F114.keep K122 nin0
  have F136 := F115.keep K122
  have F137 := F116.keep K122 nin0
  have F138 := F117.keep K122
  have F139 := F118.keep K122 nin0
  have F140 := F119.keep K122
  have F141 := F120.keep K122 nin0
  have F142 := own_sta_keep F121 K122 all0
  have F143 := P102_0.keep K122
  have F144 := P102_1.keep K122 nin0
  have F145 := P102_2.keep K122 nin0
  refine gs m T122 15 #[vR (a1), vR (lst_102), sU, sU] [(.ref it_122)] (fun _ k => st122.trans k) ?_
  refine gs m T122 16 #[vR (a1), vR (lst_102), vR (it_122), sU] [] (fun _ k => XS.astoreN X122.here hx rfl (hb hby q70) rfl rfl (l' := #[vR (a1), vR (lst_102), vR (it_122), sU]) rfl k) ?_
  refine gs m T122 17 #[vR (a1), vR (lst_102), vR (it_122), sU] [(.ref it_122)] (fun _ k => XS.aloadN X122.here hx rfl (hb hby q71) rfl rfl k) ?_
  obtain ⟨cq146, kq146, q146a, q146b, q146c⟩ := isOf hZ rfl P122_0
  obtain ⟨_, _, ⟨T146, L146, k146, n146⟩, -, X146, ⟨Lc146, hQ146, l146, y146, z146⟩, st146⟩ := X122.interfaceBack hx (xi := (⟨"java/util/Iterator", "hasNext", "()Z"⟩ : MethodName)) (y := (⟨"java/util/ImmutableCollections$ListItr", "hasNext", "()Z"⟩ : MethodName)) hown (mvT hZ (hwi hw 111 rfl)) (mvT hZ (hwi hw 112 rfl)) (mvT hZ (hwi hw 113 rfl)) (mvT hZ (hwi hw 114 rfl)) (mvT hZ (hwi hw 115 rfl)) (mvT hZ (hwi hw 116 rfl)) (mvT hZ (hwi hw 117 rfl)) (mvT hZ (hwi hw 118 rfl)) (by decide) (backOf (W := 0) (Q := Qret (some (.int (1 : Int32))) T122.heap n0) (own_hn2_0 l Z a0 hw [] it_122 lst_102 T122.heap n0 Z122 P122_0 P122_1 P122_2 P122_3) hZ (hwi hw 119 rfl) (hwi hw 88 rfl) (by decide) (by decide)) q146a q146b q146c (g := (mkF m 17 #[vR (a1), vR (lst_102), vR (it_122), sU] [(.ref it_122)])) rfl (by rw [hml]; rfl) (Steps.refl _) (argsL := []) (rest := []) (lenOf own_pd9 rfl) rfl (by show 2 * 0 + _ ≤ _; exact Nat.le_of_eq rfl) (hb hby q72) (fun _ _ => ⟨rfl, rfl, (by decide : 3 + 0 ≤ _), (by decide : 8 + 0 ≤ _)⟩)
  dsimp only [Pt.U, Pt.locs, Pt.cells, Pt.slots] at X146 l146 y146 z146 st146 hQ146
  subst l146 y146 z146
  obtain ⟨rfl, N146q, eh146⟩ := hQ146
  have N146 := Fr.app N122 N146q
  refine gs m T146 22 #[vR (a1), vR (lst_102), vR (it_122), sU] [(.int (1 : Int32))] (fun _ k => st146.trans k) ?_
  refine gs m T146 25 #[vR (a1), vR (lst_102), vR (it_122), sU] [] (fun _ k => XS.ifNo X146.here hx rfl (hb hby q73) rfl ((if0 _ _).trans (feq (by decide : ¬ ((1 : Int32) = (0 : Int32)))).1) k) ?_
  refine gs m T146 26 #[vR (a1), vR (lst_102), vR (it_122), sU] [(.ref it_122)] (fun _ k => XS.aloadN X146.here hx rfl (hb hby q78) rfl rfl k) ?_
  obtain ⟨cq147, kq147, q147a, q147b, q147c⟩ := isOf hZ eh146 P122_0
  obtain ⟨_, _, ⟨T147, L147, k147, n147⟩, -, X147, ⟨Lc147, hQ147, l147, y147, z147⟩, st147⟩ := X146.interfaceBack hx (xi := (⟨"java/util/Iterator", "next", "()Ljava/lang/Object;"⟩ : MethodName)) (y := (⟨"java/util/ImmutableCollections$ListItr", "next", "()Ljava/lang/Object;"⟩ : MethodName)) hown (mvT hZ (hwi hw 236 rfl)) (mvT hZ (hwi hw 237 rfl)) (mvT hZ (hwi hw 238 rfl)) (mvT hZ (hwi hw 239 rfl)) (mvT hZ (hwi hw 240 rfl)) (mvT hZ (hwi hw 241 rfl)) (mvT hZ (hwi hw 242 rfl)) (mvT hZ (hwi hw 118 rfl)) (by decide) (backOfWith (W := 0) (Q := fun v h L => (v = some (.ref x1)) ∧ (Fr n0 L) ∧ (Keep T122.heap h [it_122]) ∧ (Exa Z h it_122 "java/util/ImmutableCollections$ListItr") ∧ (Fld Z h it_122 "java/util/ImmutableCollections$ListItr" "list" "Ljava/util/List;" (.ref lst_102)) ∧ (Fld Z h it_122 "java/util/ImmutableCollections$ListItr" "size" "I" (.int (2 : Int32))) ∧ (Fld Z h it_122 "java/util/ImmutableCollections$ListItr" "cursor" "I" (.int (1 : Int32)))) (own_nx2_0 l Z a0 hw [] it_122 lst_102 x1 x2 em T122.heap n0 Z122 P122_0 P122_1 P122_2 P122_3 ge129 F143 F144 F145 F142 f17 ne128) hZ (hwi hw 243 rfl) (hwi hw 88 rfl) (by decide) (by decide)) q147a q147b q147c (g := (mkF m 26 #[vR (a1), vR (lst_102), vR (it_122), sU] [(.ref it_122)])) rfl (by rw [hml]; rfl) (Steps.refl _) (argsL := []) (rest := []) (lenOf own_pd17 rfl) rfl (by show 2 * 0 + _ ≤ _; exact Nat.le_of_eq rfl) (hb hby q79) (fun _ _ => ⟨rfl, eh146, (by decide : 3 + 0 ≤ _), (by decide : 8 + 0 ≤ _)⟩)
  dsimp only [Pt.U, Pt.locs, Pt.cells, Pt.slots] at X147 l147 y147 z147 st147 hQ147
  subst l147 y147 z147
  obtain ⟨rfl, N147q, K147, P147_0, P147_1, P147_2, P147_3⟩ := hQ147
  have N147 := Fr.app N146 N147q
  have KK147 := KK122.trans K147 (allS (Or.inr sz130) all0)
  have Z147 : n0 ≤ T147.heap.size := Nat.le_trans Z122 K147.1
  have F148 := F131.keep K147
  have F149 := F132.keep K147 (ninS ne123 nin0)
  have F150 := F133.keep K147
  have F151 := F134.keep K147 (ninS ne124 nin0)
  have F152 := F135.keep K147 (ninS ne124 nin0)
  have F153 := F136.keep K147
  have F154 := F137.keep K147 (ninS ne125 nin0)
  have F155 := F138.keep K147
  have F156 := F139.keep K147 (ninS ne126 nin0)
  have F157 := F140.keep K147
  have F158 := F141.keep K147 (ninS ne127 nin0)
  have F159 := own_sta_keep F142 K147 (allS (own_plain P122_0) all0)
  have F160 := F143.keep K147
  have F161 := F144.keep K147 (ninS ne128 nin0)
  have F162 := F145.keep K147 (ninS ne128 nin0)
  have F163 := P122_0.keep K147
  refine gs m T147 31 #[vR (a1), vR (lst_102), vR (it_122), sU] [(.ref x1)] (fun _ k => st147.trans k) ?_
  obtain ⟨T164, X164, e164, st164⟩ := castY X147 hx hZ hown (hwi hw 245 rfl) rfl (Ins.self F155) (g := (mkF m 31 #[vR (a1), vR (lst_102), vR (it_122), sU] [(.ref x1)])) rfl rfl (hb hby q7a)
  refine gs m T164 34 #[vR (a1), vR (lst_102), vR (it_122), sU] [(.ref x1)] st164 ?_
  refine gs m T164 35 #[vR (a1), vR (lst_102), vR (it_122), vR (x1)] [] (fun _ k => XS.astoreN X164.here hx rfl (hb hby q7b) rfl rfl (l' := #[vR (a1), vR (lst_102), vR (it_122), vR (x1)]) rfl k) ?_
  refine gs m T164 36 #[vR (a1), vR (lst_102), vR (it_122), vR (x1)] [(.ref x1)] (fun _ k => XS.aloadN X164.here hx rfl (hb hby q7c) rfl rfl k) ?_
  obtain ⟨cq165, kq165, q165a, q165b, q165c⟩ := isOf hZ e164 F155
  obtain ⟨_, _, ⟨T165, L165, k165, n165⟩, -, X165, ⟨Lc165, hQ165, l165, y165, z165⟩, st165⟩ := X164.virtualBack hx (y := (⟨"java/time/Duration", "isNegative", "()Z"⟩ : MethodName)) (z := (⟨"java/time/Duration", "isNegative", "()Z"⟩ : MethodName)) hown (mvT hZ (hwi hw 246 rfl)) (mvT hZ (hwi hw 247 rfl)) (notFace_of_selects (args := #[]) (mvT hZ (hwi hw 249 rfl))) (mvT hZ (hwi hw 249 rfl)) (mvT hZ (hwi hw 248 rfl)) (by decide) (backOf (W := 0) (Q := Qret (some (.int (0 : Int32))) T147.heap n0) (own_neg l Z a0 hw [] x1 s1 T147.heap n0 Z147 F156 hs1) hZ (hwi hw 251 rfl) (hwi hw 250 rfl) (by decide) (by decide)) q165a q165c (g := (mkF m 36 #[vR (a1), vR (lst_102), vR (it_122), vR (x1)] [(.ref x1)])) rfl (by rw [hml]; rfl) (Steps.refl _) (argsL := []) (rest := []) (lenOf own_pd9 rfl) rfl (by show 2 * 0 + _ ≤ _; exact Nat.le_of_eq rfl) (hb hby q7d) (fun _ _ => ⟨rfl, e164, (by decide : 3 + 0 ≤ _), (by decide : 8 + 0 ≤ _)⟩)
  dsimp only [Pt.U, Pt.locs, Pt.cells, Pt.slots] at X165 l165 y165 z165 st165 hQ165
  subst l165 y165 z165
  obtain ⟨rfl, N165q, eh165⟩ := hQ165
  have N165 := Fr.app N147 N165q
  refine gs m T165 39 #[vR (a1), vR (lst_102), vR (it_122), vR (x1)] [(.int (0 : Int32))] (fun _ k => st165.trans k) ?_
  refine gs m T165 59 #[vR (a1), vR (lst_102), vR (it_122), vR (x1)] [] (fun _ k => XS.ifYes X165.here hx rfl (pc0 := 39) (pc' := 59) rfl (hb hby q7e) rfl ((if0 _ _).trans (teq (by decide : (0 : Int32) = (0 : Int32))).1) (by decide) (by decide) k) ?_
  refine gs m T165 16 #[vR (a1), vR (lst_102), vR (it_122), vR (x1)] [] (fun _ k => XS.goto X165.here hx rfl (pc0 := 59) (pc' := 16) rfl (hb hby q7f) (by decide) (by decide) k) ?_
  refine gs m T165 17 #[vR (a1), vR (lst_102), vR (it_122), vR (x1)] [(.ref it_122)] (fun _ k => XS.aloadN X165.here hx rfl (hb hby q71) rfl rfl k) ?_
  obtain ⟨cq166, kq166, q166a, q166b, q166c⟩ := isOf hZ eh165 P147_0
  obtain ⟨_, _, ⟨T166, L166, k166, n166⟩, -, X166, ⟨Lc166, hQ166, l166, y166, z166⟩, st166⟩ := X165.interfaceBack hx (xi := (⟨"java/util/Iterator", "hasNext", "()Z"⟩ : MethodName)) (y := (⟨"java/util/ImmutableCollections$ListItr", "hasNext", "()Z"⟩ : MethodName)) hown (mvT hZ (hwi hw 111 rfl)) (mvT hZ (hwi hw 112 rfl)) (mvT hZ (hwi hw 113 rfl)) (mvT hZ (hwi hw 114 rfl)) (mvT hZ (hwi hw 115 rfl)) (mvT hZ (hwi hw 116 rfl)) (mvT hZ (hwi hw 117 rfl)) (mvT hZ (hwi hw 118 rfl)) (by decide) (backOf (W := 0) (Q := Qret (some (.int (1 : Int32))) T147.heap n0) (own_hn2_1 l Z a0 hw [] it_122 lst_102 T147.heap n0 Z147 P147_0 P147_1 P147_2 P147_3) hZ (hwi hw 119 rfl) (hwi hw 88 rfl) (by decide) (by decide)) q166a q166b q166c (g := (mkF m 17 #[vR (a1), vR (lst_102), vR (it_122), vR (x1)] [(.ref it_122)])) rfl (by rw [hml]; rfl) (Steps.refl _) (argsL := []) (rest := []) (lenOf own_pd9 rfl) rfl (by show 2 * 0 + _ ≤ _; exact Nat.le_of_eq rfl) (hb hby q72) (fun _ _ => ⟨rfl, eh165, (by decide : 3 + 0 ≤ _), (by decide : 8 + 0 ≤ _)⟩)
  dsimp only [Pt.U, Pt.locs, Pt.cells, Pt.slots] at X166 l166 y166 z166 st166 hQ166
  subst l166 y166 z166
  obtain ⟨rfl, N166q, eh166⟩ := hQ166
  have N166 := Fr.app N165 N166q
  refine gs m T166 22 #[vR (a1), vR (lst_102), vR (it_122), vR (x1)] [(.int (1 : Int32))] (fun _ k => st166.trans k) ?_
  refine gs m T166 25 #[vR (a1), vR (lst_102), vR (it_122), vR (x1)] [] (fun _ k => XS.ifNo X166.here hx rfl (hb hby q73) rfl ((if0 _ _).trans (feq (by decide : ¬ ((1 : Int32) = (0 : Int32)))).1) k) ?_
  refine gs m T166 26 #[vR (a1), vR (lst_102), vR (it_122), vR (x1)] [(.ref it_122)] (fun _ k => XS.aloadN X166.here hx rfl (hb hby q78) rfl rfl k) ?_
  obtain ⟨cq167, kq167, q167a, q167b, q167c⟩ := isOf hZ eh166 P147_0
  obtain ⟨_, _, ⟨T167, L167, k167, n167⟩, -, X167, ⟨Lc167, hQ167, l167, y167, z167⟩, st167⟩ := X166.interfaceBack hx (xi := (⟨"java/util/Iterator", "next", "()Ljava/lang/Object;"⟩ : MethodName)) (y := (⟨"java/util/ImmutableCollections$ListItr", "next", "()Ljava/lang/Object;"⟩ : MethodName)) hown (mvT hZ (hwi hw 236 rfl)) (mvT hZ (hwi hw 237 rfl)) (mvT hZ (hwi hw 238 rfl)) (mvT hZ (hwi hw 239 rfl)) (mvT hZ (hwi hw 240 rfl)) (mvT hZ (hwi hw 241 rfl)) (mvT hZ (hwi hw 242 rfl)) (mvT hZ (hwi hw 118 rfl)) (by decide) (backOfWith (W := 0) (Q := fun v h L => (v = some (.ref x2)) ∧ (Fr n0 L) ∧ (Keep T147.heap h [it_122]) ∧ (Exa Z h it_122 "java/util/ImmutableCollections$ListItr") ∧ (Fld Z h it_122 "java/util/ImmutableCollections$ListItr" "list" "Ljava/util/List;" (.ref lst_102)) ∧ (Fld Z h it_122 "java/util/ImmutableCollections$ListItr" "size" "I" (.int (2 : Int32))) ∧ (Fld Z h it_122 "java/util/ImmutableCollections$ListItr" "cursor" "I" (.int (2 : Int32)))) (own_nx2_1 l Z a0 hw [] it_122 lst_102 x1 x2 em T147.heap n0 Z147 P147_0 P147_1 P147_2 P147_3 ge129 F160 F161 F162 F159 f17 ne128) hZ (hwi hw 243 rfl) (hwi hw 88 rfl) (by decide) (by decide)) q167a q167b q167c (g := (mkF m 26 #[vR (a1), vR (lst_102), vR (it_122), vR (x1)] [(.ref it_122)])) rfl (by rw [hml]; rfl) (Steps.refl _) (argsL := []) (rest := []) (lenOf own_pd17 rfl) rfl (by show 2 * 0 + _ ≤ _; exact Nat.le_of_eq rfl) (hb hby q79) (fun _ _ => ⟨rfl, eh166, (by decide : 3 + 0 ≤ _), (by decide : 8 + 0 ≤ _)⟩)
  dsimp only [Pt.U, Pt.locs, Pt.cells, Pt.slots] at X167 l167 y167 z167 st167 hQ167
  subst l167 y167 z167
  obtain ⟨rfl, N167q, K167, P167_0, P167_1, P167_2, P167_3⟩ := hQ167
  have N167 := Fr.app N166 N167q
  have KK167 := KK147.trans K167 (allS (Or.inr sz130) all0)
  have Z167 : n0 ≤ T167.heap.size := Nat.le_trans Z147 K167.1
  have F168 := F148.keep K167
  have F169 := F149.keep K167 (ninS ne123 nin0)
  have F170 := F150.keep K167
  have F171 := F151.keep K167 (ninS ne124 nin0)
  have F172 := F152.keep K167 (ninS ne124 nin0)
  have F173 := F153.keep K167
  have F174 := F154.keep K167 (ninS ne125 nin0)
  have F175 := F155.keep K167
  have F176 := F156.keep K167 (ninS ne126 nin0)
  have F177 := F157.keep K167
  have F178 := F158.keep K167 (ninS ne127 nin0)
  have F179 := own_sta_keep F159 K167 (allS (own_plain P147_0) all0)
  have F180 := F160.keep K167
  have F181 := F161.keep K167 (ninS ne128 nin0)
  have F182 := F162.keep K167 (ninS ne128 nin0)
  have F183 := P147_0.keep K167
  refine gs m T167 31 #[vR (a1), vR (lst_102), vR (it_122), vR (x1)] [(.ref x2)] (fun _ k => st167.trans k) ?_
  obtain ⟨T184, X184, e184, st184⟩ := castY X167 hx hZ hown (hwi hw 245 rfl) rfl (Ins.self F177) (g := (mkF m 31 #[vR (a1), vR (lst_102), vR (it_122), vR (x1)] [(.ref x2)])) rfl rfl (hb hby q7a)
  refine gs m T184 34 #[vR (a1), vR (lst_102), vR (it_122), vR (x1)] [(.ref x2)] st184 ?_
  refine gs m T184 35 #[vR (a1), vR (lst_102), vR (it_122), vR (x2)] [] (fun _ k => XS.astoreN X184.here hx rfl (hb hby q7b) rfl rfl (l' := #[vR (a1), vR (lst_102), vR (it_122), vR (x2)]) rfl k) ?_
  refine gs m T184 36 #[vR (a1), vR (lst_102), vR (it_122), vR (x2)] [(.ref x2)] (fun _ k => XS.aloadN X184.here hx rfl (hb hby q7c) rfl rfl k) ?_
  obtain ⟨cq185, kq185, q185a, q185b, q185c⟩ := isOf hZ e184 F177
  obtain ⟨_, _, ⟨T185, L185, k185, n185⟩, -, X185, ⟨Lc185, hQ185, l185, y185, z185⟩, st185⟩ := X184.virtualBack hx (y := (⟨"java/time/Duration", "isNegative", "()Z"⟩ : MethodName)) (z := (⟨"java/time/Duration", "isNegative", "()Z"⟩ : MethodName)) hown (mvT hZ (hwi hw 246 rfl)) (mvT hZ (hwi hw 247 rfl)) (notFace_of_selects (args := #[]) (mvT hZ (hwi hw 249 rfl))) (mvT hZ (hwi hw 249 rfl)) (mvT hZ (hwi hw 248 rfl)) (by decide) (backOf (W := 0) (Q := Qret (some (.int (0 : Int32))) T167.heap n0) (own_neg l Z a0 hw [] x2 s2 T167.heap n0 Z167 F178 hs2) hZ (hwi hw 251 rfl) (hwi hw 250 rfl) (by decide) (by decide)) q185a q185c (g := (mkF m 36 #[vR (a1), vR (lst_102), vR (it_122), vR (x2)] [(.ref x2)])) rfl (by rw [hml]; rfl) (Steps.refl _) (argsL := []) (rest := []) (lenOf own_pd9 rfl) rfl (by show 2 * 0 + _ ≤ _; exact Nat.le_of_eq rfl) (hb hby q7d) (fun _ _ => ⟨rfl, e184, (by decide : 3 + 0 ≤ _), (by decide : 8 + 0 ≤ _)⟩)
  dsimp only [Pt.U, Pt.locs, Pt.cells, Pt.slots] at X185 l185 y185 z185 st185 hQ185
  subst l185 y185 z185
  obtain ⟨rfl, N185q, eh185⟩ := hQ185
  have N185 := Fr.app N167 N185q
  refine gs m T185 39 #[vR (a1), vR (lst_102), vR (it_122), vR (x2)] [(.int (0 : Int32))] (fun _ k => st185.trans k) ?_
  refine gs m T185 59 #[vR (a1), vR (lst_102), vR (it_122), vR (x2)] [] (fun _ k => XS.ifYes X185.here hx rfl (pc0 := 39) (pc' := 59) rfl (hb hby q7e) rfl ((if0 _ _).trans (teq (by decide : (0 : Int32) = (0 : Int32))).1) (by decide) (by decide) k) ?_
  refine gs m T185 16 #[vR (a1), vR (lst_102), vR (it_122), vR (x2)] [] (fun _ k => XS.goto X185.here hx rfl (pc0 := 59) (pc' := 16) rfl (hb hby q7f) (by decide) (by decide) k) ?_
  refine gs m T185 17 #[vR (a1), vR (lst_102), vR (it_122), vR (x2)] [(.ref it_122)] (fun _ k => XS.aloadN X185.here hx rfl (hb hby q71) rfl rfl k) ?_
  obtain ⟨cq186, kq186, q186a, q186b, q186c⟩ := isOf hZ eh185 P167_0
  obtain ⟨_, _, ⟨T186, L186, k186, n186⟩, -, X186, ⟨Lc186, hQ186, l186, y186, z186⟩, st186⟩ := X185.interfaceBack hx (xi := (⟨"java/util/Iterator", "hasNext", "()Z"⟩ : MethodName)) (y := (⟨"java/util/ImmutableCollections$ListItr", "hasNext", "()Z"⟩ : MethodName)) hown (mvT hZ (hwi hw 111 rfl)) (mvT hZ (hwi hw 112 rfl)) (mvT hZ (hwi hw 113 rfl)) (mvT hZ (hwi hw 114 rfl)) (mvT hZ (hwi hw 115 rfl)) (mvT hZ (hwi hw 116 rfl)) (mvT hZ (hwi hw 117 rfl)) (mvT hZ (hwi hw 118 rfl)) (by decide) (backOf (W := 0) (Q := Qret (some (.int (0 : Int32))) T167.heap n0) (own_hn2_2 l Z a0 hw [] it_122 lst_102 T167.heap n0 Z167 P167_0 P167_1 P167_2 P167_3) hZ (hwi hw 119 rfl) (hwi hw 88 rfl) (by decide) (by decide)) q186a q186b q186c (g := (mkF m 17 #[vR (a1), vR (lst_102), vR (it_122), vR (x2)] [(.ref it_122)])) rfl (by rw [hml]; rfl) (Steps.refl _) (argsL := []) (rest := []) (lenOf own_pd9 rfl) rfl (by show 2 * 0 + _ ≤ _; exact Nat.le_of_eq rfl) (hb hby q72) (fun _ _ => ⟨rfl, eh185, (by decide : 3 + 0 ≤ _), (by decide : 8 + 0 ≤ _)⟩)
  dsimp only [Pt.U, Pt.locs, Pt.cells, Pt.slots] at X186 l186 y186 z186 st186 hQ186
  subst l186 y186 z186
  obtain ⟨rfl, N186q, eh186⟩ := hQ186
  have N186 := Fr.app N185 N186q
  refine gs m T186 22 #[vR (a1), vR (lst_102), vR (it_122), vR (x2)] [(.int (0 : Int32))] (fun _ k => st186.trans k) ?_
  refine gs m T186 62 #[vR (a1), vR (lst_102), vR (it_122), vR (x2)] [] (fun _ k => XS.ifYes X186.here hx rfl (pc0 := 22) (pc' := 62) rfl (hb hby q73) rfl ((if0 _ _).trans (teq (by decide : (0 : Int32) = (0 : Int32))).1) (by decide) (by decide) k) ?_
  refine gs m T186 63 #[vR (a1), vR (lst_102), vR (it_122), vR (x2)] [(.ref a1)] (fun _ k => XS.aloadN X186.here hx rfl (hb hby q74) rfl rfl k) ?_
  refine gs m T186 64 #[vR (a1), vR (lst_102), vR (it_122), vR (x2)] [(.ref lst_102), (.ref a1)] (fun _ k => XS.aloadN X186.here hx rfl (hb hby q75) rfl rfl k) ?_
  obtain ⟨T187, h187, X187, e187, W187, st187⟩ := putF X186 hx hZ hown (host := "") (Or.inl (hwi hw 8 rfl)) Via.refl eh186 F169 F168 (Or.inr ⟨(hwi hw 9 rfl), rfl, hnm⟩) (hwi hw 37 rfl) (ty := (.object "java/util/List")) (by decide) rfl rfl (g := (mkF m 64 #[vR (a1), vR (lst_102), vR (it_122), vR (x2)] [(.ref lst_102), (.ref a1)])) rfl rfl (hb hby q76)
  have N187 := Fr.snoc X187 N186 f1
  have Z187 : n0 ≤ h187.size := Nat.le_trans Z167 (Keep.of_wr W187).1
  have K187 := KK167.wr W187 (Or.inl (List.mem_of_getElem? (i := 0) rfl))
  have F188 := F168.wr W187
  have F189 := F170.wr W187
  have F190 := F171.other W187 (Or.inl f12)
  have F191 := F172.other W187 (Or.inl f12)
  have F192 := F173.wr W187
  have F193 := F174.other W187 f13
  have F194 := F175.wr W187
  have F195 := F176.other W187 (Or.inl f14)
  have F196 := F177.wr W187
  have F197 := F178.other W187 (Or.inl f15)
  have F198 := F179.wr W187
  have F199 := F180.wr W187
  have F200 := F181.other W187 (Or.inl (Ne.symm ne103))
  have F201 := F182.other W187 (Or.inl (Ne.symm ne103))
  have F202 := P167_0.wr W187
  have F203 := P167_1.other W187 (Or.inl (Ne.symm ne123))
  have F204 := P167_2.other W187 (Or.inl (Ne.symm ne123))
  have F205 := P167_3.other W187 (Or.inl (Ne.symm ne123))
  have F206 := F169.same W187
  refine gs m T187 67 #[vR (a1), vR (lst_102), vR (it_122), vR (x2)] [] st187 ?_
  exact Go.retV X187 hx hret hlk (hb hby q77) (by rw [e187]; exact ⟨lst_102, rfl, N187, K187, sz109, F188, F206, F199, F200, F201⟩) (by decide) (by decide)
def UW (Z : State) (h : Heap) (w : Nat → Addr) (sec : Nat → Int64) : Prop := ∀ i, i < 9 → Exa Z h (w i) "java/time/Duration" ∧ Fld Z h (w i) "java/time/Duration" "seconds" "J" (.long (sec i))
section Uw
variable {Z : State} {h h' : Heap} {w : Nat → Addr} {sec : Nat → Int64} {a : Addr} {sl : Nat} {v : Value} {ws : List Addr}
theorem UW.ext (U : UW Z h w sec) (E : Ext h h') : UW Z h' w sec := fun i hi => ⟨(U i hi).1.ext E, (U i hi).2.ext E⟩
theorem UW.wr (U : UW Z h w sec) (W : Wr h h' a sl v) (n : ∀ i, i < 9 → w i ≠ a) : UW Z h' w sec := fun i hi => ⟨(U i hi).1.wr W, (U i hi).2.other W (Or.inl (n i hi))⟩
theorem UW.keep (U : UW Z h w sec) (K : Keep h h' ws) (n : ∀ i, i < 9 → w i ∉ ws) : UW Z h' w sec := fun i hi => ⟨(U i hi).1.keep K, (U i hi).2.keep K (n i hi)⟩
end Uw
/-- an ArrayList's array of ten places that holds ys -/
def own_AV (ys : List Addr) : List Value := ys.map Value.ref ++ List.replicate (10 - ys.length) .null
theorem own_AV_len {ys : List Addr} (h : ys.length ≤ 10) : (own_AV ys).length = 10 := by simp [own_AV]; omega
theorem own_AV_add {ys : List Addr} {x : Addr} (h : ys.length < 10) : (own_AV ys).set ys.length (.ref x) = own_AV (ys ++ [x]) := by
  refine List.ext_getElem? fun i => ?_
  simp only [own_AV, List.getElem?_set, List.getElem?_append, List.getElem?_map, List.length_append, List.length_map, List.length_replicate, List.length_cons, List.length_nil, List.getElem?_replicate, List.map_append, List.map_cons, List.map_nil]
  by_cases h1 : i = ys.length
  · subst h1; simp; omega
  · by_cases h2 : i < ys.length
    · simp [h2, Ne.symm h1]; omega
    · have : ¬ i - ys.length = 0 := by omega
      simp [h2, Ne.symm h1, this]
      split <;> split <;> first | rfl | omega | (split <;> first | rfl | omega)
theorem own_AV_take {ys : List Addr} : (own_AV ys).take ys.length = ys.map Value.ref := by
  simp [own_AV]
theorem own_AV_at {ys : List Addr} (i : Nat) : (own_AV ys).getD i .null = .null ∨ ∃ y, y ∈ ys ∧ (own_AV ys).getD i .null = .ref y := by
  simp only [own_AV, List.getD_eq_getElem?_getD, List.getElem?_append, List.length_map, List.getElem?_map, List.getElem?_replicate]
  by_cases h : i < ys.length
  · right; refine ⟨ys[i], List.getElem_mem h, ?_⟩; simp [h]
  · left; simp only [h, if_false]; split <;> rfl
theorem own_gmap {ys : List Addr} {i : Nat} (h : i < ys.length) : (ys.map Value.ref).getD i .null = .ref (ys.getD i 0) := by
  simp [List.getD_eq_getElem?_getD, h]
theorem own_one (i : Nat) : Int32.ofNat i + (1 : Int32) = Int32.ofNat (i + 1) := (Int32.ofNat_add i 1).symm
theorem own_lenS (ys : List Addr) (x : Addr) : Int32.ofNat ys.length + (1 : Int32) = Int32.ofNat (ys ++ [x]).length := by rw [own_one, List.length_append]; rfl
theorem own_nneg {i : Nat} (h : i < 1000) : ¬ Int32.ofNat i < (0 : Int32) := by
  rw [Int32.lt_iff_toInt_lt, own_toIntN (by omega)]; show ¬ ((i : Int) < 0); omega
theorem own_lti {i n : Nat} (h : i < n) (hn : n < 1000) : Int32.ofNat i < Int32.ofNat n := by
  rw [Int32.lt_iff_toInt_lt, own_toIntN (by omega), own_toIntN (by omega)]; omega
theorem own_inb {i n : Nat} (h : i < n) (hn : n < 1000) : ¬ Int32.ofNat i < (0 : Int32) ∧ Int32.ofNat i < Int32.ofNat n := ⟨own_nneg (by omega), own_lti h hn⟩
theorem own_nei {i n : Nat} (h : i ≠ n) (hi : i < 1000) (hn : n < 1000) : ¬ Int32.ofNat i = Int32.ofNat n := fun q => by
  have r := congrArg Int32.toInt q
  rw [own_toIntN (by omega), own_toIntN (by omega)] at r; omega
theorem own_ltk {n : Int32} {k j : Nat} (h : n = Int32.ofNat k) (hk : k ≤ 7) (hj : j ≤ 7) : Int32.ofNat j < n ↔ j < k := by
  rw [h, Int32.lt_iff_toInt_lt, own_toIntN (by omega), own_toIntN (by omega)]; omega
def own_PV (ys : List Addr) (k : Nat) : List Value := (ys.take k).map Value.ref ++ List.replicate (ys.length - k) .null
theorem own_PV_len {ys : List Addr} {k : Nat} (h : k ≤ ys.length) : (own_PV ys k).length = ys.length := by simp [own_PV]; omega
theorem own_PV_0 (ys : List Addr) : own_PV ys 0 = List.replicate ys.length .null := by simp [own_PV]
theorem own_PV_end (ys : List Addr) : own_PV ys ys.length = ys.map Value.ref := by simp [own_PV]
theorem own_PV_set {ys : List Addr} {k : Nat} {y : Addr} (h : k < ys.length) (hy : y = ys.getD k 0) : (own_PV ys k).set k (.ref y) = own_PV ys (k + 1) := by
  refine List.ext_getElem? fun i => ?_
  subst hy
  simp only [own_PV, List.getElem?_set, List.getElem?_append, List.getElem?_map, List.length_append, List.length_map, List.length_replicate, List.length_take, List.getElem?_replicate, List.getElem?_take]
  by_cases h1 : i = k
  · subst h1
    have e1 : min i ys.length = i := by omega
    have e2 : min (i + 1) ys.length = i + 1 := by omega
    simp [e1, e2, h, List.getD_eq_getElem?_getD]
    omega
  · have e1 : min k ys.length = k := by omega
    have e2 : min (k + 1) ys.length = k + 1 := by omega
    rw [e1, e2, if_neg (Ne.symm h1)]
    by_cases h2 : i < k
    · have h3 : i < k + 1 := by omega
      simp [h2, h3]
    · have h3 : ¬ i < k + 1 := by omega
      rw [if_neg h2, if_neg h3]
      by_cases h4 : i < ys.length
      · rw [if_pos (by omega), if_pos (by omega)]
      · rw [if_neg (by omega), if_neg (by omega)]
theorem own_getmem {ys : List Addr} {k : Nat} (h : k < ys.length) : ys.getD k 0 ∈ ys := by
  rw [List.getD_eq_getElem?_getD, List.getElem?_eq_getElem h]; exact List.getElem_mem h
theorem own_map_at {ys : List Addr} {k : Nat} {y : Addr} (h : k < ys.length) (hl : ys.length ≤ 8) (hy : y = ys.getD k 0) : (ys.map Value.ref).getD (Int32.ofNat k).toNatClampNeg .null = .ref y := by
  rw [own_clampN (by omega), hy]; simp [List.getD_eq_getElem?_getD, h]
def own_W (w : Nat → Addr) : List Value := [.ref (w 0), .ref (w 1), .ref (w 2), .ref (w 3), .ref (w 4), .ref (w 5), .ref (w 6), .ref (w 7), .ref (w 8)]
theorem own_9 {i : Nat} (h : i < 9) : i = 0 ∨ i = 1 ∨ i = 2 ∨ i = 3 ∨ i = 4 ∨ i = 5 ∨ i = 6 ∨ i = 7 ∨ i = 8 := by omega
theorem own_W_at {w : Nat → Addr} {i : Nat} (h : i < 9) : (own_W w).getD (Int32.ofNat i).toNatClampNeg .null = .ref (w i) := by
  rw [own_clampN (by omega)]
  rcases own_9 h with rfl | rfl | rfl | rfl | rfl | rfl | rfl | rfl | rfl <;> rfl
theorem own_split (ys : List Addr) (h : 1 ≤ ys.length) : (∃ x1, ys = [x1]) ∨ (∃ x1 x2, ys = [x1, x2]) ∨ 3 ≤ ys.length := by
  match ys, h with
  | [x], _ => exact Or.inl ⟨x, rfl⟩
  | [x, y], _ => exact Or.inr (Or.inl ⟨x, y, rfl⟩)
  | x :: y :: z :: r, _ => exact Or.inr (Or.inr (by simp))
theorem own_hys1 {w : Nat → Addr} {i : Nat} (h : i < 9) : ∀ y ∈ [w i], ∃ i, i < 9 ∧ y = w i := fun _ hy => ⟨i, h, List.mem_singleton.mp hy⟩
theorem own_hysS {ys : List Addr} {w : Nat → Addr} {i : Nat} (hys : ∀ y ∈ ys, ∃ i, i < 9 ∧ y = w i) (h : i < 9) : ∀ y ∈ ys ++ [w i], ∃ i, i < 9 ∧ y = w i := fun y hy => (List.mem_append.mp hy).elim (hys y) (own_hys1 h y)
theorem own_AV1 (x : Addr) : own_AV [x] = [.ref x, .null, .null, .null, .null, .null, .null, .null, .null, .null] := by simp [own_AV, List.replicate]
theorem own_AV2 (x y : Addr) : own_AV [x, y] = [.ref x, .ref y, .null, .null, .null, .null, .null, .null, .null, .null] := by simp [own_AV, List.replicate]
theorem own_n7 (p : Int32) : ∃ k : Nat, k ≤ 7 ∧ (p &&& (7 : Int32)) = Int32.ofNat k := by
  have c := c_and p 7 (by decide)
  have z : (7 : Int32).toInt = 7 := rfl
  refine ⟨(p &&& (7 : Int32)).toInt.toNat, by omega, Int32.toInt_inj.mp ?_⟩
  rw [own_toIntN (by omega)]; omega
theorem own_pk (a : Int64) : ∃ i : Nat, i < 9 ∧ ((a &&& (15 : Int64)).toInt32 % (9 : Int32)) = Int32.ofNat i := by
  have m := c_maskL a 15 4 (by decide) (by decide)
  have e : ((2 ^ 4 : Nat) : Int) = 16 := rfl
  rw [e] at m
  have l := c_l2i (a &&& (15 : Int64))
  have r := rng32 ((a &&& (15 : Int64)).toInt32)
  have e2 : (a &&& (15 : Int64)).toInt32.toInt = (a &&& (15 : Int64)).toInt := by omega
  have q := (c_irem (a &&& (15 : Int64)).toInt32 9 9 rfl).1 (by omega)
  refine ⟨((a &&& (15 : Int64)).toInt32 % (9 : Int32)).toInt.toNat, by omega, Int32.toInt_inj.mp ?_⟩
  rw [own_toIntN (by omega)]; omega
theorem own_hel {Z : State} {h : Heap} {w : Nat → Addr} {sec : Nat → Int64} {ys : List Addr} {a0 : Array Value} (U : UW Z h w sec) (hys : ∀ y ∈ ys, ∃ i, i < 9 ∧ y = w i) (wc : (Jvm.Cond.castable "java/time/Duration" "java/lang/Object").before a0 Z = true) (i : Nat) : (own_AV ys).getD i .null = .null ∨ ∃ y, (own_AV ys).getD i .null = .ref y ∧ Ins Z h y "java/lang/Object" true := by
  rcases own_AV_at (ys := ys) i with q | ⟨y, hy, q⟩
  · exact Or.inl q
  · obtain ⟨j, hj, e⟩ := hys y hy
    exact Or.inr ⟨y, q, by rw [e]; exact Ins.of_exa (U j hj).1 wc⟩
section Cpg
open Jvm.Free.CopyOfC Jvm.Free.SB Jvm.Free.SBG
theorem own_cp2g {p : Program} {l : Launch} {e : Env} {R : Room} {s Z : State} {args a0 : Array Value} {below : List Frame} {h : Heap} {a : Addr} {k : ClassId} {vs : List Value} {z : Int32} {n n0 W cap : Nat} (hZ : Z.Warmed39 s.vm) (htab : Copy2.tab.before a0 Z = true) (hts : Copy2.tab.before args s = true)
    (MM : MirrorMade Z "[Ljava/lang/Object;") (Vv : Arv Z h a k (.object "java/lang/Object") z vs .null) (E : Exa Z h a "[Ljava/lang/Object;") (OV : Ovr Z k "java/lang/Object") (hel : ∀ i, vs.getD i .null = .null ∨ ∃ y, vs.getD i .null = .ref y ∧ Ins Z h y "java/lang/Object" true)
    (hn : n ≤ z.toNatClampNeg) (hn2 : n ≤ 1000) (hz : z.toNatClampNeg ≤ 1000) (hvl : vs.length = z.toNatClampNeg) (hfr : 4 ≤ R.frames) (hlo : W + 77 ≤ R.locals) (hcap : n ≤ cap) :
    Back l R p e below s args copy2N 3 W (fun A a' => a' = #[.ref a, .int (Int32.ofNat n)] ∧ A.U.heap = h ∧ A.cells + 1 ≤ R.cells ∧ A.slots + cap ≤ R.slots)
      (fun A _ v B => ∃ L, Qcp Z n vs h n0 v B.U.heap L ∧ B.locs = A.locs ++ L ∧ B.cells = A.cells + 1 ∧ B.slots = A.slots + cap) := by
  intro m meth c A g ig mk a' X hg hsz hd hWW hnm hpre
  obtain ⟨h1, h2, h3, h4⟩ := hpre
  obtain ⟨v, ⟨U, locs, cl, sl⟩, X', ⟨L, q, l1, l2, l3⟩, st⟩ := own_cp2 (n0 := n0) hZ htab hts MM Vv E OV hel hn hn2 hz hvl hfr hlo m meth c A g ig mk a' X hg hsz hd hWW hnm ⟨h1, h2, h3, Nat.le_trans (Nat.add_le_add_left hcap _) h4⟩
  refine ⟨v, ⟨U, locs, cl, A.slots + cap⟩, X'.more (Nat.le_refl _) ?_, ⟨L, q, l1, l2, rfl⟩, st⟩
  exact Nat.le_trans (Nat.le_of_eq l3) (Nat.add_le_add_left hcap _)
end Cpg
def own_w9 (w0 w1 w2 w3 w4 w5 w6 w7 w8 : Addr) (i : Nat) : Addr := [w0, w1, w2, w3, w4, w5, w6, w7, w8].getD i 0
def own_sec (i : Nat) : Int64 := [(5 : Int64), 30, 60, 600, 1800, 3600, 21600, 86400, 172800].getD i 0
theorem own_hsec : ∀ i, i < 9 → ¬ lcmpW (own_sec i) (0 : Int64) < (0 : Int32) := fun i h => by
  rcases own_9 h with rfl | rfl | rfl | rfl | rfl | rfl | rfl | rfl | rfl <;> decide +kernel
theorem own_U9 {Z : State} {h : Heap} {w0 w1 w2 w3 w4 w5 w6 w7 w8 : Addr} (E0 : Exa Z h w0 "java/time/Duration") (F0 : Fld Z h w0 "java/time/Duration" "seconds" "J" (.long (5 : Int64))) (E1 : Exa Z h w1 "java/time/Duration") (F1 : Fld Z h w1 "java/time/Duration" "seconds" "J" (.long (30 : Int64))) (E2 : Exa Z h w2 "java/time/Duration") (F2 : Fld Z h w2 "java/time/Duration" "seconds" "J" (.long (60 : Int64))) (E3 : Exa Z h w3 "java/time/Duration") (F3 : Fld Z h w3 "java/time/Duration" "seconds" "J" (.long (600 : Int64))) (E4 : Exa Z h w4 "java/time/Duration") (F4 : Fld Z h w4 "java/time/Duration" "seconds" "J" (.long (1800 : Int64))) (E5 : Exa Z h w5 "java/time/Duration") (F5 : Fld Z h w5 "java/time/Duration" "seconds" "J" (.long (3600 : Int64))) (E6 : Exa Z h w6 "java/time/Duration") (F6 : Fld Z h w6 "java/time/Duration" "seconds" "J" (.long (21600 : Int64))) (E7 : Exa Z h w7 "java/time/Duration") (F7 : Fld Z h w7 "java/time/Duration" "seconds" "J" (.long (86400 : Int64))) (E8 : Exa Z h w8 "java/time/Duration") (F8 : Fld Z h w8 "java/time/Duration" "seconds" "J" (.long (172800 : Int64))) : UW Z h (own_w9 w0 w1 w2 w3 w4 w5 w6 w7 w8) own_sec := fun i hi => by
  rcases own_9 hi with rfl | rfl | rfl | rfl | rfl | rfl | rfl | rfl | rfl
  · exact ⟨E0, F0⟩
  · exact ⟨E1, F1⟩
  · exact ⟨E2, F2⟩
  · exact ⟨E3, F3⟩
  · exact ⟨E4, F4⟩
  · exact ⟨E5, F5⟩
  · exact ⟨E6, F6⟩
  · exact ⟨E7, F7⟩
  · exact ⟨E8, F8⟩

theorem own_addhg (l : Launch) (Z : State) (a0 : Array Value) (hw : ∀ d ∈ tables_1, d.before a0 Z = true) (ws : List Jvm.Cond) (a1 : Addr) (x1 : Addr) (b1 : Addr) (k1 : ClassId) (mc : Int32) (ys : List Addr) (h0 : Heap) (n0 : Nat) (Z0 : n0 ≤ h0.size) (f0 : Exa Z h0 a1 "java/util/ArrayList") (f1 : n0 ≤ a1) (f2 : Fld Z h0 a1 "java/util/AbstractList" "modCount" "I" (.int mc)) (f3 : Fld Z h0 a1 "java/util/ArrayList" "elementData" "[Ljava/lang/Object;" (.ref b1)) (f4 : Fld Z h0 a1 "java/util/ArrayList" "size" "I" (.int (Int32.ofNat ys.length))) (f5 : Exa Z h0 b1 "[Ljava/lang/Object;") (f6 : n0 ≤ b1) (f7 : a1 ≠ b1) (f8 : Arv Z h0 b1 k1 (.object "java/lang/Object") (10 : Int32) (own_AV ys) .null) (f9 : Exa Z h0 x1 "java/time/Duration") (ov1 : Ovr Z k1 "java/lang/Object") (hlt : ys.length < 10) :
    Con l Z (⟨"java/util/ArrayList", "add", "(Ljava/lang/Object;[Ljava/lang/Object;I)V"⟩ : MethodName) jdk_38_method_24_code 4 none ({ frames := 0, cells := 0, slots := 0, locals := 0 } : Room) ws #[(.ref a1), (.ref x1), (.ref b1), (.int (Int32.ofNat ys.length))] h0 (fun v h L => (v = none) ∧ (Fr n0 L) ∧ (Keep h0 h [a1, b1]) ∧ (Exa Z h a1 "java/util/ArrayList") ∧ (Fld Z h a1 "java/util/AbstractList" "modCount" "I" (.int mc)) ∧ (Fld Z h a1 "java/util/ArrayList" "elementData" "[Ljava/lang/Object;" (.ref b1)) ∧ (Fld Z h a1 "java/util/ArrayList" "size" "I" (.int (Int32.ofNat (ys ++ [x1]).length))) ∧ (Exa Z h b1 "[Ljava/lang/Object;") ∧ (Arv Z h b1 k1 (.object "java/lang/Object") (10 : Int32) (own_AV (ys ++ [x1])) .null)) 0 0 := by
  refine Con.of (plainFor_of_name own_pn_ArrayList) ?_
  intro pgm e s m below meth c s₁ X0 hx hZ hby hml hown hnm hret hlk e0 hs0
  have N0 := Fr.nil n0
  have hown : s.vm.findClass "java/util/ArrayList" = some m.cls := hown
  have hnm : meth.name = "add" := hnm
  refine Go.cast (own_ef_jdk_38_method_24_code_RRRI m a1 x1 b1 (Int32.ofNat ys.length)) ?_
  have K0 := Keep.refl h0 [a1, b1]
  have hne10 : ¬ Int32.ofNat ys.length = (10 : Int32) := own_nei (n := 10) (by omega) (by omega) (by decide)
  refine gs m s₁ 1 #[vR (a1), vR (x1), vR (b1), vI ((Int32.ofNat ys.length))] [(.int (Int32.ofNat ys.length))] (fun _ k => XS.iloadN X0.here hx rfl (hb hby q1j) rfl  k) ?_
  refine gs m s₁ 2 #[vR (a1), vR (x1), vR (b1), vI ((Int32.ofNat ys.length))] [(.ref b1), (.int (Int32.ofNat ys.length))] (fun _ k => XS.aloadN X0.here hx rfl (hb hby q1k) rfl rfl k) ?_
  obtain ⟨cl101, Ar101, -, S101, M101, -, -⟩ := id f8
  refine gs m s₁ 3 #[vR (a1), vR (x1), vR (b1), vI ((Int32.ofNat ys.length))] [(.int (10 : Int32)), (.int (Int32.ofNat ys.length))] (fun _ k => X0.arraylength hx (cell := cl101) (by rw [e0]; exact Ar101.1) (State.isArrayOf_alike hZ.alike Ar101.2.1) (g := (mkF m 2 #[vR (a1), vR (x1), vR (b1), vI ((Int32.ofNat ys.length))] [(.ref b1), (.int (Int32.ofNat ys.length))])) rfl (rest := [(.int (Int32.ofNat ys.length))]) rfl (hb hby q1l) _ (by rw [len_of S101 M101]; exact k)) ?_
  refine gs m s₁ 11 #[vR (a1), vR (x1), vR (b1), vI ((Int32.ofNat ys.length))] [] (fun _ k => XS.icmpYes X0.here hx rfl (pc0 := 3) (pc' := 11) rfl (hb hby q1m) rfl (feq hne10).2 (by decide) (by decide) k) ?_
  refine gs m s₁ 12 #[vR (a1), vR (x1), vR (b1), vI ((Int32.ofNat ys.length))] [(.ref b1)] (fun _ k => XS.aloadN X0.here hx rfl (hb hby q1q) rfl rfl k) ?_
  refine gs m s₁ 13 #[vR (a1), vR (x1), vR (b1), vI ((Int32.ofNat ys.length))] [(.int (Int32.ofNat ys.length)), (.ref b1)] (fun _ k => XS.iloadN X0.here hx rfl (hb hby q1r) rfl  k) ?_
  refine gs m s₁ 14 #[vR (a1), vR (x1), vR (b1), vI ((Int32.ofNat ys.length))] [(.ref x1), (.int (Int32.ofNat ys.length)), (.ref b1)] (fun _ k => XS.aloadN X0.here hx rfl (hb hby q1s) rfl rfl k) ?_
  obtain ⟨cl102, Ar102, q102, S102, M102, H102, G102⟩ := id f8
  obtain ⟨T102, h102, X102, e102, W102, st102⟩ := stR X0 hx hZ e0 Ar102 (j := (Int32.ofNat ys.length)) (inb_of S102 (own_inb (n := 10) hlt (by decide))) rfl (Sto.ofV Ar102 q102 ov1 (Ins.of_exa f9 (hwi hw 163 rfl))) (g := (mkF m 14 #[vR (a1), vR (x1), vR (b1), vI ((Int32.ofNat ys.length))] [(.ref x1), (.int (Int32.ofNat ys.length)), (.ref b1)])) rfl rfl (hb hby q1t)
  have V102 : Arv Z h102 b1 k1 (.object "java/lang/Object") (10 : Int32) ((own_AV ys).set ys.length (.ref x1)) .null := Arv.set Ar102 q102 S102 M102 H102 G102 rfl W102 ys.length (own_clampN (by omega)) (by rw [own_AV_len (by omega)]; exact hlt)
  rw [own_AV_add hlt] at V102
  have N102 := Fr.snoc X102 N0 f6
  have Z102 : n0 ≤ h102.size := Nat.le_trans Z0 (Keep.of_wr W102).1
  have K102 := K0.wr W102 (Or.inl (List.mem_of_getElem? (i := 1) rfl))
  have F103 := f0.wr W102
  have F104 := f2.other W102 (Or.inl f7)
  have F105 := f3.other W102 (Or.inl f7)
  have F106 := f4.other W102 (Or.inl f7)
  have F107 := f5.wr W102
  have F108 := f9.wr W102
  refine gs m T102 15 #[vR (a1), vR (x1), vR (b1), vI ((Int32.ofNat ys.length))] [] st102 ?_
  refine gs m T102 16 #[vR (a1), vR (x1), vR (b1), vI ((Int32.ofNat ys.length))] [(.ref a1)] (fun _ k => XS.aloadN X102.here hx rfl (hb hby q1u) rfl rfl k) ?_
  refine gs m T102 17 #[vR (a1), vR (x1), vR (b1), vI ((Int32.ofNat ys.length))] [(.int (Int32.ofNat ys.length)), (.ref a1)] (fun _ k => XS.iloadN X102.here hx rfl (hb hby q1v) rfl  k) ?_
  refine gs m T102 18 #[vR (a1), vR (x1), vR (b1), vI ((Int32.ofNat ys.length))] [(.int (1 : Int32)), (.int (Int32.ofNat ys.length)), (.ref a1)] (fun _ k => XS.iconst X102.here hx rfl (hb hby q1w) k) ?_
  refine gs m T102 19 #[vR (a1), vR (x1), vR (b1), vI ((Int32.ofNat ys.length))] [(.int ((Int32.ofNat ys.length) + (1 : Int32))), (.ref a1)] (fun _ k => XS.iadd X102.here hx rfl (hb hby q1x) rfl k) ?_
  obtain ⟨T109, h109, X109, e109, W109, st109⟩ := putF X102 hx hZ hown (host := "") (Or.inl (hwi hw 70 rfl)) Via.refl e102 F106 F103 (Or.inl (hwi hw 71 rfl)) (hwi hw 11 rfl) (ty := .int) (by decide) rfl rfl (g := (mkF m 19 #[vR (a1), vR (x1), vR (b1), vI ((Int32.ofNat ys.length))] [(.int ((Int32.ofNat ys.length) + (1 : Int32))), (.ref a1)])) rfl rfl (hb hby q1y)
  have N109 := Fr.snoc X109 N102 f1
  have Z109 : n0 ≤ h109.size := Nat.le_trans Z102 (Keep.of_wr W109).1
  have K109 := K102.wr W109 (Or.inl (List.mem_of_getElem? (i := 0) rfl))
  have F110 := F103.wr W109
  have F111 := F104.other W109 (Or.inr (slot_ne (Or.inl (hwi hw 32 rfl)) (Or.inl (hwi hw 71 rfl)) (by decide) (t := .int) (t' := .int) (by decide) (by decide)))
  have F112 := F105.other W109 (Or.inr (slot_ne (Or.inl (hwi hw 35 rfl)) (Or.inl (hwi hw 71 rfl)) (by decide) (t := (.array (.object "java/lang/Object"))) (t' := .int) (by decide) (by decide)))
  have F113 := F107.wr W109
  have F114 := F108.wr W109
  have F115 := V102.other W109 (Ne.symm f7)
  have F116 := F106.same W109
  refine gs m T109 22 #[vR (a1), vR (x1), vR (b1), vI ((Int32.ofNat ys.length))] [] st109 ?_
  have FS : Fld Z h109 a1 "java/util/ArrayList" "size" "I" (.int (Int32.ofNat (ys ++ [x1]).length)) := by rw [← own_lenS]; exact F116
  exact Go.retV X109 hx hret hlk (hb hby q1z) (by rw [e109]; exact ⟨rfl, N109, K109, F110, F111, F112, FS, F113, F115⟩) (by decide) (by decide)
theorem own_addg (l : Launch) (Z : State) (a0 : Array Value) (hw : ∀ d ∈ tables_1, d.before a0 Z = true) (ws : List Jvm.Cond) (a1 : Addr) (x1 : Addr) (b1 : Addr) (k1 : ClassId) (mc : Int32) (ys : List Addr) (h0 : Heap) (n0 : Nat) (Z0 : n0 ≤ h0.size) (f0 : Exa Z h0 a1 "java/util/ArrayList") (f1 : n0 ≤ a1) (f2 : Fld Z h0 a1 "java/util/AbstractList" "modCount" "I" (.int mc)) (f3 : Fld Z h0 a1 "java/util/ArrayList" "elementData" "[Ljava/lang/Object;" (.ref b1)) (f4 : Fld Z h0 a1 "java/util/ArrayList" "size" "I" (.int (Int32.ofNat ys.length))) (f5 : Exa Z h0 b1 "[Ljava/lang/Object;") (f6 : n0 ≤ b1) (f7 : a1 ≠ b1) (f8 : Arv Z h0 b1 k1 (.object "java/lang/Object") (10 : Int32) (own_AV ys) .null) (f9 : Exa Z h0 x1 "java/time/Duration") (ov1 : Ovr Z k1 "java/lang/Object") (hlt : ys.length < 10) :
    Con l Z (⟨"java/util/ArrayList", "add", "(Ljava/lang/Object;)Z"⟩ : MethodName) jdk_38_method_25_code 2 (some .boolean) ({ frames := 1, cells := 0, slots := 0, locals := 15 } : Room) ws #[(.ref a1), (.ref x1)] h0 (fun v h L => (v = some (.int (1 : Int32))) ∧ (Fr n0 L) ∧ (Keep h0 h [a1, b1]) ∧ (Exa Z h a1 "java/util/ArrayList") ∧ (Fld Z h a1 "java/util/AbstractList" "modCount" "I" (.int (mc + (1 : Int32)))) ∧ (Fld Z h a1 "java/util/ArrayList" "elementData" "[Ljava/lang/Object;" (.ref b1)) ∧ (Fld Z h a1 "java/util/ArrayList" "size" "I" (.int (Int32.ofNat (ys ++ [x1]).length))) ∧ (Exa Z h b1 "[Ljava/lang/Object;") ∧ (Arv Z h b1 k1 (.object "java/lang/Object") (10 : Int32) (own_AV (ys ++ [x1])) .null)) 0 0 := by
  refine Con.of (plainFor_of_name own_pn_ArrayList) ?_
  intro pgm e s m below meth c s₁ X0 hx hZ hby hml hown hnm hret hlk e0 hs0
  have N0 := Fr.nil n0
  have hown : s.vm.findClass "java/util/ArrayList" = some m.cls := hown
  have hnm : meth.name = "add" := hnm
  refine Go.cast (own_ef_jdk_38_method_25_code_RR m a1 x1) ?_
  have K0 := Keep.refl h0 [a1, b1]
  refine gs m s₁ 1 #[vR (a1), vR (x1)] [(.ref a1)] (fun _ k => XS.aloadN X0.here hx rfl (hb hby q20) rfl rfl k) ?_
  refine gs m s₁ 2 #[vR (a1), vR (x1)] [(.ref a1), (.ref a1)] (fun _ k => XS.dup X0.here hx rfl (hb hby q21) rfl rfl k) ?_
  obtain ⟨T101, X101, e101, st101⟩ := getF X0 hx hZ hown (host := "") (Or.inl (hwi hw 140 rfl)) (Via.of (hwi hw 141 rfl)) e0 f2 (g := (mkF m 2 #[vR (a1), vR (x1)] [(.ref a1), (.ref a1)])) rfl rfl (hb hby q22)
  refine gs m T101 5 #[vR (a1), vR (x1)] [(.int mc), (.ref a1)] st101 ?_
  refine gs m T101 6 #[vR (a1), vR (x1)] [(.int (1 : Int32)), (.int mc), (.ref a1)] (fun _ k => XS.iconst X101.here hx rfl (hb hby q23) k) ?_
  refine gs m T101 7 #[vR (a1), vR (x1)] [(.int (mc + (1 : Int32))), (.ref a1)] (fun _ k => XS.iadd X101.here hx rfl (hb hby q24) rfl k) ?_
  obtain ⟨T102, h102, X102, e102, W102, st102⟩ := putF X101 hx hZ hown (host := "") (Or.inl (hwi hw 140 rfl)) (Via.of (hwi hw 141 rfl)) e101 f2 f0 (Or.inl (hwi hw 32 rfl)) (hwi hw 11 rfl) (ty := .int) (by decide) rfl rfl (g := (mkF m 7 #[vR (a1), vR (x1)] [(.int (mc + (1 : Int32))), (.ref a1)])) rfl rfl (hb hby q25)
  have N102 := Fr.snoc X102 N0 f1
  have Z102 : n0 ≤ h102.size := Nat.le_trans Z0 (Keep.of_wr W102).1
  have K102 := K0.wr W102 (Or.inl (List.mem_of_getElem? (i := 0) rfl))
  have F103 := f0.wr W102
  have F104 := f3.other W102 (Or.inr (slot_ne (Or.inl (hwi hw 35 rfl)) (Or.inl (hwi hw 32 rfl)) (by decide) (t := (.array (.object "java/lang/Object"))) (t' := .int) (by decide) (by decide)))
  have F105 := f4.other W102 (Or.inr (slot_ne (Or.inl (hwi hw 71 rfl)) (Or.inl (hwi hw 32 rfl)) (by decide) (t := .int) (t' := .int) (by decide) (by decide)))
  have F106 := f5.wr W102
  have F107 := f8.other W102 (Ne.symm f7)
  have F108 := f9.wr W102
  have F109 := f2.same W102
  refine gs m T102 10 #[vR (a1), vR (x1)] [] st102 ?_
  refine gs m T102 11 #[vR (a1), vR (x1)] [(.ref a1)] (fun _ k => XS.aloadN X102.here hx rfl (hb hby q26) rfl rfl k) ?_
  refine gs m T102 12 #[vR (a1), vR (x1)] [(.ref x1), (.ref a1)] (fun _ k => XS.aloadN X102.here hx rfl (hb hby q27) rfl rfl k) ?_
  refine gs m T102 13 #[vR (a1), vR (x1)] [(.ref a1), (.ref x1), (.ref a1)] (fun _ k => XS.aloadN X102.here hx rfl (hb hby q28) rfl rfl k) ?_
  obtain ⟨T110, X110, e110, st110⟩ := getF X102 hx hZ hown (host := "") (Or.inl (hwi hw 34 rfl)) Via.refl e102 F104 (g := (mkF m 13 #[vR (a1), vR (x1)] [(.ref a1), (.ref x1), (.ref a1)])) rfl rfl (hb hby q29)
  refine gs m T110 16 #[vR (a1), vR (x1)] [(.ref b1), (.ref x1), (.ref a1)] st110 ?_
  refine gs m T110 17 #[vR (a1), vR (x1)] [(.ref a1), (.ref b1), (.ref x1), (.ref a1)] (fun _ k => XS.aloadN X110.here hx rfl (hb hby q2a) rfl rfl k) ?_
  obtain ⟨T111, X111, e111, st111⟩ := getF X110 hx hZ hown (host := "") (Or.inl (hwi hw 70 rfl)) Via.refl e110 F105 (g := (mkF m 17 #[vR (a1), vR (x1)] [(.ref a1), (.ref b1), (.ref x1), (.ref a1)])) rfl rfl (hb hby q2b)
  refine gs m T111 20 #[vR (a1), vR (x1)] [(.int (Int32.ofNat ys.length)), (.ref b1), (.ref x1), (.ref a1)] st111 ?_
  obtain ⟨cq112, q112, q112'⟩ := F103.cell
  obtain ⟨_, _, ⟨T112, L112, k112, n112⟩, -, X112, ⟨Lc112, hQ112, l112, y112, z112⟩, st112⟩ := X111.privateBack hx (y := (⟨"java/util/ArrayList", "add", "(Ljava/lang/Object;[Ljava/lang/Object;I)V"⟩ : MethodName)) hown (mvT hZ (hwi hw 142 rfl)) (mvT hZ (hwi hw 143 rfl)) (mvT hZ (hwi hw 145 rfl)) (Cond.privateMethod_at (mvP hZ (hwi hw 144 rfl) (args := #[]))) (mvT hZ (hwi hw 146 rfl)) (by decide) (backOf (W := 0) (Q := fun v h L => (v = none) ∧ (Fr n0 L) ∧ (Keep h102 h [a1, b1]) ∧ (Exa Z h a1 "java/util/ArrayList") ∧ (Fld Z h a1 "java/util/AbstractList" "modCount" "I" (.int (mc + (1 : Int32)))) ∧ (Fld Z h a1 "java/util/ArrayList" "elementData" "[Ljava/lang/Object;" (.ref b1)) ∧ (Fld Z h a1 "java/util/ArrayList" "size" "I" (.int (Int32.ofNat (ys ++ [x1]).length))) ∧ (Exa Z h b1 "[Ljava/lang/Object;") ∧ (Arv Z h b1 k1 (.object "java/lang/Object") (10 : Int32) (own_AV (ys ++ [x1])) .null)) (own_addhg l Z a0 hw [] a1 x1 b1 k1 (mc + (1 : Int32)) ys h102 n0 Z102 F103 f1 F109 F104 F105 F106 f6 f7 F107 F108 ov1 hlt) hZ (hwi hw 146 rfl) (hwi hw 12 rfl) (by decide) (by decide)) (g := (mkF m 20 #[vR (a1), vR (x1)] [(.int (Int32.ofNat ys.length)), (.ref b1), (.ref x1), (.ref a1)])) rfl (by rw [hml]; rfl) (Steps.refl _) (a := a1) (by rw [e111]; exact q112) q112' (argsL := [(.ref x1), (.ref b1), (.int (Int32.ofNat ys.length))]) (rest := []) (lenOf own_pd4 rfl) rfl (by show 2 * 0 + _ ≤ _; exact Nat.le_of_eq rfl) (hb hby q2c) (fun _ _ => ⟨rfl, e111, (by decide : 0 + 0 ≤ _), (by decide : 0 + 0 ≤ _)⟩)
  dsimp only [Pt.U, Pt.locs, Pt.cells, Pt.slots] at X112 l112 y112 z112 st112 hQ112
  subst l112 y112 z112
  obtain ⟨rfl, N112q, K112, P112_0, P112_1, P112_2, P112_3, P112_4, P112_5⟩ := hQ112
  have N112 := Fr.app N102 N112q
  have KK112 := K102.trans K112 (allS (Or.inl (List.mem_of_getElem? (i := 0) rfl)) (allS (Or.inl (List.mem_of_getElem? (i := 1) rfl)) all0))
  have Z112 : n0 ≤ T112.heap.size := Nat.le_trans Z102 K112.1
  have F113 := F103.keep K112
  have F114 := F106.keep K112
  have F115 := F108.keep K112
  refine gs m T112 23 #[vR (a1), vR (x1)] [] (fun _ k => st112.trans k) ?_
  refine gs m T112 24 #[vR (a1), vR (x1)] [(.int (1 : Int32))] (fun _ k => XS.iconst X112.here hx rfl (hb hby q2d) k) ?_
  exact Go.retN X112 hx (t := .boolean) hret hlk (by simp) (hb hby q2e) (⟨rfl, N112, KK112, P112_0, P112_1, P112_2, P112_3, P112_4, P112_5⟩) (by decide) (by decide)
theorem own_iseg (l : Launch) (Z : State) (a0 : Array Value) (hw : ∀ d ∈ tables_1, d.before a0 Z = true) (ws : List Jvm.Cond) (a1 : Addr) (ys : List Addr) (h0 : Heap) (n0 : Nat) (Z0 : n0 ≤ h0.size) (f0 : Fld Z h0 a1 "java/util/ArrayList" "size" "I" (.int (Int32.ofNat ys.length))) (hlen : ys.length ≤ 8) (h3 : 3 ≤ ys.length) :
    Con l Z (⟨"java/util/ArrayList", "isEmpty", "()Z"⟩ : MethodName) jdk_38_method_9_code 1 (some .boolean) ({ frames := 0, cells := 0, slots := 0, locals := 0 } : Room) ws #[(.ref a1)] h0 (Qret (some (.int (0 : Int32))) h0 n0) 0 0 := by
  refine Con.of (plainFor_of_name own_pn_ArrayList) ?_
  intro pgm e s m below meth c s₁ X0 hx hZ hby hml hown hnm hret hlk e0 hs0
  have N0 := Fr.nil n0
  have hown : s.vm.findClass "java/util/ArrayList" = some m.cls := hown
  have hnm : meth.name = "isEmpty" := hnm
  refine Go.cast (own_ef_jdk_38_method_9_code_R m a1) ?_
  have hz0 : ¬ Int32.ofNat ys.length = (0 : Int32) := own_nei (n := 0) (by omega) (by omega) (by decide)
  refine gs m s₁ 1 #[vR (a1)] [(.ref a1)] (fun _ k => XS.aloadN X0.here hx rfl (hb hby q2f) rfl rfl k) ?_
  obtain ⟨T101, X101, e101, st101⟩ := getF X0 hx hZ hown (host := "") (Or.inl (hwi hw 70 rfl)) Via.refl e0 f0 (g := (mkF m 1 #[vR (a1)] [(.ref a1)])) rfl rfl (hb hby q2g)
  refine gs m T101 4 #[vR (a1)] [(.int (Int32.ofNat ys.length))] st101 ?_
  refine gs m T101 11 #[vR (a1)] [] (fun _ k => XS.ifYes X101.here hx rfl (pc0 := 4) (pc' := 11) rfl (hb hby q2h) rfl ((if0 _ _).trans (feq hz0).2) (by decide) (by decide) k) ?_
  refine gs m T101 12 #[vR (a1)] [(.int (0 : Int32))] (fun _ k => XS.iconst X101.here hx rfl (hb hby q2l) k) ?_
  exact Go.retN X101 hx (t := .boolean) hret hlk (by simp) (hb hby q2k) (⟨rfl, N0, e101⟩) (by decide) (by decide)
theorem own_toag (l : Launch) (Z : State) (a0 : Array Value) (hw : ∀ d ∈ tables_1, d.before a0 Z = true) (ws : List Jvm.Cond) (a1 : Addr) (b1 : Addr) (k1 : ClassId) (ys : List Addr) (w : Nat → Addr) (sec : Nat → Int64) (h0 : Heap) (n0 : Nat) (Z0 : n0 ≤ h0.size) (f0 : Exa Z h0 a1 "java/util/ArrayList") (f1 : Fld Z h0 a1 "java/util/ArrayList" "elementData" "[Ljava/lang/Object;" (.ref b1)) (f2 : Fld Z h0 a1 "java/util/ArrayList" "size" "I" (.int (Int32.ofNat ys.length))) (f3 : Exa Z h0 b1 "[Ljava/lang/Object;") (f4 : Arv Z h0 b1 k1 (.object "java/lang/Object") (10 : Int32) (own_AV ys) .null) (f5 : UW Z h0 w sec) (ov1 : Ovr Z k1 "java/lang/Object") (MM : MirrorMade Z "[Ljava/lang/Object;") (hlen : ys.length ≤ 8) (hys : ∀ y ∈ ys, ∃ i, i < 9 ∧ y = w i) :
    Con l Z (⟨"java/util/ArrayList", "toArray", "()[Ljava/lang/Object;"⟩ : MethodName) jdk_38_method_16_code 1 (some (.array (.object "java/lang/Object"))) ({ frames := 4, cells := 1, slots := 8, locals := 77 } : Room) ws #[(.ref a1)] h0 (fun v h L => ∃ b : Addr, ∃ kb : ClassId, (v = some (.ref b)) ∧ (Fr n0 L) ∧ (Keep h0 h []) ∧ (h0.size ≤ b) ∧ (Exa Z h b "[Ljava/lang/Object;") ∧ (Arv Z h b kb (.object "java/lang/Object") (Int32.ofNat ys.length) (ys.map Value.ref) .null)) 1 8 := by
  refine Con.of (plainFor_of_name own_pn_ArrayList) ?_
  intro pgm e s m below meth c s₁ X0 hx hZ hby hml hown hnm hret hlk e0 hs0
  have N0 := Fr.nil n0
  have hown : s.vm.findClass "java/util/ArrayList" = some m.cls := hown
  have hnm : meth.name = "toArray" := hnm
  refine Go.cast (own_ef_jdk_38_method_16_code_R m a1) ?_
  have K0 := Keep.refl h0 []
  refine gs m s₁ 1 #[vR (a1)] [(.ref a1)] (fun _ k => XS.aloadN X0.here hx rfl (hb hby q2o) rfl rfl k) ?_
  obtain ⟨T101, X101, e101, st101⟩ := getF X0 hx hZ hown (host := "") (Or.inl (hwi hw 34 rfl)) Via.refl e0 f1 (g := (mkF m 1 #[vR (a1)] [(.ref a1)])) rfl rfl (hb hby q2p)
  refine gs m T101 4 #[vR (a1)] [(.ref b1)] st101 ?_
  refine gs m T101 5 #[vR (a1)] [(.ref a1), (.ref b1)] (fun _ k => XS.aloadN X101.here hx rfl (hb hby q2q) rfl rfl k) ?_
  obtain ⟨T102, X102, e102, st102⟩ := getF X101 hx hZ hown (host := "") (Or.inl (hwi hw 70 rfl)) Via.refl e101 f2 (g := (mkF m 5 #[vR (a1)] [(.ref a1), (.ref b1)])) rfl rfl (hb hby q2r)
  refine gs m T102 8 #[vR (a1)] [(.int (Int32.ofNat ys.length)), (.ref b1)] st102 ?_
  obtain ⟨_, _, ⟨T103, L103, k103, n103⟩, -, X103, ⟨Lc103, hQ103, l103, y103, z103⟩, st103⟩ := Jvm.LawKit.callS X102 hx (y := (⟨"java/util/Arrays", "copyOf", "([Ljava/lang/Object;I)[Ljava/lang/Object;"⟩ : MethodName)) hown (mvT hZ (hwi hw 183 rfl)) (mvT hZ (hwi hw 184 rfl)) (mvT hZ (hwi hw 185 rfl)) (mvT hZ (hwi hw 186 rfl)) (by decide) (own_cp2g (W := 0) (n := ys.length) (cap := 8) (n0 := n0) (a0 := #[]) hZ (own_tabS (State.Warmed39.refl Z) hw) (own_tabS hZ hw) MM f4 f3 ov1 (own_hel f5 hys (hwi hw 163 rfl)) (Nat.le_trans hlen (by decide)) (Nat.le_trans hlen (by decide)) (by decide) (by rw [own_AV_len (by omega)]; decide) (by decide) (by decide) hlen) (g := (mkF m 8 #[vR (a1)] [(.int (Int32.ofNat ys.length)), (.ref b1)])) rfl (by rw [hml]; rfl) (argsL := [(.ref b1), (.int (Int32.ofNat ys.length))]) (rest := []) (lenOf own_pd5 rfl) rfl (by show 2 * 0 + _ ≤ _; exact Nat.le_of_eq rfl) (hb hby q2s) (fun _ _ => ⟨rfl, e102, (by decide : 0 + 1 ≤ _), (by decide : 0 + 8 ≤ _)⟩)
  dsimp only [Pt.U, Pt.locs, Pt.cells, Pt.slots] at X103 l103 y103 z103 st103 hQ103
  subst l103 y103 z103
  obtain ⟨kc103, rfl, N103q, E103, EA103, VA103⟩ := hQ103
  have N103 := Fr.app N0 N103q
  obtain ⟨h103, eh103⟩ : ∃ z, z = T103.heap := ⟨_, rfl⟩
  rw [← eh103] at E103 EA103 VA103
  obtain ⟨b103, g103⟩ : ∃ z, z = h0.size := ⟨_, rfl⟩
  rw [← g103] at EA103 VA103 st103
  have ne104 : ∀ i, i < 9 → w i ≠ b103 := fun i hi r => by have q := (f5 i hi).1.lt; rw [r, g103] at q; exact Nat.lt_irrefl _ q
  have ne105 : a1 ≠ b103 := by have q := f0.lt; intro r; rw [r, g103] at q; exact Nat.lt_irrefl _ q
  have ne106 : b1 ≠ b103 := by have q := f3.lt; intro r; rw [r, g103] at q; exact Nat.lt_irrefl _ q
  have ge103 : n0 ≤ b103 := Nat.le_trans Z0 (Nat.le_of_eq g103.symm)
  have Z103 : n0 ≤ h103.size := Nat.le_trans Z0 E103.1
  have sz103 : h0.size ≤ b103 := Nat.le_trans K0.1 (Nat.le_of_eq g103.symm)
  have K103 := K0.ext E103
  have F107 := f0.ext E103
  have F108 := f1.ext E103
  have F109 := f2.ext E103
  have F110 := f3.ext E103
  have F111 := f4.ext E103
  have F112 := f5.ext E103
  have V103 : Arv Z h103 b103 kc103 (.object "java/lang/Object") (Int32.ofNat ys.length) (ys.map Value.ref) .null := by have q := VA103; rw [own_AV_take] at q; exact q
  refine gs m T103 11 #[vR (a1)] [(.ref b103)] (st103) ?_
  exact Go.retA X103 hx (t := (.array (.object "java/lang/Object"))) hret rfl hlk rfl (hb hby q2t) (by rw [eh103.symm]; exact ⟨b103, kc103, rfl, N103, K103, sz103, EA103, V103⟩) (by decide) (by decide)
theorem own_ef_jdk_45_method_1_code_RRI (m : MethodId) (x0 : Addr) (x1 : Addr) (x2 : Int32) : entryFrame m #[(.ref x0), (.ref x1), (.int x2)] 3 = mkF m 0 #[vR (x0), vR (x1), vI (x2)] [] := by first | (simp [entryFrame, mkF, argsToLocals, Value.category]; done) | rfl | (simp [entryFrame, mkF, argsToLocals, own_cI, own_cJ, own_cR, own_cN]; done)
theorem q7g : decode jdk_45_method_1_code 0 = .ok (.aload_n 0, 1) := by decide +kernel
theorem q7h : decode jdk_45_method_1_code 1 = .ok (.invokespecial 1, 3) := by decide +kernel
theorem q7i : decode jdk_45_method_1_code 4 = .ok (.aload_n 0, 1) := by decide +kernel
theorem q7j : decode jdk_45_method_1_code 5 = .ok (.aload_n 1, 1) := by decide +kernel
theorem q7k : decode jdk_45_method_1_code 6 = .ok (.putfield 7, 3) := by decide +kernel
theorem q7l : decode jdk_45_method_1_code 9 = .ok (.aload_n 0, 1) := by decide +kernel
theorem q7m : decode jdk_45_method_1_code 10 = .ok (.iload_n 2, 1) := by decide +kernel
theorem q7n : decode jdk_45_method_1_code 11 = .ok (.putfield 13, 3) := by decide +kernel
theorem q7o : decode jdk_45_method_1_code 14 = .ok (.return_, 1) := by decide +kernel
theorem own_lni (l : Launch) (Z : State) (a0 : Array Value) (hw : ∀ d ∈ tables_1, d.before a0 Z = true) (ws : List Jvm.Cond) (a1 : Addr) (b1 : Addr) (u0 : Value) (u1 : Value) (h0 : Heap) (n0 : Nat) (Z0 : n0 ≤ h0.size) (f0 : Exa Z h0 a1 "java/util/ImmutableCollections$ListN") (f1 : n0 ≤ a1) (f2 : Fld Z h0 a1 "java/util/ImmutableCollections$ListN" "elements" "[Ljava/lang/Object;" u0) (f3 : Fld Z h0 a1 "java/util/ImmutableCollections$ListN" "allowNulls" "Z" u1)  :
    Con l Z (⟨"java/util/ImmutableCollections$ListN", "<init>", "([Ljava/lang/Object;Z)V"⟩ : MethodName) jdk_45_method_1_code 3 none ({ frames := 4, cells := 0, slots := 0, locals := 48 } : Room) ws #[(.ref a1), (.ref b1), (.int (0 : Int32))] h0 (fun v h L => (v = none) ∧ (Fr n0 L) ∧ (Keep h0 h [a1]) ∧ (Exa Z h a1 "java/util/ImmutableCollections$ListN") ∧ (Fld Z h a1 "java/util/ImmutableCollections$ListN" "elements" "[Ljava/lang/Object;" (.ref b1))) 0 0 := by
  refine Con.of (plainFor_of_name own_pn_ImmutableCollections_ListN) ?_
  intro pgm e s m below meth c s₁ X0 hx hZ hby hml hown hnm hret hlk e0 hs0
  have N0 := Fr.nil n0
  have hown : s.vm.findClass "java/util/ImmutableCollections$ListN" = some m.cls := hown
  have hnm : meth.name = "<init>" := hnm
  refine Go.cast (own_ef_jdk_45_method_1_code_RRI m a1 b1 (0 : Int32)) ?_
  have K0 := Keep.refl h0 [a1]
  refine gs m s₁ 1 #[vR (a1), vR (b1), vI ((0 : Int32))] [(.ref a1)] (fun _ k => XS.aloadN X0.here hx rfl (hb hby q7g) rfl rfl k) ?_
  obtain ⟨_, _, ⟨T101, L101, k101, n101⟩, -, X101, ⟨Lc101, hQ101, l101, y101, z101⟩, st101⟩ := X0.specialBack hx (y := (⟨"java/util/ImmutableCollections$AbstractImmutableList", "<init>", "()V"⟩ : MethodName)) rfl hown (mvT hZ (hwi hw 221 rfl)) (mvT hZ (hwi hw 222 rfl)) (mvT hZ (hwi hw 225 rfl)) (by decide) (backOf (W := 0) (Q := Qret (none) h0 n0) (own_ail l Z a0 hw [] a1 h0 n0 Z0 ) hZ (hwi hw 225 rfl) (hwi hw 84 rfl) (by decide) (by decide)) (g := (mkF m 1 #[vR (a1), vR (b1), vI ((0 : Int32))] [(.ref a1)])) rfl (by rw [hml]; rfl) (Steps.refl _) (a := a1) (argsL := []) (rest := []) (lenOf own_pd0 rfl) rfl (by show 2 * 0 + _ ≤ _; exact Nat.le_of_eq rfl) (hb hby q7h) (fun _ _ => ⟨rfl, e0, (by decide : 0 + 0 ≤ _), (by decide : 0 + 0 ≤ _)⟩)
  dsimp only [Pt.U, Pt.locs, Pt.cells, Pt.slots] at X101 l101 y101 z101 st101 hQ101
  subst l101 y101 z101
  obtain ⟨rfl, N101q, eh101⟩ := hQ101
  have N101 := Fr.app N0 N101q
  refine gs m T101 4 #[vR (a1), vR (b1), vI ((0 : Int32))] [] (fun _ k => st101.trans k) ?_
  refine gs m T101 5 #[vR (a1), vR (b1), vI ((0 : Int32))] [(.ref a1)] (fun _ k => XS.aloadN X101.here hx rfl (hb hby q7i) rfl rfl k) ?_
  refine gs m T101 6 #[vR (a1), vR (b1), vI ((0 : Int32))] [(.ref b1), (.ref a1)] (fun _ k => XS.aloadN X101.here hx rfl (hb hby q7j) rfl rfl k) ?_
  obtain ⟨T102, h102, X102, e102, W102, st102⟩ := putF X101 hx hZ hown (host := "") (Or.inl (hwi hw 96 rfl)) Via.refl eh101 f2 f0 (Or.inr ⟨(hwi hw 97 rfl), rfl, hnm⟩) (hwi hw 216 rfl) (ty := (.array (.object "java/lang/Object"))) (by decide) rfl rfl (g := (mkF m 6 #[vR (a1), vR (b1), vI ((0 : Int32))] [(.ref b1), (.ref a1)])) rfl rfl (hb hby q7k)
  have N102 := Fr.snoc X102 N101 f1
  have Z102 : n0 ≤ h102.size := Nat.le_trans Z0 (Keep.of_wr W102).1
  have K102 := K0.wr W102 (Or.inl (List.mem_of_getElem? (i := 0) rfl))
  have F103 := f0.wr W102
  have F104 := f3.other W102 (Or.inr (slot_ne (Or.inr (hwi hw 235 rfl)) (Or.inr (hwi hw 97 rfl)) (by decide) (t := .boolean) (t' := (.array (.object "java/lang/Object"))) (by decide) (by decide)))
  have F105 := f2.same W102
  refine gs m T102 9 #[vR (a1), vR (b1), vI ((0 : Int32))] [] st102 ?_
  refine gs m T102 10 #[vR (a1), vR (b1), vI ((0 : Int32))] [(.ref a1)] (fun _ k => XS.aloadN X102.here hx rfl (hb hby q7l) rfl rfl k) ?_
  refine gs m T102 11 #[vR (a1), vR (b1), vI ((0 : Int32))] [(.int (0 : Int32)), (.ref a1)] (fun _ k => XS.iloadN X102.here hx rfl (hb hby q7m) rfl  k) ?_
  obtain ⟨T106, h106, X106, e106, W106, st106⟩ := putFN X102 hx hZ hown (hwi hw 234 rfl) Via.refl e102 F104 F103 (Or.inr ⟨(hwi hw 235 rfl), rfl, hnm⟩) (hwi hw 216 rfl) (ty := .boolean) (v' := (.int (0 : Int32))) (by decide) (rfl) (by decide) (g := (mkF m 11 #[vR (a1), vR (b1), vI ((0 : Int32))] [(.int (0 : Int32)), (.ref a1)])) rfl rfl (hb hby q7n)
  have N106 := Fr.snoc X106 N102 f1
  have Z106 : n0 ≤ h106.size := Nat.le_trans Z102 (Keep.of_wr W106).1
  have K106 := K102.wr W106 (Or.inl (List.mem_of_getElem? (i := 0) rfl))
  have F107 := F103.wr W106
  have F108 := F105.other W106 (Or.inr (slot_ne (Or.inr (hwi hw 97 rfl)) (Or.inr (hwi hw 235 rfl)) (by decide) (t := (.array (.object "java/lang/Object"))) (t' := .boolean) (by decide) (by decide)))
  have F109 := F104.same W106
  refine gs m T106 14 #[vR (a1), vR (b1), vI ((0 : Int32))] [] st106 ?_
  exact Go.retV X106 hx hret hlk (hb hby q7o) (by rw [e106]; exact ⟨rfl, N106, K106, F107, F108⟩) (by decide) (by decide)
theorem q7p : decode jdk_56_method_4_code 8 = .ok (.iload_n 2, 1) := by decide +kernel
theorem q7q : decode jdk_56_method_4_code 9 = .ok (.aload_n 0, 1) := by decide +kernel
theorem q7r : decode jdk_56_method_4_code 10 = .ok (.arraylength, 1) := by decide +kernel
theorem q7s : decode jdk_56_method_4_code 11 = .ok (.if_icmp .ge 18, 3) := by decide +kernel
theorem q7t : decode jdk_56_method_4_code 29 = .ok (.new 12, 3) := by decide +kernel
theorem q7u : decode jdk_56_method_4_code 32 = .ok (.dup, 1) := by decide +kernel
theorem q7v : decode jdk_56_method_4_code 33 = .ok (.aload_n 1, 1) := by decide +kernel
theorem q7w : decode jdk_56_method_4_code 34 = .ok (.iconst 0, 1) := by decide +kernel
theorem q7x : decode jdk_56_method_4_code 35 = .ok (.invokespecial 43, 3) := by decide +kernel
theorem own_pd18 : parseMethodDescriptor "([Ljava/lang/Object;Z)V" = some ⟨[(.array (.object "java/lang/Object")), .boolean], none⟩ := by decide +kernel
theorem q7y : decode jdk_56_method_4_code 38 = .ok (.areturn, 1) := by decide +kernel
theorem q7z : decode jdk_56_method_4_code 14 = .ok (.aload_n 1, 1) := by decide +kernel
theorem q80 : decode jdk_56_method_4_code 15 = .ok (.iload_n 2, 1) := by decide +kernel
theorem q81 : decode jdk_56_method_4_code 16 = .ok (.aload_n 0, 1) := by decide +kernel
theorem q82 : decode jdk_56_method_4_code 17 = .ok (.iload_n 2, 1) := by decide +kernel
theorem q83 : decode jdk_56_method_4_code 18 = .ok (.aaload, 1) := by decide +kernel
theorem q84 : decode jdk_56_method_4_code 19 = .ok (.invokestatic 37, 3) := by decide +kernel
theorem q85 : decode jdk_56_method_4_code 22 = .ok (.aastore, 1) := by decide +kernel
theorem q86 : decode jdk_56_method_4_code 23 = .ok (.iinc 2 1, 3) := by decide +kernel
theorem q87 : decode jdk_56_method_4_code 26 = .ok (.goto (-18), 3) := by decide +kernel
theorem own_lfl (t : Nat) : ∀ {pgm : Program} {l : Launch} {e : Env} {s : State} {m : MethodId} {args : Array Value} {below : List Frame} {meth : Method} {c : Code} {T0 : State} {locs : List Loc} {cells slots : Nat} {Z : State} {a0 : Array Value} {h0 : Heap} {n0 : Nat} (b1 : Addr) (bt : Addr) (k1 : ClassId) (kt : ClassId) (kq : Nat) (ys : List Addr) (w : Nat → Addr) (sec : Nat → Int64) (hB : Heap)
    (X0 : Stand pgm l e ({ frames := 5, cells := 2, slots := 10, locals := 63 } : Room) s m args below meth c T0 locs cells slots) (hx : pgm.tables.exec = Jvm.exec) (hZ : Z.Warmed39 s.vm) (hw : ∀ d ∈ tables_1, d.before a0 Z = true) (hby : c.code = jdk_56_method_4_code) (hml : c.maxLocals = 3) (hown : s.vm.findClass "java/util/ImmutableCollections" = some m.cls) (hret : meth.sig.returnType = (some (.object "java/util/List"))) (hlk : meth.locks = false) (e0 : T0.heap = h0) (N0 : Fr n0 locs) (Z0 : n0 ≤ h0.size) (hcells : cells ≤ 1) (hslots : slots ≤ 8) (f0 : Arv Z h0 b1 k1 (.object "java/lang/Object") (Int32.ofNat ys.length) (ys.map Value.ref) .null) (f1 : Exa Z h0 bt "[Ljava/lang/Object;") (f2 : Arv Z h0 bt kt (.object "java/lang/Object") (Int32.ofNat ys.length) (own_PV ys kq) .null) (f3 : n0 ≤ bt) (f4 : b1 ≠ bt) (f5 : UW Z h0 w sec) (f6 : ∀ i, i < 9 → w i ≠ bt) (f7 : hB.size ≤ bt) (hkt : kq + t = ys.length) (hlen : ys.length ≤ 8) (hys : ∀ y ∈ ys, ∃ i, i < 9 ∧ y = w i) (ovt : Ovr Z kt "java/lang/Object") (Kb : Keep hB h0 []),
    Go pgm e below s (fun v h L => ∃ lst : Addr, ∃ b2 : Addr, ∃ k2 : ClassId, (v = some (.ref lst)) ∧ (Fr n0 L) ∧ (Keep hB h []) ∧ (hB.size ≤ lst) ∧ (hB.size ≤ b2) ∧ (Exa Z h lst "java/util/ImmutableCollections$ListN") ∧ (Fld Z h lst "java/util/ImmutableCollections$ListN" "elements" "[Ljava/lang/Object;" (.ref b2)) ∧ (Arv Z h b2 k2 (.object "java/lang/Object") (Int32.ofNat ys.length) (ys.map Value.ref) .null)) 2 10 T0 (mkF m 8 #[vR (b1), vR (bt), vI ((Int32.ofNat kq))] []) := by
  induction t with
  | zero =>
    intro pgm l e s m args below meth c T0 locs cells slots Z a0 h0 n0 b1 bt k1 kt kq ys w sec hB X0 hx hZ hw hby hml hown hret hlk e0 N0 Z0 hcells hslots f0 f1 f2 f3 f4 f5 f6 f7 hkt hlen hys ovt Kb
    obtain rfl : kq = ys.length := by omega
    have hz : ¬ Int32.ofNat ys.length < Int32.ofNat ys.length := Int32.lt_irrefl
    have VE : Arv Z h0 bt kt (.object "java/lang/Object") (Int32.ofNat ys.length) (ys.map Value.ref) .null := by have q := f2; rw [own_PV_end] at q; exact q
    refine gs m T0 9 #[vR (b1), vR (bt), vI ((Int32.ofNat ys.length))] [(.int (Int32.ofNat ys.length))] (fun _ k => XS.iloadN X0.here hx rfl (hb hby q7p) rfl  k) ?_
    refine gs m T0 10 #[vR (b1), vR (bt), vI ((Int32.ofNat ys.length))] [(.ref b1), (.int (Int32.ofNat ys.length))] (fun _ k => XS.aloadN X0.here hx rfl (hb hby q7q) rfl rfl k) ?_
    obtain ⟨cl101, Ar101, -, S101, M101, -, -⟩ := id f0
    refine gs m T0 11 #[vR (b1), vR (bt), vI ((Int32.ofNat ys.length))] [(.int (Int32.ofNat ys.length)), (.int (Int32.ofNat ys.length))] (fun _ k => X0.arraylength hx (cell := cl101) (by rw [e0]; exact Ar101.1) (State.isArrayOf_alike hZ.alike Ar101.2.1) (g := (mkF m 10 #[vR (b1), vR (bt), vI ((Int32.ofNat ys.length))] [(.ref b1), (.int (Int32.ofNat ys.length))])) rfl (rest := [(.int (Int32.ofNat ys.length))]) rfl (hb hby q7r) _ (by rw [len_of S101 M101]; exact k)) ?_
    refine gs m T0 29 #[vR (b1), vR (bt), vI ((Int32.ofNat ys.length))] [] (fun _ k => XS.icmpYes X0.here hx rfl (pc0 := 11) (pc' := 29) rfl (hb hby q7s) rfl (flt hz).2.1 (by decide) (by decide) k) ?_
    obtain ⟨T102, h102, X102, e102, E102, A102, D102, -, st102⟩ := newO X0 hx hZ hown (hwi hw 60 rfl) (hwi hw 216 rfl) (hwi hw 94 rfl) e0 (g := (mkF m 29 #[vR (b1), vR (bt), vI ((Int32.ofNat ys.length))] [])) rfl (hb hby q7t) (by dsimp only [Pt.cells, Pt.slots, room_1]; omega) (by dsimp only [Pt.cells, Pt.slots, room_1]; omega)
    obtain ⟨b102, g102⟩ : ∃ z, z = h0.size := ⟨_, rfl⟩
    rw [← g102] at A102 D102 st102
    have ne103 : ∀ i, i < 9 → w i ≠ b102 := fun i hi r => by have q := (f5 i hi).1.lt; rw [r, g102] at q; exact Nat.lt_irrefl _ q
    have ne104 : b1 ≠ b102 := by have q := f0.lt; intro r; rw [r, g102] at q; exact Nat.lt_irrefl _ q
    have ne105 : bt ≠ b102 := by have q := f1.lt; intro r; rw [r, g102] at q; exact Nat.lt_irrefl _ q
    have ge102 : n0 ≤ b102 := Nat.le_trans Z0 (Nat.le_of_eq g102.symm)
    have Z102 : n0 ≤ h102.size := Nat.le_trans Z0 E102.1
    have sz102 : hB.size ≤ b102 := Nat.le_trans Kb.1 (Nat.le_of_eq g102.symm)
    have K102 := Kb.ext E102
    have F106 := f0.ext E102
    have F107 := f1.ext E102
    have F108 := VE.ext E102
    have F109 := f5.ext E102
    have F110 : Fld Z h102 b102 "java/util/ImmutableCollections$ListN" "elements" "[Ljava/lang/Object;" .null := D102 (Or.inr (hwi hw 97 rfl)) (ty := (.array (.object "java/lang/Object"))) (by decide)
    have F111 : Fld Z h102 b102 "java/util/ImmutableCollections$ListN" "allowNulls" "Z" (.int (0 : Int32)) := D102 (Or.inr (hwi hw 235 rfl)) (ty := .boolean) (by decide)
    refine gs m T102 32 #[vR (b1), vR (bt), vI ((Int32.ofNat ys.length))] [(.ref b102)] st102 ?_
    refine gs m T102 33 #[vR (b1), vR (bt), vI ((Int32.ofNat ys.length))] [(.ref b102), (.ref b102)] (fun _ k => XS.dup X102.here hx rfl (hb hby q7u) rfl rfl k) ?_
    refine gs m T102 34 #[vR (b1), vR (bt), vI ((Int32.ofNat ys.length))] [(.ref bt), (.ref b102), (.ref b102)] (fun _ k => XS.aloadN X102.here hx rfl (hb hby q7v) rfl rfl k) ?_
    refine gs m T102 35 #[vR (b1), vR (bt), vI ((Int32.ofNat ys.length))] [(.int (0 : Int32)), (.ref bt), (.ref b102), (.ref b102)] (fun _ k => XS.iconst X102.here hx rfl (hb hby q7w) k) ?_
    obtain ⟨_, _, ⟨T112, L112, k112, n112⟩, -, X112, ⟨Lc112, hQ112, l112, y112, z112⟩, st112⟩ := X102.specialBackNest hx (y := (⟨"java/util/ImmutableCollections$ListN", "<init>", "([Ljava/lang/Object;Z)V"⟩ : MethodName)) rfl hown (own_mvN hZ (hwi hw 217 rfl)) (mvT hZ (hwi hw 218 rfl)) (mvT hZ (hwi hw 220 rfl)) (by decide) (backOf (W := 1) (Q := fun v h L => (v = none) ∧ (Fr n0 L) ∧ (Keep h102 h [b102]) ∧ (Exa Z h b102 "java/util/ImmutableCollections$ListN") ∧ (Fld Z h b102 "java/util/ImmutableCollections$ListN" "elements" "[Ljava/lang/Object;" (.ref bt))) (own_lni l Z a0 hw [] b102 bt .null (.int (0 : Int32)) h102 n0 Z102 A102 ge102 F110 F111) hZ (hwi hw 220 rfl) (hwi hw 94 rfl) (by decide) (by decide)) (g := (mkF m 35 #[vR (b1), vR (bt), vI ((Int32.ofNat ys.length))] [(.int (0 : Int32)), (.ref bt), (.ref b102), (.ref b102)])) rfl (by rw [hml]; rfl) (Steps.refl _) (a := b102) (argsL := [(.ref bt), (.int (0 : Int32))]) (rest := [(.ref b102)]) (lenOf own_pd18 rfl) rfl (by show 2 * 0 + _ ≤ _; exact Nat.le_of_eq rfl) (hb hby q7x) (fun _ _ => ⟨rfl, e102, (by dsimp only [Pt.cells, Pt.slots, room_1]; omega), (by dsimp only [Pt.cells, Pt.slots, room_1]; omega)⟩)
    dsimp only [Pt.U, Pt.locs, Pt.cells, Pt.slots] at X112 l112 y112 z112 st112 hQ112
    subst l112 y112 z112
    obtain ⟨rfl, N112q, K112, P112_0, P112_1⟩ := hQ112
    have N112 := Fr.app N0 N112q
    have KK112 := K102.trans K112 (allS (Or.inr sz102) all0)
    have Z112 : n0 ≤ T112.heap.size := Nat.le_trans Z102 K112.1
    have F113 := F106.keep K112 (ninS ne104 nin0)
    have F114 := F107.keep K112
    have F115 := F108.keep K112 (ninS ne105 nin0)
    have F116 := F109.keep K112 (fun i hi => (ninS (ne103 i hi) nin0))
    have F117 := A102.keep K112
    refine gs m T112 38 #[vR (b1), vR (bt), vI ((Int32.ofNat ys.length))] [(.ref b102)] (fun _ k => st112.trans k) ?_
    exact Go.retA X112 hx (t := (.object "java/util/List")) hret rfl hlk rfl (hb hby q7y) (⟨b102, bt, kt, rfl, N112, KK112, sz102, f7, P112_0, P112_1, F115⟩) (by omega) (by omega)
  | succ t ih =>
    intro pgm l e s m args below meth c T0 locs cells slots Z a0 h0 n0 b1 bt k1 kt kq ys w sec hB X0 hx hZ hw hby hml hown hret hlk e0 N0 Z0 hcells hslots f0 f1 f2 f3 f4 f5 f6 f7 hkt hlen hys ovt Kb
    have hk : kq < ys.length := by omega
    obtain ⟨yk, hyk⟩ : ∃ z, z = ys.getD kq 0 := ⟨_, rfl⟩
    obtain ⟨i1, hi1, ey⟩ := hys _ (own_getmem (k := kq) hk)
    have eyk : yk = w i1 := hyk.trans ey
    have hlt : Int32.ofNat kq < Int32.ofNat ys.length := own_lti hk (by omega)
    refine gs m T0 9 #[vR (b1), vR (bt), vI ((Int32.ofNat kq))] [(.int (Int32.ofNat kq))] (fun _ k => XS.iloadN X0.here hx rfl (hb hby q7p) rfl  k) ?_
    refine gs m T0 10 #[vR (b1), vR (bt), vI ((Int32.ofNat kq))] [(.ref b1), (.int (Int32.ofNat kq))] (fun _ k => XS.aloadN X0.here hx rfl (hb hby q7q) rfl rfl k) ?_
    obtain ⟨cl101, Ar101, -, S101, M101, -, -⟩ := id f0
    refine gs m T0 11 #[vR (b1), vR (bt), vI ((Int32.ofNat kq))] [(.int (Int32.ofNat ys.length)), (.int (Int32.ofNat kq))] (fun _ k => X0.arraylength hx (cell := cl101) (by rw [e0]; exact Ar101.1) (State.isArrayOf_alike hZ.alike Ar101.2.1) (g := (mkF m 10 #[vR (b1), vR (bt), vI ((Int32.ofNat kq))] [(.ref b1), (.int (Int32.ofNat kq))])) rfl (rest := [(.int (Int32.ofNat kq))]) rfl (hb hby q7r) _ (by rw [len_of S101 M101]; exact k)) ?_
    refine gs m T0 14 #[vR (b1), vR (bt), vI ((Int32.ofNat kq))] [] (fun _ k => XS.icmpNo X0.here hx rfl (hb hby q7s) rfl (tlt hlt).2.1 k) ?_
    refine gs m T0 15 #[vR (b1), vR (bt), vI ((Int32.ofNat kq))] [(.ref bt)] (fun _ k => XS.aloadN X0.here hx rfl (hb hby q7z) rfl rfl k) ?_
    refine gs m T0 16 #[vR (b1), vR (bt), vI ((Int32.ofNat kq))] [(.int (Int32.ofNat kq)), (.ref bt)] (fun _ k => XS.iloadN X0.here hx rfl (hb hby q80) rfl  k) ?_
    refine gs m T0 17 #[vR (b1), vR (bt), vI ((Int32.ofNat kq))] [(.ref b1), (.int (Int32.ofNat kq)), (.ref bt)] (fun _ k => XS.aloadN X0.here hx rfl (hb hby q81) rfl rfl k) ?_
    refine gs m T0 18 #[vR (b1), vR (bt), vI ((Int32.ofNat kq))] [(.int (Int32.ofNat kq)), (.ref b1), (.int (Int32.ofNat kq)), (.ref bt)] (fun _ k => XS.iloadN X0.here hx rfl (hb hby q82) rfl  k) ?_
    obtain ⟨cl102, Ar102, q102, S102, M102, H102, G102⟩ := id f0
    have I102 := inb_of (j := (Int32.ofNat kq)) S102 (own_inb hk (by omega))
    refine gs m T0 19 #[vR (b1), vR (bt), vI ((Int32.ofNat kq))] [(.ref yk), (.int (Int32.ofNat kq)), (.ref bt)] (fun _ k => X0.aaload hx (j := (Int32.ofNat kq)) (v := (.ref yk)) (by rw [e0]; exact Ar102.1) (State.isArrayOf_alike hZ.alike Ar102.2.1) rfl Ar102.2.2 I102 (Has.at H102 I102 (own_map_at hk hlen hyk)) (g := (mkF m 18 #[vR (b1), vR (bt), vI ((Int32.ofNat kq))] [(.int (Int32.ofNat kq)), (.ref b1), (.int (Int32.ofNat kq)), (.ref bt)])) rfl rfl (hb hby q83) _ k) ?_
    obtain ⟨_, _, ⟨T103, L103, k103, n103⟩, -, X103, ⟨Lc103, hQ103, l103, y103, z103⟩, st103⟩ := Jvm.LawKit.callS X0 hx (y := (⟨"java/util/Objects", "requireNonNull", "(Ljava/lang/Object;)Ljava/lang/Object;"⟩ : MethodName)) hown (mvT hZ (hwi hw 212 rfl)) (mvT hZ (hwi hw 213 rfl)) (mvT hZ (hwi hw 214 rfl)) (mvT hZ (hwi hw 215 rfl)) (by decide) (backOf (W := 2) (Q := Qret (some (.ref yk)) h0 n0) (own_rnn l Z a0 hw [] yk h0 n0 Z0 ) hZ (hwi hw 215 rfl) (hwi hw 214 rfl) (by decide) (by decide)) (g := (mkF m 19 #[vR (b1), vR (bt), vI ((Int32.ofNat kq))] [(.ref yk), (.int (Int32.ofNat kq)), (.ref bt)])) rfl (by rw [hml]; rfl) (argsL := [(.ref yk)]) (rest := [(.int (Int32.ofNat kq)), (.ref bt)]) (lenOf own_pd6 rfl) rfl (by show 2 * 0 + _ ≤ _; exact Nat.le_of_eq rfl) (hb hby q84) (fun _ _ => ⟨rfl, e0, (by dsimp only [Pt.cells, Pt.slots, room_1]; omega), (by dsimp only [Pt.cells, Pt.slots, room_1]; omega)⟩)
    dsimp only [Pt.U, Pt.locs, Pt.cells, Pt.slots] at X103 l103 y103 z103 st103 hQ103
    subst l103 y103 z103
    obtain ⟨rfl, N103q, eh103⟩ := hQ103
    have N103 := Fr.app N0 N103q
    refine gs m T103 22 #[vR (b1), vR (bt), vI ((Int32.ofNat kq))] [(.ref yk), (.int (Int32.ofNat kq)), (.ref bt)] (st103) ?_
    obtain ⟨cl104, Ar104, q104, S104, M104, H104, G104⟩ := id f2
    obtain ⟨T104, h104, X104, e104, W104, st104⟩ := stR X103 hx hZ eh103 Ar104 (j := (Int32.ofNat kq)) (inb_of S104 (own_inb hk (by omega))) rfl (Sto.ofV Ar104 q104 ovt (Ins.of_exa (by rw [eyk]; exact (f5 i1 hi1).1 : Exa Z h0 yk "java/time/Duration") (hwi hw 163 rfl))) (g := (mkF m 22 #[vR (b1), vR (bt), vI ((Int32.ofNat kq))] [(.ref yk), (.int (Int32.ofNat kq)), (.ref bt)])) rfl rfl (hb hby q85)
    have V104 : Arv Z h104 bt kt (.object "java/lang/Object") (Int32.ofNat ys.length) ((own_PV ys kq).set kq (.ref yk)) .null := Arv.set Ar104 q104 S104 M104 H104 G104 rfl W104 kq (own_clampN (by omega)) (by rw [own_PV_len (by omega)]; exact hk)
    rw [own_PV_set hk hyk] at V104
    have N104 := Fr.snoc X104 N103 f3
    have Z104 : n0 ≤ h104.size := Nat.le_trans Z0 (Keep.of_wr W104).1
    have K104 := Kb.wr W104 (Or.inr f7)
    have F105 := f0.other W104 f4
    have F106 := f1.wr W104
    have F107 := f5.wr W104 f6
    refine gs m T104 23 #[vR (b1), vR (bt), vI ((Int32.ofNat kq))] [] st104 ?_
    refine gs m T104 26 #[vR (b1), vR (bt), vI (((Int32.ofNat kq) + (1 : Int32)))] [] (fun _ k => XS.iinc X104.here hx rfl (hb hby q86) rfl (l' := #[vR (b1), vR (bt), vI (((Int32.ofNat kq) + (1 : Int32)))]) rfl k) ?_
    refine gs m T104 8 #[vR (b1), vR (bt), vI (((Int32.ofNat kq) + (1 : Int32)))] [] (fun _ k => XS.goto X104.here hx rfl (pc0 := 26) (pc' := 8) rfl (hb hby q87) (by decide) (by decide) k) ?_
    rw [own_one kq]
    exact ih b1 bt k1 kt (kq + 1) ys w sec hB X104 hx hZ hw hby hml hown hret hlk e104 N104 Z104 (by omega) (by omega) F105 F106 V104 f3 f4 F107 f6 f7 (by omega) hlen hys ovt K104
theorem own_ef_jdk_56_method_4_code_R (m : MethodId) (x0 : Addr) : entryFrame m #[(.ref x0)] 3 = mkF m 0 #[vR (x0), sU, sU] [] := by first | (simp [entryFrame, mkF, argsToLocals, Value.category]; done) | rfl | (simp [entryFrame, mkF, argsToLocals, own_cI, own_cJ, own_cR, own_cN]; done)
theorem q88 : decode jdk_56_method_4_code 0 = .ok (.aload_n 0, 1) := by decide +kernel
theorem q89 : decode jdk_56_method_4_code 1 = .ok (.arraylength, 1) := by decide +kernel
theorem q8a : decode jdk_56_method_4_code 2 = .ok (.anewarray 2, 3) := by decide +kernel
theorem q8b : decode jdk_56_method_4_code 5 = .ok (.astore_n 1, 1) := by decide +kernel
theorem q8c : decode jdk_56_method_4_code 6 = .ok (.iconst 0, 1) := by decide +kernel
theorem q8d : decode jdk_56_method_4_code 7 = .ok (.istore_n 2, 1) := by decide +kernel
theorem own_lfag (l : Launch) (Z : State) (a0 : Array Value) (hw : ∀ d ∈ tables_1, d.before a0 Z = true) (ws : List Jvm.Cond) (b1 : Addr) (k1 : ClassId) (ys : List Addr) (w : Nat → Addr) (sec : Nat → Int64) (h0 : Heap) (n0 : Nat) (Z0 : n0 ≤ h0.size) (f0 : Arv Z h0 b1 k1 (.object "java/lang/Object") (Int32.ofNat ys.length) (ys.map Value.ref) .null) (f1 : UW Z h0 w sec) (hlen : ys.length ≤ 8) (hys : ∀ y ∈ ys, ∃ i, i < 9 ∧ y = w i) :
    Con l Z (⟨"java/util/ImmutableCollections", "listFromArray", "([Ljava/lang/Object;)Ljava/util/List;"⟩ : MethodName) jdk_56_method_4_code 3 (some (.object "java/util/List")) ({ frames := 5, cells := 2, slots := 10, locals := 63 } : Room) ws #[(.ref b1)] h0 (fun v h L => ∃ lst : Addr, ∃ b2 : Addr, ∃ k2 : ClassId, (v = some (.ref lst)) ∧ (Fr n0 L) ∧ (Keep h0 h []) ∧ (h0.size ≤ lst) ∧ (h0.size ≤ b2) ∧ (Exa Z h lst "java/util/ImmutableCollections$ListN") ∧ (Fld Z h lst "java/util/ImmutableCollections$ListN" "elements" "[Ljava/lang/Object;" (.ref b2)) ∧ (Arv Z h b2 k2 (.object "java/lang/Object") (Int32.ofNat ys.length) (ys.map Value.ref) .null)) 2 10 := by
  refine Con.of (plainFor_of_name own_pn_ImmutableCollections) ?_
  intro pgm e s m below meth c s₁ X0 hx hZ hby hml hown hnm hret hlk e0 hs0
  have N0 := Fr.nil n0
  have hown : s.vm.findClass "java/util/ImmutableCollections" = some m.cls := hown
  have hnm : meth.name = "listFromArray" := hnm
  refine Go.cast (own_ef_jdk_56_method_4_code_R m b1) ?_
  have K0 := Keep.refl h0 []
  refine gs m s₁ 1 #[vR (b1), sU, sU] [(.ref b1)] (fun _ k => XS.aloadN X0.here hx rfl (hb hby q88) rfl rfl k) ?_
  obtain ⟨cl101, Ar101, -, S101, M101, -, -⟩ := id f0
  refine gs m s₁ 2 #[vR (b1), sU, sU] [(.int (Int32.ofNat ys.length))] (fun _ k => X0.arraylength hx (cell := cl101) (by rw [e0]; exact Ar101.1) (State.isArrayOf_alike hZ.alike Ar101.2.1) (g := (mkF m 1 #[vR (b1), sU, sU] [(.ref b1)])) rfl (rest := []) rfl (hb hby q89) _ (by rw [len_of S101 M101]; exact k)) ?_
  obtain ⟨T102, h102, k102, X102, e102, E102, A102, EA102, OV102, st102⟩ := newRE X0 hx hZ hown (hwi hw 211 rfl) (hwi hw 162 rfl) e0 (g := (mkF m 2 #[vR (b1), sU, sU] [(.int (Int32.ofNat ys.length))])) rfl (hb hby q8a) rfl (own_nneg (by omega)) (cap := 8) (by rw [own_clampN (by omega)]; exact hlen) (by decide) (by decide) (by decide) (ad := "[Ljava/lang/Object;") (by decide)
  obtain ⟨b102, g102⟩ : ∃ z, z = h0.size := ⟨_, rfl⟩
  rw [← g102] at A102 EA102 st102
  have ne103 : ∀ i, i < 9 → w i ≠ b102 := fun i hi r => by have q := (f1 i hi).1.lt; rw [r, g102] at q; exact Nat.lt_irrefl _ q
  have ne104 : b1 ≠ b102 := by have q := f0.lt; intro r; rw [r, g102] at q; exact Nat.lt_irrefl _ q
  have ge102 : n0 ≤ b102 := Nat.le_trans Z0 (Nat.le_of_eq g102.symm)
  have Z102 : n0 ≤ h102.size := Nat.le_trans Z0 E102.1
  have sz102 : h0.size ≤ b102 := Nat.le_trans K0.1 (Nat.le_of_eq g102.symm)
  have K102 := K0.ext E102
  have F105 := f0.ext E102
  have F106 := f1.ext E102
  have V102 : Arv Z h102 b102 k102 (.object "java/lang/Object") (Int32.ofNat ys.length) (List.replicate ys.length .null) .null := (Arv.new A102 (own_nneg (by omega))).pad (own_padr ys.length)
  refine gs m T102 5 #[vR (b1), sU, sU] [(.ref b102)] st102 ?_
  refine gs m T102 6 #[vR (b1), vR (b102), sU] [] (fun _ k => XS.astoreN X102.here hx rfl (hb hby q8b) rfl rfl (l' := #[vR (b1), vR (b102), sU]) rfl k) ?_
  refine gs m T102 7 #[vR (b1), vR (b102), sU] [(.int (0 : Int32))] (fun _ k => XS.iconst X102.here hx rfl (hb hby q8c) k) ?_
  refine gs m T102 8 #[vR (b1), vR (b102), vI ((0 : Int32))] [] (fun _ k => XS.istoreN X102.here hx rfl (hb hby q8d) rfl (l' := #[vR (b1), vR (b102), vI ((0 : Int32))]) rfl k) ?_
  have VP : Arv Z h102 b102 k102 (.object "java/lang/Object") (Int32.ofNat ys.length) (own_PV ys 0) .null := by rw [own_PV_0]; exact V102
  exact own_lfl ys.length b1 b102 k1 k102 0 ys w sec h0 X102 hx hZ hw hby hml hown hret hlk e102 N0 Z102 (by decide) (by decide) F105 EA102 VP ge102 ne104 F106 ne103 sz102 (by omega) hlen hys OV102 K102
theorem q8e : decode jdk_40_method_47_code 59 = .ok (.aload_n 0, 1) := by decide +kernel
theorem q8f : decode jdk_40_method_47_code 60 = .ok (.invokestatic 109, 3) := by decide +kernel
theorem q8g : decode jdk_40_method_47_code 63 = .ok (.areturn, 1) := by decide +kernel
theorem own_ofag (l : Launch) (Z : State) (a0 : Array Value) (hw : ∀ d ∈ tables_1, d.before a0 Z = true) (ws : List Jvm.Cond) (b1 : Addr) (k1 : ClassId) (ys : List Addr) (w : Nat → Addr) (sec : Nat → Int64) (h0 : Heap) (n0 : Nat) (Z0 : n0 ≤ h0.size) (f0 : Arv Z h0 b1 k1 (.object "java/lang/Object") (Int32.ofNat ys.length) (ys.map Value.ref) .null) (f1 : UW Z h0 w sec) (hlen : ys.length ≤ 8) (hys : ∀ y ∈ ys, ∃ i, i < 9 ∧ y = w i) (h3 : 3 ≤ ys.length) :
    Con l Z (⟨"java/util/List", "of", "([Ljava/lang/Object;)Ljava/util/List;"⟩ : MethodName) jdk_40_method_47_code 2 (some (.object "java/util/List")) ({ frames := 6, cells := 2, slots := 10, locals := 77 } : Room) ws #[(.ref b1)] h0 (fun v h L => ∃ lst : Addr, ∃ b2 : Addr, ∃ k2 : ClassId, (v = some (.ref lst)) ∧ (Fr n0 L) ∧ (Keep h0 h []) ∧ (h0.size ≤ lst) ∧ (h0.size ≤ b2) ∧ (Exa Z h lst "java/util/ImmutableCollections$ListN") ∧ (Fld Z h lst "java/util/ImmutableCollections$ListN" "elements" "[Ljava/lang/Object;" (.ref b2)) ∧ (Arv Z h b2 k2 (.object "java/lang/Object") (Int32.ofNat ys.length) (ys.map Value.ref) .null)) 2 10 := by
  refine Con.of (plainFor_of_name own_pn_List) ?_
  intro pgm e s m below meth c s₁ X0 hx hZ hby hml hown hnm hret hlk e0 hs0
  have N0 := Fr.nil n0
  have hown : s.vm.findClass "java/util/List" = some m.cls := hown
  have hnm : meth.name = "of" := hnm
  refine Go.cast (own_ef_jdk_40_method_47_code_R m b1) ?_
  have K0 := Keep.refl h0 []
  refine gs m s₁ 1 #[vR (b1), sU] [(.ref b1)] (fun _ k => XS.aloadN X0.here hx rfl (hb hby q3j) rfl rfl k) ?_
  obtain ⟨cl101, Ar101, -, S101, M101, -, -⟩ := id f0
  refine gs m s₁ 2 #[vR (b1), sU] [(.int (Int32.ofNat ys.length))] (fun _ k => X0.arraylength hx (cell := cl101) (by rw [e0]; exact Ar101.1) (State.isArrayOf_alike hZ.alike Ar101.2.1) (g := (mkF m 1 #[vR (b1), sU] [(.ref b1)])) rfl (rest := []) rfl (hb hby q3k) _ (by rw [len_of S101 M101]; exact k)) ?_
  refine gs m s₁ 59 #[vR (b1), sU] [] (fun _ k => XS.tswOut X0.here hx rfl (pc0 := 2) (pc' := 59) rfl (hb hby q3l) rfl (Or.inr (by rw [own_toIntN (by omega)]; omega)) (by decide) (by decide) k) ?_
  refine gs m s₁ 60 #[vR (b1), sU] [(.ref b1)] (fun _ k => XS.aloadN X0.here hx rfl (hb hby q8e) rfl rfl k) ?_
  obtain ⟨_, _, ⟨T102, L102, k102, n102⟩, -, X102, ⟨Lc102, hQ102, l102, y102, z102⟩, st102⟩ := Jvm.LawKit.callS X0 hx (y := (⟨"java/util/ImmutableCollections", "listFromArray", "([Ljava/lang/Object;)Ljava/util/List;"⟩ : MethodName)) hown (mvT hZ (hwi hw 208 rfl)) (mvT hZ (hwi hw 209 rfl)) (mvT hZ (hwi hw 53 rfl)) (mvT hZ (hwi hw 210 rfl)) (by decide) (backOf (W := 0) (Q := fun v h L => ∃ lst : Addr, ∃ b2 : Addr, ∃ k2 : ClassId, (v = some (.ref lst)) ∧ (Fr n0 L) ∧ (Keep h0 h []) ∧ (h0.size ≤ lst) ∧ (h0.size ≤ b2) ∧ (Exa Z h lst "java/util/ImmutableCollections$ListN") ∧ (Fld Z h lst "java/util/ImmutableCollections$ListN" "elements" "[Ljava/lang/Object;" (.ref b2)) ∧ (Arv Z h b2 k2 (.object "java/lang/Object") (Int32.ofNat ys.length) (ys.map Value.ref) .null)) (own_lfag l Z a0 hw [] b1 k1 ys w sec h0 n0 Z0 f0 f1 hlen hys) hZ (hwi hw 210 rfl) (hwi hw 53 rfl) (by decide) (by decide)) (g := (mkF m 60 #[vR (b1), sU] [(.ref b1)])) rfl (by rw [hml]; rfl) (argsL := [(.ref b1)]) (rest := []) (lenOf own_pd12 rfl) rfl (by show 2 * 0 + _ ≤ _; exact Nat.le_of_eq rfl) (hb hby q8f) (fun _ _ => ⟨rfl, e0, (by decide : 0 + 2 ≤ _), (by decide : 0 + 10 ≤ _)⟩)
  dsimp only [Pt.U, Pt.locs, Pt.cells, Pt.slots] at X102 l102 y102 z102 st102 hQ102
  subst l102 y102 z102
  obtain ⟨lst_102, b2_102, k2_102, rfl, N102q, K102, lt102_0, lt102_1, P102_0, P102_1, P102_2⟩ := hQ102
  have N102 := Fr.app N0 N102q
  have ne103 : ∀ i, i < 9 → w i ≠ lst_102 := fun i hi => Nat.ne_of_lt (Nat.lt_of_lt_of_le (f1 i hi).1.lt lt102_0)
  have ne104 : b1 ≠ lst_102 := Nat.ne_of_lt (Nat.lt_of_lt_of_le f0.lt lt102_0)
  have ge105 : n0 ≤ lst_102 := Nat.le_trans Z0 lt102_0
  have sz106 : h0.size ≤ lst_102 := Nat.le_trans K0.1 lt102_0
  have ne107 : ∀ i, i < 9 → w i ≠ b2_102 := fun i hi => Nat.ne_of_lt (Nat.lt_of_lt_of_le (f1 i hi).1.lt lt102_1)
  have ne108 : b1 ≠ b2_102 := Nat.ne_of_lt (Nat.lt_of_lt_of_le f0.lt lt102_1)
  have ge109 : n0 ≤ b2_102 := Nat.le_trans Z0 lt102_1
  have sz110 : h0.size ≤ b2_102 := Nat.le_trans K0.1 lt102_1
  have KK102 := K0.trans K102 all0
  have Z102 : n0 ≤ T102.heap.size := Nat.le_trans Z0 K102.1
  have F111 := f0.keep K102 nin0
  have F112 := f1.keep K102 (fun i hi => nin0)
  refine gs m T102 63 #[vR (b1), sU] [(.ref lst_102)] (st102) ?_
  exact Go.retA X102 hx (t := (.object "java/util/List")) hret rfl hlk rfl (hb hby q8g) (⟨lst_102, b2_102, k2_102, rfl, N102, KK102, sz106, sz110, P102_0, P102_1, P102_2⟩) (by decide) (by decide)
theorem own_lcpg (l : Launch) (Z : State) (a0 : Array Value) (hw : ∀ d ∈ tables_1, d.before a0 Z = true) (ws : List Jvm.Cond) (a1 : Addr) (b1 : Addr) (k1 : ClassId) (ys : List Addr) (w : Nat → Addr) (sec : Nat → Int64) (h0 : Heap) (n0 : Nat) (Z0 : n0 ≤ h0.size) (f0 : Exa Z h0 a1 "java/util/ArrayList") (f1 : Fld Z h0 a1 "java/util/ArrayList" "elementData" "[Ljava/lang/Object;" (.ref b1)) (f2 : Fld Z h0 a1 "java/util/ArrayList" "size" "I" (.int (Int32.ofNat ys.length))) (f3 : Exa Z h0 b1 "[Ljava/lang/Object;") (f4 : Arv Z h0 b1 k1 (.object "java/lang/Object") (10 : Int32) (own_AV ys) .null) (f5 : UW Z h0 w sec) (ov1 : Ovr Z k1 "java/lang/Object") (MM : MirrorMade Z "[Ljava/lang/Object;") (hlen : ys.length ≤ 8) (hys : ∀ y ∈ ys, ∃ i, i < 9 ∧ y = w i) (h3 : 3 ≤ ys.length) :
    Con l Z (⟨"java/util/ImmutableCollections", "listCopy", "(Ljava/util/Collection;)Ljava/util/List;"⟩ : MethodName) jdk_56_method_3_code 2 (some (.object "java/util/List")) ({ frames := 7, cells := 3, slots := 18, locals := 90 } : Room) ws #[(.ref a1)] h0 (fun v h L => ∃ lst : Addr, ∃ b2 : Addr, ∃ k2 : ClassId, (v = some (.ref lst)) ∧ (Fr n0 L) ∧ (Keep h0 h []) ∧ (h0.size ≤ lst) ∧ (h0.size ≤ b2) ∧ (Exa Z h lst "java/util/ImmutableCollections$ListN") ∧ (Fld Z h lst "java/util/ImmutableCollections$ListN" "elements" "[Ljava/lang/Object;" (.ref b2)) ∧ (Arv Z h b2 k2 (.object "java/lang/Object") (Int32.ofNat ys.length) (ys.map Value.ref) .null)) 3 18 := by
  refine Con.of (plainFor_of_name own_pn_ImmutableCollections) ?_
  intro pgm e s m below meth c s₁ X0 hx hZ hby hml hown hnm hret hlk e0 hs0
  have N0 := Fr.nil n0
  have hown : s.vm.findClass "java/util/ImmutableCollections" = some m.cls := hown
  have hnm : meth.name = "listCopy" := hnm
  refine Go.cast (own_ef_jdk_56_method_3_code_R m a1) ?_
  have K0 := Keep.refl h0 []
  refine gs m s₁ 1 #[vR (a1), sU] [(.ref a1)] (fun _ k => XS.aloadN X0.here hx rfl (hb hby q43) rfl rfl k) ?_
  obtain ⟨T101, X101, e101, st101⟩ := instNo X0 hx hZ hown (hwi hw 55 rfl) e0 f0 (own_noas f0 (t := ["java/util/AbstractList", "java/util/AbstractCollection", "java/lang/Object"]) (fun w hm => by simp only [Cond.chainWords, List.mem_cons, List.not_mem_nil, or_false] at hm; rcases hm with rfl | rfl | rfl | rfl <;> first | exact (hwi hw 56 rfl) | exact (hwi hw 57 rfl) | exact (hwi hw 58 rfl) | exact (hwi hw 59 rfl)) (hwi hw 255 rfl) (by decide)) (g := (mkF m 1 #[vR (a1), sU] [(.ref a1)])) rfl rfl (hb hby q44)
  refine gs m T101 4 #[vR (a1), sU] [(.int (0 : Int32))] st101 ?_
  refine gs m T101 7 #[vR (a1), sU] [] (fun _ k => XS.ifNo X101.here hx rfl (hb hby q45) rfl ((if0 _ _).trans (teq (by decide : (0 : Int32) = (0 : Int32))).2) k) ?_
  refine gs m T101 8 #[vR (a1), sU] [(.ref a1)] (fun _ k => XS.aloadN X101.here hx rfl (hb hby q46) rfl rfl k) ?_
  obtain ⟨T102, X102, e102, st102⟩ := instNo X101 hx hZ hown (hwi hw 60 rfl) e101 f0 (own_noas f0 (t := ["java/util/AbstractList", "java/util/AbstractCollection", "java/lang/Object"]) (fun w hm => by simp only [Cond.chainWords, List.mem_cons, List.not_mem_nil, or_false] at hm; rcases hm with rfl | rfl | rfl | rfl <;> first | exact (hwi hw 56 rfl) | exact (hwi hw 57 rfl) | exact (hwi hw 58 rfl) | exact (hwi hw 59 rfl)) (hwi hw 216 rfl) (by decide)) (g := (mkF m 8 #[vR (a1), sU] [(.ref a1)])) rfl rfl (hb hby q47)
  refine gs m T102 11 #[vR (a1), sU] [(.int (0 : Int32))] st102 ?_
  refine gs m T102 31 #[vR (a1), sU] [] (fun _ k => XS.ifYes X102.here hx rfl (pc0 := 11) (pc' := 31) rfl (hb hby q48) rfl ((if0 _ _).trans (teq (by decide : (0 : Int32) = (0 : Int32))).1) (by decide) (by decide) k) ?_
  refine gs m T102 32 #[vR (a1), sU] [(.ref a1)] (fun _ k => XS.aloadN X102.here hx rfl (hb hby q49) rfl rfl k) ?_
  obtain ⟨cq103, kq103, q103a, q103b, q103c⟩ := isOf hZ e102 f0
  obtain ⟨_, _, ⟨T103, L103, k103, n103⟩, -, X103, ⟨Lc103, hQ103, l103, y103, z103⟩, st103⟩ := X102.interfaceBack hx (xi := (⟨"java/util/Collection", "isEmpty", "()Z"⟩ : MethodName)) (y := (⟨"java/util/ArrayList", "isEmpty", "()Z"⟩ : MethodName)) hown (mvT hZ (hwi hw 61 rfl)) (mvT hZ (hwi hw 62 rfl)) (mvT hZ (hwi hw 63 rfl)) (mvT hZ (hwi hw 64 rfl)) (mvT hZ (hwi hw 65 rfl)) (mvT hZ (hwi hw 66 rfl)) (mvT hZ (hwi hw 67 rfl)) (mvT hZ (hwi hw 68 rfl)) (by decide) (backOf (W := 0) (Q := Qret (some (.int (0 : Int32))) h0 n0) (own_iseg l Z a0 hw [] a1 ys h0 n0 Z0 f2 hlen h3) hZ (hwi hw 69 rfl) (hwi hw 12 rfl) (by decide) (by decide)) q103a q103b q103c (g := (mkF m 32 #[vR (a1), sU] [(.ref a1)])) rfl (by rw [hml]; rfl) (Steps.refl _) (argsL := []) (rest := []) (lenOf own_pd9 rfl) rfl (by show 2 * 0 + _ ≤ _; exact Nat.le_of_eq rfl) (hb hby q4a) (fun _ _ => ⟨rfl, e102, (by decide : 0 + 0 ≤ _), (by decide : 0 + 0 ≤ _)⟩)
  dsimp only [Pt.U, Pt.locs, Pt.cells, Pt.slots] at X103 l103 y103 z103 st103 hQ103
  subst l103 y103 z103
  obtain ⟨rfl, N103q, eh103⟩ := hQ103
  have N103 := Fr.app N0 N103q
  refine gs m T103 37 #[vR (a1), sU] [(.int (0 : Int32))] (fun _ k => st103.trans k) ?_
  refine gs m T103 44 #[vR (a1), sU] [] (fun _ k => XS.ifYes X103.here hx rfl (pc0 := 37) (pc' := 44) rfl (hb hby q4b) rfl ((if0 _ _).trans (teq (by decide : (0 : Int32) = (0 : Int32))).1) (by decide) (by decide) k) ?_
  refine gs m T103 45 #[vR (a1), sU] [(.ref a1)] (fun _ k => XS.aloadN X103.here hx rfl (hb hby q4h) rfl rfl k) ?_
  obtain ⟨cq104, kq104, q104a, q104b, q104c⟩ := isOf hZ eh103 f0
  obtain ⟨_, _, ⟨T104, L104, k104, n104⟩, -, X104, ⟨Lc104, hQ104, l104, y104, z104⟩, st104⟩ := X103.interfaceBack hx (xi := (⟨"java/util/Collection", "toArray", "()[Ljava/lang/Object;"⟩ : MethodName)) (y := (⟨"java/util/ArrayList", "toArray", "()[Ljava/lang/Object;"⟩ : MethodName)) hown (mvT hZ (hwi hw 175 rfl)) (mvT hZ (hwi hw 176 rfl)) (mvT hZ (hwi hw 177 rfl)) (mvT hZ (hwi hw 178 rfl)) (mvT hZ (hwi hw 179 rfl)) (mvT hZ (hwi hw 180 rfl)) (mvT hZ (hwi hw 181 rfl)) (mvT hZ (hwi hw 68 rfl)) (by decide) (backOf (W := 0) (Q := fun v h L => ∃ b : Addr, ∃ kb : ClassId, (v = some (.ref b)) ∧ (Fr n0 L) ∧ (Keep h0 h []) ∧ (h0.size ≤ b) ∧ (Exa Z h b "[Ljava/lang/Object;") ∧ (Arv Z h b kb (.object "java/lang/Object") (Int32.ofNat ys.length) (ys.map Value.ref) .null)) (own_toag l Z a0 hw [] a1 b1 k1 ys w sec h0 n0 Z0 f0 f1 f2 f3 f4 f5 ov1 MM hlen hys) hZ (hwi hw 182 rfl) (hwi hw 12 rfl) (by decide) (by decide)) q104a q104b q104c (g := (mkF m 45 #[vR (a1), sU] [(.ref a1)])) rfl (by rw [hml]; rfl) (Steps.refl _) (argsL := []) (rest := []) (lenOf own_pd3 rfl) rfl (by show 2 * 0 + _ ≤ _; exact Nat.le_of_eq rfl) (hb hby q4i) (fun _ _ => ⟨rfl, eh103, (by decide : 0 + 1 ≤ _), (by decide : 0 + 8 ≤ _)⟩)
  dsimp only [Pt.U, Pt.locs, Pt.cells, Pt.slots] at X104 l104 y104 z104 st104 hQ104
  subst l104 y104 z104
  obtain ⟨b_104, kb_104, rfl, N104q, K104, lt104_0, P104_0, P104_1⟩ := hQ104
  have N104 := Fr.app N103 N104q
  have ne105 : ∀ i, i < 9 → w i ≠ b_104 := fun i hi => Nat.ne_of_lt (Nat.lt_of_lt_of_le (f5 i hi).1.lt lt104_0)
  have ne106 : a1 ≠ b_104 := Nat.ne_of_lt (Nat.lt_of_lt_of_le f0.lt lt104_0)
  have ne107 : b1 ≠ b_104 := Nat.ne_of_lt (Nat.lt_of_lt_of_le f3.lt lt104_0)
  have ge108 : n0 ≤ b_104 := Nat.le_trans Z0 lt104_0
  have sz109 : h0.size ≤ b_104 := Nat.le_trans K0.1 lt104_0
  have KK104 := K0.trans K104 all0
  have Z104 : n0 ≤ T104.heap.size := Nat.le_trans Z0 K104.1
  have F110 := f0.keep K104
  have F111 := f1.keep K104 nin0
  have F112 := f2.keep K104 nin0
  have F113 := f3.keep K104
  have F114 := f4.keep K104 nin0
  have F115 := f5.keep K104 (fun i hi => nin0)
  refine gs m T104 50 #[vR (a1), sU] [(.ref b_104)] (fun _ k => st104.trans k) ?_
  obtain ⟨_, _, ⟨T116, L116, k116, n116⟩, -, X116, ⟨Lc116, hQ116, l116, y116, z116⟩, st116⟩ := Jvm.LawKit.callS X104 hx (y := (⟨"java/util/List", "of", "([Ljava/lang/Object;)Ljava/util/List;"⟩ : MethodName)) hown (mvT hZ (hwi hw 205 rfl)) (mvT hZ (hwi hw 206 rfl)) (mvT hZ (hwi hw 49 rfl)) (mvT hZ (hwi hw 207 rfl)) (by decide) (backOf (W := 0) (Q := fun v h L => ∃ lst : Addr, ∃ b2 : Addr, ∃ k2 : ClassId, (v = some (.ref lst)) ∧ (Fr n0 L) ∧ (Keep T104.heap h []) ∧ (T104.heap.size ≤ lst) ∧ (T104.heap.size ≤ b2) ∧ (Exa Z h lst "java/util/ImmutableCollections$ListN") ∧ (Fld Z h lst "java/util/ImmutableCollections$ListN" "elements" "[Ljava/lang/Object;" (.ref b2)) ∧ (Arv Z h b2 k2 (.object "java/lang/Object") (Int32.ofNat ys.length) (ys.map Value.ref) .null)) (own_ofag l Z a0 hw [] b_104 kb_104 ys w sec T104.heap n0 Z104 P104_1 F115 hlen hys h3) hZ (hwi hw 207 rfl) (hwi hw 49 rfl) (by decide) (by decide)) (g := (mkF m 50 #[vR (a1), sU] [(.ref b_104)])) rfl (by rw [hml]; rfl) (argsL := [(.ref b_104)]) (rest := []) (lenOf own_pd12 rfl) rfl (by show 2 * 0 + _ ≤ _; exact Nat.le_of_eq rfl) (hb hby q4j) (fun _ _ => ⟨rfl, rfl, (by decide : 1 + 2 ≤ _), (by decide : 8 + 10 ≤ _)⟩)
  dsimp only [Pt.U, Pt.locs, Pt.cells, Pt.slots] at X116 l116 y116 z116 st116 hQ116
  subst l116 y116 z116
  obtain ⟨lst_116, b2_116, k2_116, rfl, N116q, K116, lt116_0, lt116_1, P116_0, P116_1, P116_2⟩ := hQ116
  have N116 := Fr.app N104 N116q
  have ne117 : ∀ i, i < 9 → w i ≠ lst_116 := fun i hi => Nat.ne_of_lt (Nat.lt_of_lt_of_le (F115 i hi).1.lt lt116_0)
  have ne118 : a1 ≠ lst_116 := Nat.ne_of_lt (Nat.lt_of_lt_of_le F110.lt lt116_0)
  have ne119 : b1 ≠ lst_116 := Nat.ne_of_lt (Nat.lt_of_lt_of_le F113.lt lt116_0)
  have ne120 : b_104 ≠ lst_116 := Nat.ne_of_lt (Nat.lt_of_lt_of_le P104_0.lt lt116_0)
  have ge121 : n0 ≤ lst_116 := Nat.le_trans Z104 lt116_0
  have sz122 : h0.size ≤ lst_116 := Nat.le_trans KK104.1 lt116_0
  have ne123 : ∀ i, i < 9 → w i ≠ b2_116 := fun i hi => Nat.ne_of_lt (Nat.lt_of_lt_of_le (F115 i hi).1.lt lt116_1)
  have ne124 : a1 ≠ b2_116 := Nat.ne_of_lt (Nat.lt_of_lt_of_le F110.lt lt116_1)
  have ne125 : b1 ≠ b2_116 := Nat.ne_of_lt (Nat.lt_of_lt_of_le F113.lt lt116_1)
  have ne126 : b_104 ≠ b2_116 := Nat.ne_of_lt (Nat.lt_of_lt_of_le P104_0.lt lt116_1)
  have ge127 : n0 ≤ b2_116 := Nat.le_trans Z104 lt116_1
  have sz128 : h0.size ≤ b2_116 := Nat.le_trans KK104.1 lt116_1
  have KK116 := KK104.trans K116 all0
  have Z116 : n0 ≤ T116.heap.size := Nat.le_trans Z104 K116.1
  have F129 := F110.keep K116
  have F130 := F111.keep K116 nin0
  have F131 := F112.keep K116 nin0
  have F132 := F113.keep K116
  have F133 := F114.keep K116 nin0
  have F134 := F115.keep K116 (fun i hi => nin0)
  have F135 := P104_0.keep K116
  have F136 := P104_1.keep K116 nin0
  refine gs m T116 53 #[vR (a1), sU] [(.ref lst_116)] (st116) ?_
  exact Go.retA X116 hx (t := (.object "java/util/List")) hret rfl hlk rfl (hb hby q4k) (⟨lst_116, b2_116, k2_116, rfl, N116, KK116, sz122, sz128, P116_0, P116_1, P116_2⟩) (by decide) (by decide)
theorem own_cofg (l : Launch) (Z : State) (a0 : Array Value) (hw : ∀ d ∈ tables_1, d.before a0 Z = true) (ws : List Jvm.Cond) (a1 : Addr) (b1 : Addr) (k1 : ClassId) (ys : List Addr) (w : Nat → Addr) (sec : Nat → Int64) (h0 : Heap) (n0 : Nat) (Z0 : n0 ≤ h0.size) (f0 : Exa Z h0 a1 "java/util/ArrayList") (f1 : Fld Z h0 a1 "java/util/ArrayList" "elementData" "[Ljava/lang/Object;" (.ref b1)) (f2 : Fld Z h0 a1 "java/util/ArrayList" "size" "I" (.int (Int32.ofNat ys.length))) (f3 : Exa Z h0 b1 "[Ljava/lang/Object;") (f4 : Arv Z h0 b1 k1 (.object "java/lang/Object") (10 : Int32) (own_AV ys) .null) (f5 : UW Z h0 w sec) (ov1 : Ovr Z k1 "java/lang/Object") (MM : MirrorMade Z "[Ljava/lang/Object;") (hlen : ys.length ≤ 8) (hys : ∀ y ∈ ys, ∃ i, i < 9 ∧ y = w i) (h3 : 3 ≤ ys.length) :
    Con l Z (⟨"java/util/List", "copyOf", "(Ljava/util/Collection;)Ljava/util/List;"⟩ : MethodName) jdk_40_method_48_code 1 (some (.object "java/util/List")) ({ frames := 8, cells := 3, slots := 18, locals := 103 } : Room) ws #[(.ref a1)] h0 (fun v h L => ∃ lst : Addr, ∃ b2 : Addr, ∃ k2 : ClassId, (v = some (.ref lst)) ∧ (Fr n0 L) ∧ (Keep h0 h []) ∧ (h0.size ≤ lst) ∧ (h0.size ≤ b2) ∧ (Exa Z h lst "java/util/ImmutableCollections$ListN") ∧ (Fld Z h lst "java/util/ImmutableCollections$ListN" "elements" "[Ljava/lang/Object;" (.ref b2)) ∧ (Arv Z h b2 k2 (.object "java/lang/Object") (Int32.ofNat ys.length) (ys.map Value.ref) .null)) 3 18 := by
  refine Con.of (plainFor_of_name own_pn_List) ?_
  intro pgm e s m below meth c s₁ X0 hx hZ hby hml hown hnm hret hlk e0 hs0
  have N0 := Fr.nil n0
  have hown : s.vm.findClass "java/util/List" = some m.cls := hown
  have hnm : meth.name = "copyOf" := hnm
  refine Go.cast (own_ef_jdk_40_method_48_code_R m a1) ?_
  have K0 := Keep.refl h0 []
  refine gs m s₁ 1 #[vR (a1)] [(.ref a1)] (fun _ k => XS.aloadN X0.here hx rfl (hb hby q4e) rfl rfl k) ?_
  obtain ⟨_, _, ⟨T101, L101, k101, n101⟩, -, X101, ⟨Lc101, hQ101, l101, y101, z101⟩, st101⟩ := Jvm.LawKit.callS X0 hx (y := (⟨"java/util/ImmutableCollections", "listCopy", "(Ljava/util/Collection;)Ljava/util/List;"⟩ : MethodName)) hown (mvT hZ (hwi hw 51 rfl)) (mvT hZ (hwi hw 52 rfl)) (mvT hZ (hwi hw 53 rfl)) (mvT hZ (hwi hw 54 rfl)) (by decide) (backOf (W := 0) (Q := fun v h L => ∃ lst : Addr, ∃ b2 : Addr, ∃ k2 : ClassId, (v = some (.ref lst)) ∧ (Fr n0 L) ∧ (Keep h0 h []) ∧ (h0.size ≤ lst) ∧ (h0.size ≤ b2) ∧ (Exa Z h lst "java/util/ImmutableCollections$ListN") ∧ (Fld Z h lst "java/util/ImmutableCollections$ListN" "elements" "[Ljava/lang/Object;" (.ref b2)) ∧ (Arv Z h b2 k2 (.object "java/lang/Object") (Int32.ofNat ys.length) (ys.map Value.ref) .null)) (own_lcpg l Z a0 hw [] a1 b1 k1 ys w sec h0 n0 Z0 f0 f1 f2 f3 f4 f5 ov1 MM hlen hys h3) hZ (hwi hw 54 rfl) (hwi hw 53 rfl) (by decide) (by decide)) (g := (mkF m 1 #[vR (a1)] [(.ref a1)])) rfl (by rw [hml]; rfl) (argsL := [(.ref a1)]) (rest := []) (lenOf own_pd11 rfl) rfl (by show 2 * 0 + _ ≤ _; exact Nat.le_of_eq rfl) (hb hby q4f) (fun _ _ => ⟨rfl, e0, (by decide : 0 + 3 ≤ _), (by decide : 0 + 18 ≤ _)⟩)
  dsimp only [Pt.U, Pt.locs, Pt.cells, Pt.slots] at X101 l101 y101 z101 st101 hQ101
  subst l101 y101 z101
  obtain ⟨lst_101, b2_101, k2_101, rfl, N101q, K101, lt101_0, lt101_1, P101_0, P101_1, P101_2⟩ := hQ101
  have N101 := Fr.app N0 N101q
  have ne102 : ∀ i, i < 9 → w i ≠ lst_101 := fun i hi => Nat.ne_of_lt (Nat.lt_of_lt_of_le (f5 i hi).1.lt lt101_0)
  have ne103 : a1 ≠ lst_101 := Nat.ne_of_lt (Nat.lt_of_lt_of_le f0.lt lt101_0)
  have ne104 : b1 ≠ lst_101 := Nat.ne_of_lt (Nat.lt_of_lt_of_le f3.lt lt101_0)
  have ge105 : n0 ≤ lst_101 := Nat.le_trans Z0 lt101_0
  have sz106 : h0.size ≤ lst_101 := Nat.le_trans K0.1 lt101_0
  have ne107 : ∀ i, i < 9 → w i ≠ b2_101 := fun i hi => Nat.ne_of_lt (Nat.lt_of_lt_of_le (f5 i hi).1.lt lt101_1)
  have ne108 : a1 ≠ b2_101 := Nat.ne_of_lt (Nat.lt_of_lt_of_le f0.lt lt101_1)
  have ne109 : b1 ≠ b2_101 := Nat.ne_of_lt (Nat.lt_of_lt_of_le f3.lt lt101_1)
  have ge110 : n0 ≤ b2_101 := Nat.le_trans Z0 lt101_1
  have sz111 : h0.size ≤ b2_101 := Nat.le_trans K0.1 lt101_1
  have KK101 := K0.trans K101 all0
  have Z101 : n0 ≤ T101.heap.size := Nat.le_trans Z0 K101.1
  have F112 := f0.keep K101
  have F113 := f1.keep K101 nin0
  have F114 := f2.keep K101 nin0
  have F115 := f3.keep K101
  have F116 := f4.keep K101 nin0
  have F117 := f5.keep K101 (fun i hi => nin0)
  refine gs m T101 4 #[vR (a1)] [(.ref lst_101)] (st101) ?_
  exact Go.retA X101 hx (t := (.object "java/util/List")) hret rfl hlk rfl (hb hby q4g) (⟨lst_101, b2_101, k2_101, rfl, N101, KK101, sz106, sz111, P101_0, P101_1, P101_2⟩) (by decide) (by decide)
theorem own_sizg (l : Launch) (Z : State) (a0 : Array Value) (hw : ∀ d ∈ tables_1, d.before a0 Z = true) (ws : List Jvm.Cond) (a1 : Addr) (b2 : Addr) (k2 : ClassId) (ys : List Addr) (h0 : Heap) (n0 : Nat) (Z0 : n0 ≤ h0.size) (f0 : Exa Z h0 a1 "java/util/ImmutableCollections$ListN") (f1 : Fld Z h0 a1 "java/util/ImmutableCollections$ListN" "elements" "[Ljava/lang/Object;" (.ref b2)) (f2 : Arv Z h0 b2 k2 (.object "java/lang/Object") (Int32.ofNat ys.length) (ys.map Value.ref) .null)  :
    Con l Z (⟨"java/util/ImmutableCollections$ListN", "size", "()I"⟩ : MethodName) jdk_45_method_3_code 1 (some .int) ({ frames := 0, cells := 0, slots := 0, locals := 0 } : Room) ws #[(.ref a1)] h0 (Qret (some (.int (Int32.ofNat ys.length))) h0 n0) 0 0 := by
  refine Con.of (plainFor_of_name own_pn_ImmutableCollections_ListN) ?_
  intro pgm e s m below meth c s₁ X0 hx hZ hby hml hown hnm hret hlk e0 hs0
  have N0 := Fr.nil n0
  have hown : s.vm.findClass "java/util/ImmutableCollections$ListN" = some m.cls := hown
  have hnm : meth.name = "size" := hnm
  refine Go.cast (own_ef_jdk_45_method_3_code_R m a1) ?_
  refine gs m s₁ 1 #[vR (a1)] [(.ref a1)] (fun _ k => XS.aloadN X0.here hx rfl (hb hby q4l) rfl rfl k) ?_
  obtain ⟨T101, X101, e101, st101⟩ := getF X0 hx hZ hown (host := "") (Or.inl (hwi hw 96 rfl)) Via.refl e0 f1 (g := (mkF m 1 #[vR (a1)] [(.ref a1)])) rfl rfl (hb hby q4m)
  refine gs m T101 4 #[vR (a1)] [(.ref b2)] st101 ?_
  obtain ⟨cl102, Ar102, -, S102, M102, -, -⟩ := id f2
  refine gs m T101 5 #[vR (a1)] [(.int (Int32.ofNat ys.length))] (fun _ k => X101.arraylength hx (cell := cl102) (by rw [e101]; exact Ar102.1) (State.isArrayOf_alike hZ.alike Ar102.2.1) (g := (mkF m 4 #[vR (a1)] [(.ref b2)])) rfl (rest := []) rfl (hb hby q4n) _ (by rw [len_of S102 M102]; exact k)) ?_
  exact Go.retI X101 hx hret hlk (hb hby q4o) (⟨rfl, N0, e101⟩) (by decide) (by decide)
theorem own_ef_jdk_45_method_4_code_RI (m : MethodId) (x0 : Addr) (x1 : Int32) : entryFrame m #[(.ref x0), (.int x1)] 2 = mkF m 0 #[vR (x0), vI (x1)] [] := by first | (simp [entryFrame, mkF, argsToLocals, Value.category]; done) | rfl | (simp [entryFrame, mkF, argsToLocals, own_cI, own_cJ, own_cR, own_cN]; done)
theorem q8h : decode jdk_45_method_4_code 0 = .ok (.aload_n 0, 1) := by decide +kernel
theorem q8i : decode jdk_45_method_4_code 1 = .ok (.getfield 7, 3) := by decide +kernel
theorem q8j : decode jdk_45_method_4_code 4 = .ok (.iload_n 1, 1) := by decide +kernel
theorem q8k : decode jdk_45_method_4_code 5 = .ok (.aaload, 1) := by decide +kernel
theorem q8l : decode jdk_45_method_4_code 6 = .ok (.areturn, 1) := by decide +kernel
theorem own_getg (l : Launch) (Z : State) (a0 : Array Value) (hw : ∀ d ∈ tables_1, d.before a0 Z = true) (ws : List Jvm.Cond) (a1 : Addr) (b2 : Addr) (k2 : ClassId) (ys : List Addr) (kq : Nat) (yk : Addr) (h0 : Heap) (n0 : Nat) (Z0 : n0 ≤ h0.size) (f0 : Exa Z h0 a1 "java/util/ImmutableCollections$ListN") (f1 : Fld Z h0 a1 "java/util/ImmutableCollections$ListN" "elements" "[Ljava/lang/Object;" (.ref b2)) (f2 : Arv Z h0 b2 k2 (.object "java/lang/Object") (Int32.ofNat ys.length) (ys.map Value.ref) .null) (hlen : ys.length ≤ 8) (hk : kq < ys.length) (hyk : yk = ys.getD kq 0) :
    Con l Z (⟨"java/util/ImmutableCollections$ListN", "get", "(I)Ljava/lang/Object;"⟩ : MethodName) jdk_45_method_4_code 2 (some (.object "java/lang/Object")) ({ frames := 0, cells := 0, slots := 0, locals := 0 } : Room) ws #[(.ref a1), (.int (Int32.ofNat kq))] h0 (Qret (some (.ref yk)) h0 n0) 0 0 := by
  refine Con.of (plainFor_of_name own_pn_ImmutableCollections_ListN) ?_
  intro pgm e s m below meth c s₁ X0 hx hZ hby hml hown hnm hret hlk e0 hs0
  have N0 := Fr.nil n0
  have hown : s.vm.findClass "java/util/ImmutableCollections$ListN" = some m.cls := hown
  have hnm : meth.name = "get" := hnm
  refine Go.cast (own_ef_jdk_45_method_4_code_RI m a1 (Int32.ofNat kq)) ?_
  refine gs m s₁ 1 #[vR (a1), vI ((Int32.ofNat kq))] [(.ref a1)] (fun _ k => XS.aloadN X0.here hx rfl (hb hby q8h) rfl rfl k) ?_
  obtain ⟨T101, X101, e101, st101⟩ := getF X0 hx hZ hown (host := "") (Or.inl (hwi hw 96 rfl)) Via.refl e0 f1 (g := (mkF m 1 #[vR (a1), vI ((Int32.ofNat kq))] [(.ref a1)])) rfl rfl (hb hby q8i)
  refine gs m T101 4 #[vR (a1), vI ((Int32.ofNat kq))] [(.ref b2)] st101 ?_
  refine gs m T101 5 #[vR (a1), vI ((Int32.ofNat kq))] [(.int (Int32.ofNat kq)), (.ref b2)] (fun _ k => XS.iloadN X101.here hx rfl (hb hby q8j) rfl  k) ?_
  obtain ⟨cl102, Ar102, q102, S102, M102, H102, G102⟩ := id f2
  have I102 := inb_of (j := (Int32.ofNat kq)) S102 (own_inb hk (by omega))
  refine gs m T101 6 #[vR (a1), vI ((Int32.ofNat kq))] [(.ref yk)] (fun _ k => X101.aaload hx (j := (Int32.ofNat kq)) (v := (.ref yk)) (by rw [e101]; exact Ar102.1) (State.isArrayOf_alike hZ.alike Ar102.2.1) rfl Ar102.2.2 I102 (Has.at H102 I102 (own_map_at hk hlen hyk)) (g := (mkF m 5 #[vR (a1), vI ((Int32.ofNat kq))] [(.int (Int32.ofNat kq)), (.ref b2)])) rfl rfl (hb hby q8k) _ k) ?_
  exact Go.retA X101 hx (t := (.object "java/lang/Object")) hret rfl hlk rfl (hb hby q8l) (⟨rfl, N0, e101⟩) (by decide) (by decide)
theorem own_itrg (l : Launch) (Z : State) (a0 : Array Value) (hw : ∀ d ∈ tables_1, d.before a0 Z = true) (ws : List Jvm.Cond) (a1 : Addr) (b2 : Addr) (k2 : ClassId) (ys : List Addr) (h0 : Heap) (n0 : Nat) (Z0 : n0 ≤ h0.size) (f0 : Exa Z h0 a1 "java/util/ImmutableCollections$ListN") (f1 : Fld Z h0 a1 "java/util/ImmutableCollections$ListN" "elements" "[Ljava/lang/Object;" (.ref b2)) (f2 : Arv Z h0 b2 k2 (.object "java/lang/Object") (Int32.ofNat ys.length) (ys.map Value.ref) .null)  :
    Con l Z (⟨"java/util/ImmutableCollections$AbstractImmutableList", "iterator", "()Ljava/util/Iterator;"⟩ : MethodName) jdk_46_method_10_code 1 (some (.object "java/util/Iterator")) ({ frames := 2, cells := 1, slots := 4, locals := 27 } : Room) ws #[(.ref a1)] h0 (fun v h L => ∃ it : Addr, (v = some (.ref it)) ∧ (Fr n0 L) ∧ (Keep h0 h []) ∧ (h0.size ≤ it) ∧ (Exa Z h it "java/util/ImmutableCollections$ListItr") ∧ (Fld Z h it "java/util/ImmutableCollections$ListItr" "list" "Ljava/util/List;" (.ref a1)) ∧ (Fld Z h it "java/util/ImmutableCollections$ListItr" "size" "I" (.int (Int32.ofNat ys.length))) ∧ (Fld Z h it "java/util/ImmutableCollections$ListItr" "cursor" "I" (.int (0 : Int32)))) 1 4 := by
  refine Con.of (plainFor_of_name own_pn_ImmutableCollections_AbstractImmutableList) ?_
  intro pgm e s m below meth c s₁ X0 hx hZ hby hml hown hnm hret hlk e0 hs0
  have N0 := Fr.nil n0
  have hown : s.vm.findClass "java/util/ImmutableCollections$AbstractImmutableList" = some m.cls := hown
  have hnm : meth.name = "iterator" := hnm
  refine Go.cast (own_ef_jdk_46_method_10_code_R m a1) ?_
  have K0 := Keep.refl h0 []
  obtain ⟨T101, h101, X101, e101, E101, A101, D101, -, st101⟩ := newO X0 hx hZ hown (hwi hw 86 rfl) (hwi hw 87 rfl) (hwi hw 88 rfl) e0 (g := (mkF m 0 #[vR (a1)] [])) rfl (hb hby q5r) (by decide) (by decide)
  obtain ⟨b101, g101⟩ : ∃ z, z = h0.size := ⟨_, rfl⟩
  rw [← g101] at A101 D101 st101
  have ne102 : a1 ≠ b101 := by have q := f0.lt; intro r; rw [r, g101] at q; exact Nat.lt_irrefl _ q
  have ne103 : b2 ≠ b101 := by have q := f2.lt; intro r; rw [r, g101] at q; exact Nat.lt_irrefl _ q
  have ge101 : n0 ≤ b101 := Nat.le_trans Z0 (Nat.le_of_eq g101.symm)
  have Z101 : n0 ≤ h101.size := Nat.le_trans Z0 E101.1
  have sz101 : h0.size ≤ b101 := Nat.le_trans K0.1 (Nat.le_of_eq g101.symm)
  have K101 := K0.ext E101
  have F104 := f0.ext E101
  have F105 := f1.ext E101
  have F106 := f2.ext E101
  have F107 : Fld Z h101 b101 "java/util/ImmutableCollections$ListItr" "list" "Ljava/util/List;" .null := D101 (Or.inr (hwi hw 104 rfl)) (ty := (.object "java/util/List")) (by decide)
  have F108 : Fld Z h101 b101 "java/util/ImmutableCollections$ListItr" "size" "I" (.int (0 : Int32)) := D101 (Or.inr (hwi hw 106 rfl)) (ty := .int) (by decide)
  have F109 : Fld Z h101 b101 "java/util/ImmutableCollections$ListItr" "cursor" "I" (.int (0 : Int32)) := D101 (Or.inl (hwi hw 108 rfl)) (ty := .int) (by decide)
  have F110 : Fld Z h101 b101 "java/util/ImmutableCollections$ListItr" "isListIterator" "Z" (.int (0 : Int32)) := D101 (Or.inr (hwi hw 110 rfl)) (ty := .boolean) (by decide)
  refine gs m T101 3 #[vR (a1)] [(.ref b101)] st101 ?_
  refine gs m T101 4 #[vR (a1)] [(.ref b101), (.ref b101)] (fun _ k => XS.dup X101.here hx rfl (hb hby q5s) rfl rfl k) ?_
  refine gs m T101 5 #[vR (a1)] [(.ref a1), (.ref b101), (.ref b101)] (fun _ k => XS.aloadN X101.here hx rfl (hb hby q5t) rfl rfl k) ?_
  refine gs m T101 6 #[vR (a1)] [(.ref a1), (.ref a1), (.ref b101), (.ref b101)] (fun _ k => XS.aloadN X101.here hx rfl (hb hby q5u) rfl rfl k) ?_
  obtain ⟨cq111, kq111, q111a, q111b, q111c⟩ := isOf hZ e101 F104
  obtain ⟨_, _, ⟨T111, L111, k111, n111⟩, -, X111, ⟨Lc111, hQ111, l111, y111, z111⟩, st111⟩ := X101.virtualBackUp hx (owner := "java/util/AbstractCollection") (x := (⟨"java/util/ImmutableCollections$AbstractImmutableList", "size", "()I"⟩ : MethodName)) (y := (⟨"java/util/ImmutableCollections$ListN", "size", "()I"⟩ : MethodName)) hown (mvT hZ (hwi hw 89 rfl)) (mvT hZ (hwi hw 90 rfl)) (mvT hZ (hwi hw 91 rfl)) (by decide) (mvT hZ (hwi hw 92 rfl)) (mvT hZ (hwi hw 93 rfl)) (backOf (W := 3) (Q := Qret (some (.int (Int32.ofNat ys.length))) h101 n0) (own_sizg l Z a0 hw [] a1 b2 k2 ys h101 n0 Z101 F104 F105 F106) hZ (hwi hw 95 rfl) (hwi hw 94 rfl) (by decide) (by decide)) q111a q111c (g := (mkF m 6 #[vR (a1)] [(.ref a1), (.ref a1), (.ref b101), (.ref b101)])) rfl (by rw [hml]; rfl) (Steps.refl _) (argsL := []) (rest := [(.ref a1), (.ref b101), (.ref b101)]) (lenOf own_pd13 rfl) rfl (by show 2 * 0 + _ ≤ _; exact Nat.le_of_eq rfl) (hb hby q5v) (fun _ _ => ⟨rfl, e101, (by decide : 1 + 0 ≤ _), (by decide : 4 + 0 ≤ _)⟩)
  dsimp only [Pt.U, Pt.locs, Pt.cells, Pt.slots] at X111 l111 y111 z111 st111 hQ111
  subst l111 y111 z111
  obtain ⟨rfl, N111q, eh111⟩ := hQ111
  have N111 := Fr.app N0 N111q
  refine gs m T111 9 #[vR (a1)] [(.int (Int32.ofNat ys.length)), (.ref a1), (.ref b101), (.ref b101)] (fun _ k => st111.trans k) ?_
  obtain ⟨_, _, ⟨T112, L112, k112, n112⟩, -, X112, ⟨Lc112, hQ112, l112, y112, z112⟩, st112⟩ := X111.specialBack hx (y := (⟨"java/util/ImmutableCollections$ListItr", "<init>", "(Ljava/util/List;I)V"⟩ : MethodName)) rfl hown (mvT hZ (hwi hw 98 rfl)) (mvT hZ (hwi hw 99 rfl)) (mvT hZ (hwi hw 101 rfl)) (by decide) (backOf (W := 1) (Q := fun v h L => (v = none) ∧ (Fr n0 L) ∧ (Keep h101 h [b101]) ∧ (Exa Z h b101 "java/util/ImmutableCollections$ListItr") ∧ (Fld Z h b101 "java/util/ImmutableCollections$ListItr" "list" "Ljava/util/List;" (.ref a1)) ∧ (Fld Z h b101 "java/util/ImmutableCollections$ListItr" "size" "I" (.int (Int32.ofNat ys.length))) ∧ (Fld Z h b101 "java/util/ImmutableCollections$ListItr" "cursor" "I" (.int (0 : Int32)))) (own_lii l Z a0 hw [] b101 a1 (Int32.ofNat ys.length) .null (.int (0 : Int32)) (.int (0 : Int32)) (.int (0 : Int32)) h101 n0 Z101 A101 ge101 F107 F108 F109 F110) hZ (hwi hw 101 rfl) (hwi hw 88 rfl) (by decide) (by decide)) (g := (mkF m 9 #[vR (a1)] [(.int (Int32.ofNat ys.length)), (.ref a1), (.ref b101), (.ref b101)])) rfl (by rw [hml]; rfl) (Steps.refl _) (a := b101) (argsL := [(.ref a1), (.int (Int32.ofNat ys.length))]) (rest := [(.ref b101)]) (lenOf own_pd14 rfl) rfl (by show 2 * 0 + _ ≤ _; exact Nat.le_of_eq rfl) (hb hby q5w) (fun _ _ => ⟨rfl, eh111, (by decide : 1 + 0 ≤ _), (by decide : 4 + 0 ≤ _)⟩)
  dsimp only [Pt.U, Pt.locs, Pt.cells, Pt.slots] at X112 l112 y112 z112 st112 hQ112
  subst l112 y112 z112
  obtain ⟨rfl, N112q, K112, P112_0, P112_1, P112_2, P112_3⟩ := hQ112
  have N112 := Fr.app N111 N112q
  have KK112 := K101.trans K112 (allS (Or.inr sz101) all0)
  have Z112 : n0 ≤ T112.heap.size := Nat.le_trans Z101 K112.1
  have F113 := F104.keep K112
  have F114 := F105.keep K112 (ninS ne102 nin0)
  have F115 := F106.keep K112 (ninS ne103 nin0)
  have F116 := A101.keep K112
  refine gs m T112 12 #[vR (a1)] [(.ref b101)] (fun _ k => st112.trans k) ?_
  exact Go.retA X112 hx (t := (.object "java/util/Iterator")) hret rfl hlk rfl (hb hby q5x) (⟨b101, rfl, N112, KK112, sz101, P112_0, P112_1, P112_2, P112_3⟩) (by decide) (by decide)
theorem own_hng1 (l : Launch) (Z : State) (a0 : Array Value) (hw : ∀ d ∈ tables_1, d.before a0 Z = true) (ws : List Jvm.Cond) (it : Addr) (a1 : Addr) (ys : List Addr) (kq : Nat) (h0 : Heap) (n0 : Nat) (Z0 : n0 ≤ h0.size) (f0 : Exa Z h0 it "java/util/ImmutableCollections$ListItr") (f1 : Fld Z h0 it "java/util/ImmutableCollections$ListItr" "list" "Ljava/util/List;" (.ref a1)) (f2 : Fld Z h0 it "java/util/ImmutableCollections$ListItr" "size" "I" (.int (Int32.ofNat ys.length))) (f3 : Fld Z h0 it "java/util/ImmutableCollections$ListItr" "cursor" "I" (.int (Int32.ofNat kq))) (hlen : ys.length ≤ 8) (hk : kq < ys.length) :
    Con l Z (⟨"java/util/ImmutableCollections$ListItr", "hasNext", "()Z"⟩ : MethodName) jdk_53_method_3_code 1 (some .boolean) ({ frames := 0, cells := 0, slots := 0, locals := 0 } : Room) ws #[(.ref it)] h0 (Qret (some (.int (1 : Int32))) h0 n0) 0 0 := by
  refine Con.of (plainFor_of_name own_pn_ImmutableCollections_ListItr) ?_
  intro pgm e s m below meth c s₁ X0 hx hZ hby hml hown hnm hret hlk e0 hs0
  have N0 := Fr.nil n0
  have hown : s.vm.findClass "java/util/ImmutableCollections$ListItr" = some m.cls := hown
  have hnm : meth.name = "hasNext" := hnm
  refine Go.cast (own_ef_jdk_53_method_3_code_R m it) ?_
  have hne : ¬ Int32.ofNat kq = Int32.ofNat ys.length := own_nei (by omega) (by omega) (by omega)
  refine gs m s₁ 1 #[vR (it)] [(.ref it)] (fun _ k => XS.aloadN X0.here hx rfl (hb hby q5y) rfl rfl k) ?_
  obtain ⟨T101, X101, e101, st101⟩ := getF X0 hx hZ hown (host := "") (Or.inl (hwi hw 107 rfl)) Via.refl e0 f3 (g := (mkF m 1 #[vR (it)] [(.ref it)])) rfl rfl (hb hby q5z)
  refine gs m T101 4 #[vR (it)] [(.int (Int32.ofNat kq))] st101 ?_
  refine gs m T101 5 #[vR (it)] [(.ref it), (.int (Int32.ofNat kq))] (fun _ k => XS.aloadN X101.here hx rfl (hb hby q60) rfl rfl k) ?_
  obtain ⟨T102, X102, e102, st102⟩ := getF X101 hx hZ hown (host := "") (Or.inl (hwi hw 105 rfl)) Via.refl e101 f2 (g := (mkF m 5 #[vR (it)] [(.ref it), (.int (Int32.ofNat kq))])) rfl rfl (hb hby q61)
  refine gs m T102 8 #[vR (it)] [(.int (Int32.ofNat ys.length)), (.int (Int32.ofNat kq))] st102 ?_
  refine gs m T102 11 #[vR (it)] [] (fun _ k => XS.icmpNo X102.here hx rfl (hb hby q62) rfl (feq hne).1 k) ?_
  refine gs m T102 12 #[vR (it)] [(.int (1 : Int32))] (fun _ k => XS.iconst X102.here hx rfl (hb hby q65) k) ?_
  refine gs m T102 16 #[vR (it)] [(.int (1 : Int32))] (fun _ k => XS.goto X102.here hx rfl (pc0 := 12) (pc' := 16) rfl (hb hby q66) (by decide) (by decide) k) ?_
  exact Go.retN X102 hx (t := .boolean) hret hlk (by simp) (hb hby q64) (⟨rfl, N0, e102⟩) (by decide) (by decide)
theorem own_hng0 (l : Launch) (Z : State) (a0 : Array Value) (hw : ∀ d ∈ tables_1, d.before a0 Z = true) (ws : List Jvm.Cond) (it : Addr) (a1 : Addr) (ys : List Addr) (h0 : Heap) (n0 : Nat) (Z0 : n0 ≤ h0.size) (f0 : Exa Z h0 it "java/util/ImmutableCollections$ListItr") (f1 : Fld Z h0 it "java/util/ImmutableCollections$ListItr" "list" "Ljava/util/List;" (.ref a1)) (f2 : Fld Z h0 it "java/util/ImmutableCollections$ListItr" "size" "I" (.int (Int32.ofNat ys.length))) (f3 : Fld Z h0 it "java/util/ImmutableCollections$ListItr" "cursor" "I" (.int (Int32.ofNat ys.length)))  :
    Con l Z (⟨"java/util/ImmutableCollections$ListItr", "hasNext", "()Z"⟩ : MethodName) jdk_53_method_3_code 1 (some .boolean) ({ frames := 0, cells := 0, slots := 0, locals := 0 } : Room) ws #[(.ref it)] h0 (Qret (some (.int (0 : Int32))) h0 n0) 0 0 := by
  refine Con.of (plainFor_of_name own_pn_ImmutableCollections_ListItr) ?_
  intro pgm e s m below meth c s₁ X0 hx hZ hby hml hown hnm hret hlk e0 hs0
  have N0 := Fr.nil n0
  have hown : s.vm.findClass "java/util/ImmutableCollections$ListItr" = some m.cls := hown
  have hnm : meth.name = "hasNext" := hnm
  refine Go.cast (own_ef_jdk_53_method_3_code_R m it) ?_
  refine gs m s₁ 1 #[vR (it)] [(.ref it)] (fun _ k => XS.aloadN X0.here hx rfl (hb hby q5y) rfl rfl k) ?_
  obtain ⟨T101, X101, e101, st101⟩ := getF X0 hx hZ hown (host := "") (Or.inl (hwi hw 107 rfl)) Via.refl e0 f3 (g := (mkF m 1 #[vR (it)] [(.ref it)])) rfl rfl (hb hby q5z)
  refine gs m T101 4 #[vR (it)] [(.int (Int32.ofNat ys.length))] st101 ?_
  refine gs m T101 5 #[vR (it)] [(.ref it), (.int (Int32.ofNat ys.length))] (fun _ k => XS.aloadN X101.here hx rfl (hb hby q60) rfl rfl k) ?_
  obtain ⟨T102, X102, e102, st102⟩ := getF X101 hx hZ hown (host := "") (Or.inl (hwi hw 105 rfl)) Via.refl e101 f2 (g := (mkF m 5 #[vR (it)] [(.ref it), (.int (Int32.ofNat ys.length))])) rfl rfl (hb hby q61)
  refine gs m T102 8 #[vR (it)] [(.int (Int32.ofNat ys.length)), (.int (Int32.ofNat ys.length))] st102 ?_
  refine gs m T102 15 #[vR (it)] [] (fun _ k => XS.icmpYes X102.here hx rfl (pc0 := 8) (pc' := 15) rfl (hb hby q62) rfl (teq (rfl : (Int32.ofNat ys.length) = (Int32.ofNat ys.length))).1 (by decide) (by decide) k) ?_
  refine gs m T102 16 #[vR (it)] [(.int (0 : Int32))] (fun _ k => XS.iconst X102.here hx rfl (hb hby q63) k) ?_
  exact Go.retN X102 hx (t := .boolean) hret hlk (by simp) (hb hby q64) (⟨rfl, N0, e102⟩) (by decide) (by decide)
theorem own_nxg (l : Launch) (Z : State) (a0 : Array Value) (hw : ∀ d ∈ tables_1, d.before a0 Z = true) (ws : List Jvm.Cond) (it : Addr) (a1 : Addr) (b2 : Addr) (k2 : ClassId) (ys : List Addr) (kq : Nat) (yk : Addr) (h0 : Heap) (n0 : Nat) (Z0 : n0 ≤ h0.size) (f0 : Exa Z h0 it "java/util/ImmutableCollections$ListItr") (f1 : Fld Z h0 it "java/util/ImmutableCollections$ListItr" "list" "Ljava/util/List;" (.ref a1)) (f2 : Fld Z h0 it "java/util/ImmutableCollections$ListItr" "size" "I" (.int (Int32.ofNat ys.length))) (f3 : Fld Z h0 it "java/util/ImmutableCollections$ListItr" "cursor" "I" (.int (Int32.ofNat kq))) (f4 : n0 ≤ it) (f5 : Exa Z h0 a1 "java/util/ImmutableCollections$ListN") (f6 : Fld Z h0 a1 "java/util/ImmutableCollections$ListN" "elements" "[Ljava/lang/Object;" (.ref b2)) (f7 : Arv Z h0 b2 k2 (.object "java/lang/Object") (Int32.ofNat ys.length) (ys.map Value.ref) .null) (f8 : b2 ≠ it) (f9 : a1 ≠ it) (hlen : ys.length ≤ 8) (hk : kq < ys.length) (hyk : yk = ys.getD kq 0) :
    ConH [((0 : Nat), (24 : Nat), (25 : Nat), (30 : Nat))] l Z (⟨"java/util/ImmutableCollections$ListItr", "next", "()Ljava/lang/Object;"⟩ : MethodName) jdk_53_method_4_code 3 (some (.object "java/lang/Object")) ({ frames := 1, cells := 0, slots := 0, locals := 13 } : Room) ws #[(.ref it)] h0 (fun v h L => (v = some (.ref yk)) ∧ (Fr n0 L) ∧ (Keep h0 h [it]) ∧ (Exa Z h it "java/util/ImmutableCollections$ListItr") ∧ (Fld Z h it "java/util/ImmutableCollections$ListItr" "list" "Ljava/util/List;" (.ref a1)) ∧ (Fld Z h it "java/util/ImmutableCollections$ListItr" "size" "I" (.int (Int32.ofNat ys.length))) ∧ (Fld Z h it "java/util/ImmutableCollections$ListItr" "cursor" "I" (.int (Int32.ofNat (kq + 1))))) 0 0 := by
  refine ConH.of (plainFor_of_name own_pn_ImmutableCollections_ListItr) ?_
  intro pgm e s m below meth c s₁ X0 hx hZ hby hml hown hnm hret hlk e0 hs0
  have N0 := Fr.nil n0
  have hown : s.vm.findClass "java/util/ImmutableCollections$ListItr" = some m.cls := hown
  have hnm : meth.name = "next" := hnm
  refine Go.cast (own_ef_jdk_53_method_4_code_R m it) ?_
  have K0 := Keep.refl h0 [it]
  refine gs m s₁ 1 #[vR (it), sU, sU] [(.ref it)] (fun _ k => XS.aloadN X0.here hx rfl (hb hby q67) rfl rfl k) ?_
  obtain ⟨T101, X101, e101, st101⟩ := getF X0 hx hZ hown (host := "") (Or.inl (hwi hw 107 rfl)) Via.refl e0 f3 (g := (mkF m 1 #[vR (it), sU, sU] [(.ref it)])) rfl rfl (hb hby q68)
  refine gs m T101 4 #[vR (it), sU, sU] [(.int (Int32.ofNat kq))] st101 ?_
  refine gs m T101 5 #[vR (it), vI ((Int32.ofNat kq)), sU] [] (fun _ k => XS.istoreN X101.here hx rfl (hb hby q69) rfl (l' := #[vR (it), vI ((Int32.ofNat kq)), sU]) rfl k) ?_
  refine gs m T101 6 #[vR (it), vI ((Int32.ofNat kq)), sU] [(.ref it)] (fun _ k => XS.aloadN X101.here hx rfl (hb hby q6a) rfl rfl k) ?_
  obtain ⟨T102, X102, e102, st102⟩ := getF X101 hx hZ hown (host := "") (Or.inl (hwi hw 103 rfl)) Via.refl e101 f1 (g := (mkF m 6 #[vR (it), vI ((Int32.ofNat kq)), sU] [(.ref it)])) rfl rfl (hb hby q6b)
  refine gs m T102 9 #[vR (it), vI ((Int32.ofNat kq)), sU] [(.ref a1)] st102 ?_
  refine gs m T102 10 #[vR (it), vI ((Int32.ofNat kq)), sU] [(.int (Int32.ofNat kq)), (.ref a1)] (fun _ k => XS.iloadN X102.here hx rfl (hb hby q6c) rfl  k) ?_
  obtain ⟨cq103, kq103, q103a, q103b, q103c⟩ := isOf hZ e102 f5
  obtain ⟨_, _, ⟨T103, L103, k103, n103⟩, -, X103, ⟨Lc103, hQ103, l103, y103, z103⟩, st103⟩ := X102.interfaceBack hx (xi := (⟨"java/util/List", "get", "(I)Ljava/lang/Object;"⟩ : MethodName)) (y := (⟨"java/util/ImmutableCollections$ListN", "get", "(I)Ljava/lang/Object;"⟩ : MethodName)) hown (mvT hZ (hwi hw 244 rfl)) (mvT hZ (hwi hw 126 rfl)) (mvT hZ (hwi hw 127 rfl)) (mvT hZ (hwi hw 128 rfl)) (mvT hZ (hwi hw 129 rfl)) (mvT hZ (hwi hw 130 rfl)) (mvT hZ (hwi hw 131 rfl)) (mvT hZ (hwi hw 83 rfl)) (by decide) (backOf (W := 0) (Q := Qret (some (.ref yk)) h0 n0) (own_getg l Z a0 hw [] a1 b2 k2 ys kq yk h0 n0 Z0 f5 f6 f7 hlen hk hyk) hZ (hwi hw 132 rfl) (hwi hw 94 rfl) (by decide) (by decide)) q103a q103b q103c (g := (mkF m 10 #[vR (it), vI ((Int32.ofNat kq)), sU] [(.int (Int32.ofNat kq)), (.ref a1)])) rfl (by rw [hml]; rfl) (Steps.refl _) (argsL := [(.int (Int32.ofNat kq))]) (rest := []) (lenOf own_pd15 rfl) rfl (by show 2 * 0 + _ ≤ _; exact Nat.le_of_eq rfl) (hb hby q6d) (fun _ _ => ⟨rfl, e102, (by decide : 0 + 0 ≤ _), (by decide : 0 + 0 ≤ _)⟩)
  dsimp only [Pt.U, Pt.locs, Pt.cells, Pt.slots] at X103 l103 y103 z103 st103 hQ103
  subst l103 y103 z103
  obtain ⟨rfl, N103q, eh103⟩ := hQ103
  have N103 := Fr.app N0 N103q
  refine gs m T103 15 #[vR (it), vI ((Int32.ofNat kq)), sU] [(.ref yk)] (fun _ k => st103.trans k) ?_
  refine gs m T103 16 #[vR (it), vI ((Int32.ofNat kq)), vR (yk)] [] (fun _ k => XS.astoreN X103.here hx rfl (hb hby q6e) rfl rfl (l' := #[vR (it), vI ((Int32.ofNat kq)), vR (yk)]) rfl k) ?_
  refine gs m T103 17 #[vR (it), vI ((Int32.ofNat kq)), vR (yk)] [(.ref it)] (fun _ k => XS.aloadN X103.here hx rfl (hb hby q6f) rfl rfl k) ?_
  refine gs m T103 18 #[vR (it), vI ((Int32.ofNat kq)), vR (yk)] [(.int (Int32.ofNat kq)), (.ref it)] (fun _ k => XS.iloadN X103.here hx rfl (hb hby q6g) rfl  k) ?_
  refine gs m T103 19 #[vR (it), vI ((Int32.ofNat kq)), vR (yk)] [(.int (1 : Int32)), (.int (Int32.ofNat kq)), (.ref it)] (fun _ k => XS.iconst X103.here hx rfl (hb hby q6h) k) ?_
  refine gs m T103 20 #[vR (it), vI ((Int32.ofNat kq)), vR (yk)] [(.int ((Int32.ofNat kq) + (1 : Int32))), (.ref it)] (fun _ k => XS.iadd X103.here hx rfl (hb hby q6i) rfl k) ?_
  obtain ⟨T104, h104, X104, e104, W104, st104⟩ := putF X103 hx hZ hown (host := "") (Or.inl (hwi hw 107 rfl)) Via.refl eh103 f3 f0 (Or.inl (hwi hw 108 rfl)) (hwi hw 87 rfl) (ty := .int) (by decide) rfl rfl (g := (mkF m 20 #[vR (it), vI ((Int32.ofNat kq)), vR (yk)] [(.int ((Int32.ofNat kq) + (1 : Int32))), (.ref it)])) rfl rfl (hb hby q6j)
  have N104 := Fr.snoc X104 N103 f4
  have Z104 : n0 ≤ h104.size := Nat.le_trans Z0 (Keep.of_wr W104).1
  have K104 := K0.wr W104 (Or.inl (List.mem_of_getElem? (i := 0) rfl))
  have F105 := f0.wr W104
  have F106 := f1.other W104 (Or.inr (slot_ne (Or.inr (hwi hw 104 rfl)) (Or.inl (hwi hw 108 rfl)) (by decide) (t := (.object "java/util/List")) (t' := .int) (by decide) (by decide)))
  have F107 := f2.other W104 (Or.inr (slot_ne (Or.inr (hwi hw 106 rfl)) (Or.inl (hwi hw 108 rfl)) (by decide) (t := .int) (t' := .int) (by decide) (by decide)))
  have F108 := f5.wr W104
  have F109 := f6.other W104 (Or.inl f9)
  have F110 := f7.other W104 f8
  have F111 := f3.same W104
  refine gs m T104 23 #[vR (it), vI ((Int32.ofNat kq)), vR (yk)] [] st104 ?_
  have FC : Fld Z h104 it "java/util/ImmutableCollections$ListItr" "cursor" "I" (.int (Int32.ofNat (kq + 1))) := by rw [← own_one]; exact F111
  refine gs m T104 24 #[vR (it), vI ((Int32.ofNat kq)), vR (yk)] [(.ref yk)] (fun _ k => XS.aloadN X104.here hx rfl (hb hby q6k) rfl rfl k) ?_
  exact Go.retA X104 hx (t := (.object "java/lang/Object")) hret rfl hlk rfl (hb hby q6l) (by rw [e104]; exact ⟨rfl, N104, K104, F105, F106, F107, FC⟩) (by decide) (by decide)
theorem own_rsl (t : Nat) : ∀ {pgm : Program} {l : Launch} {e : Env} {s : State} {m : MethodId} {args : Array Value} {below : List Frame} {meth : Method} {c : Code} {T0 : State} {locs : List Loc} {cells slots : Nat} {Z : State} {a0 : Array Value} {h0 : Heap} {n0 : Nat} (a1 : Addr) (lst : Addr) (it : Addr) (y3 : Addr) (b2 : Addr) (k2 : ClassId) (u0 : Value) (kq : Nat) (ys : List Addr) (w : Nat → Addr) (sec : Nat → Int64) (hB : Heap)
    (X0 : Stand pgm l e ({ frames := 9, cells := 4, slots := 26, locals := 115 } : Room) s m args below meth c T0 locs cells slots) (hx : pgm.tables.exec = Jvm.exec) (hZ : Z.Warmed39 s.vm) (hw : ∀ d ∈ tables_1, d.before a0 Z = true) (hby : c.code = prog_7_method_1_code) (hml : c.maxLocals = 4) (hown : s.vm.findClass "com/example/nuthatch/nuthatch/RetrySchedule" = some m.cls) (hret : meth.sig.returnType = none) (hlk : meth.locks = false) (e0 : T0.heap = h0) (N0 : Fr n0 locs) (Z0 : n0 ≤ h0.size) (hcells : cells ≤ 4) (hslots : slots ≤ 26) (f0 : Exa Z h0 a1 "com/example/nuthatch/nuthatch/RetrySchedule") (f1 : n0 ≤ a1) (f2 : Fld Z h0 a1 "com/example/nuthatch/nuthatch/RetrySchedule" "delays" "Ljava/util/List;" u0) (f3 : Exa Z h0 lst "java/util/ImmutableCollections$ListN") (f4 : Fld Z h0 lst "java/util/ImmutableCollections$ListN" "elements" "[Ljava/lang/Object;" (.ref b2)) (f5 : Arv Z h0 b2 k2 (.object "java/lang/Object") (Int32.ofNat ys.length) (ys.map Value.ref) .null) (f6 : Exa Z h0 it "java/util/ImmutableCollections$ListItr") (f7 : Fld Z h0 it "java/util/ImmutableCollections$ListItr" "list" "Ljava/util/List;" (.ref lst)) (f8 : Fld Z h0 it "java/util/ImmutableCollections$ListItr" "size" "I" (.int (Int32.ofNat ys.length))) (f9 : Fld Z h0 it "java/util/ImmutableCollections$ListItr" "cursor" "I" (.int (Int32.ofNat kq))) (f10 : n0 ≤ it) (f11 : a1 ≠ it) (f12 : lst ≠ it) (f13 : b2 ≠ it) (f14 : lst ≠ a1) (f15 : b2 ≠ a1) (f16 : it ≠ a1) (f17 : UW Z h0 w sec) (f18 : ∀ i, i < 9 → w i ≠ it) (f19 : ∀ i, i < 9 → w i ≠ a1) (f20 : hB.size ≤ it) (f21 : hB.size ≤ lst) (f22 : hB.size ≤ b2) (hkt : kq + t = ys.length) (hlen : ys.length ≤ 8) (hys : ∀ y ∈ ys, ∃ i, i < 9 ∧ y = w i) (hsec : ∀ i, i < 9 → ¬ lcmpW (sec i) (0 : Int64) < (0 : Int32)) (Kb : Keep hB h0 [a1]) (hnm : meth.name = "<init>"),
    Go pgm e below s (fun v h L => ∃ lst : Addr, ∃ b2 : Addr, ∃ k2 : ClassId, (v = none) ∧ (Fr n0 L) ∧ (Keep hB h [a1]) ∧ (hB.size ≤ lst) ∧ (hB.size ≤ b2) ∧ (Exa Z h a1 "com/example/nuthatch/nuthatch/RetrySchedule") ∧ (Fld Z h a1 "com/example/nuthatch/nuthatch/RetrySchedule" "delays" "Ljava/util/List;" (.ref lst)) ∧ (Exa Z h lst "java/util/ImmutableCollections$ListN") ∧ (Fld Z h lst "java/util/ImmutableCollections$ListN" "elements" "[Ljava/lang/Object;" (.ref b2)) ∧ (Arv Z h b2 k2 (.object "java/lang/Object") (Int32.ofNat ys.length) (ys.map Value.ref) .null)) 4 26 T0 (mkF m 16 #[vR (a1), vR (lst), vR (it), vR (y3)] []) := by
  induction t with
  | zero =>
    intro pgm l e s m args below meth c T0 locs cells slots Z a0 h0 n0 a1 lst it y3 b2 k2 u0 kq ys w sec hB X0 hx hZ hw hby hml hown hret hlk e0 N0 Z0 hcells hslots f0 f1 f2 f3 f4 f5 f6 f7 f8 f9 f10 f11 f12 f13 f14 f15 f16 f17 f18 f19 f20 f21 f22 hkt hlen hys hsec Kb hnm
    obtain rfl : kq = ys.length := by omega
    refine gs m T0 17 #[vR (a1), vR (lst), vR (it), vR (y3)] [(.ref it)] (fun _ k => XS.aloadN X0.here hx rfl (hb hby q71) rfl rfl k) ?_
    obtain ⟨cq101, kq101, q101a, q101b, q101c⟩ := isOf hZ e0 f6
    obtain ⟨_, _, ⟨T101, L101, k101, n101⟩, -, X101, ⟨Lc101, hQ101, l101, y101, z101⟩, st101⟩ := X0.interfaceBack hx (xi := (⟨"java/util/Iterator", "hasNext", "()Z"⟩ : MethodName)) (y := (⟨"java/util/ImmutableCollections$ListItr", "hasNext", "()Z"⟩ : MethodName)) hown (mvT hZ (hwi hw 111 rfl)) (mvT hZ (hwi hw 112 rfl)) (mvT hZ (hwi hw 113 rfl)) (mvT hZ (hwi hw 114 rfl)) (mvT hZ (hwi hw 115 rfl)) (mvT hZ (hwi hw 116 rfl)) (mvT hZ (hwi hw 117 rfl)) (mvT hZ (hwi hw 118 rfl)) (by decide) (backOf (W := 0) (Q := Qret (some (.int (0 : Int32))) h0 n0) (own_hng0 l Z a0 hw [] it lst ys h0 n0 Z0 f6 f7 f8 f9) hZ (hwi hw 119 rfl) (hwi hw 88 rfl) (by decide) (by decide)) q101a q101b q101c (g := (mkF m 17 #[vR (a1), vR (lst), vR (it), vR (y3)] [(.ref it)])) rfl (by rw [hml]; rfl) (Steps.refl _) (argsL := []) (rest := []) (lenOf own_pd9 rfl) rfl (by show 2 * 0 + _ ≤ _; exact Nat.le_of_eq rfl) (hb hby q72) (fun _ _ => ⟨rfl, e0, (by dsimp only [Pt.cells, Pt.slots, room_1]; omega), (by dsimp only [Pt.cells, Pt.slots, room_1]; omega)⟩)
    dsimp only [Pt.U, Pt.locs, Pt.cells, Pt.slots] at X101 l101 y101 z101 st101 hQ101
    subst l101 y101 z101
    obtain ⟨rfl, N101q, eh101⟩ := hQ101
    have N101 := Fr.app N0 N101q
    refine gs m T101 22 #[vR (a1), vR (lst), vR (it), vR (y3)] [(.int (0 : Int32))] (fun _ k => st101.trans k) ?_
    refine gs m T101 62 #[vR (a1), vR (lst), vR (it), vR (y3)] [] (fun _ k => XS.ifYes X101.here hx rfl (pc0 := 22) (pc' := 62) rfl (hb hby q73) rfl ((if0 _ _).trans (teq (by decide : (0 : Int32) = (0 : Int32))).1) (by decide) (by decide) k) ?_
    refine gs m T101 63 #[vR (a1), vR (lst), vR (it), vR (y3)] [(.ref a1)] (fun _ k => XS.aloadN X101.here hx rfl (hb hby q74) rfl rfl k) ?_
    refine gs m T101 64 #[vR (a1), vR (lst), vR (it), vR (y3)] [(.ref lst), (.ref a1)] (fun _ k => XS.aloadN X101.here hx rfl (hb hby q75) rfl rfl k) ?_
    obtain ⟨T102, h102, X102, e102, W102, st102⟩ := putF X101 hx hZ hown (host := "") (Or.inl (hwi hw 8 rfl)) Via.refl eh101 f2 f0 (Or.inr ⟨(hwi hw 9 rfl), rfl, hnm⟩) (hwi hw 37 rfl) (ty := (.object "java/util/List")) (by decide) rfl rfl (g := (mkF m 64 #[vR (a1), vR (lst), vR (it), vR (y3)] [(.ref lst), (.ref a1)])) rfl rfl (hb hby q76)
    have N102 := Fr.snoc X102 N101 f1
    have Z102 : n0 ≤ h102.size := Nat.le_trans Z0 (Keep.of_wr W102).1
    have K102 := Kb.wr W102 (Or.inl (List.mem_of_getElem? (i := 0) rfl))
    have F103 := f0.wr W102
    have F104 := f3.wr W102
    have F105 := f4.other W102 (Or.inl f14)
    have F106 := f5.other W102 f15
    have F107 := f6.wr W102
    have F108 := f7.other W102 (Or.inl f16)
    have F109 := f8.other W102 (Or.inl f16)
    have F110 := f9.other W102 (Or.inl f16)
    have F111 := f17.wr W102 f19
    have F112 := f2.same W102
    refine gs m T102 67 #[vR (a1), vR (lst), vR (it), vR (y3)] [] st102 ?_
    exact Go.retV X102 hx hret hlk (hb hby q77) (by rw [e102]; exact ⟨lst, b2, k2, rfl, N102, K102, f21, f22, F103, F112, F104, F105, F106⟩) (by omega) (by omega)
  | succ t ih =>
    intro pgm l e s m args below meth c T0 locs cells slots Z a0 h0 n0 a1 lst it y3 b2 k2 u0 kq ys w sec hB X0 hx hZ hw hby hml hown hret hlk e0 N0 Z0 hcells hslots f0 f1 f2 f3 f4 f5 f6 f7 f8 f9 f10 f11 f12 f13 f14 f15 f16 f17 f18 f19 f20 f21 f22 hkt hlen hys hsec Kb hnm
    have hk : kq < ys.length := by omega
    obtain ⟨yk, hyk⟩ : ∃ z, z = ys.getD kq 0 := ⟨_, rfl⟩
    obtain ⟨i1, hi1, ey⟩ := hys _ (own_getmem (k := kq) hk)
    have eyk : yk = w i1 := hyk.trans ey
    refine gs m T0 17 #[vR (a1), vR (lst), vR (it), vR (y3)] [(.ref it)] (fun _ k => XS.aloadN X0.here hx rfl (hb hby q71) rfl rfl k) ?_
    obtain ⟨cq101, kq101, q101a, q101b, q101c⟩ := isOf hZ e0 f6
    obtain ⟨_, _, ⟨T101, L101, k101, n101⟩, -, X101, ⟨Lc101, hQ101, l101, y101, z101⟩, st101⟩ := X0.interfaceBack hx (xi := (⟨"java/util/Iterator", "hasNext", "()Z"⟩ : MethodName)) (y := (⟨"java/util/ImmutableCollections$ListItr", "hasNext", "()Z"⟩ : MethodName)) hown (mvT hZ (hwi hw 111 rfl)) (mvT hZ (hwi hw 112 rfl)) (mvT hZ (hwi hw 113 rfl)) (mvT hZ (hwi hw 114 rfl)) (mvT hZ (hwi hw 115 rfl)) (mvT hZ (hwi hw 116 rfl)) (mvT hZ (hwi hw 117 rfl)) (mvT hZ (hwi hw 118 rfl)) (by decide) (backOf (W := 0) (Q := Qret (some (.int (1 : Int32))) h0 n0) (own_hng1 l Z a0 hw [] it lst ys kq h0 n0 Z0 f6 f7 f8 f9 hlen hk) hZ (hwi hw 119 rfl) (hwi hw 88 rfl) (by decide) (by decide)) q101a q101b q101c (g := (mkF m 17 #[vR (a1), vR (lst), vR (it), vR (y3)] [(.ref it)])) rfl (by rw [hml]; rfl) (Steps.refl _) (argsL := []) (rest := []) (lenOf own_pd9 rfl) rfl (by show 2 * 0 + _ ≤ _; exact Nat.le_of_eq rfl) (hb hby q72) (fun _ _ => ⟨rfl, e0, (by dsimp only [Pt.cells, Pt.slots, room_1]; omega), (by dsimp only [Pt.cells, Pt.slots, room_1]; omega)⟩)
    dsimp only [Pt.U, Pt.locs, Pt.cells, Pt.slots] at X101 l101 y101 z101 st101 hQ101
    subst l101 y101 z101
    obtain ⟨rfl, N101q, eh101⟩ := hQ101
    have N101 := Fr.app N0 N101q
    refine gs m T101 22 #[vR (a1), vR (lst), vR (it), vR (y3)] [(.int (1 : Int32))] (fun _ k => st101.trans k) ?_
    refine gs m T101 25 #[vR (a1), vR (lst), vR (it), vR (y3)] [] (fun _ k => XS.ifNo X101.here hx rfl (hb hby q73) rfl ((if0 _ _).trans (feq (by decide : ¬ ((1 : Int32) = (0 : Int32)))).1) k) ?_
    refine gs m T101 26 #[vR (a1), vR (lst), vR (it), vR (y3)] [(.ref it)] (fun _ k => XS.aloadN X101.here hx rfl (hb hby q78) rfl rfl k) ?_
    obtain ⟨cq102, kq102, q102a, q102b, q102c⟩ := isOf hZ eh101 f6
    obtain ⟨_, _, ⟨T102, L102, k102, n102⟩, -, X102, ⟨Lc102, hQ102, l102, y102, z102⟩, st102⟩ := X101.interfaceBack hx (xi := (⟨"java/util/Iterator", "next", "()Ljava/lang/Object;"⟩ : MethodName)) (y := (⟨"java/util/ImmutableCollections$ListItr", "next", "()Ljava/lang/Object;"⟩ : MethodName)) hown (mvT hZ (hwi hw 236 rfl)) (mvT hZ (hwi hw 237 rfl)) (mvT hZ (hwi hw 238 rfl)) (mvT hZ (hwi hw 239 rfl)) (mvT hZ (hwi hw 240 rfl)) (mvT hZ (hwi hw 241 rfl)) (mvT hZ (hwi hw 242 rfl)) (mvT hZ (hwi hw 118 rfl)) (by decide) (backOfWith (W := 0) (Q := fun v h L => (v = some (.ref yk)) ∧ (Fr n0 L) ∧ (Keep h0 h [it]) ∧ (Exa Z h it "java/util/ImmutableCollections$ListItr") ∧ (Fld Z h it "java/util/ImmutableCollections$ListItr" "list" "Ljava/util/List;" (.ref lst)) ∧ (Fld Z h it "java/util/ImmutableCollections$ListItr" "size" "I" (.int (Int32.ofNat ys.length))) ∧ (Fld Z h it "java/util/ImmutableCollections$ListItr" "cursor" "I" (.int (Int32.ofNat (kq + 1))))) (own_nxg l Z a0 hw [] it lst b2 k2 ys kq yk h0 n0 Z0 f6 f7 f8 f9 f10 f3 f4 f5 f13 f12 hlen hk hyk) hZ (hwi hw 243 rfl) (hwi hw 88 rfl) (by decide) (by decide)) q102a q102b q102c (g := (mkF m 26 #[vR (a1), vR (lst), vR (it), vR (y3)] [(.ref it)])) rfl (by rw [hml]; rfl) (Steps.refl _) (argsL := []) (rest := []) (lenOf own_pd17 rfl) rfl (by show 2 * 0 + _ ≤ _; exact Nat.le_of_eq rfl) (hb hby q79) (fun _ _ => ⟨rfl, eh101, (by dsimp only [Pt.cells, Pt.slots, room_1]; omega), (by dsimp only [Pt.cells, Pt.slots, room_1]; omega)⟩)
    dsimp only [Pt.U, Pt.locs, Pt.cells, Pt.slots] at X102 l102 y102 z102 st102 hQ102
    subst l102 y102 z102
    obtain ⟨rfl, N102q, K102, P102_0, P102_1, P102_2, P102_3⟩ := hQ102
    have N102 := Fr.app N101 N102q
    have KK102 := Kb.trans K102 (allS (Or.inr f20) all0)
    have Z102 : n0 ≤ T102.heap.size := Nat.le_trans Z0 K102.1
    have F103 := f0.keep K102
    have F104 := f2.keep K102 (ninS f11 nin0)
    have F105 := f3.keep K102
    have F106 := f4.keep K102 (ninS f12 nin0)
    have F107 := f5.keep K102 (ninS f13 nin0)
    have F108 := f6.keep K102
    have F109 := f17.keep K102 (fun i hi => (ninS (f18 i hi) nin0))
    refine gs m T102 31 #[vR (a1), vR (lst), vR (it), vR (y3)] [(.ref yk)] (fun _ k => st102.trans k) ?_
    have Ey110 : Exa Z T102.heap yk "java/time/Duration" := by rw [eyk]; exact (F109 i1 hi1).1
    have Fy110 : Fld Z T102.heap yk "java/time/Duration" "seconds" "J" (.long (sec i1)) := by rw [eyk]; exact (F109 i1 hi1).2
    obtain ⟨T111, X111, e111, st111⟩ := castY X102 hx hZ hown (hwi hw 245 rfl) rfl (Ins.self Ey110) (g := (mkF m 31 #[vR (a1), vR (lst), vR (it), vR (y3)] [(.ref yk)])) rfl rfl (hb hby q7a)
    refine gs m T111 34 #[vR (a1), vR (lst), vR (it), vR (y3)] [(.ref yk)] st111 ?_
    refine gs m T111 35 #[vR (a1), vR (lst), vR (it), vR (yk)] [] (fun _ k => XS.astoreN X111.here hx rfl (hb hby q7b) rfl rfl (l' := #[vR (a1), vR (lst), vR (it), vR (yk)]) rfl k) ?_
    refine gs m T111 36 #[vR (a1), vR (lst), vR (it), vR (yk)] [(.ref yk)] (fun _ k => XS.aloadN X111.here hx rfl (hb hby q7c) rfl rfl k) ?_
    obtain ⟨cq112, kq112, q112a, q112b, q112c⟩ := isOf hZ e111 Ey110
    obtain ⟨_, _, ⟨T112, L112, k112, n112⟩, -, X112, ⟨Lc112, hQ112, l112, y112, z112⟩, st112⟩ := X111.virtualBack hx (y := (⟨"java/time/Duration", "isNegative", "()Z"⟩ : MethodName)) (z := (⟨"java/time/Duration", "isNegative", "()Z"⟩ : MethodName)) hown (mvT hZ (hwi hw 246 rfl)) (mvT hZ (hwi hw 247 rfl)) (notFace_of_selects (args := #[]) (mvT hZ (hwi hw 249 rfl))) (mvT hZ (hwi hw 249 rfl)) (mvT hZ (hwi hw 248 rfl)) (by decide) (backOf (W := 0) (Q := Qret (some (.int (0 : Int32))) T102.heap n0) (own_neg l Z a0 hw [] yk (sec i1) T102.heap n0 Z102 Fy110 (hsec i1 hi1)) hZ (hwi hw 251 rfl) (hwi hw 250 rfl) (by decide) (by decide)) q112a q112c (g := (mkF m 36 #[vR (a1), vR (lst), vR (it), vR (yk)] [(.ref yk)])) rfl (by rw [hml]; rfl) (Steps.refl _) (argsL := []) (rest := []) (lenOf own_pd9 rfl) rfl (by show 2 * 0 + _ ≤ _; exact Nat.le_of_eq rfl) (hb hby q7d) (fun _ _ => ⟨rfl, e111, (by dsimp only [Pt.cells, Pt.slots, room_1]; omega), (by dsimp only [Pt.cells, Pt.slots, room_1]; omega)⟩)
    dsimp only [Pt.U, Pt.locs, Pt.cells, Pt.slots] at X112 l112 y112 z112 st112 hQ112
    subst l112 y112 z112
    obtain ⟨rfl, N112q, eh112⟩ := hQ112
    have N112 := Fr.app N102 N112q
    refine gs m T112 39 #[vR (a1), vR (lst), vR (it), vR (yk)] [(.int (0 : Int32))] (fun _ k => st112.trans k) ?_
    refine gs m T112 59 #[vR (a1), vR (lst), vR (it), vR (yk)] [] (fun _ k => XS.ifYes X112.here hx rfl (pc0 := 39) (pc' := 59) rfl (hb hby q7e) rfl ((if0 _ _).trans (teq (by decide : (0 : Int32) = (0 : Int32))).1) (by decide) (by decide) k) ?_
    refine gs m T112 16 #[vR (a1), vR (lst), vR (it), vR (yk)] [] (fun _ k => XS.goto X112.here hx rfl (pc0 := 59) (pc' := 16) rfl (hb hby q7f) (by decide) (by decide) k) ?_
    exact ih a1 lst it yk b2 k2 u0 (kq + 1) ys w sec hB X112 hx hZ hw hby hml hown hret hlk eh112 N112 Z102 (by omega) (by omega) F103 f1 F104 F105 F106 F107 P102_0 P102_1 P102_2 P102_3 f10 f11 f12 f13 f14 f15 f16 F109 f18 f19 f20 f21 f22 (by omega) hlen hys hsec KK102 hnm
theorem own_rsig (l : Launch) (Z : State) (a0 : Array Value) (hw : ∀ d ∈ tables_1, d.before a0 Z = true) (ws : List Jvm.Cond) (a1 : Addr) (al : Addr) (u0 : Value) (b1 : Addr) (k1 : ClassId) (ys : List Addr) (w : Nat → Addr) (sec : Nat → Int64) (h0 : Heap) (n0 : Nat) (Z0 : n0 ≤ h0.size) (f0 : Exa Z h0 a1 "com/example/nuthatch/nuthatch/RetrySchedule") (f1 : n0 ≤ a1) (f2 : Fld Z h0 a1 "com/example/nuthatch/nuthatch/RetrySchedule" "delays" "Ljava/util/List;" u0) (f3 : Exa Z h0 al "java/util/ArrayList") (f4 : Fld Z h0 al "java/util/ArrayList" "elementData" "[Ljava/lang/Object;" (.ref b1)) (f5 : Fld Z h0 al "java/util/ArrayList" "size" "I" (.int (Int32.ofNat ys.length))) (f6 : Exa Z h0 b1 "[Ljava/lang/Object;") (f7 : Arv Z h0 b1 k1 (.object "java/lang/Object") (10 : Int32) (own_AV ys) .null) (f8 : al ≠ a1) (f9 : b1 ≠ a1) (f10 : UW Z h0 w sec) (f11 : ∀ i, i < 9 → w i ≠ a1) (ov1 : Ovr Z k1 "java/lang/Object") (MM : MirrorMade Z "[Ljava/lang/Object;") (hlen : ys.length ≤ 8) (hys : ∀ y ∈ ys, ∃ i, i < 9 ∧ y = w i) (h3 : 3 ≤ ys.length) (hsec : ∀ i, i < 9 → ¬ lcmpW (sec i) (0 : Int64) < (0 : Int32)) :
    Con l Z (⟨"com/example/nuthatch/nuthatch/RetrySchedule", "<init>", "(Ljava/util/List;)V"⟩ : MethodName) prog_7_method_1_code 4 none ({ frames := 9, cells := 4, slots := 26, locals := 115 } : Room) ws #[(.ref a1), (.ref al)] h0 (fun v h L => ∃ lst : Addr, ∃ b2 : Addr, ∃ k2 : ClassId, (v = none) ∧ (Fr n0 L) ∧ (Keep h0 h [a1]) ∧ (h0.size ≤ lst) ∧ (h0.size ≤ b2) ∧ (Exa Z h a1 "com/example/nuthatch/nuthatch/RetrySchedule") ∧ (Fld Z h a1 "com/example/nuthatch/nuthatch/RetrySchedule" "delays" "Ljava/util/List;" (.ref lst)) ∧ (Exa Z h lst "java/util/ImmutableCollections$ListN") ∧ (Fld Z h lst "java/util/ImmutableCollections$ListN" "elements" "[Ljava/lang/Object;" (.ref b2)) ∧ (Arv Z h b2 k2 (.object "java/lang/Object") (Int32.ofNat ys.length) (ys.map Value.ref) .null)) 4 26 := by
  refine Con.of (plainFor_of_name own_pn_RetrySchedule) ?_
  intro pgm e s m below meth c s₁ X0 hx hZ hby hml hown hnm hret hlk e0 hs0
  have N0 := Fr.nil n0
  have hown : s.vm.findClass "com/example/nuthatch/nuthatch/RetrySchedule" = some m.cls := hown
  have hnm : meth.name = "<init>" := hnm
  refine Go.cast (own_ef_prog_7_method_1_code_RR m a1 al) ?_
  have K0 := Keep.refl h0 [a1]
  refine gs m s₁ 1 #[vR (a1), vR (al), sU, sU] [(.ref a1)] (fun _ k => XS.aloadN X0.here hx rfl (hb hby q6t) rfl rfl k) ?_
  obtain ⟨_, _, ⟨T101, L101, k101, n101⟩, -, X101, ⟨Lc101, hQ101, l101, y101, z101⟩, st101⟩ := X0.specialBack hx (y := (⟨"java/lang/Record", "<init>", "()V"⟩ : MethodName)) rfl hown (mvT hZ (hwi hw 41 rfl)) (mvT hZ (hwi hw 42 rfl)) (mvT hZ (hwi hw 45 rfl)) (by decide) (backOf (W := 0) (Q := Qret (none) h0 n0) (own_rec l Z a0 hw [] a1 h0 n0 Z0 ) hZ (hwi hw 45 rfl) (hwi hw 44 rfl) (by decide) (by decide)) (g := (mkF m 1 #[vR (a1), vR (al), sU, sU] [(.ref a1)])) rfl (by rw [hml]; rfl) (Steps.refl _) (a := a1) (argsL := []) (rest := []) (lenOf own_pd0 rfl) rfl (by show 2 * 0 + _ ≤ _; exact Nat.le_of_eq rfl) (hb hby q6u) (fun _ _ => ⟨rfl, e0, (by decide : 0 + 0 ≤ _), (by decide : 0 + 0 ≤ _)⟩)
  dsimp only [Pt.U, Pt.locs, Pt.cells, Pt.slots] at X101 l101 y101 z101 st101 hQ101
  subst l101 y101 z101
  obtain ⟨rfl, N101q, eh101⟩ := hQ101
  have N101 := Fr.app N0 N101q
  refine gs m T101 4 #[vR (a1), vR (al), sU, sU] [] (fun _ k => st101.trans k) ?_
  refine gs m T101 5 #[vR (a1), vR (al), sU, sU] [(.ref al)] (fun _ k => XS.aloadN X101.here hx rfl (hb hby q6v) rfl rfl k) ?_
  obtain ⟨_, _, ⟨T102, L102, k102, n102⟩, -, X102, ⟨Lc102, hQ102, l102, y102, z102⟩, st102⟩ := Jvm.LawKit.callS X101 hx (y := (⟨"java/util/List", "copyOf", "(Ljava/util/Collection;)Ljava/util/List;"⟩ : MethodName)) hown (mvT hZ (hwi hw 47 rfl)) (mvT hZ (hwi hw 48 rfl)) (mvT hZ (hwi hw 49 rfl)) (mvT hZ (hwi hw 50 rfl)) (by decide) (backOf (W := 0) (Q := fun v h L => ∃ lst : Addr, ∃ b2 : Addr, ∃ k2 : ClassId, (v = some (.ref lst)) ∧ (Fr n0 L) ∧ (Keep h0 h []) ∧ (h0.size ≤ lst) ∧ (h0.size ≤ b2) ∧ (Exa Z h lst "java/util/ImmutableCollections$ListN") ∧ (Fld Z h lst "java/util/ImmutableCollections$ListN" "elements" "[Ljava/lang/Object;" (.ref b2)) ∧ (Arv Z h b2 k2 (.object "java/lang/Object") (Int32.ofNat ys.length) (ys.map Value.ref) .null)) (own_cofg l Z a0 hw [] al b1 k1 ys w sec h0 n0 Z0 f3 f4 f5 f6 f7 f10 ov1 MM hlen hys h3) hZ (hwi hw 50 rfl) (hwi hw 49 rfl) (by decide) (by decide)) (g := (mkF m 5 #[vR (a1), vR (al), sU, sU] [(.ref al)])) rfl (by rw [hml]; rfl) (argsL := [(.ref al)]) (rest := []) (lenOf own_pd11 rfl) rfl (by show 2 * 0 + _ ≤ _; exact Nat.le_of_eq rfl) (hb hby q6w) (fun _ _ => ⟨rfl, eh101, (by decide : 0 + 3 ≤ _), (by decide : 0 + 18 ≤ _)⟩)
  dsimp only [Pt.U, Pt.locs, Pt.cells, Pt.slots] at X102 l102 y102 z102 st102 hQ102
  subst l102 y102 z102
  obtain ⟨lst_102, b2_102, k2_102, rfl, N102q, K102, lt102_0, lt102_1, P102_0, P102_1, P102_2⟩ := hQ102
  have N102 := Fr.app N101 N102q
  have ne103 : ∀ i, i < 9 → w i ≠ lst_102 := fun i hi => Nat.ne_of_lt (Nat.lt_of_lt_of_le (f10 i hi).1.lt lt102_0)
  have ne104 : a1 ≠ lst_102 := Nat.ne_of_lt (Nat.lt_of_lt_of_le f0.lt lt102_0)
  have ne105 : al ≠ lst_102 := Nat.ne_of_lt (Nat.lt_of_lt_of_le f3.lt lt102_0)
  have ne106 : b1 ≠ lst_102 := Nat.ne_of_lt (Nat.lt_of_lt_of_le f6.lt lt102_0)
  have ge107 : n0 ≤ lst_102 := Nat.le_trans Z0 lt102_0
  have sz108 : h0.size ≤ lst_102 := Nat.le_trans K0.1 lt102_0
  have ne109 : ∀ i, i < 9 → w i ≠ b2_102 := fun i hi => Nat.ne_of_lt (Nat.lt_of_lt_of_le (f10 i hi).1.lt lt102_1)
  have ne110 : a1 ≠ b2_102 := Nat.ne_of_lt (Nat.lt_of_lt_of_le f0.lt lt102_1)
  have ne111 : al ≠ b2_102 := Nat.ne_of_lt (Nat.lt_of_lt_of_le f3.lt lt102_1)
  have ne112 : b1 ≠ b2_102 := Nat.ne_of_lt (Nat.lt_of_lt_of_le f6.lt lt102_1)
  have ge113 : n0 ≤ b2_102 := Nat.le_trans Z0 lt102_1
  have sz114 : h0.size ≤ b2_102 := Nat.le_trans K0.1 lt102_1
  have KK102 := K0.trans K102 all0
  have Z102 : n0 ≤ T102.heap.size := Nat.le_trans Z0 K102.1
  have F115 := f0.keep K102
  have F116 := f2.keep K102 nin0
  have F117 := f3.keep K102
  have F118 := f4.keep K102 nin0
  have F119 := f5.keep K102 nin0
  have F120 := f6.keep K102
  have F121 := f7.keep K102 nin0
  have F122 := f10.keep K102 (fun i hi => nin0)
  refine gs m T102 8 #[vR (a1), vR (al), sU, sU] [(.ref lst_102)] (st102) ?_
  refine gs m T102 9 #[vR (a1), vR (lst_102), sU, sU] [] (fun _ k => XS.astoreN X102.here hx rfl (hb hby q6x) rfl rfl (l' := #[vR (a1), vR (lst_102), sU, sU]) rfl k) ?_
  refine gs m T102 10 #[vR (a1), vR (lst_102), sU, sU] [(.ref lst_102)] (fun _ k => XS.aloadN X102.here hx rfl (hb hby q6y) rfl rfl k) ?_
  obtain ⟨cq123, kq123, q123a, q123b, q123c⟩ := isOf hZ rfl P102_0
  obtain ⟨_, _, ⟨T123, L123, k123, n123⟩, -, X123, ⟨Lc123, hQ123, l123, y123, z123⟩, st123⟩ := X102.interfaceBack hx (xi := (⟨"java/util/List", "iterator", "()Ljava/util/Iterator;"⟩ : MethodName)) (y := (⟨"java/util/ImmutableCollections$AbstractImmutableList", "iterator", "()Ljava/util/Iterator;"⟩ : MethodName)) hown (mvT hZ (hwi hw 76 rfl)) (mvT hZ (hwi hw 77 rfl)) (mvT hZ (hwi hw 78 rfl)) (mvT hZ (hwi hw 79 rfl)) (mvT hZ (hwi hw 80 rfl)) (mvT hZ (hwi hw 81 rfl)) (mvT hZ (hwi hw 82 rfl)) (mvT hZ (hwi hw 83 rfl)) (by decide) (backOf (W := 0) (Q := fun v h L => ∃ it : Addr, (v = some (.ref it)) ∧ (Fr n0 L) ∧ (Keep T102.heap h []) ∧ (T102.heap.size ≤ it) ∧ (Exa Z h it "java/util/ImmutableCollections$ListItr") ∧ (Fld Z h it "java/util/ImmutableCollections$ListItr" "list" "Ljava/util/List;" (.ref lst_102)) ∧ (Fld Z h it "java/util/ImmutableCollections$ListItr" "size" "I" (.int (Int32.ofNat ys.length))) ∧ (Fld Z h it "java/util/ImmutableCollections$ListItr" "cursor" "I" (.int (0 : Int32)))) (own_itrg l Z a0 hw [] lst_102 b2_102 k2_102 ys T102.heap n0 Z102 P102_0 P102_1 P102_2) hZ (hwi hw 85 rfl) (hwi hw 84 rfl) (by decide) (by decide)) q123a q123b q123c (g := (mkF m 10 #[vR (a1), vR (lst_102), sU, sU] [(.ref lst_102)])) rfl (by rw [hml]; rfl) (Steps.refl _) (argsL := []) (rest := []) (lenOf own_pd16 rfl) rfl (by show 2 * 0 + _ ≤ _; exact Nat.le_of_eq rfl) (hb hby q6z) (fun _ _ => ⟨rfl, rfl, (by decide : 3 + 1 ≤ _), (by decide : 18 + 4 ≤ _)⟩)
  dsimp only [Pt.U, Pt.locs, Pt.cells, Pt.slots] at X123 l123 y123 z123 st123 hQ123
  subst l123 y123 z123
  obtain ⟨it_123, rfl, N123q, K123, lt123_0, P123_0, P123_1, P123_2, P123_3⟩ := hQ123
  have N123 := Fr.app N102 N123q
  have ne124 : ∀ i, i < 9 → w i ≠ it_123 := fun i hi => Nat.ne_of_lt (Nat.lt_of_lt_of_le (F122 i hi).1.lt lt123_0)
  have ne125 : a1 ≠ it_123 := Nat.ne_of_lt (Nat.lt_of_lt_of_le F115.lt lt123_0)
  have ne126 : lst_102 ≠ it_123 := Nat.ne_of_lt (Nat.lt_of_lt_of_le P102_0.lt lt123_0)
  have ne127 : b2_102 ≠ it_123 := Nat.ne_of_lt (Nat.lt_of_lt_of_le P102_2.lt lt123_0)
  have ge128 : n0 ≤ it_123 := Nat.le_trans Z102 lt123_0
  have sz129 : h0.size ≤ it_123 := Nat.le_trans KK102.1 lt123_0
  have KK123 := KK102.trans K123 all0
  have Z123 : n0 ≤ T123.heap.size := Nat.le_trans Z102 K123.1
  have F130 := F115.keep K123
  have F131 := F116.keep K123 nin0
  have F132 := F122.keep K123 (fun i hi => nin0)
  have F133 := P102_0.keep K123
  have F134 := P102_1.keep K123 nin0
  have F135 := P102_2.keep K123 nin0
  refine gs m T123 15 #[vR (a1), vR (lst_102), sU, sU] [(.ref it_123)] (fun _ k => st123.trans k) ?_
  refine gs m T123 16 #[vR (a1), vR (lst_102), vR (it_123), sU] [] (fun _ k => XS.astoreN X123.here hx rfl (hb hby q70) rfl rfl (l' := #[vR (a1), vR (lst_102), vR (it_123), sU]) rfl k) ?_
  obtain ⟨y0, hyk0⟩ : ∃ z, z = ys.getD 0 0 := ⟨_, rfl⟩
  obtain ⟨i10, hi10, ey0⟩ := hys _ (own_getmem (k := 0) (by omega))
  have eyk0 : y0 = w i10 := hyk0.trans ey0
  refine gs m T123 17 #[vR (a1), vR (lst_102), vR (it_123), sU] [(.ref it_123)] (fun _ k => XS.aloadN X123.here hx rfl (hb hby q71) rfl rfl k) ?_
  obtain ⟨cq136, kq136, q136a, q136b, q136c⟩ := isOf hZ rfl P123_0
  obtain ⟨_, _, ⟨T136, L136, k136, n136⟩, -, X136, ⟨Lc136, hQ136, l136, y136, z136⟩, st136⟩ := X123.interfaceBack hx (xi := (⟨"java/util/Iterator", "hasNext", "()Z"⟩ : MethodName)) (y := (⟨"java/util/ImmutableCollections$ListItr", "hasNext", "()Z"⟩ : MethodName)) hown (mvT hZ (hwi hw 111 rfl)) (mvT hZ (hwi hw 112 rfl)) (mvT hZ (hwi hw 113 rfl)) (mvT hZ (hwi hw 114 rfl)) (mvT hZ (hwi hw 115 rfl)) (mvT hZ (hwi hw 116 rfl)) (mvT hZ (hwi hw 117 rfl)) (mvT hZ (hwi hw 118 rfl)) (by decide) (backOf (W := 0) (Q := Qret (some (.int (1 : Int32))) T123.heap n0) (own_hng1 l Z a0 hw [] it_123 lst_102 ys 0 T123.heap n0 Z123 P123_0 P123_1 P123_2 P123_3 hlen (by omega)) hZ (hwi hw 119 rfl) (hwi hw 88 rfl) (by decide) (by decide)) q136a q136b q136c (g := (mkF m 17 #[vR (a1), vR (lst_102), vR (it_123), sU] [(.ref it_123)])) rfl (by rw [hml]; rfl) (Steps.refl _) (argsL := []) (rest := []) (lenOf own_pd9 rfl) rfl (by show 2 * 0 + _ ≤ _; exact Nat.le_of_eq rfl) (hb hby q72) (fun _ _ => ⟨rfl, rfl, (by decide : 4 + 0 ≤ _), (by decide : 22 + 0 ≤ _)⟩)
  dsimp only [Pt.U, Pt.locs, Pt.cells, Pt.slots] at X136 l136 y136 z136 st136 hQ136
  subst l136 y136 z136
  obtain ⟨rfl, N136q, eh136⟩ := hQ136
  have N136 := Fr.app N123 N136q
  refine gs m T136 22 #[vR (a1), vR (lst_102), vR (it_123), sU] [(.int (1 : Int32))] (fun _ k => st136.trans k) ?_
  refine gs m T136 25 #[vR (a1), vR (lst_102), vR (it_123), sU] [] (fun _ k => XS.ifNo X136.here hx rfl (hb hby q73) rfl ((if0 _ _).trans (feq (by decide : ¬ ((1 : Int32) = (0 : Int32)))).1) k) ?_
  refine gs m T136 26 #[vR (a1), vR (lst_102), vR (it_123), sU] [(.ref it_123)] (fun _ k => XS.aloadN X136.here hx rfl (hb hby q78) rfl rfl k) ?_
  obtain ⟨cq137, kq137, q137a, q137b, q137c⟩ := isOf hZ eh136 P123_0
  obtain ⟨_, _, ⟨T137, L137, k137, n137⟩, -, X137, ⟨Lc137, hQ137, l137, y137, z137⟩, st137⟩ := X136.interfaceBack hx (xi := (⟨"java/util/Iterator", "next", "()Ljava/lang/Object;"⟩ : MethodName)) (y := (⟨"java/util/ImmutableCollections$ListItr", "next", "()Ljava/lang/Object;"⟩ : MethodName)) hown (mvT hZ (hwi hw 236 rfl)) (mvT hZ (hwi hw 237 rfl)) (mvT hZ (hwi hw 238 rfl)) (mvT hZ (hwi hw 239 rfl)) (mvT hZ (hwi hw 240 rfl)) (mvT hZ (hwi hw 241 rfl)) (mvT hZ (hwi hw 242 rfl)) (mvT hZ (hwi hw 118 rfl)) (by decide) (backOfWith (W := 0) (Q := fun v h L => (v = some (.ref y0)) ∧ (Fr n0 L) ∧ (Keep T123.heap h [it_123]) ∧ (Exa Z h it_123 "java/util/ImmutableCollections$ListItr") ∧ (Fld Z h it_123 "java/util/ImmutableCollections$ListItr" "list" "Ljava/util/List;" (.ref lst_102)) ∧ (Fld Z h it_123 "java/util/ImmutableCollections$ListItr" "size" "I" (.int (Int32.ofNat ys.length))) ∧ (Fld Z h it_123 "java/util/ImmutableCollections$ListItr" "cursor" "I" (.int (Int32.ofNat (0 + 1))))) (own_nxg l Z a0 hw [] it_123 lst_102 b2_102 k2_102 ys 0 y0 T123.heap n0 Z123 P123_0 P123_1 P123_2 P123_3 ge128 F133 F134 F135 ne127 ne126 hlen (by omega) hyk0) hZ (hwi hw 243 rfl) (hwi hw 88 rfl) (by decide) (by decide)) q137a q137b q137c (g := (mkF m 26 #[vR (a1), vR (lst_102), vR (it_123), sU] [(.ref it_123)])) rfl (by rw [hml]; rfl) (Steps.refl _) (argsL := []) (rest := []) (lenOf own_pd17 rfl) rfl (by show 2 * 0 + _ ≤ _; exact Nat.le_of_eq rfl) (hb hby q79) (fun _ _ => ⟨rfl, eh136, (by decide : 4 + 0 ≤ _), (by decide : 22 + 0 ≤ _)⟩)
  dsimp only [Pt.U, Pt.locs, Pt.cells, Pt.slots] at X137 l137 y137 z137 st137 hQ137
  subst l137 y137 z137
  obtain ⟨rfl, N137q, K137, P137_0, P137_1, P137_2, P137_3⟩ := hQ137
  have N137 := Fr.app N136 N137q
  have KK137 := KK123.trans K137 (allS (Or.inr sz129) all0)
  have Z137 : n0 ≤ T137.heap.size := Nat.le_trans Z123 K137.1
  have F138 := F130.keep K137
  have F139 := F131.keep K137 (ninS ne125 nin0)
  have F140 := F132.keep K137 (fun i hi => (ninS (ne124 i hi) nin0))
  have F141 := F133.keep K137
  have F142 := F134.keep K137 (ninS ne126 nin0)
  have F143 := F135.keep K137 (ninS ne127 nin0)
  have F144 := P123_0.keep K137
  refine gs m T137 31 #[vR (a1), vR (lst_102), vR (it_123), sU] [(.ref y0)] (fun _ k => st137.trans k) ?_
  have Ey145 : Exa Z T137.heap y0 "java/time/Duration" := by rw [eyk0]; exact (F140 i10 hi10).1
  have Fy145 : Fld Z T137.heap y0 "java/time/Duration" "seconds" "J" (.long (sec i10)) := by rw [eyk0]; exact (F140 i10 hi10).2
  obtain ⟨T146, X146, e146, st146⟩ := castY X137 hx hZ hown (hwi hw 245 rfl) rfl (Ins.self Ey145) (g := (mkF m 31 #[vR (a1), vR (lst_102), vR (it_123), sU] [(.ref y0)])) rfl rfl (hb hby q7a)
  refine gs m T146 34 #[vR (a1), vR (lst_102), vR (it_123), sU] [(.ref y0)] st146 ?_
  refine gs m T146 35 #[vR (a1), vR (lst_102), vR (it_123), vR (y0)] [] (fun _ k => XS.astoreN X146.here hx rfl (hb hby q7b) rfl rfl (l' := #[vR (a1), vR (lst_102), vR (it_123), vR (y0)]) rfl k) ?_
  refine gs m T146 36 #[vR (a1), vR (lst_102), vR (it_123), vR (y0)] [(.ref y0)] (fun _ k => XS.aloadN X146.here hx rfl (hb hby q7c) rfl rfl k) ?_
  obtain ⟨cq147, kq147, q147a, q147b, q147c⟩ := isOf hZ e146 Ey145
  obtain ⟨_, _, ⟨T147, L147, k147, n147⟩, -, X147, ⟨Lc147, hQ147, l147, y147, z147⟩, st147⟩ := X146.virtualBack hx (y := (⟨"java/time/Duration", "isNegative", "()Z"⟩ : MethodName)) (z := (⟨"java/time/Duration", "isNegative", "()Z"⟩ : MethodName)) hown (mvT hZ (hwi hw 246 rfl)) (mvT hZ (hwi hw 247 rfl)) (notFace_of_selects (args := #[]) (mvT hZ (hwi hw 249 rfl))) (mvT hZ (hwi hw 249 rfl)) (mvT hZ (hwi hw 248 rfl)) (by decide) (backOf (W := 0) (Q := Qret (some (.int (0 : Int32))) T137.heap n0) (own_neg l Z a0 hw [] y0 (sec i10) T137.heap n0 Z137 Fy145 (hsec i10 hi10)) hZ (hwi hw 251 rfl) (hwi hw 250 rfl) (by decide) (by decide)) q147a q147c (g := (mkF m 36 #[vR (a1), vR (lst_102), vR (it_123), vR (y0)] [(.ref y0)])) rfl (by rw [hml]; rfl) (Steps.refl _) (argsL := []) (rest := []) (lenOf own_pd9 rfl) rfl (by show 2 * 0 + _ ≤ _; exact Nat.le_of_eq rfl) (hb hby q7d) (fun _ _ => ⟨rfl, e146, (by decide : 4 + 0 ≤ _), (by decide : 22 + 0 ≤ _)⟩)
  dsimp only [Pt.U, Pt.locs, Pt.cells, Pt.slots] at X147 l147 y147 z147 st147 hQ147
  subst l147 y147 z147
  obtain ⟨rfl, N147q, eh147⟩ := hQ147
  have N147 := Fr.app N137 N147q
  refine gs m T147 39 #[vR (a1), vR (lst_102), vR (it_123), vR (y0)] [(.int (0 : Int32))] (fun _ k => st147.trans k) ?_
  refine gs m T147 59 #[vR (a1), vR (lst_102), vR (it_123), vR (y0)] [] (fun _ k => XS.ifYes X147.here hx rfl (pc0 := 39) (pc' := 59) rfl (hb hby q7e) rfl ((if0 _ _).trans (teq (by decide : (0 : Int32) = (0 : Int32))).1) (by decide) (by decide) k) ?_
  refine gs m T147 16 #[vR (a1), vR (lst_102), vR (it_123), vR (y0)] [] (fun _ k => XS.goto X147.here hx rfl (pc0 := 59) (pc' := 16) rfl (hb hby q7f) (by decide) (by decide) k) ?_
  exact own_rsl (ys.length - 1) a1 lst_102 it_123 y0 b2_102 k2_102 u0 (0 + 1) ys w sec h0 X147 hx hZ hw hby hml hown hret hlk eh147 N147 Z137 (by decide) (by decide) F138 f1 F139 F141 F142 F143 P137_0 P137_1 P137_2 P137_3 ge128 ne125 ne126 ne127 (Ne.symm ne104) (Ne.symm ne110) (Ne.symm ne125) F140 ne124 f11 sz129 sz108 sz114 (by omega) hlen hys hsec KK137 hnm
theorem own_sizw (l : Launch) (Z : State) (a0 : Array Value) (hw : ∀ d ∈ tables_1, d.before a0 Z = true) (ws : List Jvm.Cond) (a1 : Addr) (bd : Addr) (kd : ClassId) (w : Nat → Addr) (h0 : Heap) (n0 : Nat) (Z0 : n0 ≤ h0.size) (f0 : Exa Z h0 a1 "java/util/ImmutableCollections$ListN") (f1 : Fld Z h0 a1 "java/util/ImmutableCollections$ListN" "elements" "[Ljava/lang/Object;" (.ref bd)) (f2 : Arv Z h0 bd kd (.object "java/lang/Object") (9 : Int32) (own_W w) .null)  :
    Con l Z (⟨"java/util/ImmutableCollections$ListN", "size", "()I"⟩ : MethodName) jdk_45_method_3_code 1 (some .int) ({ frames := 0, cells := 0, slots := 0, locals := 0 } : Room) ws #[(.ref a1)] h0 (Qret (some (.int (9 : Int32))) h0 n0) 0 0 := by
  refine Con.of (plainFor_of_name own_pn_ImmutableCollections_ListN) ?_
  intro pgm e s m below meth c s₁ X0 hx hZ hby hml hown hnm hret hlk e0 hs0
  have N0 := Fr.nil n0
  have hown : s.vm.findClass "java/util/ImmutableCollections$ListN" = some m.cls := hown
  have hnm : meth.name = "size" := hnm
  refine Go.cast (own_ef_jdk_45_method_3_code_R m a1) ?_
  refine gs m s₁ 1 #[vR (a1)] [(.ref a1)] (fun _ k => XS.aloadN X0.here hx rfl (hb hby q4l) rfl rfl k) ?_
  obtain ⟨T101, X101, e101, st101⟩ := getF X0 hx hZ hown (host := "") (Or.inl (hwi hw 96 rfl)) Via.refl e0 f1 (g := (mkF m 1 #[vR (a1)] [(.ref a1)])) rfl rfl (hb hby q4m)
  refine gs m T101 4 #[vR (a1)] [(.ref bd)] st101 ?_
  obtain ⟨cl102, Ar102, -, S102, M102, -, -⟩ := id f2
  refine gs m T101 5 #[vR (a1)] [(.int (9 : Int32))] (fun _ k => X101.arraylength hx (cell := cl102) (by rw [e101]; exact Ar102.1) (State.isArrayOf_alike hZ.alike Ar102.2.1) (g := (mkF m 4 #[vR (a1)] [(.ref bd)])) rfl (rest := []) rfl (hb hby q4n) _ (by rw [len_of S102 M102]; exact k)) ?_
  exact Go.retI X101 hx hret hlk (hb hby q4o) (⟨rfl, N0, e101⟩) (by decide) (by decide)
theorem own_getw (l : Launch) (Z : State) (a0 : Array Value) (hw : ∀ d ∈ tables_1, d.before a0 Z = true) (ws : List Jvm.Cond) (a1 : Addr) (bd : Addr) (kd : ClassId) (w : Nat → Addr) (iq : Nat) (h0 : Heap) (n0 : Nat) (Z0 : n0 ≤ h0.size) (f0 : Exa Z h0 a1 "java/util/ImmutableCollections$ListN") (f1 : Fld Z h0 a1 "java/util/ImmutableCollections$ListN" "elements" "[Ljava/lang/Object;" (.ref bd)) (f2 : Arv Z h0 bd kd (.object "java/lang/Object") (9 : Int32) (own_W w) .null) (hiq : iq < 9) :
    Con l Z (⟨"java/util/ImmutableCollections$ListN", "get", "(I)Ljava/lang/Object;"⟩ : MethodName) jdk_45_method_4_code 2 (some (.object "java/lang/Object")) ({ frames := 0, cells := 0, slots := 0, locals := 0 } : Room) ws #[(.ref a1), (.int (Int32.ofNat iq))] h0 (Qret (some (.ref (w iq))) h0 n0) 0 0 := by
  refine Con.of (plainFor_of_name own_pn_ImmutableCollections_ListN) ?_
  intro pgm e s m below meth c s₁ X0 hx hZ hby hml hown hnm hret hlk e0 hs0
  have N0 := Fr.nil n0
  have hown : s.vm.findClass "java/util/ImmutableCollections$ListN" = some m.cls := hown
  have hnm : meth.name = "get" := hnm
  refine Go.cast (own_ef_jdk_45_method_4_code_RI m a1 (Int32.ofNat iq)) ?_
  refine gs m s₁ 1 #[vR (a1), vI ((Int32.ofNat iq))] [(.ref a1)] (fun _ k => XS.aloadN X0.here hx rfl (hb hby q8h) rfl rfl k) ?_
  obtain ⟨T101, X101, e101, st101⟩ := getF X0 hx hZ hown (host := "") (Or.inl (hwi hw 96 rfl)) Via.refl e0 f1 (g := (mkF m 1 #[vR (a1), vI ((Int32.ofNat iq))] [(.ref a1)])) rfl rfl (hb hby q8i)
  refine gs m T101 4 #[vR (a1), vI ((Int32.ofNat iq))] [(.ref bd)] st101 ?_
  refine gs m T101 5 #[vR (a1), vI ((Int32.ofNat iq))] [(.int (Int32.ofNat iq)), (.ref bd)] (fun _ k => XS.iloadN X101.here hx rfl (hb hby q8j) rfl  k) ?_
  obtain ⟨cl102, Ar102, q102, S102, M102, H102, G102⟩ := id f2
  have I102 := inb_of (j := (Int32.ofNat iq)) S102 (own_inb (n := 9) hiq (by decide))
  refine gs m T101 6 #[vR (a1), vI ((Int32.ofNat iq))] [(.ref (w iq))] (fun _ k => X101.aaload hx (j := (Int32.ofNat iq)) (v := (.ref (w iq))) (by rw [e101]; exact Ar102.1) (State.isArrayOf_alike hZ.alike Ar102.2.1) rfl Ar102.2.2 I102 (Has.at H102 I102 (own_W_at hiq)) (g := (mkF m 5 #[vR (a1), vI ((Int32.ofNat iq))] [(.int (Int32.ofNat iq)), (.ref bd)])) rfl rfl (hb hby q8k) _ k) ?_
  exact Go.retA X101 hx (t := (.object "java/lang/Object")) hret rfl hlk rfl (hb hby q8l) (⟨rfl, N0, e101⟩) (by decide) (by decide)
theorem own_ef_prog_7_method_3_code_R (m : MethodId) (x0 : Addr) : entryFrame m #[(.ref x0)] 1 = mkF m 0 #[vR (x0)] [] := by first | (simp [entryFrame, mkF, argsToLocals, Value.category]; done) | rfl | (simp [entryFrame, mkF, argsToLocals, own_cI, own_cJ, own_cR, own_cN]; done)
theorem q8m : decode prog_7_method_3_code 0 = .ok (.aload_n 0, 1) := by decide +kernel
theorem q8n : decode prog_7_method_3_code 1 = .ok (.getfield 47, 3) := by decide +kernel
theorem q8o : decode prog_7_method_3_code 4 = .ok (.invokeinterface 60 1, 5) := by decide +kernel
theorem q8p : decode prog_7_method_3_code 9 = .ok (.iconst 1, 1) := by decide +kernel
theorem q8q : decode prog_7_method_3_code 10 = .ok (.iadd, 1) := by decide +kernel
theorem q8r : decode prog_7_method_3_code 11 = .ok (.ireturn, 1) := by decide +kernel
theorem own_mxa0 (l : Launch) (Z : State) (a0 : Array Value) (hw : ∀ d ∈ tables_1, d.before a0 Z = true) (ws : List Jvm.Cond) (a1 : Addr) (lst : Addr) (b2 : Addr) (k2 : ClassId) (h0 : Heap) (n0 : Nat) (Z0 : n0 ≤ h0.size) (f0 : Fld Z h0 a1 "com/example/nuthatch/nuthatch/RetrySchedule" "delays" "Ljava/util/List;" (.ref lst)) (f1 : Exa Z h0 lst "java/util/ImmutableCollections$ListN") (f2 : Fld Z h0 lst "java/util/ImmutableCollections$ListN" "elements" "[Ljava/lang/Object;" (.ref b2)) (f3 : Arv Z h0 b2 k2 (.object "java/lang/Object") (0 : Int32) [] .null)  :
    Con l Z (⟨"com/example/nuthatch/nuthatch/RetrySchedule", "maxAttempts", "()I"⟩ : MethodName) prog_7_method_3_code 1 (some .int) ({ frames := 1, cells := 0, slots := 0, locals := 12 } : Room) ws #[(.ref a1)] h0 (Qret (some (.int (1 : Int32))) h0 n0) 0 0 := by
  refine Con.of (plainFor_of_name own_pn_RetrySchedule) ?_
  intro pgm e s m below meth c s₁ X0 hx hZ hby hml hown hnm hret hlk e0 hs0
  have N0 := Fr.nil n0
  have hown : s.vm.findClass "com/example/nuthatch/nuthatch/RetrySchedule" = some m.cls := hown
  have hnm : meth.name = "maxAttempts" := hnm
  refine Go.cast (own_ef_prog_7_method_3_code_R m a1) ?_
  refine gs m s₁ 1 #[vR (a1)] [(.ref a1)] (fun _ k => XS.aloadN X0.here hx rfl (hb hby q8m) rfl rfl k) ?_
  obtain ⟨T101, X101, e101, st101⟩ := getF X0 hx hZ hown (host := "") (Or.inl (hwi hw 8 rfl)) Via.refl e0 f0 (g := (mkF m 1 #[vR (a1)] [(.ref a1)])) rfl rfl (hb hby q8n)
  refine gs m T101 4 #[vR (a1)] [(.ref lst)] st101 ?_
  obtain ⟨cq102, kq102, q102a, q102b, q102c⟩ := isOf hZ e101 f1
  obtain ⟨_, _, ⟨T102, L102, k102, n102⟩, -, X102, ⟨Lc102, hQ102, l102, y102, z102⟩, st102⟩ := X101.interfaceBack hx (xi := (⟨"java/util/List", "size", "()I"⟩ : MethodName)) (y := (⟨"java/util/ImmutableCollections$ListN", "size", "()I"⟩ : MethodName)) hown (mvT hZ (hwi hw 169 rfl)) (mvT hZ (hwi hw 170 rfl)) (mvT hZ (hwi hw 171 rfl)) (mvT hZ (hwi hw 172 rfl)) (mvT hZ (hwi hw 93 rfl)) (mvT hZ (hwi hw 173 rfl)) (mvT hZ (hwi hw 174 rfl)) (mvT hZ (hwi hw 83 rfl)) (by decide) (backOf (W := 0) (Q := Qret (some (.int (0 : Int32))) h0 n0) (own_siz0 l Z a0 hw [] lst b2 k2 h0 n0 Z0 f1 f2 f3) hZ (hwi hw 95 rfl) (hwi hw 94 rfl) (by decide) (by decide)) q102a q102b q102c (g := (mkF m 4 #[vR (a1)] [(.ref lst)])) rfl (by rw [hml]; rfl) (Steps.refl _) (argsL := []) (rest := []) (lenOf own_pd13 rfl) rfl (by show 2 * 0 + _ ≤ _; exact Nat.le_of_eq rfl) (hb hby q8o) (fun _ _ => ⟨rfl, e101, (by decide : 0 + 0 ≤ _), (by decide : 0 + 0 ≤ _)⟩)
  dsimp only [Pt.U, Pt.locs, Pt.cells, Pt.slots] at X102 l102 y102 z102 st102 hQ102
  subst l102 y102 z102
  obtain ⟨rfl, N102q, eh102⟩ := hQ102
  have N102 := Fr.app N0 N102q
  refine gs m T102 9 #[vR (a1)] [(.int (0 : Int32))] (fun _ k => st102.trans k) ?_
  refine gs m T102 10 #[vR (a1)] [(.int (1 : Int32)), (.int (0 : Int32))] (fun _ k => XS.iconst X102.here hx rfl (hb hby q8p) k) ?_
  refine gs m T102 11 #[vR (a1)] [(.int (1 : Int32))] (fun _ k => XS.iadd X102.here hx rfl (hb hby q8q) rfl k) ?_
  exact Go.retI X102 hx hret hlk (hb hby q8r) (⟨rfl, N102, eh102⟩) (by decide) (by decide)
theorem own_mxa1 (l : Launch) (Z : State) (a0 : Array Value) (hw : ∀ d ∈ tables_1, d.before a0 Z = true) (ws : List Jvm.Cond) (a1 : Addr) (lst : Addr) (x1 : Addr) (em : Addr) (h0 : Heap) (n0 : Nat) (Z0 : n0 ≤ h0.size) (f0 : Fld Z h0 a1 "com/example/nuthatch/nuthatch/RetrySchedule" "delays" "Ljava/util/List;" (.ref lst)) (f1 : Exa Z h0 lst "java/util/ImmutableCollections$List12") (f2 : Fld Z h0 lst "java/util/ImmutableCollections$List12" "e0" "Ljava/lang/Object;" (.ref x1)) (f3 : Fld Z h0 lst "java/util/ImmutableCollections$List12" "e1" "Ljava/lang/Object;" (.ref em)) (f4 : Sta Z h0 "java/util/ImmutableCollections" "EMPTY" "Ljava/lang/Object;" (.ref em))  :
    Con l Z (⟨"com/example/nuthatch/nuthatch/RetrySchedule", "maxAttempts", "()I"⟩ : MethodName) prog_7_method_3_code 1 (some .int) ({ frames := 1, cells := 0, slots := 0, locals := 12 } : Room) ws #[(.ref a1)] h0 (Qret (some (.int (2 : Int32))) h0 n0) 0 0 := by
  refine Con.of (plainFor_of_name own_pn_RetrySchedule) ?_
  intro pgm e s m below meth c s₁ X0 hx hZ hby hml hown hnm hret hlk e0 hs0
  have N0 := Fr.nil n0
  have hown : s.vm.findClass "com/example/nuthatch/nuthatch/RetrySchedule" = some m.cls := hown
  have hnm : meth.name = "maxAttempts" := hnm
  refine Go.cast (own_ef_prog_7_method_3_code_R m a1) ?_
  refine gs m s₁ 1 #[vR (a1)] [(.ref a1)] (fun _ k => XS.aloadN X0.here hx rfl (hb hby q8m) rfl rfl k) ?_
  obtain ⟨T101, X101, e101, st101⟩ := getF X0 hx hZ hown (host := "") (Or.inl (hwi hw 8 rfl)) Via.refl e0 f0 (g := (mkF m 1 #[vR (a1)] [(.ref a1)])) rfl rfl (hb hby q8n)
  refine gs m T101 4 #[vR (a1)] [(.ref lst)] st101 ?_
  obtain ⟨cq102, kq102, q102a, q102b, q102c⟩ := isOf hZ e101 f1
  obtain ⟨_, _, ⟨T102, L102, k102, n102⟩, -, X102, ⟨Lc102, hQ102, l102, y102, z102⟩, st102⟩ := X101.interfaceBack hx (xi := (⟨"java/util/List", "size", "()I"⟩ : MethodName)) (y := (⟨"java/util/ImmutableCollections$List12", "size", "()I"⟩ : MethodName)) hown (mvT hZ (hwi hw 169 rfl)) (mvT hZ (hwi hw 170 rfl)) (mvT hZ (hwi hw 171 rfl)) (mvT hZ (hwi hw 282 rfl)) (mvT hZ (hwi hw 274 rfl)) (mvT hZ (hwi hw 283 rfl)) (mvT hZ (hwi hw 284 rfl)) (mvT hZ (hwi hw 272 rfl)) (by decide) (backOf (W := 0) (Q := Qret (some (.int (1 : Int32))) h0 n0) (own_siz1 l Z a0 hw [] lst x1 em h0 n0 Z0 f1 f2 f3 f4) hZ (hwi hw 275 rfl) (hwi hw 256 rfl) (by decide) (by decide)) q102a q102b q102c (g := (mkF m 4 #[vR (a1)] [(.ref lst)])) rfl (by rw [hml]; rfl) (Steps.refl _) (argsL := []) (rest := []) (lenOf own_pd13 rfl) rfl (by show 2 * 0 + _ ≤ _; exact Nat.le_of_eq rfl) (hb hby q8o) (fun _ _ => ⟨rfl, e101, (by decide : 0 + 0 ≤ _), (by decide : 0 + 0 ≤ _)⟩)
  dsimp only [Pt.U, Pt.locs, Pt.cells, Pt.slots] at X102 l102 y102 z102 st102 hQ102
  subst l102 y102 z102
  obtain ⟨rfl, N102q, eh102⟩ := hQ102
  have N102 := Fr.app N0 N102q
  refine gs m T102 9 #[vR (a1)] [(.int (1 : Int32))] (fun _ k => st102.trans k) ?_
  refine gs m T102 10 #[vR (a1)] [(.int (1 : Int32)), (.int (1 : Int32))] (fun _ k => XS.iconst X102.here hx rfl (hb hby q8p) k) ?_
  refine gs m T102 11 #[vR (a1)] [(.int (2 : Int32))] (fun _ k => XS.iadd X102.here hx rfl (hb hby q8q) rfl k) ?_
  exact Go.retI X102 hx hret hlk (hb hby q8r) (⟨rfl, N102, eh102⟩) (by decide) (by decide)
theorem own_mxa2 (l : Launch) (Z : State) (a0 : Array Value) (hw : ∀ d ∈ tables_1, d.before a0 Z = true) (ws : List Jvm.Cond) (a1 : Addr) (lst : Addr) (x1 : Addr) (x2 : Addr) (em : Addr) (h0 : Heap) (n0 : Nat) (Z0 : n0 ≤ h0.size) (f0 : Fld Z h0 a1 "com/example/nuthatch/nuthatch/RetrySchedule" "delays" "Ljava/util/List;" (.ref lst)) (f1 : Exa Z h0 lst "java/util/ImmutableCollections$List12") (f2 : Fld Z h0 lst "java/util/ImmutableCollections$List12" "e0" "Ljava/lang/Object;" (.ref x1)) (f3 : Fld Z h0 lst "java/util/ImmutableCollections$List12" "e1" "Ljava/lang/Object;" (.ref x2)) (f4 : Sta Z h0 "java/util/ImmutableCollections" "EMPTY" "Ljava/lang/Object;" (.ref em)) (f5 : x2 ≠ em)  :
    Con l Z (⟨"com/example/nuthatch/nuthatch/RetrySchedule", "maxAttempts", "()I"⟩ : MethodName) prog_7_method_3_code 1 (some .int) ({ frames := 1, cells := 0, slots := 0, locals := 12 } : Room) ws #[(.ref a1)] h0 (Qret (some (.int (3 : Int32))) h0 n0) 0 0 := by
  refine Con.of (plainFor_of_name own_pn_RetrySchedule) ?_
  intro pgm e s m below meth c s₁ X0 hx hZ hby hml hown hnm hret hlk e0 hs0
  have N0 := Fr.nil n0
  have hown : s.vm.findClass "com/example/nuthatch/nuthatch/RetrySchedule" = some m.cls := hown
  have hnm : meth.name = "maxAttempts" := hnm
  refine Go.cast (own_ef_prog_7_method_3_code_R m a1) ?_
  refine gs m s₁ 1 #[vR (a1)] [(.ref a1)] (fun _ k => XS.aloadN X0.here hx rfl (hb hby q8m) rfl rfl k) ?_
  obtain ⟨T101, X101, e101, st101⟩ := getF X0 hx hZ hown (host := "") (Or.inl (hwi hw 8 rfl)) Via.refl e0 f0 (g := (mkF m 1 #[vR (a1)] [(.ref a1)])) rfl rfl (hb hby q8n)
  refine gs m T101 4 #[vR (a1)] [(.ref lst)] st101 ?_
  obtain ⟨cq102, kq102, q102a, q102b, q102c⟩ := isOf hZ e101 f1
  obtain ⟨_, _, ⟨T102, L102, k102, n102⟩, -, X102, ⟨Lc102, hQ102, l102, y102, z102⟩, st102⟩ := X101.interfaceBack hx (xi := (⟨"java/util/List", "size", "()I"⟩ : MethodName)) (y := (⟨"java/util/ImmutableCollections$List12", "size", "()I"⟩ : MethodName)) hown (mvT hZ (hwi hw 169 rfl)) (mvT hZ (hwi hw 170 rfl)) (mvT hZ (hwi hw 171 rfl)) (mvT hZ (hwi hw 282 rfl)) (mvT hZ (hwi hw 274 rfl)) (mvT hZ (hwi hw 283 rfl)) (mvT hZ (hwi hw 284 rfl)) (mvT hZ (hwi hw 272 rfl)) (by decide) (backOf (W := 0) (Q := Qret (some (.int (2 : Int32))) h0 n0) (own_siz2 l Z a0 hw [] lst x1 x2 em h0 n0 Z0 f1 f2 f3 f4 f5) hZ (hwi hw 275 rfl) (hwi hw 256 rfl) (by decide) (by decide)) q102a q102b q102c (g := (mkF m 4 #[vR (a1)] [(.ref lst)])) rfl (by rw [hml]; rfl) (Steps.refl _) (argsL := []) (rest := []) (lenOf own_pd13 rfl) rfl (by show 2 * 0 + _ ≤ _; exact Nat.le_of_eq rfl) (hb hby q8o) (fun _ _ => ⟨rfl, e101, (by decide : 0 + 0 ≤ _), (by decide : 0 + 0 ≤ _)⟩)
  dsimp only [Pt.U, Pt.locs, Pt.cells, Pt.slots] at X102 l102 y102 z102 st102 hQ102
  subst l102 y102 z102
  obtain ⟨rfl, N102q, eh102⟩ := hQ102
  have N102 := Fr.app N0 N102q
  refine gs m T102 9 #[vR (a1)] [(.int (2 : Int32))] (fun _ k => st102.trans k) ?_
  refine gs m T102 10 #[vR (a1)] [(.int (1 : Int32)), (.int (2 : Int32))] (fun _ k => XS.iconst X102.here hx rfl (hb hby q8p) k) ?_
  refine gs m T102 11 #[vR (a1)] [(.int (3 : Int32))] (fun _ k => XS.iadd X102.here hx rfl (hb hby q8q) rfl k) ?_
  exact Go.retI X102 hx hret hlk (hb hby q8r) (⟨rfl, N102, eh102⟩) (by decide) (by decide)
theorem own_mxag (l : Launch) (Z : State) (a0 : Array Value) (hw : ∀ d ∈ tables_1, d.before a0 Z = true) (ws : List Jvm.Cond) (a1 : Addr) (lst : Addr) (b2 : Addr) (k2 : ClassId) (ys : List Addr) (h0 : Heap) (n0 : Nat) (Z0 : n0 ≤ h0.size) (f0 : Fld Z h0 a1 "com/example/nuthatch/nuthatch/RetrySchedule" "delays" "Ljava/util/List;" (.ref lst)) (f1 : Exa Z h0 lst "java/util/ImmutableCollections$ListN") (f2 : Fld Z h0 lst "java/util/ImmutableCollections$ListN" "elements" "[Ljava/lang/Object;" (.ref b2)) (f3 : Arv Z h0 b2 k2 (.object "java/lang/Object") (Int32.ofNat ys.length) (ys.map Value.ref) .null)  :
    Con l Z (⟨"com/example/nuthatch/nuthatch/RetrySchedule", "maxAttempts", "()I"⟩ : MethodName) prog_7_method_3_code 1 (some .int) ({ frames := 1, cells := 0, slots := 0, locals := 12 } : Room) ws #[(.ref a1)] h0 (Qret (some (.int ((Int32.ofNat ys.length) + (1 : Int32)))) h0 n0) 0 0 := by
  refine Con.of (plainFor_of_name own_pn_RetrySchedule) ?_
  intro pgm e s m below meth c s₁ X0 hx hZ hby hml hown hnm hret hlk e0 hs0
  have N0 := Fr.nil n0
  have hown : s.vm.findClass "com/example/nuthatch/nuthatch/RetrySchedule" = some m.cls := hown
  have hnm : meth.name = "maxAttempts" := hnm
  refine Go.cast (own_ef_prog_7_method_3_code_R m a1) ?_
  refine gs m s₁ 1 #[vR (a1)] [(.ref a1)] (fun _ k => XS.aloadN X0.here hx rfl (hb hby q8m) rfl rfl k) ?_
  obtain ⟨T101, X101, e101, st101⟩ := getF X0 hx hZ hown (host := "") (Or.inl (hwi hw 8 rfl)) Via.refl e0 f0 (g := (mkF m 1 #[vR (a1)] [(.ref a1)])) rfl rfl (hb hby q8n)
  refine gs m T101 4 #[vR (a1)] [(.ref lst)] st101 ?_
  obtain ⟨cq102, kq102, q102a, q102b, q102c⟩ := isOf hZ e101 f1
  obtain ⟨_, _, ⟨T102, L102, k102, n102⟩, -, X102, ⟨Lc102, hQ102, l102, y102, z102⟩, st102⟩ := X101.interfaceBack hx (xi := (⟨"java/util/List", "size", "()I"⟩ : MethodName)) (y := (⟨"java/util/ImmutableCollections$ListN", "size", "()I"⟩ : MethodName)) hown (mvT hZ (hwi hw 169 rfl)) (mvT hZ (hwi hw 170 rfl)) (mvT hZ (hwi hw 171 rfl)) (mvT hZ (hwi hw 172 rfl)) (mvT hZ (hwi hw 93 rfl)) (mvT hZ (hwi hw 173 rfl)) (mvT hZ (hwi hw 174 rfl)) (mvT hZ (hwi hw 83 rfl)) (by decide) (backOf (W := 0) (Q := Qret (some (.int (Int32.ofNat ys.length))) h0 n0) (own_sizg l Z a0 hw [] lst b2 k2 ys h0 n0 Z0 f1 f2 f3) hZ (hwi hw 95 rfl) (hwi hw 94 rfl) (by decide) (by decide)) q102a q102b q102c (g := (mkF m 4 #[vR (a1)] [(.ref lst)])) rfl (by rw [hml]; rfl) (Steps.refl _) (argsL := []) (rest := []) (lenOf own_pd13 rfl) rfl (by show 2 * 0 + _ ≤ _; exact Nat.le_of_eq rfl) (hb hby q8o) (fun _ _ => ⟨rfl, e101, (by decide : 0 + 0 ≤ _), (by decide : 0 + 0 ≤ _)⟩)
  dsimp only [Pt.U, Pt.locs, Pt.cells, Pt.slots] at X102 l102 y102 z102 st102 hQ102
  subst l102 y102 z102
  obtain ⟨rfl, N102q, eh102⟩ := hQ102
  have N102 := Fr.app N0 N102q
  refine gs m T102 9 #[vR (a1)] [(.int (Int32.ofNat ys.length))] (fun _ k => st102.trans k) ?_
  refine gs m T102 10 #[vR (a1)] [(.int (1 : Int32)), (.int (Int32.ofNat ys.length))] (fun _ k => XS.iconst X102.here hx rfl (hb hby q8p) k) ?_
  refine gs m T102 11 #[vR (a1)] [(.int ((Int32.ofNat ys.length) + (1 : Int32)))] (fun _ k => XS.iadd X102.here hx rfl (hb hby q8q) rfl k) ?_
  exact Go.retI X102 hx hret hlk (hb hby q8r) (⟨rfl, N102, eh102⟩) (by decide) (by decide)
theorem own_mxaw (l : Launch) (Z : State) (a0 : Array Value) (hw : ∀ d ∈ tables_1, d.before a0 Z = true) (ws : List Jvm.Cond) (a1 : Addr) (dl : Addr) (bd : Addr) (kd : ClassId) (w : Nat → Addr) (h0 : Heap) (n0 : Nat) (Z0 : n0 ≤ h0.size) (f0 : Fld Z h0 a1 "com/example/nuthatch/nuthatch/RetrySchedule" "delays" "Ljava/util/List;" (.ref dl)) (f1 : Exa Z h0 dl "java/util/ImmutableCollections$ListN") (f2 : Fld Z h0 dl "java/util/ImmutableCollections$ListN" "elements" "[Ljava/lang/Object;" (.ref bd)) (f3 : Arv Z h0 bd kd (.object "java/lang/Object") (9 : Int32) (own_W w) .null)  :
    Con l Z (⟨"com/example/nuthatch/nuthatch/RetrySchedule", "maxAttempts", "()I"⟩ : MethodName) prog_7_method_3_code 1 (some .int) ({ frames := 1, cells := 0, slots := 0, locals := 12 } : Room) ws #[(.ref a1)] h0 (Qret (some (.int (10 : Int32))) h0 n0) 0 0 := by
  refine Con.of (plainFor_of_name own_pn_RetrySchedule) ?_
  intro pgm e s m below meth c s₁ X0 hx hZ hby hml hown hnm hret hlk e0 hs0
  have N0 := Fr.nil n0
  have hown : s.vm.findClass "com/example/nuthatch/nuthatch/RetrySchedule" = some m.cls := hown
  have hnm : meth.name = "maxAttempts" := hnm
  refine Go.cast (own_ef_prog_7_method_3_code_R m a1) ?_
  refine gs m s₁ 1 #[vR (a1)] [(.ref a1)] (fun _ k => XS.aloadN X0.here hx rfl (hb hby q8m) rfl rfl k) ?_
  obtain ⟨T101, X101, e101, st101⟩ := getF X0 hx hZ hown (host := "") (Or.inl (hwi hw 8 rfl)) Via.refl e0 f0 (g := (mkF m 1 #[vR (a1)] [(.ref a1)])) rfl rfl (hb hby q8n)
  refine gs m T101 4 #[vR (a1)] [(.ref dl)] st101 ?_
  obtain ⟨cq102, kq102, q102a, q102b, q102c⟩ := isOf hZ e101 f1
  obtain ⟨_, _, ⟨T102, L102, k102, n102⟩, -, X102, ⟨Lc102, hQ102, l102, y102, z102⟩, st102⟩ := X101.interfaceBack hx (xi := (⟨"java/util/List", "size", "()I"⟩ : MethodName)) (y := (⟨"java/util/ImmutableCollections$ListN", "size", "()I"⟩ : MethodName)) hown (mvT hZ (hwi hw 169 rfl)) (mvT hZ (hwi hw 170 rfl)) (mvT hZ (hwi hw 171 rfl)) (mvT hZ (hwi hw 172 rfl)) (mvT hZ (hwi hw 93 rfl)) (mvT hZ (hwi hw 173 rfl)) (mvT hZ (hwi hw 174 rfl)) (mvT hZ (hwi hw 83 rfl)) (by decide) (backOf (W := 0) (Q := Qret (some (.int (9 : Int32))) h0 n0) (own_sizw l Z a0 hw [] dl bd kd w h0 n0 Z0 f1 f2 f3) hZ (hwi hw 95 rfl) (hwi hw 94 rfl) (by decide) (by decide)) q102a q102b q102c (g := (mkF m 4 #[vR (a1)] [(.ref dl)])) rfl (by rw [hml]; rfl) (Steps.refl _) (argsL := []) (rest := []) (lenOf own_pd13 rfl) rfl (by show 2 * 0 + _ ≤ _; exact Nat.le_of_eq rfl) (hb hby q8o) (fun _ _ => ⟨rfl, e101, (by decide : 0 + 0 ≤ _), (by decide : 0 + 0 ≤ _)⟩)
  dsimp only [Pt.U, Pt.locs, Pt.cells, Pt.slots] at X102 l102 y102 z102 st102 hQ102
  subst l102 y102 z102
  obtain ⟨rfl, N102q, eh102⟩ := hQ102
  have N102 := Fr.app N0 N102q
  refine gs m T102 9 #[vR (a1)] [(.int (9 : Int32))] (fun _ k => st102.trans k) ?_
  refine gs m T102 10 #[vR (a1)] [(.int (1 : Int32)), (.int (9 : Int32))] (fun _ k => XS.iconst X102.here hx rfl (hb hby q8p) k) ?_
  refine gs m T102 11 #[vR (a1)] [(.int (10 : Int32))] (fun _ k => XS.iadd X102.here hx rfl (hb hby q8q) rfl k) ?_
  exact Go.retI X102 hx hret hlk (hb hby q8r) (⟨rfl, N102, eh102⟩) (by decide) (by decide)
theorem own_ef_prog_7_method_8_code_R (m : MethodId) (x0 : Addr) : entryFrame m #[(.ref x0)] 1 = mkF m 0 #[vR (x0)] [] := by first | (simp [entryFrame, mkF, argsToLocals, Value.category]; done) | rfl | (simp [entryFrame, mkF, argsToLocals, own_cI, own_cJ, own_cR, own_cN]; done)
theorem q8s : decode prog_7_method_8_code 0 = .ok (.aload_n 0, 1) := by decide +kernel
theorem q8t : decode prog_7_method_8_code 1 = .ok (.getfield 47, 3) := by decide +kernel
theorem q8u : decode prog_7_method_8_code 4 = .ok (.areturn, 1) := by decide +kernel
theorem own_dls (l : Launch) (Z : State) (a0 : Array Value) (hw : ∀ d ∈ tables_1, d.before a0 Z = true) (ws : List Jvm.Cond) (a1 : Addr) (dl : Addr) (h0 : Heap) (n0 : Nat) (Z0 : n0 ≤ h0.size) (f0 : Fld Z h0 a1 "com/example/nuthatch/nuthatch/RetrySchedule" "delays" "Ljava/util/List;" (.ref dl))  :
    Con l Z (⟨"com/example/nuthatch/nuthatch/RetrySchedule", "delays", "()Ljava/util/List;"⟩ : MethodName) prog_7_method_8_code 1 (some (.object "java/util/List")) ({ frames := 0, cells := 0, slots := 0, locals := 0 } : Room) ws #[(.ref a1)] h0 (Qret (some (.ref dl)) h0 n0) 0 0 := by
  refine Con.of (plainFor_of_name own_pn_RetrySchedule) ?_
  intro pgm e s m below meth c s₁ X0 hx hZ hby hml hown hnm hret hlk e0 hs0
  have N0 := Fr.nil n0
  have hown : s.vm.findClass "com/example/nuthatch/nuthatch/RetrySchedule" = some m.cls := hown
  have hnm : meth.name = "delays" := hnm
  refine Go.cast (own_ef_prog_7_method_8_code_R m a1) ?_
  refine gs m s₁ 1 #[vR (a1)] [(.ref a1)] (fun _ k => XS.aloadN X0.here hx rfl (hb hby q8s) rfl rfl k) ?_
  obtain ⟨T101, X101, e101, st101⟩ := getF X0 hx hZ hown (host := "") (Or.inl (hwi hw 8 rfl)) Via.refl e0 f0 (g := (mkF m 1 #[vR (a1)] [(.ref a1)])) rfl rfl (hb hby q8t)
  refine gs m T101 4 #[vR (a1)] [(.ref dl)] st101 ?_
  exact Go.retA X101 hx (t := (.object "java/util/List")) hret rfl hlk rfl (hb hby q8u) (⟨rfl, N0, e101⟩) (by decide) (by decide)
theorem own_ef_method_3_code_JI (m : MethodId) (x0 : Int64) (x1 : Int32) : entryFrame m #[(.long x0), (.int x1)] 3 = mkF m 0 #[vJ (x0), sS, vI (x1)] [] := by first | (simp [entryFrame, mkF, argsToLocals, Value.category]; done) | rfl | (simp [entryFrame, mkF, argsToLocals, own_cI, own_cJ, own_cR, own_cN]; done)
theorem own_pn_RetryScheduleMaxAttemptsPinLaw : plainName "com/example/nuthatch/nuthatch/RetryScheduleMaxAttemptsPinLaw" = true := by first | (simp [plainName, overriddenIn]; done) | decide +kernel
theorem q8v : decode method_3_code 0 = .ok (.lload_n 0, 1) := by decide +kernel
theorem q8w : decode method_3_code 1 = .ok (.iconst 4, 1) := by decide +kernel
theorem q8x : decode method_3_code 2 = .ok (.iload_n 2, 1) := by decide +kernel
theorem q8y : decode method_3_code 3 = .ok (.imul, 1) := by decide +kernel
theorem q8z : decode method_3_code 4 = .ok (.lushr, 1) := by decide +kernel
theorem q90 : decode method_3_code 5 = .ok (.ldc2_w 45, 3) := by decide +kernel
theorem q91 : decode method_3_code 8 = .ok (.land, 1) := by decide +kernel
theorem q92 : decode method_3_code 9 = .ok (.l2i, 1) := by decide +kernel
theorem q93 : decode method_3_code 10 = .ok (.bipush 9, 2) := by decide +kernel
theorem q94 : decode method_3_code 12 = .ok (.irem, 1) := by decide +kernel
theorem q95 : decode method_3_code 13 = .ok (.ireturn, 1) := by decide +kernel
theorem own_pick (l : Launch) (Z : State) (a0 : Array Value) (hw : ∀ d ∈ tables_1, d.before a0 Z = true) (ws : List Jvm.Cond) (pp : Int64) (jj : Int32) (h0 : Heap) (n0 : Nat) (Z0 : n0 ≤ h0.size)   :
    Con l Z (⟨"com/example/nuthatch/nuthatch/RetryScheduleMaxAttemptsPinLaw", "pick", "(JI)I"⟩ : MethodName) method_3_code 3 (some .int) ({ frames := 0, cells := 0, slots := 0, locals := 0 } : Room) ws #[(.long pp), (.int jj)] h0 (fun v h L => ∃ iq : Nat, (v = some (.int (Int32.ofNat iq))) ∧ (Fr n0 L) ∧ (h = h0) ∧ (iq < 9)) 0 0 := by
  refine Con.of (plainFor_of_name own_pn_RetryScheduleMaxAttemptsPinLaw) ?_
  intro pgm e s m below meth c s₁ X0 hx hZ hby hml hown hnm hret hlk e0 hs0
  have N0 := Fr.nil n0
  have hown : s.vm.findClass "com/example/nuthatch/nuthatch/RetryScheduleMaxAttemptsPinLaw" = some m.cls := hown
  have hnm : meth.name = "pick" := hnm
  refine Go.cast (own_ef_method_3_code_JI m pp jj) ?_
  refine gs m s₁ 1 #[vJ (pp), sS, vI (jj)] [(.long pp)] (fun _ k => XS.lloadN X0.here hx rfl (hb hby q8v) rfl  k) ?_
  refine gs m s₁ 2 #[vJ (pp), sS, vI (jj)] [(.int (4 : Int32)), (.long pp)] (fun _ k => XS.iconst X0.here hx rfl (hb hby q8w) k) ?_
  refine gs m s₁ 3 #[vJ (pp), sS, vI (jj)] [(.int jj), (.int (4 : Int32)), (.long pp)] (fun _ k => XS.iloadN X0.here hx rfl (hb hby q8x) rfl  k) ?_
  refine gs m s₁ 4 #[vJ (pp), sS, vI (jj)] [(.int ((4 : Int32) * jj)), (.long pp)] (fun _ k => XS.imul X0.here hx rfl (hb hby q8y) rfl k) ?_
  refine gs m s₁ 5 #[vJ (pp), sS, vI (jj)] [(.long ((pp.toUInt64 >>> (((4 : Int32) * jj) &&& 0x3f).toInt64.toUInt64).toInt64))] (fun _ k => XS.lushr X0.here hx rfl (hb hby q8z) rfl k) ?_
  refine gs m s₁ 8 #[vJ (pp), sS, vI (jj)] [(.long (15 : Int64)), (.long ((pp.toUInt64 >>> (((4 : Int32) * jj) &&& 0x3f).toInt64.toUInt64).toInt64))] (fun _ k => Jvm.Stand.ldc2J (g := (mkF m 5 #[vJ (pp), sS, vI (jj)] [(.long ((pp.toUInt64 >>> (((4 : Int32) * jj) &&& 0x3f).toInt64.toUInt64).toInt64))])) X0 hx hown (mvT hZ (hwi hw 124 rfl)) rfl (hb hby q90) k) ?_
  refine gs m s₁ 9 #[vJ (pp), sS, vI (jj)] [(.long (((pp.toUInt64 >>> (((4 : Int32) * jj) &&& 0x3f).toInt64.toUInt64).toInt64) &&& (15 : Int64)))] (fun _ k => XS.land X0.here hx rfl (hb hby q91) rfl k) ?_
  refine gs m s₁ 10 #[vJ (pp), sS, vI (jj)] [(.int ((((pp.toUInt64 >>> (((4 : Int32) * jj) &&& 0x3f).toInt64.toUInt64).toInt64) &&& (15 : Int64)).toInt32))] (fun _ k => XS.l2i X0.here hx rfl (hb hby q92) rfl k) ?_
  refine gs m s₁ 12 #[vJ (pp), sS, vI (jj)] [(.int (9 : Int32)), (.int ((((pp.toUInt64 >>> (((4 : Int32) * jj) &&& 0x3f).toInt64.toUInt64).toInt64) &&& (15 : Int64)).toInt32))] (fun _ k => XS.bipush X0.here hx rfl (hb hby q93) k) ?_
  refine gs m s₁ 13 #[vJ (pp), sS, vI (jj)] [(.int (((((pp.toUInt64 >>> (((4 : Int32) * jj) &&& 0x3f).toInt64.toUInt64).toInt64) &&& (15 : Int64)).toInt32) % (9 : Int32)))] (fun _ k => iremM X0 hx (g := (mkF m 12 #[vJ (pp), sS, vI (jj)] [(.int (9 : Int32)), (.int ((((pp.toUInt64 >>> (((4 : Int32) * jj) &&& 0x3f).toInt64.toUInt64).toInt64) &&& (15 : Int64)).toInt32))])) rfl (hb hby q94) rfl (by decide) k) ?_
  obtain ⟨iq, hiq, eq⟩ := own_pk ((pp.toUInt64 >>> (((4 : Int32) * jj) &&& 0x3f).toInt64.toUInt64).toInt64)
  rw [eq]
  exact Go.retI X0 hx hret hlk (hb hby q95) (by rw [e0]; exact ⟨iq, rfl, N0, rfl, hiq⟩) (by decide) (by decide)
theorem own_pd19 : parseMethodDescriptor "(Ljava/util/List;)V" = some ⟨[(.object "java/util/List")], none⟩ := by decide +kernel
theorem own_pd20 : parseMethodDescriptor "(JI)I" = some ⟨[.long, .int], some .int⟩ := by decide +kernel
theorem own_pd21 : parseMethodDescriptor "(Ljava/lang/Object;)Z" = some ⟨[(.object "java/lang/Object")], some .boolean⟩ := by decide +kernel
theorem own_s7 {pgm : Program} {l : Launch} {e : Env} {s : State} {m : MethodId} {args : Array Value} {below : List Frame} {meth : Method} {c : Code} {T0 : State} {locs : List Loc} {cells slots : Nat} {Z : State} {a0 : Array Value} {h0 : Heap} {n0 : Nat} (p0 : Int32) (p1 : Int64) (p2 : Int32) (df : Addr) (dl : Addr) (bd : Addr) (kd : ClassId) (em : Addr) (w : Nat → Addr) (sec : Nat → Int64) (n : Int32) (kn : Nat) (al : Addr) (mc : Int32) (b1 : Addr) (k1 : ClassId) (ys : List Addr)
    (X0 : Stand pgm l e room_1 s m args below meth c T0 locs cells slots) (hx : pgm.tables.exec = Jvm.exec) (hZ : Z.Warmed39 s.vm) (hw : ∀ d ∈ tables_1, d.before a0 Z = true) (hby : c.code = code) (hml : c.maxLocals = maxLocals) (hown : s.vm.findClass "com/example/nuthatch/nuthatch/RetryScheduleMaxAttemptsPinLaw" = some m.cls) (hret : meth.sig.returnType = ret) (hlk : meth.locks = false) (e0 : T0.heap = h0) (N0 : Fr n0 locs) (Z0 : n0 ≤ h0.size) (hcells : cells ≤ 3) (hslots : slots ≤ 40) (f0 : Sta Z h0 "com/example/nuthatch/nuthatch/RetrySchedule" "DEFAULT" "Lcom/example/nuthatch/nuthatch/RetrySchedule;" (.ref df)) (f1 : Exa Z h0 df "com/example/nuthatch/nuthatch/RetrySchedule") (f2 : Fld Z h0 df "com/example/nuthatch/nuthatch/RetrySchedule" "delays" "Ljava/util/List;" (.ref dl)) (f3 : Exa Z h0 dl "java/util/ImmutableCollections$ListN") (f4 : Fld Z h0 dl "java/util/ImmutableCollections$ListN" "elements" "[Ljava/lang/Object;" (.ref bd)) (f5 : Arv Z h0 bd kd (.object "java/lang/Object") (9 : Int32) (own_W w) .null) (f6 : Sta Z h0 "java/util/ImmutableCollections" "EMPTY" "Ljava/lang/Object;" (.ref em)) (f7 : Exa Z h0 em "java/lang/Object") (f8 : UW Z h0 w sec) (f9 : Exa Z h0 al "java/util/ArrayList") (f10 : n0 ≤ al) (f11 : Fld Z h0 al "java/util/AbstractList" "modCount" "I" (.int mc)) (f12 : Fld Z h0 al "java/util/ArrayList" "elementData" "[Ljava/lang/Object;" (.ref b1)) (f13 : Fld Z h0 al "java/util/ArrayList" "size" "I" (.int (Int32.ofNat ys.length))) (f14 : Exa Z h0 b1 "[Ljava/lang/Object;") (f15 : n0 ≤ b1) (f16 : Arv Z h0 b1 k1 (.object "java/lang/Object") (10 : Int32) (own_AV ys) .null) (f17 : al ≠ b1) (f18 : df ≠ al) (f19 : df ≠ b1) (f20 : dl ≠ al) (f21 : dl ≠ b1) (f22 : bd ≠ al) (f23 : bd ≠ b1) (f24 : ∀ i, i < 9 → w i ≠ al) (f25 : ∀ i, i < 9 → w i ≠ b1) (hnk : n = Int32.ofNat kn) (hk7 : kn ≤ 7) (hk1 : 1 ≤ kn) (hyl : ys.length = min kn 7) (hys : ∀ y ∈ ys, ∃ i, i < 9 ∧ y = w i) (hsec : ∀ i, i < 9 → ¬ lcmpW (sec i) (0 : Int64) < (0 : Int32)) (ov1 : Ovr Z k1 "java/lang/Object") (MM : MirrorMade Z "[Ljava/lang/Object;") :
    Go pgm e below s (Q0 n0) 24 192 T0 (mkF m 213 #[vI (p0), vJ (p1), sS, vI (p2), vR (dl), vI (n), vR (al), sU] []) := by
  have hnl : n = Int32.ofNat ys.length := by rw [hnk]; congr 1; omega
  rcases own_split ys (by omega) with ⟨x1, rfl⟩ | ⟨x1, x2, rfl⟩ | h3
  · skip
    have hnl' : n = (1 : Int32) := hnl
    subst hnl'
    obtain ⟨i0, hi0, ex0⟩ := hys x1 (by simp)
    have Ex0 : Exa Z h0 x1 "java/time/Duration" := by rw [ex0]; exact (f8 i0 hi0).1
    have Fx0 : Fld Z h0 x1 "java/time/Duration" "seconds" "J" (.long (sec i0)) := by rw [ex0]; exact (f8 i0 hi0).2
    have V101 : Arv Z h0 b1 k1 (.object "java/lang/Object") (10 : Int32) [(.ref x1), .null, .null, .null, .null, .null, .null, .null, .null, .null] .null := by rw [← own_AV1]; exact f16
    have S101 : Fld Z h0 al "java/util/ArrayList" "size" "I" (.int (1 : Int32)) := f13
    obtain ⟨T102, h102, X102, e102, E102, A102, D102, -, st102⟩ := newO X0 hx hZ hown (hwi hw 36 rfl) (hwi hw 37 rfl) (hwi hw 1 rfl) e0 (g := (mkF m 213 #[vI (p0), vJ (p1), sS, vI (p2), vR (dl), vI ((1 : Int32)), vR (al), sU] [])) rfl (hb hby at_213) (by dsimp only [Pt.cells, Pt.slots, room_1]; omega) (by dsimp only [Pt.cells, Pt.slots, room_1]; omega)
    obtain ⟨b102, g102⟩ : ∃ z, z = h0.size := ⟨_, rfl⟩
    rw [← g102] at A102 D102 st102
    have ne103 : ∀ i, i < 9 → w i ≠ b102 := fun i hi r => by have q := (f8 i hi).1.lt; rw [r, g102] at q; exact Nat.lt_irrefl _ q
    have ne104 : df ≠ b102 := by have q := f1.lt; intro r; rw [r, g102] at q; exact Nat.lt_irrefl _ q
    have ne105 : dl ≠ b102 := by have q := f3.lt; intro r; rw [r, g102] at q; exact Nat.lt_irrefl _ q
    have ne106 : bd ≠ b102 := by have q := f5.lt; intro r; rw [r, g102] at q; exact Nat.lt_irrefl _ q
    have ne107 : em ≠ b102 := by have q := f7.lt; intro r; rw [r, g102] at q; exact Nat.lt_irrefl _ q
    have ne108 : al ≠ b102 := by have q := f9.lt; intro r; rw [r, g102] at q; exact Nat.lt_irrefl _ q
    have ne109 : b1 ≠ b102 := by have q := f14.lt; intro r; rw [r, g102] at q; exact Nat.lt_irrefl _ q
    have ne110 : x1 ≠ b102 := by have q := Ex0.lt; intro r; rw [r, g102] at q; exact Nat.lt_irrefl _ q
    have ge102 : n0 ≤ b102 := Nat.le_trans Z0 (Nat.le_of_eq g102.symm)
    have Z102 : n0 ≤ h102.size := Nat.le_trans Z0 E102.1
    have F111 := f0.ext E102
    have F112 := f1.ext E102
    have F113 := f2.ext E102
    have F114 := f3.ext E102
    have F115 := f4.ext E102
    have F116 := f5.ext E102
    have F117 := f6.ext E102
    have F118 := f7.ext E102
    have F119 := f8.ext E102
    have F120 := f9.ext E102
    have F121 := f11.ext E102
    have F122 := f12.ext E102
    have F123 := S101.ext E102
    have F124 := f14.ext E102
    have F125 := V101.ext E102
    have F126 := Ex0.ext E102
    have F127 := Fx0.ext E102
    have F128 : Fld Z h102 b102 "com/example/nuthatch/nuthatch/RetrySchedule" "delays" "Ljava/util/List;" .null := D102 (Or.inr (hwi hw 9 rfl)) (ty := (.object "java/util/List")) (by decide)
    refine gs m T102 216 #[vI (p0), vJ (p1), sS, vI (p2), vR (dl), vI ((1 : Int32)), vR (al), sU] [(.ref b102)] st102 ?_
    refine gs m T102 217 #[vI (p0), vJ (p1), sS, vI (p2), vR (dl), vI ((1 : Int32)), vR (al), sU] [(.ref b102), (.ref b102)] (fun _ k => XS.dup X102.here hx rfl (hb hby at_216) rfl rfl k) ?_
    refine gs m T102 219 #[vI (p0), vJ (p1), sS, vI (p2), vR (dl), vI ((1 : Int32)), vR (al), sU] [(.ref al), (.ref b102), (.ref b102)] (fun _ k => XS.aload X102.here hx rfl (hb hby at_217) rfl rfl k) ?_
    obtain ⟨_, _, ⟨T129, L129, k129, n129⟩, -, X129, ⟨Lc129, hQ129, l129, y129, z129⟩, st129⟩ := X102.specialBack hx (y := (⟨"com/example/nuthatch/nuthatch/RetrySchedule", "<init>", "(Ljava/util/List;)V"⟩ : MethodName)) rfl hown (mvT hZ (hwi hw 38 rfl)) (mvT hZ (hwi hw 39 rfl)) (mvT hZ (hwi hw 40 rfl)) (by decide) (backOf (W := 1) (Q := fun v h L => ∃ lst : Addr, (v = none) ∧ (Fr n0 L) ∧ (Keep h102 h [b102]) ∧ (h102.size ≤ lst) ∧ (Exa Z h b102 "com/example/nuthatch/nuthatch/RetrySchedule") ∧ (Fld Z h b102 "com/example/nuthatch/nuthatch/RetrySchedule" "delays" "Ljava/util/List;" (.ref lst)) ∧ (Exa Z h lst "java/util/ImmutableCollections$List12") ∧ (Fld Z h lst "java/util/ImmutableCollections$List12" "e0" "Ljava/lang/Object;" (.ref x1)) ∧ (Fld Z h lst "java/util/ImmutableCollections$List12" "e1" "Ljava/lang/Object;" (.ref em))) (own_rsi1 l Z a0 hw [] b102 al .null b1 k1 x1 (sec i0) em h102 n0 Z102 A102 ge102 F128 F120 F122 F123 F124 F125 F126 F127 F117 ne108 ne109 ne110 ov1 MM (hsec i0 hi0)) hZ (hwi hw 40 rfl) (hwi hw 1 rfl) (by decide) (by decide)) (g := (mkF m 219 #[vI (p0), vJ (p1), sS, vI (p2), vR (dl), vI ((1 : Int32)), vR (al), sU] [(.ref al), (.ref b102), (.ref b102)])) rfl (by rw [hml]; rfl) (Steps.refl _) (a := b102) (argsL := [(.ref al)]) (rest := [(.ref b102)]) (lenOf own_pd19 rfl) rfl (by show 2 * 0 + _ ≤ _; exact Nat.le_of_eq rfl) (hb hby at_219) (fun _ _ => ⟨rfl, e102, (by dsimp only [Pt.cells, Pt.slots, room_1]; omega), (by dsimp only [Pt.cells, Pt.slots, room_1]; omega)⟩)
    dsimp only [Pt.U, Pt.locs, Pt.cells, Pt.slots] at X129 l129 y129 z129 st129 hQ129
    subst l129 y129 z129
    obtain ⟨lst_129, rfl, N129q, K129, lt129_0, P129_0, P129_1, P129_2, P129_3, P129_4⟩ := hQ129
    have N129 := Fr.app N0 N129q
    have ne130 : ∀ i, i < 9 → w i ≠ lst_129 := fun i hi => Nat.ne_of_lt (Nat.lt_of_lt_of_le (F119 i hi).1.lt lt129_0)
    have ne131 : df ≠ lst_129 := Nat.ne_of_lt (Nat.lt_of_lt_of_le F112.lt lt129_0)
    have ne132 : dl ≠ lst_129 := Nat.ne_of_lt (Nat.lt_of_lt_of_le F114.lt lt129_0)
    have ne133 : bd ≠ lst_129 := Nat.ne_of_lt (Nat.lt_of_lt_of_le F116.lt lt129_0)
    have ne134 : em ≠ lst_129 := Nat.ne_of_lt (Nat.lt_of_lt_of_le F118.lt lt129_0)
    have ne135 : al ≠ lst_129 := Nat.ne_of_lt (Nat.lt_of_lt_of_le F120.lt lt129_0)
    have ne136 : b1 ≠ lst_129 := Nat.ne_of_lt (Nat.lt_of_lt_of_le F124.lt lt129_0)
    have ne137 : x1 ≠ lst_129 := Nat.ne_of_lt (Nat.lt_of_lt_of_le F126.lt lt129_0)
    have ne138 : b102 ≠ lst_129 := Nat.ne_of_lt (Nat.lt_of_lt_of_le A102.lt lt129_0)
    have ge139 : n0 ≤ lst_129 := Nat.le_trans Z102 lt129_0
    have Z129 : n0 ≤ T129.heap.size := Nat.le_trans Z102 K129.1
    have F140 := own_sta_keep F111 K129 (allS (own_plain A102) all0)
    have F141 := F112.keep K129
    have F142 := F113.keep K129 (ninS ne104 nin0)
    have F143 := F114.keep K129
    have F144 := F115.keep K129 (ninS ne105 nin0)
    have F145 := F116.keep K129 (ninS ne106 nin0)
    have F146 := own_sta_keep F117 K129 (allS (own_plain A102) all0)
    have F147 := F118.keep K129
    have F148 := F119.keep K129 (fun i hi => (ninS (ne103 i hi) nin0))
    have F149 := F120.keep K129
    have F150 := F121.keep K129 (ninS ne108 nin0)
    have F151 := F122.keep K129 (ninS ne108 nin0)
    have F152 := F123.keep K129 (ninS ne108 nin0)
    have F153 := F124.keep K129
    have F154 := F125.keep K129 (ninS ne109 nin0)
    have F155 := F126.keep K129
    have F156 := F127.keep K129 (ninS ne110 nin0)
    have F157 := A102.keep K129
    refine gs m T129 222 #[vI (p0), vJ (p1), sS, vI (p2), vR (dl), vI ((1 : Int32)), vR (al), sU] [(.ref b102)] (fun _ k => st129.trans k) ?_
    refine gs m T129 224 #[vI (p0), vJ (p1), sS, vI (p2), vR (dl), vI ((1 : Int32)), vR (al), vR (b102)] [] (fun _ k => XS.astore X129.here hx rfl (hb hby at_222) rfl rfl (l' := #[vI (p0), vJ (p1), sS, vI (p2), vR (dl), vI ((1 : Int32)), vR (al), vR (b102)]) rfl k) ?_
    refine gs m T129 225 #[vI (p0), vJ (p1), sS, vI (p2), vR (dl), vI ((1 : Int32)), vR (al), vR (b102)] [(.int p2)] (fun _ k => XS.iloadN X129.here hx rfl (hb hby at_224) rfl  k) ?_
    refine gs m T129 226 #[vI (p0), vJ (p1), sS, vI (p2), vR (dl), vI ((1 : Int32)), vR (al), vR (b102)] [(.int (1 : Int32)), (.int p2)] (fun _ k => XS.iconst X129.here hx rfl (hb hby at_225) k) ?_
    refine gs m T129 227 #[vI (p0), vJ (p1), sS, vI (p2), vR (dl), vI ((1 : Int32)), vR (al), vR (b102)] [(.int (p2 &&& (1 : Int32)))] (fun _ k => XS.iand X129.here hx rfl (hb hby at_226) rfl k) ?_
    by_cases hc158 : (p2 &&& (1 : Int32)) = (0 : Int32)
    · skip
      refine gs m T129 252 #[vI (p0), vJ (p1), sS, vI (p2), vR (dl), vI ((1 : Int32)), vR (al), vR (b102)] [] (fun _ k => XS.ifYes X129.here hx rfl (pc0 := 227) (pc' := 252) rfl (hb hby at_227) rfl ((if0 _ _).trans (teq hc158).1) (by decide) (by decide) k) ?_
      refine gs m T129 254 #[vI (p0), vJ (p1), sS, vI (p2), vR (dl), vI ((1 : Int32)), vR (al), vR (b102)] [(.ref b102)] (fun _ k => XS.aload X129.here hx rfl (hb hby at_252) rfl rfl k) ?_
      obtain ⟨cq159, kq159, q159a, q159b, q159c⟩ := isOf hZ rfl P129_0
      obtain ⟨_, _, ⟨T159, L159, k159, n159⟩, -, X159, ⟨Lc159, hQ159, l159, y159, z159⟩, st159⟩ := X129.virtualBack hx (y := (⟨"com/example/nuthatch/nuthatch/RetrySchedule", "maxAttempts", "()I"⟩ : MethodName)) (z := (⟨"com/example/nuthatch/nuthatch/RetrySchedule", "maxAttempts", "()I"⟩ : MethodName)) hown (mvT hZ (hwi hw 164 rfl)) (mvT hZ (hwi hw 165 rfl)) (notFace_of_selects (args := #[]) (mvT hZ (hwi hw 167 rfl))) (mvT hZ (hwi hw 167 rfl)) (mvT hZ (hwi hw 166 rfl)) (by decide) (backOf (W := 0) (Q := Qret (some (.int (2 : Int32))) T129.heap n0) (own_mxa1 l Z a0 hw [] b102 lst_129 x1 em T129.heap n0 Z129 P129_1 P129_2 P129_3 P129_4 F146) hZ (hwi hw 168 rfl) (hwi hw 1 rfl) (by decide) (by decide)) q159a q159c (g := (mkF m 254 #[vI (p0), vJ (p1), sS, vI (p2), vR (dl), vI ((1 : Int32)), vR (al), vR (b102)] [(.ref b102)])) rfl (by rw [hml]; rfl) (Steps.refl _) (argsL := []) (rest := []) (lenOf own_pd13 rfl) rfl (by show 2 * 0 + _ ≤ _; exact Nat.le_of_eq rfl) (hb hby at_254) (fun _ _ => ⟨rfl, rfl, (by dsimp only [Pt.cells, Pt.slots, room_1]; omega), (by dsimp only [Pt.cells, Pt.slots, room_1]; omega)⟩)
      dsimp only [Pt.U, Pt.locs, Pt.cells, Pt.slots] at X159 l159 y159 z159 st159 hQ159
      subst l159 y159 z159
      obtain ⟨rfl, N159q, eh159⟩ := hQ159
      have N159 := Fr.app N129 N159q
      refine gs m T159 257 #[vI (p0), vJ (p1), sS, vI (p2), vR (dl), vI ((1 : Int32)), vR (al), vR (b102)] [(.int (2 : Int32))] (fun _ k => st159.trans k) ?_
      refine gs m T159 259 #[vI (p0), vJ (p1), sS, vI (p2), vR (dl), vI ((1 : Int32)), vR (al), vR (b102)] [(.int (1 : Int32)), (.int (2 : Int32))] (fun _ k => XS.iload X159.here hx rfl (hb hby at_257) rfl  k) ?_
      refine gs m T159 260 #[vI (p0), vJ (p1), sS, vI (p2), vR (dl), vI ((1 : Int32)), vR (al), vR (b102)] [(.int (1 : Int32)), (.int (1 : Int32)), (.int (2 : Int32))] (fun _ k => XS.iconst X159.here hx rfl (hb hby at_259) k) ?_
      refine gs m T159 261 #[vI (p0), vJ (p1), sS, vI (p2), vR (dl), vI ((1 : Int32)), vR (al), vR (b102)] [(.int (2 : Int32)), (.int (2 : Int32))] (fun _ k => XS.iadd X159.here hx rfl (hb hby at_260) rfl k) ?_
      refine gs m T159 264 #[vI (p0), vJ (p1), sS, vI (p2), vR (dl), vI ((1 : Int32)), vR (al), vR (b102)] [] (fun _ k => XS.icmpNo X159.here hx rfl (hb hby at_261) rfl (teq (by decide : (2 : Int32) = (2 : Int32))).2 k) ?_
      obtain ⟨T160, X160, e160, st160⟩ := getS2 X159 hx hZ hown (host := "") (Or.inl (hwi hw 0 rfl)) Via.refl eh159 F140 (g := (mkF m 264 #[vI (p0), vJ (p1), sS, vI (p2), vR (dl), vI ((1 : Int32)), vR (al), vR (b102)] [])) rfl (hb hby at_264)
      refine gs m T160 267 #[vI (p0), vJ (p1), sS, vI (p2), vR (dl), vI ((1 : Int32)), vR (al), vR (b102)] [(.ref df)] st160 ?_
      obtain ⟨cq161, kq161, q161a, q161b, q161c⟩ := isOf hZ e160 F141
      obtain ⟨_, _, ⟨T161, L161, k161, n161⟩, -, X161, ⟨Lc161, hQ161, l161, y161, z161⟩, st161⟩ := X160.virtualBack hx (y := (⟨"com/example/nuthatch/nuthatch/RetrySchedule", "maxAttempts", "()I"⟩ : MethodName)) (z := (⟨"com/example/nuthatch/nuthatch/RetrySchedule", "maxAttempts", "()I"⟩ : MethodName)) hown (mvT hZ (hwi hw 164 rfl)) (mvT hZ (hwi hw 165 rfl)) (notFace_of_selects (args := #[]) (mvT hZ (hwi hw 167 rfl))) (mvT hZ (hwi hw 167 rfl)) (mvT hZ (hwi hw 166 rfl)) (by decide) (backOf (W := 0) (Q := Qret (some (.int (10 : Int32))) T129.heap n0) (own_mxaw l Z a0 hw [] df dl bd kd w T129.heap n0 Z129 F142 F143 F144 F145) hZ (hwi hw 168 rfl) (hwi hw 1 rfl) (by decide) (by decide)) q161a q161c (g := (mkF m 267 #[vI (p0), vJ (p1), sS, vI (p2), vR (dl), vI ((1 : Int32)), vR (al), vR (b102)] [(.ref df)])) rfl (by rw [hml]; rfl) (Steps.refl _) (argsL := []) (rest := []) (lenOf own_pd13 rfl) rfl (by show 2 * 0 + _ ≤ _; exact Nat.le_of_eq rfl) (hb hby at_267) (fun _ _ => ⟨rfl, e160, (by dsimp only [Pt.cells, Pt.slots, room_1]; omega), (by dsimp only [Pt.cells, Pt.slots, room_1]; omega)⟩)
      dsimp only [Pt.U, Pt.locs, Pt.cells, Pt.slots] at X161 l161 y161 z161 st161 hQ161
      subst l161 y161 z161
      obtain ⟨rfl, N161q, eh161⟩ := hQ161
      have N161 := Fr.app N159 N161q
      refine gs m T161 270 #[vI (p0), vJ (p1), sS, vI (p2), vR (dl), vI ((1 : Int32)), vR (al), vR (b102)] [(.int (10 : Int32))] (fun _ k => st161.trans k) ?_
      refine gs m T161 272 #[vI (p0), vJ (p1), sS, vI (p2), vR (dl), vI ((1 : Int32)), vR (al), vR (b102)] [(.int (10 : Int32)), (.int (10 : Int32))] (fun _ k => XS.bipush X161.here hx rfl (hb hby at_270) k) ?_
      refine gs m T161 275 #[vI (p0), vJ (p1), sS, vI (p2), vR (dl), vI ((1 : Int32)), vR (al), vR (b102)] [] (fun _ k => XS.icmpNo X161.here hx rfl (hb hby at_272) rfl (teq (by decide : (10 : Int32) = (10 : Int32))).2 k) ?_
      refine gs m T161 276 #[vI (p0), vJ (p1), sS, vI (p2), vR (dl), vI ((1 : Int32)), vR (al), vR (b102)] [(.int (1 : Int32))] (fun _ k => XS.iconst X161.here hx rfl (hb hby at_275) k) ?_
      refine gs m T161 280 #[vI (p0), vJ (p1), sS, vI (p2), vR (dl), vI ((1 : Int32)), vR (al), vR (b102)] [(.int (1 : Int32))] (fun _ k => XS.goto X161.here hx rfl (pc0 := 276) (pc' := 280) rfl (hb hby at_276) (by decide) (by decide) k) ?_
      exact Go.retN X161 hx (t := .boolean) hret hlk (by simp) (hb hby at_280) (⟨rfl, N161⟩) (by omega) (by omega)
    · skip
      refine gs m T129 230 #[vI (p0), vJ (p1), sS, vI (p2), vR (dl), vI ((1 : Int32)), vR (al), vR (b102)] [] (fun _ k => XS.ifNo X129.here hx rfl (hb hby at_227) rfl ((if0 _ _).trans (feq hc158).1) k) ?_
      have V162 : Arv Z T129.heap b1 k1 (.object "java/lang/Object") (10 : Int32) (own_AV [x1]) .null := by rw [own_AV1]; exact F154
      have S162 : Fld Z T129.heap al "java/util/ArrayList" "size" "I" (.int (Int32.ofNat [x1].length)) := F152
      refine gs m T129 232 #[vI (p0), vJ (p1), sS, vI (p2), vR (dl), vI ((1 : Int32)), vR (al), vR (b102)] [(.ref al)] (fun _ k => XS.aload X129.here hx rfl (hb hby at_230) rfl rfl k) ?_
      refine gs m T129 234 #[vI (p0), vJ (p1), sS, vI (p2), vR (dl), vI ((1 : Int32)), vR (al), vR (b102)] [(.ref dl), (.ref al)] (fun _ k => XS.aload X129.here hx rfl (hb hby at_232) rfl rfl k) ?_
      refine gs m T129 235 #[vI (p0), vJ (p1), sS, vI (p2), vR (dl), vI ((1 : Int32)), vR (al), vR (b102)] [(.long p1), (.ref dl), (.ref al)] (fun _ k => XS.lloadN X129.here hx rfl (hb hby at_234) rfl  k) ?_
      refine gs m T129 237 #[vI (p0), vJ (p1), sS, vI (p2), vR (dl), vI ((1 : Int32)), vR (al), vR (b102)] [(.int (7 : Int32)), (.long p1), (.ref dl), (.ref al)] (fun _ k => XS.bipush X129.here hx rfl (hb hby at_235) k) ?_
      obtain ⟨_, _, ⟨T163, L163, k163, n163⟩, -, X163, ⟨Lc163, hQ163, l163, y163, z163⟩, st163⟩ := Jvm.LawKit.callS X129 hx (y := (⟨"com/example/nuthatch/nuthatch/RetryScheduleMaxAttemptsPinLaw", "pick", "(JI)I"⟩ : MethodName)) hown (mvT hZ (hwi hw 120 rfl)) (mvT hZ (hwi hw 121 rfl)) (mvT hZ (hwi hw 122 rfl)) (mvT hZ (hwi hw 123 rfl)) (by decide) (backOf (W := 2) (Q := fun v h L => ∃ iq : Nat, (v = some (.int (Int32.ofNat iq))) ∧ (Fr n0 L) ∧ (h = T129.heap) ∧ (iq < 9)) (own_pick l Z a0 hw [] p1 (7 : Int32) T129.heap n0 Z129 ) hZ (hwi hw 123 rfl) (hwi hw 122 rfl) (by decide) (by decide)) (g := (mkF m 237 #[vI (p0), vJ (p1), sS, vI (p2), vR (dl), vI ((1 : Int32)), vR (al), vR (b102)] [(.int (7 : Int32)), (.long p1), (.ref dl), (.ref al)])) rfl (by rw [hml]; rfl) (argsL := [(.long p1), (.int (7 : Int32))]) (rest := [(.ref dl), (.ref al)]) (lenOf own_pd20 rfl) rfl (by show 2 * 0 + _ ≤ _; exact Nat.le_of_eq rfl) (hb hby at_237) (fun _ _ => ⟨rfl, rfl, (by dsimp only [Pt.cells, Pt.slots, room_1]; omega), (by dsimp only [Pt.cells, Pt.slots, room_1]; omega)⟩)
      dsimp only [Pt.U, Pt.locs, Pt.cells, Pt.slots] at X163 l163 y163 z163 st163 hQ163
      subst l163 y163 z163
      obtain ⟨iq_163, rfl, N163q, eh163, R163_0⟩ := hQ163
      have N163 := Fr.app N129 N163q
      refine gs m T163 240 #[vI (p0), vJ (p1), sS, vI (p2), vR (dl), vI ((1 : Int32)), vR (al), vR (b102)] [(.int (Int32.ofNat iq_163)), (.ref dl), (.ref al)] (st163) ?_
      obtain ⟨cq164, kq164, q164a, q164b, q164c⟩ := isOf hZ eh163 F143
      obtain ⟨_, _, ⟨T164, L164, k164, n164⟩, -, X164, ⟨Lc164, hQ164, l164, y164, z164⟩, st164⟩ := X163.interfaceBack hx (xi := (⟨"java/util/List", "get", "(I)Ljava/lang/Object;"⟩ : MethodName)) (y := (⟨"java/util/ImmutableCollections$ListN", "get", "(I)Ljava/lang/Object;"⟩ : MethodName)) hown (mvT hZ (hwi hw 125 rfl)) (mvT hZ (hwi hw 126 rfl)) (mvT hZ (hwi hw 127 rfl)) (mvT hZ (hwi hw 128 rfl)) (mvT hZ (hwi hw 129 rfl)) (mvT hZ (hwi hw 130 rfl)) (mvT hZ (hwi hw 131 rfl)) (mvT hZ (hwi hw 83 rfl)) (by decide) (backOf (W := 1) (Q := Qret (some (.ref (w iq_163))) T129.heap n0) (own_getw l Z a0 hw [] dl bd kd w iq_163 T129.heap n0 Z129 F143 F144 F145 R163_0) hZ (hwi hw 132 rfl) (hwi hw 94 rfl) (by decide) (by decide)) q164a q164b q164c (g := (mkF m 240 #[vI (p0), vJ (p1), sS, vI (p2), vR (dl), vI ((1 : Int32)), vR (al), vR (b102)] [(.int (Int32.ofNat iq_163)), (.ref dl), (.ref al)])) rfl (by rw [hml]; rfl) (Steps.refl _) (argsL := [(.int (Int32.ofNat iq_163))]) (rest := [(.ref al)]) (lenOf own_pd15 rfl) rfl (by show 2 * 0 + _ ≤ _; exact Nat.le_of_eq rfl) (hb hby at_240) (fun _ _ => ⟨rfl, eh163, (by dsimp only [Pt.cells, Pt.slots, room_1]; omega), (by dsimp only [Pt.cells, Pt.slots, room_1]; omega)⟩)
      dsimp only [Pt.U, Pt.locs, Pt.cells, Pt.slots] at X164 l164 y164 z164 st164 hQ164
      subst l164 y164 z164
      obtain ⟨rfl, N164q, eh164⟩ := hQ164
      have N164 := Fr.app N163 N164q
      refine gs m T164 245 #[vI (p0), vJ (p1), sS, vI (p2), vR (dl), vI ((1 : Int32)), vR (al), vR (b102)] [(.ref (w iq_163)), (.ref al)] (fun _ k => st164.trans k) ?_
      have Ew165 : Exa Z T129.heap (w iq_163) "java/time/Duration" := (F148 iq_163 R163_0).1
      obtain ⟨T166, X166, e166, st166⟩ := castY X164 hx hZ hown (hwi hw 133 rfl) eh164 (Ins.self Ew165) (g := (mkF m 245 #[vI (p0), vJ (p1), sS, vI (p2), vR (dl), vI ((1 : Int32)), vR (al), vR (b102)] [(.ref (w iq_163)), (.ref al)])) rfl rfl (hb hby at_245)
      refine gs m T166 248 #[vI (p0), vJ (p1), sS, vI (p2), vR (dl), vI ((1 : Int32)), vR (al), vR (b102)] [(.ref (w iq_163)), (.ref al)] st166 ?_
      obtain ⟨cq167, kq167, q167a, q167b, q167c⟩ := isOf hZ e166 F149
      obtain ⟨_, _, ⟨T167, L167, k167, n167⟩, -, X167, ⟨Lc167, hQ167, l167, y167, z167⟩, st167⟩ := X166.virtualBack hx (y := (⟨"java/util/ArrayList", "add", "(Ljava/lang/Object;)Z"⟩ : MethodName)) (z := (⟨"java/util/ArrayList", "add", "(Ljava/lang/Object;)Z"⟩ : MethodName)) hown (mvT hZ (hwi hw 135 rfl)) (mvT hZ (hwi hw 136 rfl)) (notFace_of_selects (args := #[]) (mvT hZ (hwi hw 138 rfl))) (mvT hZ (hwi hw 138 rfl)) (mvT hZ (hwi hw 137 rfl)) (by decide) (backOf (W := 0) (Q := fun v h L => (v = some (.int (1 : Int32))) ∧ (Fr n0 L) ∧ (Keep T129.heap h [al, b1]) ∧ (Exa Z h al "java/util/ArrayList") ∧ (Fld Z h al "java/util/AbstractList" "modCount" "I" (.int (mc + (1 : Int32)))) ∧ (Fld Z h al "java/util/ArrayList" "elementData" "[Ljava/lang/Object;" (.ref b1)) ∧ (Fld Z h al "java/util/ArrayList" "size" "I" (.int (Int32.ofNat ([x1] ++ [(w iq_163)]).length))) ∧ (Exa Z h b1 "[Ljava/lang/Object;") ∧ (Arv Z h b1 k1 (.object "java/lang/Object") (10 : Int32) (own_AV ([x1] ++ [(w iq_163)])) .null)) (own_addg l Z a0 hw [] al (w iq_163) b1 k1 mc [x1] T129.heap n0 Z129 F149 f10 F150 F151 S162 F153 f15 f17 V162 Ew165 ov1 (by simp)) hZ (hwi hw 139 rfl) (hwi hw 12 rfl) (by decide) (by decide)) q167a q167c (g := (mkF m 248 #[vI (p0), vJ (p1), sS, vI (p2), vR (dl), vI ((1 : Int32)), vR (al), vR (b102)] [(.ref (w iq_163)), (.ref al)])) rfl (by rw [hml]; rfl) (Steps.refl _) (argsL := [(.ref (w iq_163))]) (rest := []) (lenOf own_pd21 rfl) rfl (by show 2 * 0 + _ ≤ _; exact Nat.le_of_eq rfl) (hb hby at_248) (fun _ _ => ⟨rfl, e166, (by dsimp only [Pt.cells, Pt.slots, room_1]; omega), (by dsimp only [Pt.cells, Pt.slots, room_1]; omega)⟩)
      dsimp only [Pt.U, Pt.locs, Pt.cells, Pt.slots] at X167 l167 y167 z167 st167 hQ167
      subst l167 y167 z167
      obtain ⟨rfl, N167q, K167, P167_0, P167_1, P167_2, P167_3, P167_4, P167_5⟩ := hQ167
      have N167 := Fr.app N164 N167q
      have Z167 : n0 ≤ T167.heap.size := Nat.le_trans Z129 K167.1
      have F168 := own_sta_keep F140 K167 (allS (own_plain F149) (allS (own_plain F153) all0))
      have F169 := F141.keep K167
      have F170 := F142.keep K167 (ninS f18 (ninS f19 nin0))
      have F171 := F143.keep K167
      have F172 := F144.keep K167 (ninS f20 (ninS f21 nin0))
      have F173 := F145.keep K167 (ninS f22 (ninS f23 nin0))
      have F174 := own_sta_keep F146 K167 (allS (own_plain F149) (allS (own_plain F153) all0))
      have F175 := F147.keep K167
      have F176 := F148.keep K167 (fun i hi => (ninS (f24 i hi) (ninS (f25 i hi) nin0)))
      have F177 := F149.keep K167
      have F178 := F153.keep K167
      have F179 := F155.keep K167
      have F180 := P129_0.keep K167
      have F181 := P129_1.keep K167 (ninS (Ne.symm ne108) (ninS (Ne.symm ne109) nin0))
      have F182 := P129_2.keep K167
      have F183 := P129_3.keep K167 (ninS (Ne.symm ne135) (ninS (Ne.symm ne136) nin0))
      have F184 := P129_4.keep K167 (ninS (Ne.symm ne135) (ninS (Ne.symm ne136) nin0))
      have F185 := Ew165.keep K167
      refine gs m T167 251 #[vI (p0), vJ (p1), sS, vI (p2), vR (dl), vI ((1 : Int32)), vR (al), vR (b102)] [(.int (1 : Int32))] (fun _ k => st167.trans k) ?_
      refine gs m T167 252 #[vI (p0), vJ (p1), sS, vI (p2), vR (dl), vI ((1 : Int32)), vR (al), vR (b102)] [] (fun _ k => XS.pop X167.here hx rfl (hb hby at_251) rfl rfl k) ?_
      refine gs m T167 254 #[vI (p0), vJ (p1), sS, vI (p2), vR (dl), vI ((1 : Int32)), vR (al), vR (b102)] [(.ref b102)] (fun _ k => XS.aload X167.here hx rfl (hb hby at_252) rfl rfl k) ?_
      obtain ⟨cq186, kq186, q186a, q186b, q186c⟩ := isOf hZ rfl F180
      obtain ⟨_, _, ⟨T186, L186, k186, n186⟩, -, X186, ⟨Lc186, hQ186, l186, y186, z186⟩, st186⟩ := X167.virtualBack hx (y := (⟨"com/example/nuthatch/nuthatch/RetrySchedule", "maxAttempts", "()I"⟩ : MethodName)) (z := (⟨"com/example/nuthatch/nuthatch/RetrySchedule", "maxAttempts", "()I"⟩ : MethodName)) hown (mvT hZ (hwi hw 164 rfl)) (mvT hZ (hwi hw 165 rfl)) (notFace_of_selects (args := #[]) (mvT hZ (hwi hw 167 rfl))) (mvT hZ (hwi hw 167 rfl)) (mvT hZ (hwi hw 166 rfl)) (by decide) (backOf (W := 0) (Q := Qret (some (.int (2 : Int32))) T167.heap n0) (own_mxa1 l Z a0 hw [] b102 lst_129 x1 em T167.heap n0 Z167 F181 F182 F183 F184 F174) hZ (hwi hw 168 rfl) (hwi hw 1 rfl) (by decide) (by decide)) q186a q186c (g := (mkF m 254 #[vI (p0), vJ (p1), sS, vI (p2), vR (dl), vI ((1 : Int32)), vR (al), vR (b102)] [(.ref b102)])) rfl (by rw [hml]; rfl) (Steps.refl _) (argsL := []) (rest := []) (lenOf own_pd13 rfl) rfl (by show 2 * 0 + _ ≤ _; exact Nat.le_of_eq rfl) (hb hby at_254) (fun _ _ => ⟨rfl, rfl, (by dsimp only [Pt.cells, Pt.slots, room_1]; omega), (by dsimp only [Pt.cells, Pt.slots, room_1]; omega)⟩)
      dsimp only [Pt.U, Pt.locs, Pt.cells, Pt.slots] at X186 l186 y186 z186 st186 hQ186
      subst l186 y186 z186
      obtain ⟨rfl, N186q, eh186⟩ := hQ186
      have N186 := Fr.app N167 N186q
      refine gs m T186 257 #[vI (p0), vJ (p1), sS, vI (p2), vR (dl), vI ((1 : Int32)), vR (al), vR (b102)] [(.int (2 : Int32))] (fun _ k => st186.trans k) ?_
      refine gs m T186 259 #[vI (p0), vJ (p1), sS, vI (p2), vR (dl), vI ((1 : Int32)), vR (al), vR (b102)] [(.int (1 : Int32)), (.int (2 : Int32))] (fun _ k => XS.iload X186.here hx rfl (hb hby at_257) rfl  k) ?_
      refine gs m T186 260 #[vI (p0), vJ (p1), sS, vI (p2), vR (dl), vI ((1 : Int32)), vR (al), vR (b102)] [(.int (1 : Int32)), (.int (1 : Int32)), (.int (2 : Int32))] (fun _ k => XS.iconst X186.here hx rfl (hb hby at_259) k) ?_
      refine gs m T186 261 #[vI (p0), vJ (p1), sS, vI (p2), vR (dl), vI ((1 : Int32)), vR (al), vR (b102)] [(.int (2 : Int32)), (.int (2 : Int32))] (fun _ k => XS.iadd X186.here hx rfl (hb hby at_260) rfl k) ?_
      refine gs m T186 264 #[vI (p0), vJ (p1), sS, vI (p2), vR (dl), vI ((1 : Int32)), vR (al), vR (b102)] [] (fun _ k => XS.icmpNo X186.here hx rfl (hb hby at_261) rfl (teq (by decide : (2 : Int32) = (2 : Int32))).2 k) ?_
      obtain ⟨T187, X187, e187, st187⟩ := getS2 X186 hx hZ hown (host := "") (Or.inl (hwi hw 0 rfl)) Via.refl eh186 F168 (g := (mkF m 264 #[vI (p0), vJ (p1), sS, vI (p2), vR (dl), vI ((1 : Int32)), vR (al), vR (b102)] [])) rfl (hb hby at_264)
      refine gs m T187 267 #[vI (p0), vJ (p1), sS, vI (p2), vR (dl), vI ((1 : Int32)), vR (al), vR (b102)] [(.ref df)] st187 ?_
      obtain ⟨cq188, kq188, q188a, q188b, q188c⟩ := isOf hZ e187 F169
      obtain ⟨_, _, ⟨T188, L188, k188, n188⟩, -, X188, ⟨Lc188, hQ188, l188, y188, z188⟩, st188⟩ := X187.virtualBack hx (y := (⟨"com/example/nuthatch/nuthatch/RetrySchedule", "maxAttempts", "()I"⟩ : MethodName)) (z := (⟨"com/example/nuthatch/nuthatch/RetrySchedule", "maxAttempts", "()I"⟩ : MethodName)) hown (mvT hZ (hwi hw 164 rfl)) (mvT hZ (hwi hw 165 rfl)) (notFace_of_selects (args := #[]) (mvT hZ (hwi hw 167 rfl))) (mvT hZ (hwi hw 167 rfl)) (mvT hZ (hwi hw 166 rfl)) (by decide) (backOf (W := 0) (Q := Qret (some (.int (10 : Int32))) T167.heap n0) (own_mxaw l Z a0 hw [] df dl bd kd w T167.heap n0 Z167 F170 F171 F172 F173) hZ (hwi hw 168 rfl) (hwi hw 1 rfl) (by decide) (by decide)) q188a q188c (g := (mkF m 267 #[vI (p0), vJ (p1), sS, vI (p2), vR (dl), vI ((1 : Int32)), vR (al), vR (b102)] [(.ref df)])) rfl (by rw [hml]; rfl) (Steps.refl _) (argsL := []) (rest := []) (lenOf own_pd13 rfl) rfl (by show 2 * 0 + _ ≤ _; exact Nat.le_of_eq rfl) (hb hby at_267) (fun _ _ => ⟨rfl, e187, (by dsimp only [Pt.cells, Pt.slots, room_1]; omega), (by dsimp only [Pt.cells, Pt.slots, room_1]; omega)⟩)
      dsimp only [Pt.U, Pt.locs, Pt.cells, Pt.slots] at X188 l188 y188 z188 st188 hQ188
      subst l188 y188 z188
      obtain ⟨rfl, N188q, eh188⟩ := hQ188
      have N188 := Fr.app N186 N188q
      refine gs m T188 270 #[vI (p0), vJ (p1), sS, vI (p2), vR (dl), vI ((1 : Int32)), vR (al), vR (b102)] [(.int (10 : Int32))] (fun _ k => st188.trans k) ?_
      refine gs m T188 272 #[vI (p0), vJ (p1), sS, vI (p2), vR (dl), vI ((1 : Int32)), vR (al), vR (b102)] [(.int (10 : Int32)), (.int (10 : Int32))] (fun _ k => XS.bipush X188.here hx rfl (hb hby at_270) k) ?_
      refine gs m T188 275 #[vI (p0), vJ (p1), sS, vI (p2), vR (dl), vI ((1 : Int32)), vR (al), vR (b102)] [] (fun _ k => XS.icmpNo X188.here hx rfl (hb hby at_272) rfl (teq (by decide : (10 : Int32) = (10 : Int32))).2 k) ?_
      refine gs m T188 276 #[vI (p0), vJ (p1), sS, vI (p2), vR (dl), vI ((1 : Int32)), vR (al), vR (b102)] [(.int (1 : Int32))] (fun _ k => XS.iconst X188.here hx rfl (hb hby at_275) k) ?_
      refine gs m T188 280 #[vI (p0), vJ (p1), sS, vI (p2), vR (dl), vI ((1 : Int32)), vR (al), vR (b102)] [(.int (1 : Int32))] (fun _ k => XS.goto X188.here hx rfl (pc0 := 276) (pc' := 280) rfl (hb hby at_276) (by decide) (by decide) k) ?_
      exact Go.retN X188 hx (t := .boolean) hret hlk (by simp) (hb hby at_280) (⟨rfl, N188⟩) (by omega) (by omega)
  · skip
    have hnl' : n = (2 : Int32) := hnl
    subst hnl'
    obtain ⟨i0, hi0, ex0⟩ := hys x1 (by simp)
    have Ex0 : Exa Z h0 x1 "java/time/Duration" := by rw [ex0]; exact (f8 i0 hi0).1
    have Fx0 : Fld Z h0 x1 "java/time/Duration" "seconds" "J" (.long (sec i0)) := by rw [ex0]; exact (f8 i0 hi0).2
    obtain ⟨i1, hi1, ex1⟩ := hys x2 (by simp)
    have Ex1 : Exa Z h0 x2 "java/time/Duration" := by rw [ex1]; exact (f8 i1 hi1).1
    have Fx1 : Fld Z h0 x2 "java/time/Duration" "seconds" "J" (.long (sec i1)) := by rw [ex1]; exact (f8 i1 hi1).2
    have V189 : Arv Z h0 b1 k1 (.object "java/lang/Object") (10 : Int32) [(.ref x1), (.ref x2), .null, .null, .null, .null, .null, .null, .null, .null] .null := by rw [← own_AV2]; exact f16
    have S189 : Fld Z h0 al "java/util/ArrayList" "size" "I" (.int (2 : Int32)) := f13
    obtain ⟨T190, h190, X190, e190, E190, A190, D190, -, st190⟩ := newO X0 hx hZ hown (hwi hw 36 rfl) (hwi hw 37 rfl) (hwi hw 1 rfl) e0 (g := (mkF m 213 #[vI (p0), vJ (p1), sS, vI (p2), vR (dl), vI ((2 : Int32)), vR (al), sU] [])) rfl (hb hby at_213) (by dsimp only [Pt.cells, Pt.slots, room_1]; omega) (by dsimp only [Pt.cells, Pt.slots, room_1]; omega)
    obtain ⟨b190, g190⟩ : ∃ z, z = h0.size := ⟨_, rfl⟩
    rw [← g190] at A190 D190 st190
    have ne191 : ∀ i, i < 9 → w i ≠ b190 := fun i hi r => by have q := (f8 i hi).1.lt; rw [r, g190] at q; exact Nat.lt_irrefl _ q
    have ne192 : df ≠ b190 := by have q := f1.lt; intro r; rw [r, g190] at q; exact Nat.lt_irrefl _ q
    have ne193 : dl ≠ b190 := by have q := f3.lt; intro r; rw [r, g190] at q; exact Nat.lt_irrefl _ q
    have ne194 : bd ≠ b190 := by have q := f5.lt; intro r; rw [r, g190] at q; exact Nat.lt_irrefl _ q
    have ne195 : em ≠ b190 := by have q := f7.lt; intro r; rw [r, g190] at q; exact Nat.lt_irrefl _ q
    have ne196 : al ≠ b190 := by have q := f9.lt; intro r; rw [r, g190] at q; exact Nat.lt_irrefl _ q
    have ne197 : b1 ≠ b190 := by have q := f14.lt; intro r; rw [r, g190] at q; exact Nat.lt_irrefl _ q
    have ne198 : x1 ≠ b190 := by have q := Ex0.lt; intro r; rw [r, g190] at q; exact Nat.lt_irrefl _ q
    have ne199 : x2 ≠ b190 := by have q := Ex1.lt; intro r; rw [r, g190] at q; exact Nat.lt_irrefl _ q
    have ge190 : n0 ≤ b190 := Nat.le_trans Z0 (Nat.le_of_eq g190.symm)
    have Z190 : n0 ≤ h190.size := Nat.le_trans Z0 E190.1
    have F200 := f0.ext E190
    have F201 := f1.ext E190
    have F202 := f2.ext E190
    have F203 := f3.ext E190
    have F204 := f4.ext E190
    have F205 := f5.ext E190
    have F206 := f6.ext E190
    have F207 := f7.ext E190
    have F208 := f8.ext E190
    have F209 := f9.ext E190
    have F210 := f11.ext E190
    have F211 := f12.ext E190
    have F212 := S189.ext E190
    have F213 := f14.ext E190
    have F214 := V189.ext E190
    have F215 := Ex0.ext E190
    have F216 := Fx0.ext E190
    have F217 := Ex1.ext E190
    have F218 := Fx1.ext E190
    have F219 : Fld Z h190 b190 "com/example/nuthatch/nuthatch/RetrySchedule" "delays" "Ljava/util/List;" .null := D190 (Or.inr (hwi hw 9 rfl)) (ty := (.object "java/util/List")) (by decide)
    refine gs m T190 216 #[vI (p0), vJ (p1), sS, vI (p2), vR (dl), vI ((2 : Int32)), vR (al), sU] [(.ref b190)] st190 ?_
    refine gs m T190 217 #[vI (p0), vJ (p1), sS, vI (p2), vR (dl), vI ((2 : Int32)), vR (al), sU] [(.ref b190), (.ref b190)] (fun _ k => XS.dup X190.here hx rfl (hb hby at_216) rfl rfl k) ?_
    refine gs m T190 219 #[vI (p0), vJ (p1), sS, vI (p2), vR (dl), vI ((2 : Int32)), vR (al), sU] [(.ref al), (.ref b190), (.ref b190)] (fun _ k => XS.aload X190.here hx rfl (hb hby at_217) rfl rfl k) ?_
    have ne220 := Exa.ne F217 F207 (by decide)
    obtain ⟨_, _, ⟨T221, L221, k221, n221⟩, -, X221, ⟨Lc221, hQ221, l221, y221, z221⟩, st221⟩ := X190.specialBack hx (y := (⟨"com/example/nuthatch/nuthatch/RetrySchedule", "<init>", "(Ljava/util/List;)V"⟩ : MethodName)) rfl hown (mvT hZ (hwi hw 38 rfl)) (mvT hZ (hwi hw 39 rfl)) (mvT hZ (hwi hw 40 rfl)) (by decide) (backOf (W := 1) (Q := fun v h L => ∃ lst : Addr, (v = none) ∧ (Fr n0 L) ∧ (Keep h190 h [b190]) ∧ (h190.size ≤ lst) ∧ (Exa Z h b190 "com/example/nuthatch/nuthatch/RetrySchedule") ∧ (Fld Z h b190 "com/example/nuthatch/nuthatch/RetrySchedule" "delays" "Ljava/util/List;" (.ref lst)) ∧ (Exa Z h lst "java/util/ImmutableCollections$List12") ∧ (Fld Z h lst "java/util/ImmutableCollections$List12" "e0" "Ljava/lang/Object;" (.ref x1)) ∧ (Fld Z h lst "java/util/ImmutableCollections$List12" "e1" "Ljava/lang/Object;" (.ref x2))) (own_rsi2 l Z a0 hw [] b190 al .null b1 k1 x1 x2 (sec i0) (sec i1) em h190 n0 Z190 A190 ge190 F219 F209 F211 F212 F213 F214 F215 F216 F217 F218 ne196 ne197 ne198 ne199 F206 ne220 ov1 MM (hsec i0 hi0) (hsec i1 hi1)) hZ (hwi hw 40 rfl) (hwi hw 1 rfl) (by decide) (by decide)) (g := (mkF m 219 #[vI (p0), vJ (p1), sS, vI (p2), vR (dl), vI ((2 : Int32)), vR (al), sU] [(.ref al), (.ref b190), (.ref b190)])) rfl (by rw [hml]; rfl) (Steps.refl _) (a := b190) (argsL := [(.ref al)]) (rest := [(.ref b190)]) (lenOf own_pd19 rfl) rfl (by show 2 * 0 + _ ≤ _; exact Nat.le_of_eq rfl) (hb hby at_219) (fun _ _ => ⟨rfl, e190, (by dsimp only [Pt.cells, Pt.slots, room_1]; omega), (by dsimp only [Pt.cells, Pt.slots, room_1]; omega)⟩)
    dsimp only [Pt.U, Pt.locs, Pt.cells, Pt.slots] at X221 l221 y221 z221 st221 hQ221
    subst l221 y221 z221
    obtain ⟨lst_221, rfl, N221q, K221, lt221_0, P221_0, P221_1, P221_2, P221_3, P221_4⟩ := hQ221
    have N221 := Fr.app N0 N221q
    have ne222 : ∀ i, i < 9 → w i ≠ lst_221 := fun i hi => Nat.ne_of_lt (Nat.lt_of_lt_of_le (F208 i hi).1.lt lt221_0)
    have ne223 : df ≠ lst_221 := Nat.ne_of_lt (Nat.lt_of_lt_of_le F201.lt lt221_0)
    have ne224 : dl ≠ lst_221 := Nat.ne_of_lt (Nat.lt_of_lt_of_le F203.lt lt221_0)
    have ne225 : bd ≠ lst_221 := Nat.ne_of_lt (Nat.lt_of_lt_of_le F205.lt lt221_0)
    have ne226 : em ≠ lst_221 := Nat.ne_of_lt (Nat.lt_of_lt_of_le F207.lt lt221_0)
    have ne227 : al ≠ lst_221 := Nat.ne_of_lt (Nat.lt_of_lt_of_le F209.lt lt221_0)
    have ne228 : b1 ≠ lst_221 := Nat.ne_of_lt (Nat.lt_of_lt_of_le F213.lt lt221_0)
    have ne229 : x1 ≠ lst_221 := Nat.ne_of_lt (Nat.lt_of_lt_of_le F215.lt lt221_0)
    have ne230 : x2 ≠ lst_221 := Nat.ne_of_lt (Nat.lt_of_lt_of_le F217.lt lt221_0)
    have ne231 : b190 ≠ lst_221 := Nat.ne_of_lt (Nat.lt_of_lt_of_le A190.lt lt221_0)
    have ge232 : n0 ≤ lst_221 := Nat.le_trans Z190 lt221_0
    have Z221 : n0 ≤ T221.heap.size := Nat.le_trans Z190 K221.1
    have F233 := own_sta_keep F200 K221 (allS (own_plain A190) all0)
    have F234 := F201.keep K221
    have F235 := F202.keep K221 (ninS ne192 nin0)
    have F236 := F203.keep K221
    have F237 := F204.keep K221 (ninS ne193 nin0)
    have F238 := F205.keep K221 (ninS ne194 nin0)
    have F239 := own_sta_keep F206 K221 (allS (own_plain A190) all0)
    have F240 := F207.keep K221
    have F241 := F208.keep K221 (fun i hi => (ninS (ne191 i hi) nin0))
    have F242 := F209.keep K221
    have F243 := F210.keep K221 (ninS ne196 nin0)
    have F244 := F211.keep K221 (ninS ne196 nin0)
    have F245 := F212.keep K221 (ninS ne196 nin0)
    have F246 := F213.keep K221
    have F247 := F214.keep K221 (ninS ne197 nin0)
    have F248 := F215.keep K221
    have F249 := F216.keep K221 (ninS ne198 nin0)
    have F250 := F217.keep K221
    have F251 := F218.keep K221 (ninS ne199 nin0)
    have F252 := A190.keep K221
    refine gs m T221 222 #[vI (p0), vJ (p1), sS, vI (p2), vR (dl), vI ((2 : Int32)), vR (al), sU] [(.ref b190)] (fun _ k => st221.trans k) ?_
    refine gs m T221 224 #[vI (p0), vJ (p1), sS, vI (p2), vR (dl), vI ((2 : Int32)), vR (al), vR (b190)] [] (fun _ k => XS.astore X221.here hx rfl (hb hby at_222) rfl rfl (l' := #[vI (p0), vJ (p1), sS, vI (p2), vR (dl), vI ((2 : Int32)), vR (al), vR (b190)]) rfl k) ?_
    refine gs m T221 225 #[vI (p0), vJ (p1), sS, vI (p2), vR (dl), vI ((2 : Int32)), vR (al), vR (b190)] [(.int p2)] (fun _ k => XS.iloadN X221.here hx rfl (hb hby at_224) rfl  k) ?_
    refine gs m T221 226 #[vI (p0), vJ (p1), sS, vI (p2), vR (dl), vI ((2 : Int32)), vR (al), vR (b190)] [(.int (1 : Int32)), (.int p2)] (fun _ k => XS.iconst X221.here hx rfl (hb hby at_225) k) ?_
    refine gs m T221 227 #[vI (p0), vJ (p1), sS, vI (p2), vR (dl), vI ((2 : Int32)), vR (al), vR (b190)] [(.int (p2 &&& (1 : Int32)))] (fun _ k => XS.iand X221.here hx rfl (hb hby at_226) rfl k) ?_
    by_cases hc253 : (p2 &&& (1 : Int32)) = (0 : Int32)
    · skip
      refine gs m T221 252 #[vI (p0), vJ (p1), sS, vI (p2), vR (dl), vI ((2 : Int32)), vR (al), vR (b190)] [] (fun _ k => XS.ifYes X221.here hx rfl (pc0 := 227) (pc' := 252) rfl (hb hby at_227) rfl ((if0 _ _).trans (teq hc253).1) (by decide) (by decide) k) ?_
      refine gs m T221 254 #[vI (p0), vJ (p1), sS, vI (p2), vR (dl), vI ((2 : Int32)), vR (al), vR (b190)] [(.ref b190)] (fun _ k => XS.aload X221.here hx rfl (hb hby at_252) rfl rfl k) ?_
      obtain ⟨cq254, kq254, q254a, q254b, q254c⟩ := isOf hZ rfl P221_0
      obtain ⟨_, _, ⟨T254, L254, k254, n254⟩, -, X254, ⟨Lc254, hQ254, l254, y254, z254⟩, st254⟩ := X221.virtualBack hx (y := (⟨"com/example/nuthatch/nuthatch/RetrySchedule", "maxAttempts", "()I"⟩ : MethodName)) (z := (⟨"com/example/nuthatch/nuthatch/RetrySchedule", "maxAttempts", "()I"⟩ : MethodName)) hown (mvT hZ (hwi hw 164 rfl)) (mvT hZ (hwi hw 165 rfl)) (notFace_of_selects (args := #[]) (mvT hZ (hwi hw 167 rfl))) (mvT hZ (hwi hw 167 rfl)) (mvT hZ (hwi hw 166 rfl)) (by decide) (backOf (W := 0) (Q := Qret (some (.int (3 : Int32))) T221.heap n0) (own_mxa2 l Z a0 hw [] b190 lst_221 x1 x2 em T221.heap n0 Z221 P221_1 P221_2 P221_3 P221_4 F239 ne220) hZ (hwi hw 168 rfl) (hwi hw 1 rfl) (by decide) (by decide)) q254a q254c (g := (mkF m 254 #[vI (p0), vJ (p1), sS, vI (p2), vR (dl), vI ((2 : Int32)), vR (al), vR (b190)] [(.ref b190)])) rfl (by rw [hml]; rfl) (Steps.refl _) (argsL := []) (rest := []) (lenOf own_pd13 rfl) rfl (by show 2 * 0 + _ ≤ _; exact Nat.le_of_eq rfl) (hb hby at_254) (fun _ _ => ⟨rfl, rfl, (by dsimp only [Pt.cells, Pt.slots, room_1]; omega), (by dsimp only [Pt.cells, Pt.slots, room_1]; omega)⟩)
      dsimp only [Pt.U, Pt.locs, Pt.cells, Pt.slots] at X254 l254 y254 z254 st254 hQ254
      subst l254 y254 z254
      obtain ⟨rfl, N254q, eh254⟩ := hQ254
      have N254 := Fr.app N221 N254q
      refine gs m T254 257 #[vI (p0), vJ (p1), sS, vI (p2), vR (dl), vI ((2 : Int32)), vR (al), vR (b190)] [(.int (3 : Int32))] (fun _ k => st254.trans k) ?_
      refine gs m T254 259 #[vI (p0), vJ (p1), sS, vI (p2), vR (dl), vI ((2 : Int32)), vR (al), vR (b190)] [(.int (2 : Int32)), (.int (3 : Int32))] (fun _ k => XS.iload X254.here hx rfl (hb hby at_257) rfl  k) ?_
      refine gs m T254 260 #[vI (p0), vJ (p1), sS, vI (p2), vR (dl), vI ((2 : Int32)), vR (al), vR (b190)] [(.int (1 : Int32)), (.int (2 : Int32)), (.int (3 : Int32))] (fun _ k => XS.iconst X254.here hx rfl (hb hby at_259) k) ?_
      refine gs m T254 261 #[vI (p0), vJ (p1), sS, vI (p2), vR (dl), vI ((2 : Int32)), vR (al), vR (b190)] [(.int (3 : Int32)), (.int (3 : Int32))] (fun _ k => XS.iadd X254.here hx rfl (hb hby at_260) rfl k) ?_
      refine gs m T254 264 #[vI (p0), vJ (p1), sS, vI (p2), vR (dl), vI ((2 : Int32)), vR (al), vR (b190)] [] (fun _ k => XS.icmpNo X254.here hx rfl (hb hby at_261) rfl (teq (by decide : (3 : Int32) = (3 : Int32))).2 k) ?_
      obtain ⟨T255, X255, e255, st255⟩ := getS2 X254 hx hZ hown (host := "") (Or.inl (hwi hw 0 rfl)) Via.refl eh254 F233 (g := (mkF m 264 #[vI (p0), vJ (p1), sS, vI (p2), vR (dl), vI ((2 : Int32)), vR (al), vR (b190)] [])) rfl (hb hby at_264)
      refine gs m T255 267 #[vI (p0), vJ (p1), sS, vI (p2), vR (dl), vI ((2 : Int32)), vR (al), vR (b190)] [(.ref df)] st255 ?_
      obtain ⟨cq256, kq256, q256a, q256b, q256c⟩ := isOf hZ e255 F234
      obtain ⟨_, _, ⟨T256, L256, k256, n256⟩, -, X256, ⟨Lc256, hQ256, l256, y256, z256⟩, st256⟩ := X255.virtualBack hx (y := (⟨"com/example/nuthatch/nuthatch/RetrySchedule", "maxAttempts", "()I"⟩ : MethodName)) (z := (⟨"com/example/nuthatch/nuthatch/RetrySchedule", "maxAttempts", "()I"⟩ : MethodName)) hown (mvT hZ (hwi hw 164 rfl)) (mvT hZ (hwi hw 165 rfl)) (notFace_of_selects (args := #[]) (mvT hZ (hwi hw 167 rfl))) (mvT hZ (hwi hw 167 rfl)) (mvT hZ (hwi hw 166 rfl)) (by decide) (backOf (W := 0) (Q := Qret (some (.int (10 : Int32))) T221.heap n0) (own_mxaw l Z a0 hw [] df dl bd kd w T221.heap n0 Z221 F235 F236 F237 F238) hZ (hwi hw 168 rfl) (hwi hw 1 rfl) (by decide) (by decide)) q256a q256c (g := (mkF m 267 #[vI (p0), vJ (p1), sS, vI (p2), vR (dl), vI ((2 : Int32)), vR (al), vR (b190)] [(.ref df)])) rfl (by rw [hml]; rfl) (Steps.refl _) (argsL := []) (rest := []) (lenOf own_pd13 rfl) rfl (by show 2 * 0 + _ ≤ _; exact Nat.le_of_eq rfl) (hb hby at_267) (fun _ _ => ⟨rfl, e255, (by dsimp only [Pt.cells, Pt.slots, room_1]; omega), (by dsimp only [Pt.cells, Pt.slots, room_1]; omega)⟩)
      dsimp only [Pt.U, Pt.locs, Pt.cells, Pt.slots] at X256 l256 y256 z256 st256 hQ256
      subst l256 y256 z256
      obtain ⟨rfl, N256q, eh256⟩ := hQ256
      have N256 := Fr.app N254 N256q
      refine gs m T256 270 #[vI (p0), vJ (p1), sS, vI (p2), vR (dl), vI ((2 : Int32)), vR (al), vR (b190)] [(.int (10 : Int32))] (fun _ k => st256.trans k) ?_
      refine gs m T256 272 #[vI (p0), vJ (p1), sS, vI (p2), vR (dl), vI ((2 : Int32)), vR (al), vR (b190)] [(.int (10 : Int32)), (.int (10 : Int32))] (fun _ k => XS.bipush X256.here hx rfl (hb hby at_270) k) ?_
      refine gs m T256 275 #[vI (p0), vJ (p1), sS, vI (p2), vR (dl), vI ((2 : Int32)), vR (al), vR (b190)] [] (fun _ k => XS.icmpNo X256.here hx rfl (hb hby at_272) rfl (teq (by decide : (10 : Int32) = (10 : Int32))).2 k) ?_
      refine gs m T256 276 #[vI (p0), vJ (p1), sS, vI (p2), vR (dl), vI ((2 : Int32)), vR (al), vR (b190)] [(.int (1 : Int32))] (fun _ k => XS.iconst X256.here hx rfl (hb hby at_275) k) ?_
      refine gs m T256 280 #[vI (p0), vJ (p1), sS, vI (p2), vR (dl), vI ((2 : Int32)), vR (al), vR (b190)] [(.int (1 : Int32))] (fun _ k => XS.goto X256.here hx rfl (pc0 := 276) (pc' := 280) rfl (hb hby at_276) (by decide) (by decide) k) ?_
      exact Go.retN X256 hx (t := .boolean) hret hlk (by simp) (hb hby at_280) (⟨rfl, N256⟩) (by omega) (by omega)
    · skip
      refine gs m T221 230 #[vI (p0), vJ (p1), sS, vI (p2), vR (dl), vI ((2 : Int32)), vR (al), vR (b190)] [] (fun _ k => XS.ifNo X221.here hx rfl (hb hby at_227) rfl ((if0 _ _).trans (feq hc253).1) k) ?_
      have V257 : Arv Z T221.heap b1 k1 (.object "java/lang/Object") (10 : Int32) (own_AV [x1, x2]) .null := by rw [own_AV2]; exact F247
      have S257 : Fld Z T221.heap al "java/util/ArrayList" "size" "I" (.int (Int32.ofNat [x1, x2].length)) := F245
      refine gs m T221 232 #[vI (p0), vJ (p1), sS, vI (p2), vR (dl), vI ((2 : Int32)), vR (al), vR (b190)] [(.ref al)] (fun _ k => XS.aload X221.here hx rfl (hb hby at_230) rfl rfl k) ?_
      refine gs m T221 234 #[vI (p0), vJ (p1), sS, vI (p2), vR (dl), vI ((2 : Int32)), vR (al), vR (b190)] [(.ref dl), (.ref al)] (fun _ k => XS.aload X221.here hx rfl (hb hby at_232) rfl rfl k) ?_
      refine gs m T221 235 #[vI (p0), vJ (p1), sS, vI (p2), vR (dl), vI ((2 : Int32)), vR (al), vR (b190)] [(.long p1), (.ref dl), (.ref al)] (fun _ k => XS.lloadN X221.here hx rfl (hb hby at_234) rfl  k) ?_
      refine gs m T221 237 #[vI (p0), vJ (p1), sS, vI (p2), vR (dl), vI ((2 : Int32)), vR (al), vR (b190)] [(.int (7 : Int32)), (.long p1), (.ref dl), (.ref al)] (fun _ k => XS.bipush X221.here hx rfl (hb hby at_235) k) ?_
      obtain ⟨_, _, ⟨T258, L258, k258, n258⟩, -, X258, ⟨Lc258, hQ258, l258, y258, z258⟩, st258⟩ := Jvm.LawKit.callS X221 hx (y := (⟨"com/example/nuthatch/nuthatch/RetryScheduleMaxAttemptsPinLaw", "pick", "(JI)I"⟩ : MethodName)) hown (mvT hZ (hwi hw 120 rfl)) (mvT hZ (hwi hw 121 rfl)) (mvT hZ (hwi hw 122 rfl)) (mvT hZ (hwi hw 123 rfl)) (by decide) (backOf (W := 2) (Q := fun v h L => ∃ iq : Nat, (v = some (.int (Int32.ofNat iq))) ∧ (Fr n0 L) ∧ (h = T221.heap) ∧ (iq < 9)) (own_pick l Z a0 hw [] p1 (7 : Int32) T221.heap n0 Z221 ) hZ (hwi hw 123 rfl) (hwi hw 122 rfl) (by decide) (by decide)) (g := (mkF m 237 #[vI (p0), vJ (p1), sS, vI (p2), vR (dl), vI ((2 : Int32)), vR (al), vR (b190)] [(.int (7 : Int32)), (.long p1), (.ref dl), (.ref al)])) rfl (by rw [hml]; rfl) (argsL := [(.long p1), (.int (7 : Int32))]) (rest := [(.ref dl), (.ref al)]) (lenOf own_pd20 rfl) rfl (by show 2 * 0 + _ ≤ _; exact Nat.le_of_eq rfl) (hb hby at_237) (fun _ _ => ⟨rfl, rfl, (by dsimp only [Pt.cells, Pt.slots, room_1]; omega), (by dsimp only [Pt.cells, Pt.slots, room_1]; omega)⟩)
      dsimp only [Pt.U, Pt.locs, Pt.cells, Pt.slots] at X258 l258 y258 z258 st258 hQ258
      subst l258 y258 z258
      obtain ⟨iq_258, rfl, N258q, eh258, R258_0⟩ := hQ258
      have N258 := Fr.app N221 N258q
      refine gs m T258 240 #[vI (p0), vJ (p1), sS, vI (p2), vR (dl), vI ((2 : Int32)), vR (al), vR (b190)] [(.int (Int32.ofNat iq_258)), (.ref dl), (.ref al)] (st258) ?_
      obtain ⟨cq259, kq259, q259a, q259b, q259c⟩ := isOf hZ eh258 F236
      obtain ⟨_, _, ⟨T259, L259, k259, n259⟩, -, X259, ⟨Lc259, hQ259, l259, y259, z259⟩, st259⟩ := X258.interfaceBack hx (xi := (⟨"java/util/List", "get", "(I)Ljava/lang/Object;"⟩ : MethodName)) (y := (⟨"java/util/ImmutableCollections$ListN", "get", "(I)Ljava/lang/Object;"⟩ : MethodName)) hown (mvT hZ (hwi hw 125 rfl)) (mvT hZ (hwi hw 126 rfl)) (mvT hZ (hwi hw 127 rfl)) (mvT hZ (hwi hw 128 rfl)) (mvT hZ (hwi hw 129 rfl)) (mvT hZ (hwi hw 130 rfl)) (mvT hZ (hwi hw 131 rfl)) (mvT hZ (hwi hw 83 rfl)) (by decide) (backOf (W := 1) (Q := Qret (some (.ref (w iq_258))) T221.heap n0) (own_getw l Z a0 hw [] dl bd kd w iq_258 T221.heap n0 Z221 F236 F237 F238 R258_0) hZ (hwi hw 132 rfl) (hwi hw 94 rfl) (by decide) (by decide)) q259a q259b q259c (g := (mkF m 240 #[vI (p0), vJ (p1), sS, vI (p2), vR (dl), vI ((2 : Int32)), vR (al), vR (b190)] [(.int (Int32.ofNat iq_258)), (.ref dl), (.ref al)])) rfl (by rw [hml]; rfl) (Steps.refl _) (argsL := [(.int (Int32.ofNat iq_258))]) (rest := [(.ref al)]) (lenOf own_pd15 rfl) rfl (by show 2 * 0 + _ ≤ _; exact Nat.le_of_eq rfl) (hb hby at_240) (fun _ _ => ⟨rfl, eh258, (by dsimp only [Pt.cells, Pt.slots, room_1]; omega), (by dsimp only [Pt.cells, Pt.slots, room_1]; omega)⟩)
      dsimp only [Pt.U, Pt.locs, Pt.cells, Pt.slots] at X259 l259 y259 z259 st259 hQ259
      subst l259 y259 z259
      obtain ⟨rfl, N259q, eh259⟩ := hQ259
      have N259 := Fr.app N258 N259q
      refine gs m T259 245 #[vI (p0), vJ (p1), sS, vI (p2), vR (dl), vI ((2 : Int32)), vR (al), vR (b190)] [(.ref (w iq_258)), (.ref al)] (fun _ k => st259.trans k) ?_
      have Ew260 : Exa Z T221.heap (w iq_258) "java/time/Duration" := (F241 iq_258 R258_0).1
      obtain ⟨T261, X261, e261, st261⟩ := castY X259 hx hZ hown (hwi hw 133 rfl) eh259 (Ins.self Ew260) (g := (mkF m 245 #[vI (p0), vJ (p1), sS, vI (p2), vR (dl), vI ((2 : Int32)), vR (al), vR (b190)] [(.ref (w iq_258)), (.ref al)])) rfl rfl (hb hby at_245)
      refine gs m T261 248 #[vI (p0), vJ (p1), sS, vI (p2), vR (dl), vI ((2 : Int32)), vR (al), vR (b190)] [(.ref (w iq_258)), (.ref al)] st261 ?_
      obtain ⟨cq262, kq262, q262a, q262b, q262c⟩ := isOf hZ e261 F242
      obtain ⟨_, _, ⟨T262, L262, k262, n262⟩, -, X262, ⟨Lc262, hQ262, l262, y262, z262⟩, st262⟩ := X261.virtualBack hx (y := (⟨"java/util/ArrayList", "add", "(Ljava/lang/Object;)Z"⟩ : MethodName)) (z := (⟨"java/util/ArrayList", "add", "(Ljava/lang/Object;)Z"⟩ : MethodName)) hown (mvT hZ (hwi hw 135 rfl)) (mvT hZ (hwi hw 136 rfl)) (notFace_of_selects (args := #[]) (mvT hZ (hwi hw 138 rfl))) (mvT hZ (hwi hw 138 rfl)) (mvT hZ (hwi hw 137 rfl)) (by decide) (backOf (W := 0) (Q := fun v h L => (v = some (.int (1 : Int32))) ∧ (Fr n0 L) ∧ (Keep T221.heap h [al, b1]) ∧ (Exa Z h al "java/util/ArrayList") ∧ (Fld Z h al "java/util/AbstractList" "modCount" "I" (.int (mc + (1 : Int32)))) ∧ (Fld Z h al "java/util/ArrayList" "elementData" "[Ljava/lang/Object;" (.ref b1)) ∧ (Fld Z h al "java/util/ArrayList" "size" "I" (.int (Int32.ofNat ([x1, x2] ++ [(w iq_258)]).length))) ∧ (Exa Z h b1 "[Ljava/lang/Object;") ∧ (Arv Z h b1 k1 (.object "java/lang/Object") (10 : Int32) (own_AV ([x1, x2] ++ [(w iq_258)])) .null)) (own_addg l Z a0 hw [] al (w iq_258) b1 k1 mc [x1, x2] T221.heap n0 Z221 F242 f10 F243 F244 S257 F246 f15 f17 V257 Ew260 ov1 (by simp)) hZ (hwi hw 139 rfl) (hwi hw 12 rfl) (by decide) (by decide)) q262a q262c (g := (mkF m 248 #[vI (p0), vJ (p1), sS, vI (p2), vR (dl), vI ((2 : Int32)), vR (al), vR (b190)] [(.ref (w iq_258)), (.ref al)])) rfl (by rw [hml]; rfl) (Steps.refl _) (argsL := [(.ref (w iq_258))]) (rest := []) (lenOf own_pd21 rfl) rfl (by show 2 * 0 + _ ≤ _; exact Nat.le_of_eq rfl) (hb hby at_248) (fun _ _ => ⟨rfl, e261, (by dsimp only [Pt.cells, Pt.slots, room_1]; omega), (by dsimp only [Pt.cells, Pt.slots, room_1]; omega)⟩)
      dsimp only [Pt.U, Pt.locs, Pt.cells, Pt.slots] at X262 l262 y262 z262 st262 hQ262
      subst l262 y262 z262
      obtain ⟨rfl, N262q, K262, P262_0, P262_1, P262_2, P262_3, P262_4, P262_5⟩ := hQ262
      have N262 := Fr.app N259 N262q
      have Z262 : n0 ≤ T262.heap.size := Nat.le_trans Z221 K262.1
      have F263 := own_sta_keep F233 K262 (allS (own_plain F242) (allS (own_plain F246) all0))
      have F264 := F234.keep K262
      have F265 := F235.keep K262 (ninS f18 (ninS f19 nin0))
      have F266 := F236.keep K262
      have F267 := F237.keep K262 (ninS f20 (ninS f21 nin0))
      have F268 := F238.keep K262 (ninS f22 (ninS f23 nin0))
      have F269 := own_sta_keep F239 K262 (allS (own_plain F242) (allS (own_plain F246) all0))
      have F270 := F240.keep K262
      have F271 := F241.keep K262 (fun i hi => (ninS (f24 i hi) (ninS (f25 i hi) nin0)))
      have F272 := F242.keep K262
      have F273 := F246.keep K262
      have F274 := F248.keep K262
      have F275 := F250.keep K262
      have F276 := P221_0.keep K262
      have F277 := P221_1.keep K262 (ninS (Ne.symm ne196) (ninS (Ne.symm ne197) nin0))
      have F278 := P221_2.keep K262
      have F279 := P221_3.keep K262 (ninS (Ne.symm ne227) (ninS (Ne.symm ne228) nin0))
      have F280 := P221_4.keep K262 (ninS (Ne.symm ne227) (ninS (Ne.symm ne228) nin0))
      have F281 := Ew260.keep K262
      refine gs m T262 251 #[vI (p0), vJ (p1), sS, vI (p2), vR (dl), vI ((2 : Int32)), vR (al), vR (b190)] [(.int (1 : Int32))] (fun _ k => st262.trans k) ?_
      refine gs m T262 252 #[vI (p0), vJ (p1), sS, vI (p2), vR (dl), vI ((2 : Int32)), vR (al), vR (b190)] [] (fun _ k => XS.pop X262.here hx rfl (hb hby at_251) rfl rfl k) ?_
      refine gs m T262 254 #[vI (p0), vJ (p1), sS, vI (p2), vR (dl), vI ((2 : Int32)), vR (al), vR (b190)] [(.ref b190)] (fun _ k => XS.aload X262.here hx rfl (hb hby at_252) rfl rfl k) ?_
      obtain ⟨cq282, kq282, q282a, q282b, q282c⟩ := isOf hZ rfl F276
      obtain ⟨_, _, ⟨T282, L282, k282, n282⟩, -, X282, ⟨Lc282, hQ282, l282, y282, z282⟩, st282⟩ := X262.virtualBack hx (y := (⟨"com/example/nuthatch/nuthatch/RetrySchedule", "maxAttempts", "()I"⟩ : MethodName)) (z := (⟨"com/example/nuthatch/nuthatch/RetrySchedule", "maxAttempts", "()I"⟩ : MethodName)) hown (mvT hZ (hwi hw 164 rfl)) (mvT hZ (hwi hw 165 rfl)) (notFace_of_selects (args := #[]) (mvT hZ (hwi hw 167 rfl))) (mvT hZ (hwi hw 167 rfl)) (mvT hZ (hwi hw 166 rfl)) (by decide) (backOf (W := 0) (Q := Qret (some (.int (3 : Int32))) T262.heap n0) (own_mxa2 l Z a0 hw [] b190 lst_221 x1 x2 em T262.heap n0 Z262 F277 F278 F279 F280 F269 ne220) hZ (hwi hw 168 rfl) (hwi hw 1 rfl) (by decide) (by decide)) q282a q282c (g := (mkF m 254 #[vI (p0), vJ (p1), sS, vI (p2), vR (dl), vI ((2 : Int32)), vR (al), vR (b190)] [(.ref b190)])) rfl (by rw [hml]; rfl) (Steps.refl _) (argsL := []) (rest := []) (lenOf own_pd13 rfl) rfl (by show 2 * 0 + _ ≤ _; exact Nat.le_of_eq rfl) (hb hby at_254) (fun _ _ => ⟨rfl, rfl, (by dsimp only [Pt.cells, Pt.slots, room_1]; omega), (by dsimp only [Pt.cells, Pt.slots, room_1]; omega)⟩)
      dsimp only [Pt.U, Pt.locs, Pt.cells, Pt.slots] at X282 l282 y282 z282 st282 hQ282
      subst l282 y282 z282
      obtain ⟨rfl, N282q, eh282⟩ := hQ282
      have N282 := Fr.app N262 N282q
      refine gs m T282 257 #[vI (p0), vJ (p1), sS, vI (p2), vR (dl), vI ((2 : Int32)), vR (al), vR (b190)] [(.int (3 : Int32))] (fun _ k => st282.trans k) ?_
      refine gs m T282 259 #[vI (p0), vJ (p1), sS, vI (p2), vR (dl), vI ((2 : Int32)), vR (al), vR (b190)] [(.int (2 : Int32)), (.int (3 : Int32))] (fun _ k => XS.iload X282.here hx rfl (hb hby at_257) rfl  k) ?_
      refine gs m T282 260 #[vI (p0), vJ (p1), sS, vI (p2), vR (dl), vI ((2 : Int32)), vR (al), vR (b190)] [(.int (1 : Int32)), (.int (2 : Int32)), (.int (3 : Int32))] (fun _ k => XS.iconst X282.here hx rfl (hb hby at_259) k) ?_
      refine gs m T282 261 #[vI (p0), vJ (p1), sS, vI (p2), vR (dl), vI ((2 : Int32)), vR (al), vR (b190)] [(.int (3 : Int32)), (.int (3 : Int32))] (fun _ k => XS.iadd X282.here hx rfl (hb hby at_260) rfl k) ?_
      refine gs m T282 264 #[vI (p0), vJ (p1), sS, vI (p2), vR (dl), vI ((2 : Int32)), vR (al), vR (b190)] [] (fun _ k => XS.icmpNo X282.here hx rfl (hb hby at_261) rfl (teq (by decide : (3 : Int32) = (3 : Int32))).2 k) ?_
      obtain ⟨T283, X283, e283, st283⟩ := getS2 X282 hx hZ hown (host := "") (Or.inl (hwi hw 0 rfl)) Via.refl eh282 F263 (g := (mkF m 264 #[vI (p0), vJ (p1), sS, vI (p2), vR (dl), vI ((2 : Int32)), vR (al), vR (b190)] [])) rfl (hb hby at_264)
      refine gs m T283 267 #[vI (p0), vJ (p1), sS, vI (p2), vR (dl), vI ((2 : Int32)), vR (al), vR (b190)] [(.ref df)] st283 ?_
      obtain ⟨cq284, kq284, q284a, q284b, q284c⟩ := isOf hZ e283 F264
      obtain ⟨_, _, ⟨T284, L284, k284, n284⟩, -, X284, ⟨Lc284, hQ284, l284, y284, z284⟩, st284⟩ := X283.virtualBack hx (y := (⟨"com/example/nuthatch/nuthatch/RetrySchedule", "maxAttempts", "()I"⟩ : MethodName)) (z := (⟨"com/example/nuthatch/nuthatch/RetrySchedule", "maxAttempts", "()I"⟩ : MethodName)) hown (mvT hZ (hwi hw 164 rfl)) (mvT hZ (hwi hw 165 rfl)) (notFace_of_selects (args := #[]) (mvT hZ (hwi hw 167 rfl))) (mvT hZ (hwi hw 167 rfl)) (mvT hZ (hwi hw 166 rfl)) (by decide) (backOf (W := 0) (Q := Qret (some (.int (10 : Int32))) T262.heap n0) (own_mxaw l Z a0 hw [] df dl bd kd w T262.heap n0 Z262 F265 F266 F267 F268) hZ (hwi hw 168 rfl) (hwi hw 1 rfl) (by decide) (by decide)) q284a q284c (g := (mkF m 267 #[vI (p0), vJ (p1), sS, vI (p2), vR (dl), vI ((2 : Int32)), vR (al), vR (b190)] [(.ref df)])) rfl (by rw [hml]; rfl) (Steps.refl _) (argsL := []) (rest := []) (lenOf own_pd13 rfl) rfl (by show 2 * 0 + _ ≤ _; exact Nat.le_of_eq rfl) (hb hby at_267) (fun _ _ => ⟨rfl, e283, (by dsimp only [Pt.cells, Pt.slots, room_1]; omega), (by dsimp only [Pt.cells, Pt.slots, room_1]; omega)⟩)
      dsimp only [Pt.U, Pt.locs, Pt.cells, Pt.slots] at X284 l284 y284 z284 st284 hQ284
      subst l284 y284 z284
      obtain ⟨rfl, N284q, eh284⟩ := hQ284
      have N284 := Fr.app N282 N284q
      refine gs m T284 270 #[vI (p0), vJ (p1), sS, vI (p2), vR (dl), vI ((2 : Int32)), vR (al), vR (b190)] [(.int (10 : Int32))] (fun _ k => st284.trans k) ?_
      refine gs m T284 272 #[vI (p0), vJ (p1), sS, vI (p2), vR (dl), vI ((2 : Int32)), vR (al), vR (b190)] [(.int (10 : Int32)), (.int (10 : Int32))] (fun _ k => XS.bipush X284.here hx rfl (hb hby at_270) k) ?_
      refine gs m T284 275 #[vI (p0), vJ (p1), sS, vI (p2), vR (dl), vI ((2 : Int32)), vR (al), vR (b190)] [] (fun _ k => XS.icmpNo X284.here hx rfl (hb hby at_272) rfl (teq (by decide : (10 : Int32) = (10 : Int32))).2 k) ?_
      refine gs m T284 276 #[vI (p0), vJ (p1), sS, vI (p2), vR (dl), vI ((2 : Int32)), vR (al), vR (b190)] [(.int (1 : Int32))] (fun _ k => XS.iconst X284.here hx rfl (hb hby at_275) k) ?_
      refine gs m T284 280 #[vI (p0), vJ (p1), sS, vI (p2), vR (dl), vI ((2 : Int32)), vR (al), vR (b190)] [(.int (1 : Int32))] (fun _ k => XS.goto X284.here hx rfl (pc0 := 276) (pc' := 280) rfl (hb hby at_276) (by decide) (by decide) k) ?_
      exact Go.retN X284 hx (t := .boolean) hret hlk (by simp) (hb hby at_280) (⟨rfl, N284⟩) (by omega) (by omega)
  · skip
    have hlen : ys.length ≤ 8 := by omega
    subst hnl
    obtain ⟨T285, h285, X285, e285, E285, A285, D285, -, st285⟩ := newO X0 hx hZ hown (hwi hw 36 rfl) (hwi hw 37 rfl) (hwi hw 1 rfl) e0 (g := (mkF m 213 #[vI (p0), vJ (p1), sS, vI (p2), vR (dl), vI ((Int32.ofNat ys.length)), vR (al), sU] [])) rfl (hb hby at_213) (by dsimp only [Pt.cells, Pt.slots, room_1]; omega) (by dsimp only [Pt.cells, Pt.slots, room_1]; omega)
    obtain ⟨b285, g285⟩ : ∃ z, z = h0.size := ⟨_, rfl⟩
    rw [← g285] at A285 D285 st285
    have ne286 : ∀ i, i < 9 → w i ≠ b285 := fun i hi r => by have q := (f8 i hi).1.lt; rw [r, g285] at q; exact Nat.lt_irrefl _ q
    have ne287 : df ≠ b285 := by have q := f1.lt; intro r; rw [r, g285] at q; exact Nat.lt_irrefl _ q
    have ne288 : dl ≠ b285 := by have q := f3.lt; intro r; rw [r, g285] at q; exact Nat.lt_irrefl _ q
    have ne289 : bd ≠ b285 := by have q := f5.lt; intro r; rw [r, g285] at q; exact Nat.lt_irrefl _ q
    have ne290 : em ≠ b285 := by have q := f7.lt; intro r; rw [r, g285] at q; exact Nat.lt_irrefl _ q
    have ne291 : al ≠ b285 := by have q := f9.lt; intro r; rw [r, g285] at q; exact Nat.lt_irrefl _ q
    have ne292 : b1 ≠ b285 := by have q := f14.lt; intro r; rw [r, g285] at q; exact Nat.lt_irrefl _ q
    have ge285 : n0 ≤ b285 := Nat.le_trans Z0 (Nat.le_of_eq g285.symm)
    have Z285 : n0 ≤ h285.size := Nat.le_trans Z0 E285.1
    have F293 := f0.ext E285
    have F294 := f1.ext E285
    have F295 := f2.ext E285
    have F296 := f3.ext E285
    have F297 := f4.ext E285
    have F298 := f5.ext E285
    have F299 := f6.ext E285
    have F300 := f7.ext E285
    have F301 := f8.ext E285
    have F302 := f9.ext E285
    have F303 := f11.ext E285
    have F304 := f12.ext E285
    have F305 := f13.ext E285
    have F306 := f14.ext E285
    have F307 := f16.ext E285
    have F308 : Fld Z h285 b285 "com/example/nuthatch/nuthatch/RetrySchedule" "delays" "Ljava/util/List;" .null := D285 (Or.inr (hwi hw 9 rfl)) (ty := (.object "java/util/List")) (by decide)
    refine gs m T285 216 #[vI (p0), vJ (p1), sS, vI (p2), vR (dl), vI ((Int32.ofNat ys.length)), vR (al), sU] [(.ref b285)] st285 ?_
    refine gs m T285 217 #[vI (p0), vJ (p1), sS, vI (p2), vR (dl), vI ((Int32.ofNat ys.length)), vR (al), sU] [(.ref b285), (.ref b285)] (fun _ k => XS.dup X285.here hx rfl (hb hby at_216) rfl rfl k) ?_
    refine gs m T285 219 #[vI (p0), vJ (p1), sS, vI (p2), vR (dl), vI ((Int32.ofNat ys.length)), vR (al), sU] [(.ref al), (.ref b285), (.ref b285)] (fun _ k => XS.aload X285.here hx rfl (hb hby at_217) rfl rfl k) ?_
    obtain ⟨_, _, ⟨T309, L309, k309, n309⟩, -, X309, ⟨Lc309, hQ309, l309, y309, z309⟩, st309⟩ := X285.specialBack hx (y := (⟨"com/example/nuthatch/nuthatch/RetrySchedule", "<init>", "(Ljava/util/List;)V"⟩ : MethodName)) rfl hown (mvT hZ (hwi hw 38 rfl)) (mvT hZ (hwi hw 39 rfl)) (mvT hZ (hwi hw 40 rfl)) (by decide) (backOf (W := 1) (Q := fun v h L => ∃ lst : Addr, ∃ b2 : Addr, ∃ k2 : ClassId, (v = none) ∧ (Fr n0 L) ∧ (Keep h285 h [b285]) ∧ (h285.size ≤ lst) ∧ (h285.size ≤ b2) ∧ (Exa Z h b285 "com/example/nuthatch/nuthatch/RetrySchedule") ∧ (Fld Z h b285 "com/example/nuthatch/nuthatch/RetrySchedule" "delays" "Ljava/util/List;" (.ref lst)) ∧ (Exa Z h lst "java/util/ImmutableCollections$ListN") ∧ (Fld Z h lst "java/util/ImmutableCollections$ListN" "elements" "[Ljava/lang/Object;" (.ref b2)) ∧ (Arv Z h b2 k2 (.object "java/lang/Object") (Int32.ofNat ys.length) (ys.map Value.ref) .null)) (own_rsig l Z a0 hw [] b285 al .null b1 k1 ys w sec h285 n0 Z285 A285 ge285 F308 F302 F304 F305 F306 F307 ne291 ne292 F301 ne286 ov1 MM hlen hys h3 hsec) hZ (hwi hw 40 rfl) (hwi hw 1 rfl) (by decide) (by decide)) (g := (mkF m 219 #[vI (p0), vJ (p1), sS, vI (p2), vR (dl), vI ((Int32.ofNat ys.length)), vR (al), sU] [(.ref al), (.ref b285), (.ref b285)])) rfl (by rw [hml]; rfl) (Steps.refl _) (a := b285) (argsL := [(.ref al)]) (rest := [(.ref b285)]) (lenOf own_pd19 rfl) rfl (by show 2 * 0 + _ ≤ _; exact Nat.le_of_eq rfl) (hb hby at_219) (fun _ _ => ⟨rfl, e285, (by dsimp only [Pt.cells, Pt.slots, room_1]; omega), (by dsimp only [Pt.cells, Pt.slots, room_1]; omega)⟩)
    dsimp only [Pt.U, Pt.locs, Pt.cells, Pt.slots] at X309 l309 y309 z309 st309 hQ309
    subst l309 y309 z309
    obtain ⟨lst_309, b2_309, k2_309, rfl, N309q, K309, lt309_0, lt309_1, P309_0, P309_1, P309_2, P309_3, P309_4⟩ := hQ309
    have N309 := Fr.app N0 N309q
    have ne310 : ∀ i, i < 9 → w i ≠ lst_309 := fun i hi => Nat.ne_of_lt (Nat.lt_of_lt_of_le (F301 i hi).1.lt lt309_0)
    have ne311 : df ≠ lst_309 := Nat.ne_of_lt (Nat.lt_of_lt_of_le F294.lt lt309_0)
    have ne312 : dl ≠ lst_309 := Nat.ne_of_lt (Nat.lt_of_lt_of_le F296.lt lt309_0)
    have ne313 : bd ≠ lst_309 := Nat.ne_of_lt (Nat.lt_of_lt_of_le F298.lt lt309_0)
    have ne314 : em ≠ lst_309 := Nat.ne_of_lt (Nat.lt_of_lt_of_le F300.lt lt309_0)
    have ne315 : al ≠ lst_309 := Nat.ne_of_lt (Nat.lt_of_lt_of_le F302.lt lt309_0)
    have ne316 : b1 ≠ lst_309 := Nat.ne_of_lt (Nat.lt_of_lt_of_le F306.lt lt309_0)
    have ne317 : b285 ≠ lst_309 := Nat.ne_of_lt (Nat.lt_of_lt_of_le A285.lt lt309_0)
    have ge318 : n0 ≤ lst_309 := Nat.le_trans Z285 lt309_0
    have ne319 : ∀ i, i < 9 → w i ≠ b2_309 := fun i hi => Nat.ne_of_lt (Nat.lt_of_lt_of_le (F301 i hi).1.lt lt309_1)
    have ne320 : df ≠ b2_309 := Nat.ne_of_lt (Nat.lt_of_lt_of_le F294.lt lt309_1)
    have ne321 : dl ≠ b2_309 := Nat.ne_of_lt (Nat.lt_of_lt_of_le F296.lt lt309_1)
    have ne322 : bd ≠ b2_309 := Nat.ne_of_lt (Nat.lt_of_lt_of_le F298.lt lt309_1)
    have ne323 : em ≠ b2_309 := Nat.ne_of_lt (Nat.lt_of_lt_of_le F300.lt lt309_1)
    have ne324 : al ≠ b2_309 := Nat.ne_of_lt (Nat.lt_of_lt_of_le F302.lt lt309_1)
    have ne325 : b1 ≠ b2_309 := Nat.ne_of_lt (Nat.lt_of_lt_of_le F306.lt lt309_1)
    have ne326 : b285 ≠ b2_309 := Nat.ne_of_lt (Nat.lt_of_lt_of_le A285.lt lt309_1)
    have ge327 : n0 ≤ b2_309 := Nat.le_trans Z285 lt309_1
    have Z309 : n0 ≤ T309.heap.size := Nat.le_trans Z285 K309.1
    have F328 := own_sta_keep F293 K309 (allS (own_plain A285) all0)
    have F329 := F294.keep K309
    have F330 := F295.keep K309 (ninS ne287 nin0)
    have F331 := F296.keep K309
    have F332 := F297.keep K309 (ninS ne288 nin0)
    have F333 := F298.keep K309 (ninS ne289 nin0)
    have F334 := own_sta_keep F299 K309 (allS (own_plain A285) all0)
    have F335 := F300.keep K309
    have F336 := F301.keep K309 (fun i hi => (ninS (ne286 i hi) nin0))
    have F337 := F302.keep K309
    have F338 := F303.keep K309 (ninS ne291 nin0)
    have F339 := F304.keep K309 (ninS ne291 nin0)
    have F340 := F305.keep K309 (ninS ne291 nin0)
    have F341 := F306.keep K309
    have F342 := F307.keep K309 (ninS ne292 nin0)
    have F343 := A285.keep K309
    refine gs m T309 222 #[vI (p0), vJ (p1), sS, vI (p2), vR (dl), vI ((Int32.ofNat ys.length)), vR (al), sU] [(.ref b285)] (fun _ k => st309.trans k) ?_
    refine gs m T309 224 #[vI (p0), vJ (p1), sS, vI (p2), vR (dl), vI ((Int32.ofNat ys.length)), vR (al), vR (b285)] [] (fun _ k => XS.astore X309.here hx rfl (hb hby at_222) rfl rfl (l' := #[vI (p0), vJ (p1), sS, vI (p2), vR (dl), vI ((Int32.ofNat ys.length)), vR (al), vR (b285)]) rfl k) ?_
    refine gs m T309 225 #[vI (p0), vJ (p1), sS, vI (p2), vR (dl), vI ((Int32.ofNat ys.length)), vR (al), vR (b285)] [(.int p2)] (fun _ k => XS.iloadN X309.here hx rfl (hb hby at_224) rfl  k) ?_
    refine gs m T309 226 #[vI (p0), vJ (p1), sS, vI (p2), vR (dl), vI ((Int32.ofNat ys.length)), vR (al), vR (b285)] [(.int (1 : Int32)), (.int p2)] (fun _ k => XS.iconst X309.here hx rfl (hb hby at_225) k) ?_
    refine gs m T309 227 #[vI (p0), vJ (p1), sS, vI (p2), vR (dl), vI ((Int32.ofNat ys.length)), vR (al), vR (b285)] [(.int (p2 &&& (1 : Int32)))] (fun _ k => XS.iand X309.here hx rfl (hb hby at_226) rfl k) ?_
    by_cases hc344 : (p2 &&& (1 : Int32)) = (0 : Int32)
    · skip
      refine gs m T309 252 #[vI (p0), vJ (p1), sS, vI (p2), vR (dl), vI ((Int32.ofNat ys.length)), vR (al), vR (b285)] [] (fun _ k => XS.ifYes X309.here hx rfl (pc0 := 227) (pc' := 252) rfl (hb hby at_227) rfl ((if0 _ _).trans (teq hc344).1) (by decide) (by decide) k) ?_
      refine gs m T309 254 #[vI (p0), vJ (p1), sS, vI (p2), vR (dl), vI ((Int32.ofNat ys.length)), vR (al), vR (b285)] [(.ref b285)] (fun _ k => XS.aload X309.here hx rfl (hb hby at_252) rfl rfl k) ?_
      obtain ⟨cq345, kq345, q345a, q345b, q345c⟩ := isOf hZ rfl P309_0
      obtain ⟨_, _, ⟨T345, L345, k345, n345⟩, -, X345, ⟨Lc345, hQ345, l345, y345, z345⟩, st345⟩ := X309.virtualBack hx (y := (⟨"com/example/nuthatch/nuthatch/RetrySchedule", "maxAttempts", "()I"⟩ : MethodName)) (z := (⟨"com/example/nuthatch/nuthatch/RetrySchedule", "maxAttempts", "()I"⟩ : MethodName)) hown (mvT hZ (hwi hw 164 rfl)) (mvT hZ (hwi hw 165 rfl)) (notFace_of_selects (args := #[]) (mvT hZ (hwi hw 167 rfl))) (mvT hZ (hwi hw 167 rfl)) (mvT hZ (hwi hw 166 rfl)) (by decide) (backOf (W := 0) (Q := Qret (some (.int ((Int32.ofNat ys.length) + (1 : Int32)))) T309.heap n0) (own_mxag l Z a0 hw [] b285 lst_309 b2_309 k2_309 ys T309.heap n0 Z309 P309_1 P309_2 P309_3 P309_4) hZ (hwi hw 168 rfl) (hwi hw 1 rfl) (by decide) (by decide)) q345a q345c (g := (mkF m 254 #[vI (p0), vJ (p1), sS, vI (p2), vR (dl), vI ((Int32.ofNat ys.length)), vR (al), vR (b285)] [(.ref b285)])) rfl (by rw [hml]; rfl) (Steps.refl _) (argsL := []) (rest := []) (lenOf own_pd13 rfl) rfl (by show 2 * 0 + _ ≤ _; exact Nat.le_of_eq rfl) (hb hby at_254) (fun _ _ => ⟨rfl, rfl, (by dsimp only [Pt.cells, Pt.slots, room_1]; omega), (by dsimp only [Pt.cells, Pt.slots, room_1]; omega)⟩)
      dsimp only [Pt.U, Pt.locs, Pt.cells, Pt.slots] at X345 l345 y345 z345 st345 hQ345
      subst l345 y345 z345
      obtain ⟨rfl, N345q, eh345⟩ := hQ345
      have N345 := Fr.app N309 N345q
      refine gs m T345 257 #[vI (p0), vJ (p1), sS, vI (p2), vR (dl), vI ((Int32.ofNat ys.length)), vR (al), vR (b285)] [(.int ((Int32.ofNat ys.length) + (1 : Int32)))] (fun _ k => st345.trans k) ?_
      refine gs m T345 259 #[vI (p0), vJ (p1), sS, vI (p2), vR (dl), vI ((Int32.ofNat ys.length)), vR (al), vR (b285)] [(.int (Int32.ofNat ys.length)), (.int ((Int32.ofNat ys.length) + (1 : Int32)))] (fun _ k => XS.iload X345.here hx rfl (hb hby at_257) rfl  k) ?_
      refine gs m T345 260 #[vI (p0), vJ (p1), sS, vI (p2), vR (dl), vI ((Int32.ofNat ys.length)), vR (al), vR (b285)] [(.int (1 : Int32)), (.int (Int32.ofNat ys.length)), (.int ((Int32.ofNat ys.length) + (1 : Int32)))] (fun _ k => XS.iconst X345.here hx rfl (hb hby at_259) k) ?_
      refine gs m T345 261 #[vI (p0), vJ (p1), sS, vI (p2), vR (dl), vI ((Int32.ofNat ys.length)), vR (al), vR (b285)] [(.int ((Int32.ofNat ys.length) + (1 : Int32))), (.int ((Int32.ofNat ys.length) + (1 : Int32)))] (fun _ k => XS.iadd X345.here hx rfl (hb hby at_260) rfl k) ?_
      refine gs m T345 264 #[vI (p0), vJ (p1), sS, vI (p2), vR (dl), vI ((Int32.ofNat ys.length)), vR (al), vR (b285)] [] (fun _ k => XS.icmpNo X345.here hx rfl (hb hby at_261) rfl (teq (rfl : ((Int32.ofNat ys.length) + (1 : Int32)) = ((Int32.ofNat ys.length) + (1 : Int32)))).2 k) ?_
      obtain ⟨T346, X346, e346, st346⟩ := getS2 X345 hx hZ hown (host := "") (Or.inl (hwi hw 0 rfl)) Via.refl eh345 F328 (g := (mkF m 264 #[vI (p0), vJ (p1), sS, vI (p2), vR (dl), vI ((Int32.ofNat ys.length)), vR (al), vR (b285)] [])) rfl (hb hby at_264)
      refine gs m T346 267 #[vI (p0), vJ (p1), sS, vI (p2), vR (dl), vI ((Int32.ofNat ys.length)), vR (al), vR (b285)] [(.ref df)] st346 ?_
      obtain ⟨cq347, kq347, q347a, q347b, q347c⟩ := isOf hZ e346 F329
      obtain ⟨_, _, ⟨T347, L347, k347, n347⟩, -, X347, ⟨Lc347, hQ347, l347, y347, z347⟩, st347⟩ := X346.virtualBack hx (y := (⟨"com/example/nuthatch/nuthatch/RetrySchedule", "maxAttempts", "()I"⟩ : MethodName)) (z := (⟨"com/example/nuthatch/nuthatch/RetrySchedule", "maxAttempts", "()I"⟩ : MethodName)) hown (mvT hZ (hwi hw 164 rfl)) (mvT hZ (hwi hw 165 rfl)) (notFace_of_selects (args := #[]) (mvT hZ (hwi hw 167 rfl))) (mvT hZ (hwi hw 167 rfl)) (mvT hZ (hwi hw 166 rfl)) (by decide) (backOf (W := 0) (Q := Qret (some (.int (10 : Int32))) T309.heap n0) (own_mxaw l Z a0 hw [] df dl bd kd w T309.heap n0 Z309 F330 F331 F332 F333) hZ (hwi hw 168 rfl) (hwi hw 1 rfl) (by decide) (by decide)) q347a q347c (g := (mkF m 267 #[vI (p0), vJ (p1), sS, vI (p2), vR (dl), vI ((Int32.ofNat ys.length)), vR (al), vR (b285)] [(.ref df)])) rfl (by rw [hml]; rfl) (Steps.refl _) (argsL := []) (rest := []) (lenOf own_pd13 rfl) rfl (by show 2 * 0 + _ ≤ _; exact Nat.le_of_eq rfl) (hb hby at_267) (fun _ _ => ⟨rfl, e346, (by dsimp only [Pt.cells, Pt.slots, room_1]; omega), (by dsimp only [Pt.cells, Pt.slots, room_1]; omega)⟩)
      dsimp only [Pt.U, Pt.locs, Pt.cells, Pt.slots] at X347 l347 y347 z347 st347 hQ347
      subst l347 y347 z347
      obtain ⟨rfl, N347q, eh347⟩ := hQ347
      have N347 := Fr.app N345 N347q
      refine gs m T347 270 #[vI (p0), vJ (p1), sS, vI (p2), vR (dl), vI ((Int32.ofNat ys.length)), vR (al), vR (b285)] [(.int (10 : Int32))] (fun _ k => st347.trans k) ?_
      refine gs m T347 272 #[vI (p0), vJ (p1), sS, vI (p2), vR (dl), vI ((Int32.ofNat ys.length)), vR (al), vR (b285)] [(.int (10 : Int32)), (.int (10 : Int32))] (fun _ k => XS.bipush X347.here hx rfl (hb hby at_270) k) ?_
      refine gs m T347 275 #[vI (p0), vJ (p1), sS, vI (p2), vR (dl), vI ((Int32.ofNat ys.length)), vR (al), vR (b285)] [] (fun _ k => XS.icmpNo X347.here hx rfl (hb hby at_272) rfl (teq (by decide : (10 : Int32) = (10 : Int32))).2 k) ?_
      refine gs m T347 276 #[vI (p0), vJ (p1), sS, vI (p2), vR (dl), vI ((Int32.ofNat ys.length)), vR (al), vR (b285)] [(.int (1 : Int32))] (fun _ k => XS.iconst X347.here hx rfl (hb hby at_275) k) ?_
      refine gs m T347 280 #[vI (p0), vJ (p1), sS, vI (p2), vR (dl), vI ((Int32.ofNat ys.length)), vR (al), vR (b285)] [(.int (1 : Int32))] (fun _ k => XS.goto X347.here hx rfl (pc0 := 276) (pc' := 280) rfl (hb hby at_276) (by decide) (by decide) k) ?_
      exact Go.retN X347 hx (t := .boolean) hret hlk (by simp) (hb hby at_280) (⟨rfl, N347⟩) (by omega) (by omega)
    · skip
      refine gs m T309 230 #[vI (p0), vJ (p1), sS, vI (p2), vR (dl), vI ((Int32.ofNat ys.length)), vR (al), vR (b285)] [] (fun _ k => XS.ifNo X309.here hx rfl (hb hby at_227) rfl ((if0 _ _).trans (feq hc344).1) k) ?_
      refine gs m T309 232 #[vI (p0), vJ (p1), sS, vI (p2), vR (dl), vI ((Int32.ofNat ys.length)), vR (al), vR (b285)] [(.ref al)] (fun _ k => XS.aload X309.here hx rfl (hb hby at_230) rfl rfl k) ?_
      refine gs m T309 234 #[vI (p0), vJ (p1), sS, vI (p2), vR (dl), vI ((Int32.ofNat ys.length)), vR (al), vR (b285)] [(.ref dl), (.ref al)] (fun _ k => XS.aload X309.here hx rfl (hb hby at_232) rfl rfl k) ?_
      refine gs m T309 235 #[vI (p0), vJ (p1), sS, vI (p2), vR (dl), vI ((Int32.ofNat ys.length)), vR (al), vR (b285)] [(.long p1), (.ref dl), (.ref al)] (fun _ k => XS.lloadN X309.here hx rfl (hb hby at_234) rfl  k) ?_
      refine gs m T309 237 #[vI (p0), vJ (p1), sS, vI (p2), vR (dl), vI ((Int32.ofNat ys.length)), vR (al), vR (b285)] [(.int (7 : Int32)), (.long p1), (.ref dl), (.ref al)] (fun _ k => XS.bipush X309.here hx rfl (hb hby at_235) k) ?_
      obtain ⟨_, _, ⟨T348, L348, k348, n348⟩, -, X348, ⟨Lc348, hQ348, l348, y348, z348⟩, st348⟩ := Jvm.LawKit.callS X309 hx (y := (⟨"com/example/nuthatch/nuthatch/RetryScheduleMaxAttemptsPinLaw", "pick", "(JI)I"⟩ : MethodName)) hown (mvT hZ (hwi hw 120 rfl)) (mvT hZ (hwi hw 121 rfl)) (mvT hZ (hwi hw 122 rfl)) (mvT hZ (hwi hw 123 rfl)) (by decide) (backOf (W := 2) (Q := fun v h L => ∃ iq : Nat, (v = some (.int (Int32.ofNat iq))) ∧ (Fr n0 L) ∧ (h = T309.heap) ∧ (iq < 9)) (own_pick l Z a0 hw [] p1 (7 : Int32) T309.heap n0 Z309 ) hZ (hwi hw 123 rfl) (hwi hw 122 rfl) (by decide) (by decide)) (g := (mkF m 237 #[vI (p0), vJ (p1), sS, vI (p2), vR (dl), vI ((Int32.ofNat ys.length)), vR (al), vR (b285)] [(.int (7 : Int32)), (.long p1), (.ref dl), (.ref al)])) rfl (by rw [hml]; rfl) (argsL := [(.long p1), (.int (7 : Int32))]) (rest := [(.ref dl), (.ref al)]) (lenOf own_pd20 rfl) rfl (by show 2 * 0 + _ ≤ _; exact Nat.le_of_eq rfl) (hb hby at_237) (fun _ _ => ⟨rfl, rfl, (by dsimp only [Pt.cells, Pt.slots, room_1]; omega), (by dsimp only [Pt.cells, Pt.slots, room_1]; omega)⟩)
      dsimp only [Pt.U, Pt.locs, Pt.cells, Pt.slots] at X348 l348 y348 z348 st348 hQ348
      subst l348 y348 z348
      obtain ⟨iq_348, rfl, N348q, eh348, R348_0⟩ := hQ348
      have N348 := Fr.app N309 N348q
      refine gs m T348 240 #[vI (p0), vJ (p1), sS, vI (p2), vR (dl), vI ((Int32.ofNat ys.length)), vR (al), vR (b285)] [(.int (Int32.ofNat iq_348)), (.ref dl), (.ref al)] (st348) ?_
      obtain ⟨cq349, kq349, q349a, q349b, q349c⟩ := isOf hZ eh348 F331
      obtain ⟨_, _, ⟨T349, L349, k349, n349⟩, -, X349, ⟨Lc349, hQ349, l349, y349, z349⟩, st349⟩ := X348.interfaceBack hx (xi := (⟨"java/util/List", "get", "(I)Ljava/lang/Object;"⟩ : MethodName)) (y := (⟨"java/util/ImmutableCollections$ListN", "get", "(I)Ljava/lang/Object;"⟩ : MethodName)) hown (mvT hZ (hwi hw 125 rfl)) (mvT hZ (hwi hw 126 rfl)) (mvT hZ (hwi hw 127 rfl)) (mvT hZ (hwi hw 128 rfl)) (mvT hZ (hwi hw 129 rfl)) (mvT hZ (hwi hw 130 rfl)) (mvT hZ (hwi hw 131 rfl)) (mvT hZ (hwi hw 83 rfl)) (by decide) (backOf (W := 1) (Q := Qret (some (.ref (w iq_348))) T309.heap n0) (own_getw l Z a0 hw [] dl bd kd w iq_348 T309.heap n0 Z309 F331 F332 F333 R348_0) hZ (hwi hw 132 rfl) (hwi hw 94 rfl) (by decide) (by decide)) q349a q349b q349c (g := (mkF m 240 #[vI (p0), vJ (p1), sS, vI (p2), vR (dl), vI ((Int32.ofNat ys.length)), vR (al), vR (b285)] [(.int (Int32.ofNat iq_348)), (.ref dl), (.ref al)])) rfl (by rw [hml]; rfl) (Steps.refl _) (argsL := [(.int (Int32.ofNat iq_348))]) (rest := [(.ref al)]) (lenOf own_pd15 rfl) rfl (by show 2 * 0 + _ ≤ _; exact Nat.le_of_eq rfl) (hb hby at_240) (fun _ _ => ⟨rfl, eh348, (by dsimp only [Pt.cells, Pt.slots, room_1]; omega), (by dsimp only [Pt.cells, Pt.slots, room_1]; omega)⟩)
      dsimp only [Pt.U, Pt.locs, Pt.cells, Pt.slots] at X349 l349 y349 z349 st349 hQ349
      subst l349 y349 z349
      obtain ⟨rfl, N349q, eh349⟩ := hQ349
      have N349 := Fr.app N348 N349q
      refine gs m T349 245 #[vI (p0), vJ (p1), sS, vI (p2), vR (dl), vI ((Int32.ofNat ys.length)), vR (al), vR (b285)] [(.ref (w iq_348)), (.ref al)] (fun _ k => st349.trans k) ?_
      have Ew350 : Exa Z T309.heap (w iq_348) "java/time/Duration" := (F336 iq_348 R348_0).1
      obtain ⟨T351, X351, e351, st351⟩ := castY X349 hx hZ hown (hwi hw 133 rfl) eh349 (Ins.self Ew350) (g := (mkF m 245 #[vI (p0), vJ (p1), sS, vI (p2), vR (dl), vI ((Int32.ofNat ys.length)), vR (al), vR (b285)] [(.ref (w iq_348)), (.ref al)])) rfl rfl (hb hby at_245)
      refine gs m T351 248 #[vI (p0), vJ (p1), sS, vI (p2), vR (dl), vI ((Int32.ofNat ys.length)), vR (al), vR (b285)] [(.ref (w iq_348)), (.ref al)] st351 ?_
      obtain ⟨cq352, kq352, q352a, q352b, q352c⟩ := isOf hZ e351 F337
      obtain ⟨_, _, ⟨T352, L352, k352, n352⟩, -, X352, ⟨Lc352, hQ352, l352, y352, z352⟩, st352⟩ := X351.virtualBack hx (y := (⟨"java/util/ArrayList", "add", "(Ljava/lang/Object;)Z"⟩ : MethodName)) (z := (⟨"java/util/ArrayList", "add", "(Ljava/lang/Object;)Z"⟩ : MethodName)) hown (mvT hZ (hwi hw 135 rfl)) (mvT hZ (hwi hw 136 rfl)) (notFace_of_selects (args := #[]) (mvT hZ (hwi hw 138 rfl))) (mvT hZ (hwi hw 138 rfl)) (mvT hZ (hwi hw 137 rfl)) (by decide) (backOf (W := 0) (Q := fun v h L => (v = some (.int (1 : Int32))) ∧ (Fr n0 L) ∧ (Keep T309.heap h [al, b1]) ∧ (Exa Z h al "java/util/ArrayList") ∧ (Fld Z h al "java/util/AbstractList" "modCount" "I" (.int (mc + (1 : Int32)))) ∧ (Fld Z h al "java/util/ArrayList" "elementData" "[Ljava/lang/Object;" (.ref b1)) ∧ (Fld Z h al "java/util/ArrayList" "size" "I" (.int (Int32.ofNat (ys ++ [(w iq_348)]).length))) ∧ (Exa Z h b1 "[Ljava/lang/Object;") ∧ (Arv Z h b1 k1 (.object "java/lang/Object") (10 : Int32) (own_AV (ys ++ [(w iq_348)])) .null)) (own_addg l Z a0 hw [] al (w iq_348) b1 k1 mc ys T309.heap n0 Z309 F337 f10 F338 F339 F340 F341 f15 f17 F342 Ew350 ov1 (by omega)) hZ (hwi hw 139 rfl) (hwi hw 12 rfl) (by decide) (by decide)) q352a q352c (g := (mkF m 248 #[vI (p0), vJ (p1), sS, vI (p2), vR (dl), vI ((Int32.ofNat ys.length)), vR (al), vR (b285)] [(.ref (w iq_348)), (.ref al)])) rfl (by rw [hml]; rfl) (Steps.refl _) (argsL := [(.ref (w iq_348))]) (rest := []) (lenOf own_pd21 rfl) rfl (by show 2 * 0 + _ ≤ _; exact Nat.le_of_eq rfl) (hb hby at_248) (fun _ _ => ⟨rfl, e351, (by dsimp only [Pt.cells, Pt.slots, room_1]; omega), (by dsimp only [Pt.cells, Pt.slots, room_1]; omega)⟩)
      dsimp only [Pt.U, Pt.locs, Pt.cells, Pt.slots] at X352 l352 y352 z352 st352 hQ352
      subst l352 y352 z352
      obtain ⟨rfl, N352q, K352, P352_0, P352_1, P352_2, P352_3, P352_4, P352_5⟩ := hQ352
      have N352 := Fr.app N349 N352q
      have Z352 : n0 ≤ T352.heap.size := Nat.le_trans Z309 K352.1
      have F353 := own_sta_keep F328 K352 (allS (own_plain F337) (allS (own_plain F341) all0))
      have F354 := F329.keep K352
      have F355 := F330.keep K352 (ninS f18 (ninS f19 nin0))
      have F356 := F331.keep K352
      have F357 := F332.keep K352 (ninS f20 (ninS f21 nin0))
      have F358 := F333.keep K352 (ninS f22 (ninS f23 nin0))
      have F359 := own_sta_keep F334 K352 (allS (own_plain F337) (allS (own_plain F341) all0))
      have F360 := F335.keep K352
      have F361 := F336.keep K352 (fun i hi => (ninS (f24 i hi) (ninS (f25 i hi) nin0)))
      have F362 := F337.keep K352
      have F363 := F341.keep K352
      have F364 := P309_0.keep K352
      have F365 := P309_1.keep K352 (ninS (Ne.symm ne291) (ninS (Ne.symm ne292) nin0))
      have F366 := P309_2.keep K352
      have F367 := P309_3.keep K352 (ninS (Ne.symm ne315) (ninS (Ne.symm ne316) nin0))
      have F368 := P309_4.keep K352 (ninS (Ne.symm ne324) (ninS (Ne.symm ne325) nin0))
      have F369 := Ew350.keep K352
      refine gs m T352 251 #[vI (p0), vJ (p1), sS, vI (p2), vR (dl), vI ((Int32.ofNat ys.length)), vR (al), vR (b285)] [(.int (1 : Int32))] (fun _ k => st352.trans k) ?_
      refine gs m T352 252 #[vI (p0), vJ (p1), sS, vI (p2), vR (dl), vI ((Int32.ofNat ys.length)), vR (al), vR (b285)] [] (fun _ k => XS.pop X352.here hx rfl (hb hby at_251) rfl rfl k) ?_
      refine gs m T352 254 #[vI (p0), vJ (p1), sS, vI (p2), vR (dl), vI ((Int32.ofNat ys.length)), vR (al), vR (b285)] [(.ref b285)] (fun _ k => XS.aload X352.here hx rfl (hb hby at_252) rfl rfl k) ?_
      obtain ⟨cq370, kq370, q370a, q370b, q370c⟩ := isOf hZ rfl F364
      obtain ⟨_, _, ⟨T370, L370, k370, n370⟩, -, X370, ⟨Lc370, hQ370, l370, y370, z370⟩, st370⟩ := X352.virtualBack hx (y := (⟨"com/example/nuthatch/nuthatch/RetrySchedule", "maxAttempts", "()I"⟩ : MethodName)) (z := (⟨"com/example/nuthatch/nuthatch/RetrySchedule", "maxAttempts", "()I"⟩ : MethodName)) hown (mvT hZ (hwi hw 164 rfl)) (mvT hZ (hwi hw 165 rfl)) (notFace_of_selects (args := #[]) (mvT hZ (hwi hw 167 rfl))) (mvT hZ (hwi hw 167 rfl)) (mvT hZ (hwi hw 166 rfl)) (by decide) (backOf (W := 0) (Q := Qret (some (.int ((Int32.ofNat ys.length) + (1 : Int32)))) T352.heap n0) (own_mxag l Z a0 hw [] b285 lst_309 b2_309 k2_309 ys T352.heap n0 Z352 F365 F366 F367 F368) hZ (hwi hw 168 rfl) (hwi hw 1 rfl) (by decide) (by decide)) q370a q370c (g := (mkF m 254 #[vI (p0), vJ (p1), sS, vI (p2), vR (dl), vI ((Int32.ofNat ys.length)), vR (al), vR (b285)] [(.ref b285)])) rfl (by rw [hml]; rfl) (Steps.refl _) (argsL := []) (rest := []) (lenOf own_pd13 rfl) rfl (by show 2 * 0 + _ ≤ _; exact Nat.le_of_eq rfl) (hb hby at_254) (fun _ _ => ⟨rfl, rfl, (by dsimp only [Pt.cells, Pt.slots, room_1]; omega), (by dsimp only [Pt.cells, Pt.slots, room_1]; omega)⟩)
      dsimp only [Pt.U, Pt.locs, Pt.cells, Pt.slots] at X370 l370 y370 z370 st370 hQ370
      subst l370 y370 z370
      obtain ⟨rfl, N370q, eh370⟩ := hQ370
      have N370 := Fr.app N352 N370q
      refine gs m T370 257 #[vI (p0), vJ (p1), sS, vI (p2), vR (dl), vI ((Int32.ofNat ys.length)), vR (al), vR (b285)] [(.int ((Int32.ofNat ys.length) + (1 : Int32)))] (fun _ k => st370.trans k) ?_
      refine gs m T370 259 #[vI (p0), vJ (p1), sS, vI (p2), vR (dl), vI ((Int32.ofNat ys.length)), vR (al), vR (b285)] [(.int (Int32.ofNat ys.length)), (.int ((Int32.ofNat ys.length) + (1 : Int32)))] (fun _ k => XS.iload X370.here hx rfl (hb hby at_257) rfl  k) ?_
      refine gs m T370 260 #[vI (p0), vJ (p1), sS, vI (p2), vR (dl), vI ((Int32.ofNat ys.length)), vR (al), vR (b285)] [(.int (1 : Int32)), (.int (Int32.ofNat ys.length)), (.int ((Int32.ofNat ys.length) + (1 : Int32)))] (fun _ k => XS.iconst X370.here hx rfl (hb hby at_259) k) ?_
      refine gs m T370 261 #[vI (p0), vJ (p1), sS, vI (p2), vR (dl), vI ((Int32.ofNat ys.length)), vR (al), vR (b285)] [(.int ((Int32.ofNat ys.length) + (1 : Int32))), (.int ((Int32.ofNat ys.length) + (1 : Int32)))] (fun _ k => XS.iadd X370.here hx rfl (hb hby at_260) rfl k) ?_
      refine gs m T370 264 #[vI (p0), vJ (p1), sS, vI (p2), vR (dl), vI ((Int32.ofNat ys.length)), vR (al), vR (b285)] [] (fun _ k => XS.icmpNo X370.here hx rfl (hb hby at_261) rfl (teq (rfl : ((Int32.ofNat ys.length) + (1 : Int32)) = ((Int32.ofNat ys.length) + (1 : Int32)))).2 k) ?_
      obtain ⟨T371, X371, e371, st371⟩ := getS2 X370 hx hZ hown (host := "") (Or.inl (hwi hw 0 rfl)) Via.refl eh370 F353 (g := (mkF m 264 #[vI (p0), vJ (p1), sS, vI (p2), vR (dl), vI ((Int32.ofNat ys.length)), vR (al), vR (b285)] [])) rfl (hb hby at_264)
      refine gs m T371 267 #[vI (p0), vJ (p1), sS, vI (p2), vR (dl), vI ((Int32.ofNat ys.length)), vR (al), vR (b285)] [(.ref df)] st371 ?_
      obtain ⟨cq372, kq372, q372a, q372b, q372c⟩ := isOf hZ e371 F354
      obtain ⟨_, _, ⟨T372, L372, k372, n372⟩, -, X372, ⟨Lc372, hQ372, l372, y372, z372⟩, st372⟩ := X371.virtualBack hx (y := (⟨"com/example/nuthatch/nuthatch/RetrySchedule", "maxAttempts", "()I"⟩ : MethodName)) (z := (⟨"com/example/nuthatch/nuthatch/RetrySchedule", "maxAttempts", "()I"⟩ : MethodName)) hown (mvT hZ (hwi hw 164 rfl)) (mvT hZ (hwi hw 165 rfl)) (notFace_of_selects (args := #[]) (mvT hZ (hwi hw 167 rfl))) (mvT hZ (hwi hw 167 rfl)) (mvT hZ (hwi hw 166 rfl)) (by decide) (backOf (W := 0) (Q := Qret (some (.int (10 : Int32))) T352.heap n0) (own_mxaw l Z a0 hw [] df dl bd kd w T352.heap n0 Z352 F355 F356 F357 F358) hZ (hwi hw 168 rfl) (hwi hw 1 rfl) (by decide) (by decide)) q372a q372c (g := (mkF m 267 #[vI (p0), vJ (p1), sS, vI (p2), vR (dl), vI ((Int32.ofNat ys.length)), vR (al), vR (b285)] [(.ref df)])) rfl (by rw [hml]; rfl) (Steps.refl _) (argsL := []) (rest := []) (lenOf own_pd13 rfl) rfl (by show 2 * 0 + _ ≤ _; exact Nat.le_of_eq rfl) (hb hby at_267) (fun _ _ => ⟨rfl, e371, (by dsimp only [Pt.cells, Pt.slots, room_1]; omega), (by dsimp only [Pt.cells, Pt.slots, room_1]; omega)⟩)
      dsimp only [Pt.U, Pt.locs, Pt.cells, Pt.slots] at X372 l372 y372 z372 st372 hQ372
      subst l372 y372 z372
      obtain ⟨rfl, N372q, eh372⟩ := hQ372
      have N372 := Fr.app N370 N372q
      refine gs m T372 270 #[vI (p0), vJ (p1), sS, vI (p2), vR (dl), vI ((Int32.ofNat ys.length)), vR (al), vR (b285)] [(.int (10 : Int32))] (fun _ k => st372.trans k) ?_
      refine gs m T372 272 #[vI (p0), vJ (p1), sS, vI (p2), vR (dl), vI ((Int32.ofNat ys.length)), vR (al), vR (b285)] [(.int (10 : Int32)), (.int (10 : Int32))] (fun _ k => XS.bipush X372.here hx rfl (hb hby at_270) k) ?_
      refine gs m T372 275 #[vI (p0), vJ (p1), sS, vI (p2), vR (dl), vI ((Int32.ofNat ys.length)), vR (al), vR (b285)] [] (fun _ k => XS.icmpNo X372.here hx rfl (hb hby at_272) rfl (teq (by decide : (10 : Int32) = (10 : Int32))).2 k) ?_
      refine gs m T372 276 #[vI (p0), vJ (p1), sS, vI (p2), vR (dl), vI ((Int32.ofNat ys.length)), vR (al), vR (b285)] [(.int (1 : Int32))] (fun _ k => XS.iconst X372.here hx rfl (hb hby at_275) k) ?_
      refine gs m T372 280 #[vI (p0), vJ (p1), sS, vI (p2), vR (dl), vI ((Int32.ofNat ys.length)), vR (al), vR (b285)] [(.int (1 : Int32))] (fun _ k => XS.goto X372.here hx rfl (pc0 := 276) (pc' := 280) rfl (hb hby at_276) (by decide) (by decide) k) ?_
      exact Go.retN X372 hx (t := .boolean) hret hlk (by simp) (hb hby at_280) (⟨rfl, N372⟩) (by omega) (by omega)
theorem own_s6 {pgm : Program} {l : Launch} {e : Env} {s : State} {m : MethodId} {args : Array Value} {below : List Frame} {meth : Method} {c : Code} {T0 : State} {locs : List Loc} {cells slots : Nat} {Z : State} {a0 : Array Value} {h0 : Heap} {n0 : Nat} (p0 : Int32) (p1 : Int64) (p2 : Int32) (df : Addr) (dl : Addr) (bd : Addr) (kd : ClassId) (em : Addr) (w : Nat → Addr) (sec : Nat → Int64) (n : Int32) (kn : Nat) (al : Addr) (mc : Int32) (b1 : Addr) (k1 : ClassId) (ys : List Addr)
    (X0 : Stand pgm l e room_1 s m args below meth c T0 locs cells slots) (hx : pgm.tables.exec = Jvm.exec) (hZ : Z.Warmed39 s.vm) (hw : ∀ d ∈ tables_1, d.before a0 Z = true) (hby : c.code = code) (hml : c.maxLocals = maxLocals) (hown : s.vm.findClass "com/example/nuthatch/nuthatch/RetryScheduleMaxAttemptsPinLaw" = some m.cls) (hret : meth.sig.returnType = ret) (hlk : meth.locks = false) (e0 : T0.heap = h0) (N0 : Fr n0 locs) (Z0 : n0 ≤ h0.size) (hcells : cells ≤ 3) (hslots : slots ≤ 40) (f0 : Sta Z h0 "com/example/nuthatch/nuthatch/RetrySchedule" "DEFAULT" "Lcom/example/nuthatch/nuthatch/RetrySchedule;" (.ref df)) (f1 : Exa Z h0 df "com/example/nuthatch/nuthatch/RetrySchedule") (f2 : Fld Z h0 df "com/example/nuthatch/nuthatch/RetrySchedule" "delays" "Ljava/util/List;" (.ref dl)) (f3 : Exa Z h0 dl "java/util/ImmutableCollections$ListN") (f4 : Fld Z h0 dl "java/util/ImmutableCollections$ListN" "elements" "[Ljava/lang/Object;" (.ref bd)) (f5 : Arv Z h0 bd kd (.object "java/lang/Object") (9 : Int32) (own_W w) .null) (f6 : Sta Z h0 "java/util/ImmutableCollections" "EMPTY" "Ljava/lang/Object;" (.ref em)) (f7 : Exa Z h0 em "java/lang/Object") (f8 : UW Z h0 w sec) (f9 : Exa Z h0 al "java/util/ArrayList") (f10 : n0 ≤ al) (f11 : Fld Z h0 al "java/util/AbstractList" "modCount" "I" (.int mc)) (f12 : Fld Z h0 al "java/util/ArrayList" "elementData" "[Ljava/lang/Object;" (.ref b1)) (f13 : Fld Z h0 al "java/util/ArrayList" "size" "I" (.int (Int32.ofNat ys.length))) (f14 : Exa Z h0 b1 "[Ljava/lang/Object;") (f15 : n0 ≤ b1) (f16 : Arv Z h0 b1 k1 (.object "java/lang/Object") (10 : Int32) (own_AV ys) .null) (f17 : al ≠ b1) (f18 : df ≠ al) (f19 : df ≠ b1) (f20 : dl ≠ al) (f21 : dl ≠ b1) (f22 : bd ≠ al) (f23 : bd ≠ b1) (f24 : ∀ i, i < 9 → w i ≠ al) (f25 : ∀ i, i < 9 → w i ≠ b1) (hnk : n = Int32.ofNat kn) (hk7 : kn ≤ 7) (hk1 : 1 ≤ kn) (hyl : ys.length = min kn 6) (hys : ∀ y ∈ ys, ∃ i, i < 9 ∧ y = w i) (hsec : ∀ i, i < 9 → ¬ lcmpW (sec i) (0 : Int64) < (0 : Int32)) (ov1 : Ovr Z k1 "java/lang/Object") (MM : MirrorMade Z "[Ljava/lang/Object;") :
    Go pgm e below s (Q0 n0) 24 192 T0 (mkF m 184 #[vI (p0), vJ (p1), sS, vI (p2), vR (dl), vI (n), vR (al), sU] []) := by
  refine gs m T0 186 #[vI (p0), vJ (p1), sS, vI (p2), vR (dl), vI (n), vR (al), sU] [(.int n)] (fun _ k => XS.iload X0.here hx rfl (hb hby at_184) rfl  k) ?_
  refine gs m T0 188 #[vI (p0), vJ (p1), sS, vI (p2), vR (dl), vI (n), vR (al), sU] [(.int (6 : Int32)), (.int n)] (fun _ k => XS.bipush X0.here hx rfl (hb hby at_186) k) ?_
  by_cases hc101 : (6 : Int32) < n
  · skip
    refine gs m T0 191 #[vI (p0), vJ (p1), sS, vI (p2), vR (dl), vI (n), vR (al), sU] [] (fun _ k => XS.icmpNo X0.here hx rfl (hb hby at_188) rfl (tlt hc101).2.2.2 k) ?_
    refine gs m T0 193 #[vI (p0), vJ (p1), sS, vI (p2), vR (dl), vI (n), vR (al), sU] [(.ref al)] (fun _ k => XS.aload X0.here hx rfl (hb hby at_191) rfl rfl k) ?_
    refine gs m T0 195 #[vI (p0), vJ (p1), sS, vI (p2), vR (dl), vI (n), vR (al), sU] [(.ref dl), (.ref al)] (fun _ k => XS.aload X0.here hx rfl (hb hby at_193) rfl rfl k) ?_
    refine gs m T0 196 #[vI (p0), vJ (p1), sS, vI (p2), vR (dl), vI (n), vR (al), sU] [(.long p1), (.ref dl), (.ref al)] (fun _ k => XS.lloadN X0.here hx rfl (hb hby at_195) rfl  k) ?_
    refine gs m T0 198 #[vI (p0), vJ (p1), sS, vI (p2), vR (dl), vI (n), vR (al), sU] [(.int (6 : Int32)), (.long p1), (.ref dl), (.ref al)] (fun _ k => XS.bipush X0.here hx rfl (hb hby at_196) k) ?_
    obtain ⟨_, _, ⟨T102, L102, k102, n102⟩, -, X102, ⟨Lc102, hQ102, l102, y102, z102⟩, st102⟩ := Jvm.LawKit.callS X0 hx (y := (⟨"com/example/nuthatch/nuthatch/RetryScheduleMaxAttemptsPinLaw", "pick", "(JI)I"⟩ : MethodName)) hown (mvT hZ (hwi hw 120 rfl)) (mvT hZ (hwi hw 121 rfl)) (mvT hZ (hwi hw 122 rfl)) (mvT hZ (hwi hw 123 rfl)) (by decide) (backOf (W := 2) (Q := fun v h L => ∃ iq : Nat, (v = some (.int (Int32.ofNat iq))) ∧ (Fr n0 L) ∧ (h = h0) ∧ (iq < 9)) (own_pick l Z a0 hw [] p1 (6 : Int32) h0 n0 Z0 ) hZ (hwi hw 123 rfl) (hwi hw 122 rfl) (by decide) (by decide)) (g := (mkF m 198 #[vI (p0), vJ (p1), sS, vI (p2), vR (dl), vI (n), vR (al), sU] [(.int (6 : Int32)), (.long p1), (.ref dl), (.ref al)])) rfl (by rw [hml]; rfl) (argsL := [(.long p1), (.int (6 : Int32))]) (rest := [(.ref dl), (.ref al)]) (lenOf own_pd20 rfl) rfl (by show 2 * 0 + _ ≤ _; exact Nat.le_of_eq rfl) (hb hby at_198) (fun _ _ => ⟨rfl, e0, (by dsimp only [Pt.cells, Pt.slots, room_1]; omega), (by dsimp only [Pt.cells, Pt.slots, room_1]; omega)⟩)
    dsimp only [Pt.U, Pt.locs, Pt.cells, Pt.slots] at X102 l102 y102 z102 st102 hQ102
    subst l102 y102 z102
    obtain ⟨iq_102, rfl, N102q, eh102, R102_0⟩ := hQ102
    have N102 := Fr.app N0 N102q
    refine gs m T102 201 #[vI (p0), vJ (p1), sS, vI (p2), vR (dl), vI (n), vR (al), sU] [(.int (Int32.ofNat iq_102)), (.ref dl), (.ref al)] (st102) ?_
    obtain ⟨cq103, kq103, q103a, q103b, q103c⟩ := isOf hZ eh102 f3
    obtain ⟨_, _, ⟨T103, L103, k103, n103⟩, -, X103, ⟨Lc103, hQ103, l103, y103, z103⟩, st103⟩ := X102.interfaceBack hx (xi := (⟨"java/util/List", "get", "(I)Ljava/lang/Object;"⟩ : MethodName)) (y := (⟨"java/util/ImmutableCollections$ListN", "get", "(I)Ljava/lang/Object;"⟩ : MethodName)) hown (mvT hZ (hwi hw 125 rfl)) (mvT hZ (hwi hw 126 rfl)) (mvT hZ (hwi hw 127 rfl)) (mvT hZ (hwi hw 128 rfl)) (mvT hZ (hwi hw 129 rfl)) (mvT hZ (hwi hw 130 rfl)) (mvT hZ (hwi hw 131 rfl)) (mvT hZ (hwi hw 83 rfl)) (by decide) (backOf (W := 1) (Q := Qret (some (.ref (w iq_102))) h0 n0) (own_getw l Z a0 hw [] dl bd kd w iq_102 h0 n0 Z0 f3 f4 f5 R102_0) hZ (hwi hw 132 rfl) (hwi hw 94 rfl) (by decide) (by decide)) q103a q103b q103c (g := (mkF m 201 #[vI (p0), vJ (p1), sS, vI (p2), vR (dl), vI (n), vR (al), sU] [(.int (Int32.ofNat iq_102)), (.ref dl), (.ref al)])) rfl (by rw [hml]; rfl) (Steps.refl _) (argsL := [(.int (Int32.ofNat iq_102))]) (rest := [(.ref al)]) (lenOf own_pd15 rfl) rfl (by show 2 * 0 + _ ≤ _; exact Nat.le_of_eq rfl) (hb hby at_201) (fun _ _ => ⟨rfl, eh102, (by dsimp only [Pt.cells, Pt.slots, room_1]; omega), (by dsimp only [Pt.cells, Pt.slots, room_1]; omega)⟩)
    dsimp only [Pt.U, Pt.locs, Pt.cells, Pt.slots] at X103 l103 y103 z103 st103 hQ103
    subst l103 y103 z103
    obtain ⟨rfl, N103q, eh103⟩ := hQ103
    have N103 := Fr.app N102 N103q
    refine gs m T103 206 #[vI (p0), vJ (p1), sS, vI (p2), vR (dl), vI (n), vR (al), sU] [(.ref (w iq_102)), (.ref al)] (fun _ k => st103.trans k) ?_
    have Ew104 : Exa Z h0 (w iq_102) "java/time/Duration" := (f8 iq_102 R102_0).1
    obtain ⟨T105, X105, e105, st105⟩ := castY X103 hx hZ hown (hwi hw 133 rfl) eh103 (Ins.self Ew104) (g := (mkF m 206 #[vI (p0), vJ (p1), sS, vI (p2), vR (dl), vI (n), vR (al), sU] [(.ref (w iq_102)), (.ref al)])) rfl rfl (hb hby at_206)
    refine gs m T105 209 #[vI (p0), vJ (p1), sS, vI (p2), vR (dl), vI (n), vR (al), sU] [(.ref (w iq_102)), (.ref al)] st105 ?_
    obtain ⟨cq106, kq106, q106a, q106b, q106c⟩ := isOf hZ e105 f9
    obtain ⟨_, _, ⟨T106, L106, k106, n106⟩, -, X106, ⟨Lc106, hQ106, l106, y106, z106⟩, st106⟩ := X105.virtualBack hx (y := (⟨"java/util/ArrayList", "add", "(Ljava/lang/Object;)Z"⟩ : MethodName)) (z := (⟨"java/util/ArrayList", "add", "(Ljava/lang/Object;)Z"⟩ : MethodName)) hown (mvT hZ (hwi hw 135 rfl)) (mvT hZ (hwi hw 136 rfl)) (notFace_of_selects (args := #[]) (mvT hZ (hwi hw 138 rfl))) (mvT hZ (hwi hw 138 rfl)) (mvT hZ (hwi hw 137 rfl)) (by decide) (backOf (W := 0) (Q := fun v h L => (v = some (.int (1 : Int32))) ∧ (Fr n0 L) ∧ (Keep h0 h [al, b1]) ∧ (Exa Z h al "java/util/ArrayList") ∧ (Fld Z h al "java/util/AbstractList" "modCount" "I" (.int (mc + (1 : Int32)))) ∧ (Fld Z h al "java/util/ArrayList" "elementData" "[Ljava/lang/Object;" (.ref b1)) ∧ (Fld Z h al "java/util/ArrayList" "size" "I" (.int (Int32.ofNat (ys ++ [(w iq_102)]).length))) ∧ (Exa Z h b1 "[Ljava/lang/Object;") ∧ (Arv Z h b1 k1 (.object "java/lang/Object") (10 : Int32) (own_AV (ys ++ [(w iq_102)])) .null)) (own_addg l Z a0 hw [] al (w iq_102) b1 k1 mc ys h0 n0 Z0 f9 f10 f11 f12 f13 f14 f15 f17 f16 Ew104 ov1 (by omega)) hZ (hwi hw 139 rfl) (hwi hw 12 rfl) (by decide) (by decide)) q106a q106c (g := (mkF m 209 #[vI (p0), vJ (p1), sS, vI (p2), vR (dl), vI (n), vR (al), sU] [(.ref (w iq_102)), (.ref al)])) rfl (by rw [hml]; rfl) (Steps.refl _) (argsL := [(.ref (w iq_102))]) (rest := []) (lenOf own_pd21 rfl) rfl (by show 2 * 0 + _ ≤ _; exact Nat.le_of_eq rfl) (hb hby at_209) (fun _ _ => ⟨rfl, e105, (by dsimp only [Pt.cells, Pt.slots, room_1]; omega), (by dsimp only [Pt.cells, Pt.slots, room_1]; omega)⟩)
    dsimp only [Pt.U, Pt.locs, Pt.cells, Pt.slots] at X106 l106 y106 z106 st106 hQ106
    subst l106 y106 z106
    obtain ⟨rfl, N106q, K106, P106_0, P106_1, P106_2, P106_3, P106_4, P106_5⟩ := hQ106
    have N106 := Fr.app N103 N106q
    have Z106 : n0 ≤ T106.heap.size := Nat.le_trans Z0 K106.1
    have F107 := own_sta_keep f0 K106 (allS (own_plain f9) (allS (own_plain f14) all0))
    have F108 := f1.keep K106
    have F109 := f2.keep K106 (ninS f18 (ninS f19 nin0))
    have F110 := f3.keep K106
    have F111 := f4.keep K106 (ninS f20 (ninS f21 nin0))
    have F112 := f5.keep K106 (ninS f22 (ninS f23 nin0))
    have F113 := own_sta_keep f6 K106 (allS (own_plain f9) (allS (own_plain f14) all0))
    have F114 := f7.keep K106
    have F115 := f8.keep K106 (fun i hi => (ninS (f24 i hi) (ninS (f25 i hi) nin0)))
    have F116 := f9.keep K106
    have F117 := f14.keep K106
    have F118 := Ew104.keep K106
    refine gs m T106 212 #[vI (p0), vJ (p1), sS, vI (p2), vR (dl), vI (n), vR (al), sU] [(.int (1 : Int32))] (fun _ k => st106.trans k) ?_
    refine gs m T106 213 #[vI (p0), vJ (p1), sS, vI (p2), vR (dl), vI (n), vR (al), sU] [] (fun _ k => XS.pop X106.here hx rfl (hb hby at_212) rfl rfl k) ?_
    exact own_s7 p0 p1 p2 df dl bd kd em w sec n kn al (mc + (1 : Int32)) b1 k1 (ys ++ [(w iq_102)]) X106 hx hZ hw hby hml hown hret hlk rfl N106 Z106 (by omega) (by omega) F107 F108 F109 F110 F111 F112 F113 F114 F115 P106_0 f10 P106_1 P106_2 P106_3 P106_4 f15 P106_5 f17 f18 f19 f20 f21 f22 f23 f24 f25 hnk hk7 hk1 (by have q := (own_ltk (j := 6) hnk hk7 (by decide)).mp hc101; simp only [List.length_append, List.length_cons, List.length_nil]; omega) (own_hysS hys R102_0) hsec ov1 MM
  · skip
    refine gs m T0 213 #[vI (p0), vJ (p1), sS, vI (p2), vR (dl), vI (n), vR (al), sU] [] (fun _ k => XS.icmpYes X0.here hx rfl (pc0 := 188) (pc' := 213) rfl (hb hby at_188) rfl (flt hc101).2.2.2 (by decide) (by decide) k) ?_
    exact own_s7 p0 p1 p2 df dl bd kd em w sec n kn al mc b1 k1 ys X0 hx hZ hw hby hml hown hret hlk e0 N0 Z0 (by omega) (by omega) f0 f1 f2 f3 f4 f5 f6 f7 f8 f9 f10 f11 f12 f13 f14 f15 f16 f17 f18 f19 f20 f21 f22 f23 f24 f25 hnk hk7 hk1 (by have q := mt (own_ltk (j := 6) hnk hk7 (by decide)).mpr hc101; omega) hys hsec ov1 MM
theorem own_s5 {pgm : Program} {l : Launch} {e : Env} {s : State} {m : MethodId} {args : Array Value} {below : List Frame} {meth : Method} {c : Code} {T0 : State} {locs : List Loc} {cells slots : Nat} {Z : State} {a0 : Array Value} {h0 : Heap} {n0 : Nat} (p0 : Int32) (p1 : Int64) (p2 : Int32) (df : Addr) (dl : Addr) (bd : Addr) (kd : ClassId) (em : Addr) (w : Nat → Addr) (sec : Nat → Int64) (n : Int32) (kn : Nat) (al : Addr) (mc : Int32) (b1 : Addr) (k1 : ClassId) (ys : List Addr)
    (X0 : Stand pgm l e room_1 s m args below meth c T0 locs cells slots) (hx : pgm.tables.exec = Jvm.exec) (hZ : Z.Warmed39 s.vm) (hw : ∀ d ∈ tables_1, d.before a0 Z = true) (hby : c.code = code) (hml : c.maxLocals = maxLocals) (hown : s.vm.findClass "com/example/nuthatch/nuthatch/RetryScheduleMaxAttemptsPinLaw" = some m.cls) (hret : meth.sig.returnType = ret) (hlk : meth.locks = false) (e0 : T0.heap = h0) (N0 : Fr n0 locs) (Z0 : n0 ≤ h0.size) (hcells : cells ≤ 3) (hslots : slots ≤ 40) (f0 : Sta Z h0 "com/example/nuthatch/nuthatch/RetrySchedule" "DEFAULT" "Lcom/example/nuthatch/nuthatch/RetrySchedule;" (.ref df)) (f1 : Exa Z h0 df "com/example/nuthatch/nuthatch/RetrySchedule") (f2 : Fld Z h0 df "com/example/nuthatch/nuthatch/RetrySchedule" "delays" "Ljava/util/List;" (.ref dl)) (f3 : Exa Z h0 dl "java/util/ImmutableCollections$ListN") (f4 : Fld Z h0 dl "java/util/ImmutableCollections$ListN" "elements" "[Ljava/lang/Object;" (.ref bd)) (f5 : Arv Z h0 bd kd (.object "java/lang/Object") (9 : Int32) (own_W w) .null) (f6 : Sta Z h0 "java/util/ImmutableCollections" "EMPTY" "Ljava/lang/Object;" (.ref em)) (f7 : Exa Z h0 em "java/lang/Object") (f8 : UW Z h0 w sec) (f9 : Exa Z h0 al "java/util/ArrayList") (f10 : n0 ≤ al) (f11 : Fld Z h0 al "java/util/AbstractList" "modCount" "I" (.int mc)) (f12 : Fld Z h0 al "java/util/ArrayList" "elementData" "[Ljava/lang/Object;" (.ref b1)) (f13 : Fld Z h0 al "java/util/ArrayList" "size" "I" (.int (Int32.ofNat ys.length))) (f14 : Exa Z h0 b1 "[Ljava/lang/Object;") (f15 : n0 ≤ b1) (f16 : Arv Z h0 b1 k1 (.object "java/lang/Object") (10 : Int32) (own_AV ys) .null) (f17 : al ≠ b1) (f18 : df ≠ al) (f19 : df ≠ b1) (f20 : dl ≠ al) (f21 : dl ≠ b1) (f22 : bd ≠ al) (f23 : bd ≠ b1) (f24 : ∀ i, i < 9 → w i ≠ al) (f25 : ∀ i, i < 9 → w i ≠ b1) (hnk : n = Int32.ofNat kn) (hk7 : kn ≤ 7) (hk1 : 1 ≤ kn) (hyl : ys.length = min kn 5) (hys : ∀ y ∈ ys, ∃ i, i < 9 ∧ y = w i) (hsec : ∀ i, i < 9 → ¬ lcmpW (sec i) (0 : Int64) < (0 : Int32)) (ov1 : Ovr Z k1 "java/lang/Object") (MM : MirrorMade Z "[Ljava/lang/Object;") :
    Go pgm e below s (Q0 n0) 24 192 T0 (mkF m 157 #[vI (p0), vJ (p1), sS, vI (p2), vR (dl), vI (n), vR (al), sU] []) := by
  refine gs m T0 159 #[vI (p0), vJ (p1), sS, vI (p2), vR (dl), vI (n), vR (al), sU] [(.int n)] (fun _ k => XS.iload X0.here hx rfl (hb hby at_157) rfl  k) ?_
  refine gs m T0 160 #[vI (p0), vJ (p1), sS, vI (p2), vR (dl), vI (n), vR (al), sU] [(.int (5 : Int32)), (.int n)] (fun _ k => XS.iconst X0.here hx rfl (hb hby at_159) k) ?_
  by_cases hc101 : (5 : Int32) < n
  · skip
    refine gs m T0 163 #[vI (p0), vJ (p1), sS, vI (p2), vR (dl), vI (n), vR (al), sU] [] (fun _ k => XS.icmpNo X0.here hx rfl (hb hby at_160) rfl (tlt hc101).2.2.2 k) ?_
    refine gs m T0 165 #[vI (p0), vJ (p1), sS, vI (p2), vR (dl), vI (n), vR (al), sU] [(.ref al)] (fun _ k => XS.aload X0.here hx rfl (hb hby at_163) rfl rfl k) ?_
    refine gs m T0 167 #[vI (p0), vJ (p1), sS, vI (p2), vR (dl), vI (n), vR (al), sU] [(.ref dl), (.ref al)] (fun _ k => XS.aload X0.here hx rfl (hb hby at_165) rfl rfl k) ?_
    refine gs m T0 168 #[vI (p0), vJ (p1), sS, vI (p2), vR (dl), vI (n), vR (al), sU] [(.long p1), (.ref dl), (.ref al)] (fun _ k => XS.lloadN X0.here hx rfl (hb hby at_167) rfl  k) ?_
    refine gs m T0 169 #[vI (p0), vJ (p1), sS, vI (p2), vR (dl), vI (n), vR (al), sU] [(.int (5 : Int32)), (.long p1), (.ref dl), (.ref al)] (fun _ k => XS.iconst X0.here hx rfl (hb hby at_168) k) ?_
    obtain ⟨_, _, ⟨T102, L102, k102, n102⟩, -, X102, ⟨Lc102, hQ102, l102, y102, z102⟩, st102⟩ := Jvm.LawKit.callS X0 hx (y := (⟨"com/example/nuthatch/nuthatch/RetryScheduleMaxAttemptsPinLaw", "pick", "(JI)I"⟩ : MethodName)) hown (mvT hZ (hwi hw 120 rfl)) (mvT hZ (hwi hw 121 rfl)) (mvT hZ (hwi hw 122 rfl)) (mvT hZ (hwi hw 123 rfl)) (by decide) (backOf (W := 2) (Q := fun v h L => ∃ iq : Nat, (v = some (.int (Int32.ofNat iq))) ∧ (Fr n0 L) ∧ (h = h0) ∧ (iq < 9)) (own_pick l Z a0 hw [] p1 (5 : Int32) h0 n0 Z0 ) hZ (hwi hw 123 rfl) (hwi hw 122 rfl) (by decide) (by decide)) (g := (mkF m 169 #[vI (p0), vJ (p1), sS, vI (p2), vR (dl), vI (n), vR (al), sU] [(.int (5 : Int32)), (.long p1), (.ref dl), (.ref al)])) rfl (by rw [hml]; rfl) (argsL := [(.long p1), (.int (5 : Int32))]) (rest := [(.ref dl), (.ref al)]) (lenOf own_pd20 rfl) rfl (by show 2 * 0 + _ ≤ _; exact Nat.le_of_eq rfl) (hb hby at_169) (fun _ _ => ⟨rfl, e0, (by dsimp only [Pt.cells, Pt.slots, room_1]; omega), (by dsimp only [Pt.cells, Pt.slots, room_1]; omega)⟩)
    dsimp only [Pt.U, Pt.locs, Pt.cells, Pt.slots] at X102 l102 y102 z102 st102 hQ102
    subst l102 y102 z102
    obtain ⟨iq_102, rfl, N102q, eh102, R102_0⟩ := hQ102
    have N102 := Fr.app N0 N102q
    refine gs m T102 172 #[vI (p0), vJ (p1), sS, vI (p2), vR (dl), vI (n), vR (al), sU] [(.int (Int32.ofNat iq_102)), (.ref dl), (.ref al)] (st102) ?_
    obtain ⟨cq103, kq103, q103a, q103b, q103c⟩ := isOf hZ eh102 f3
    obtain ⟨_, _, ⟨T103, L103, k103, n103⟩, -, X103, ⟨Lc103, hQ103, l103, y103, z103⟩, st103⟩ := X102.interfaceBack hx (xi := (⟨"java/util/List", "get", "(I)Ljava/lang/Object;"⟩ : MethodName)) (y := (⟨"java/util/ImmutableCollections$ListN", "get", "(I)Ljava/lang/Object;"⟩ : MethodName)) hown (mvT hZ (hwi hw 125 rfl)) (mvT hZ (hwi hw 126 rfl)) (mvT hZ (hwi hw 127 rfl)) (mvT hZ (hwi hw 128 rfl)) (mvT hZ (hwi hw 129 rfl)) (mvT hZ (hwi hw 130 rfl)) (mvT hZ (hwi hw 131 rfl)) (mvT hZ (hwi hw 83 rfl)) (by decide) (backOf (W := 1) (Q := Qret (some (.ref (w iq_102))) h0 n0) (own_getw l Z a0 hw [] dl bd kd w iq_102 h0 n0 Z0 f3 f4 f5 R102_0) hZ (hwi hw 132 rfl) (hwi hw 94 rfl) (by decide) (by decide)) q103a q103b q103c (g := (mkF m 172 #[vI (p0), vJ (p1), sS, vI (p2), vR (dl), vI (n), vR (al), sU] [(.int (Int32.ofNat iq_102)), (.ref dl), (.ref al)])) rfl (by rw [hml]; rfl) (Steps.refl _) (argsL := [(.int (Int32.ofNat iq_102))]) (rest := [(.ref al)]) (lenOf own_pd15 rfl) rfl (by show 2 * 0 + _ ≤ _; exact Nat.le_of_eq rfl) (hb hby at_172) (fun _ _ => ⟨rfl, eh102, (by dsimp only [Pt.cells, Pt.slots, room_1]; omega), (by dsimp only [Pt.cells, Pt.slots, room_1]; omega)⟩)
    dsimp only [Pt.U, Pt.locs, Pt.cells, Pt.slots] at X103 l103 y103 z103 st103 hQ103
    subst l103 y103 z103
    obtain ⟨rfl, N103q, eh103⟩ := hQ103
    have N103 := Fr.app N102 N103q
    refine gs m T103 177 #[vI (p0), vJ (p1), sS, vI (p2), vR (dl), vI (n), vR (al), sU] [(.ref (w iq_102)), (.ref al)] (fun _ k => st103.trans k) ?_
    have Ew104 : Exa Z h0 (w iq_102) "java/time/Duration" := (f8 iq_102 R102_0).1
    obtain ⟨T105, X105, e105, st105⟩ := castY X103 hx hZ hown (hwi hw 133 rfl) eh103 (Ins.self Ew104) (g := (mkF m 177 #[vI (p0), vJ (p1), sS, vI (p2), vR (dl), vI (n), vR (al), sU] [(.ref (w iq_102)), (.ref al)])) rfl rfl (hb hby at_177)
    refine gs m T105 180 #[vI (p0), vJ (p1), sS, vI (p2), vR (dl), vI (n), vR (al), sU] [(.ref (w iq_102)), (.ref al)] st105 ?_
    obtain ⟨cq106, kq106, q106a, q106b, q106c⟩ := isOf hZ e105 f9
    obtain ⟨_, _, ⟨T106, L106, k106, n106⟩, -, X106, ⟨Lc106, hQ106, l106, y106, z106⟩, st106⟩ := X105.virtualBack hx (y := (⟨"java/util/ArrayList", "add", "(Ljava/lang/Object;)Z"⟩ : MethodName)) (z := (⟨"java/util/ArrayList", "add", "(Ljava/lang/Object;)Z"⟩ : MethodName)) hown (mvT hZ (hwi hw 135 rfl)) (mvT hZ (hwi hw 136 rfl)) (notFace_of_selects (args := #[]) (mvT hZ (hwi hw 138 rfl))) (mvT hZ (hwi hw 138 rfl)) (mvT hZ (hwi hw 137 rfl)) (by decide) (backOf (W := 0) (Q := fun v h L => (v = some (.int (1 : Int32))) ∧ (Fr n0 L) ∧ (Keep h0 h [al, b1]) ∧ (Exa Z h al "java/util/ArrayList") ∧ (Fld Z h al "java/util/AbstractList" "modCount" "I" (.int (mc + (1 : Int32)))) ∧ (Fld Z h al "java/util/ArrayList" "elementData" "[Ljava/lang/Object;" (.ref b1)) ∧ (Fld Z h al "java/util/ArrayList" "size" "I" (.int (Int32.ofNat (ys ++ [(w iq_102)]).length))) ∧ (Exa Z h b1 "[Ljava/lang/Object;") ∧ (Arv Z h b1 k1 (.object "java/lang/Object") (10 : Int32) (own_AV (ys ++ [(w iq_102)])) .null)) (own_addg l Z a0 hw [] al (w iq_102) b1 k1 mc ys h0 n0 Z0 f9 f10 f11 f12 f13 f14 f15 f17 f16 Ew104 ov1 (by omega)) hZ (hwi hw 139 rfl) (hwi hw 12 rfl) (by decide) (by decide)) q106a q106c (g := (mkF m 180 #[vI (p0), vJ (p1), sS, vI (p2), vR (dl), vI (n), vR (al), sU] [(.ref (w iq_102)), (.ref al)])) rfl (by rw [hml]; rfl) (Steps.refl _) (argsL := [(.ref (w iq_102))]) (rest := []) (lenOf own_pd21 rfl) rfl (by show 2 * 0 + _ ≤ _; exact Nat.le_of_eq rfl) (hb hby at_180) (fun _ _ => ⟨rfl, e105, (by dsimp only [Pt.cells, Pt.slots, room_1]; omega), (by dsimp only [Pt.cells, Pt.slots, room_1]; omega)⟩)
    dsimp only [Pt.U, Pt.locs, Pt.cells, Pt.slots] at X106 l106 y106 z106 st106 hQ106
    subst l106 y106 z106
    obtain ⟨rfl, N106q, K106, P106_0, P106_1, P106_2, P106_3, P106_4, P106_5⟩ := hQ106
    have N106 := Fr.app N103 N106q
    have Z106 : n0 ≤ T106.heap.size := Nat.le_trans Z0 K106.1
    have F107 := own_sta_keep f0 K106 (allS (own_plain f9) (allS (own_plain f14) all0))
    have F108 := f1.keep K106
    have F109 := f2.keep K106 (ninS f18 (ninS f19 nin0))
    have F110 := f3.keep K106
    have F111 := f4.keep K106 (ninS f20 (ninS f21 nin0))
    have F112 := f5.keep K106 (ninS f22 (ninS f23 nin0))
    have F113 := own_sta_keep f6 K106 (allS (own_plain f9) (allS (own_plain f14) all0))
    have F114 := f7.keep K106
    have F115 := f8.keep K106 (fun i hi => (ninS (f24 i hi) (ninS (f25 i hi) nin0)))
    have F116 := f9.keep K106
    have F117 := f14.keep K106
    have F118 := Ew104.keep K106
    refine gs m T106 183 #[vI (p0), vJ (p1), sS, vI (p2), vR (dl), vI (n), vR (al), sU] [(.int (1 : Int32))] (fun _ k => st106.trans k) ?_
    refine gs m T106 184 #[vI (p0), vJ (p1), sS, vI (p2), vR (dl), vI (n), vR (al), sU] [] (fun _ k => XS.pop X106.here hx rfl (hb hby at_183) rfl rfl k) ?_
    exact own_s6 p0 p1 p2 df dl bd kd em w sec n kn al (mc + (1 : Int32)) b1 k1 (ys ++ [(w iq_102)]) X106 hx hZ hw hby hml hown hret hlk rfl N106 Z106 (by omega) (by omega) F107 F108 F109 F110 F111 F112 F113 F114 F115 P106_0 f10 P106_1 P106_2 P106_3 P106_4 f15 P106_5 f17 f18 f19 f20 f21 f22 f23 f24 f25 hnk hk7 hk1 (by have q := (own_ltk (j := 5) hnk hk7 (by decide)).mp hc101; simp only [List.length_append, List.length_cons, List.length_nil]; omega) (own_hysS hys R102_0) hsec ov1 MM
  · skip
    refine gs m T0 184 #[vI (p0), vJ (p1), sS, vI (p2), vR (dl), vI (n), vR (al), sU] [] (fun _ k => XS.icmpYes X0.here hx rfl (pc0 := 160) (pc' := 184) rfl (hb hby at_160) rfl (flt hc101).2.2.2 (by decide) (by decide) k) ?_
    exact own_s6 p0 p1 p2 df dl bd kd em w sec n kn al mc b1 k1 ys X0 hx hZ hw hby hml hown hret hlk e0 N0 Z0 (by omega) (by omega) f0 f1 f2 f3 f4 f5 f6 f7 f8 f9 f10 f11 f12 f13 f14 f15 f16 f17 f18 f19 f20 f21 f22 f23 f24 f25 hnk hk7 hk1 (by have q := mt (own_ltk (j := 5) hnk hk7 (by decide)).mpr hc101; omega) hys hsec ov1 MM
theorem own_s4 {pgm : Program} {l : Launch} {e : Env} {s : State} {m : MethodId} {args : Array Value} {below : List Frame} {meth : Method} {c : Code} {T0 : State} {locs : List Loc} {cells slots : Nat} {Z : State} {a0 : Array Value} {h0 : Heap} {n0 : Nat} (p0 : Int32) (p1 : Int64) (p2 : Int32) (df : Addr) (dl : Addr) (bd : Addr) (kd : ClassId) (em : Addr) (w : Nat → Addr) (sec : Nat → Int64) (n : Int32) (kn : Nat) (al : Addr) (mc : Int32) (b1 : Addr) (k1 : ClassId) (ys : List Addr)
    (X0 : Stand pgm l e room_1 s m args below meth c T0 locs cells slots) (hx : pgm.tables.exec = Jvm.exec) (hZ : Z.Warmed39 s.vm) (hw : ∀ d ∈ tables_1, d.before a0 Z = true) (hby : c.code = code) (hml : c.maxLocals = maxLocals) (hown : s.vm.findClass "com/example/nuthatch/nuthatch/RetryScheduleMaxAttemptsPinLaw" = some m.cls) (hret : meth.sig.returnType = ret) (hlk : meth.locks = false) (e0 : T0.heap = h0) (N0 : Fr n0 locs) (Z0 : n0 ≤ h0.size) (hcells : cells ≤ 3) (hslots : slots ≤ 40) (f0 : Sta Z h0 "com/example/nuthatch/nuthatch/RetrySchedule" "DEFAULT" "Lcom/example/nuthatch/nuthatch/RetrySchedule;" (.ref df)) (f1 : Exa Z h0 df "com/example/nuthatch/nuthatch/RetrySchedule") (f2 : Fld Z h0 df "com/example/nuthatch/nuthatch/RetrySchedule" "delays" "Ljava/util/List;" (.ref dl)) (f3 : Exa Z h0 dl "java/util/ImmutableCollections$ListN") (f4 : Fld Z h0 dl "java/util/ImmutableCollections$ListN" "elements" "[Ljava/lang/Object;" (.ref bd)) (f5 : Arv Z h0 bd kd (.object "java/lang/Object") (9 : Int32) (own_W w) .null) (f6 : Sta Z h0 "java/util/ImmutableCollections" "EMPTY" "Ljava/lang/Object;" (.ref em)) (f7 : Exa Z h0 em "java/lang/Object") (f8 : UW Z h0 w sec) (f9 : Exa Z h0 al "java/util/ArrayList") (f10 : n0 ≤ al) (f11 : Fld Z h0 al "java/util/AbstractList" "modCount" "I" (.int mc)) (f12 : Fld Z h0 al "java/util/ArrayList" "elementData" "[Ljava/lang/Object;" (.ref b1)) (f13 : Fld Z h0 al "java/util/ArrayList" "size" "I" (.int (Int32.ofNat ys.length))) (f14 : Exa Z h0 b1 "[Ljava/lang/Object;") (f15 : n0 ≤ b1) (f16 : Arv Z h0 b1 k1 (.object "java/lang/Object") (10 : Int32) (own_AV ys) .null) (f17 : al ≠ b1) (f18 : df ≠ al) (f19 : df ≠ b1) (f20 : dl ≠ al) (f21 : dl ≠ b1) (f22 : bd ≠ al) (f23 : bd ≠ b1) (f24 : ∀ i, i < 9 → w i ≠ al) (f25 : ∀ i, i < 9 → w i ≠ b1) (hnk : n = Int32.ofNat kn) (hk7 : kn ≤ 7) (hk1 : 1 ≤ kn) (hyl : ys.length = min kn 4) (hys : ∀ y ∈ ys, ∃ i, i < 9 ∧ y = w i) (hsec : ∀ i, i < 9 → ¬ lcmpW (sec i) (0 : Int64) < (0 : Int32)) (ov1 : Ovr Z k1 "java/lang/Object") (MM : MirrorMade Z "[Ljava/lang/Object;") :
    Go pgm e below s (Q0 n0) 24 192 T0 (mkF m 130 #[vI (p0), vJ (p1), sS, vI (p2), vR (dl), vI (n), vR (al), sU] []) := by
  refine gs m T0 132 #[vI (p0), vJ (p1), sS, vI (p2), vR (dl), vI (n), vR (al), sU] [(.int n)] (fun _ k => XS.iload X0.here hx rfl (hb hby at_130) rfl  k) ?_
  refine gs m T0 133 #[vI (p0), vJ (p1), sS, vI (p2), vR (dl), vI (n), vR (al), sU] [(.int (4 : Int32)), (.int n)] (fun _ k => XS.iconst X0.here hx rfl (hb hby at_132) k) ?_
  by_cases hc101 : (4 : Int32) < n
  · skip
    refine gs m T0 136 #[vI (p0), vJ (p1), sS, vI (p2), vR (dl), vI (n), vR (al), sU] [] (fun _ k => XS.icmpNo X0.here hx rfl (hb hby at_133) rfl (tlt hc101).2.2.2 k) ?_
    refine gs m T0 138 #[vI (p0), vJ (p1), sS, vI (p2), vR (dl), vI (n), vR (al), sU] [(.ref al)] (fun _ k => XS.aload X0.here hx rfl (hb hby at_136) rfl rfl k) ?_
    refine gs m T0 140 #[vI (p0), vJ (p1), sS, vI (p2), vR (dl), vI (n), vR (al), sU] [(.ref dl), (.ref al)] (fun _ k => XS.aload X0.here hx rfl (hb hby at_138) rfl rfl k) ?_
    refine gs m T0 141 #[vI (p0), vJ (p1), sS, vI (p2), vR (dl), vI (n), vR (al), sU] [(.long p1), (.ref dl), (.ref al)] (fun _ k => XS.lloadN X0.here hx rfl (hb hby at_140) rfl  k) ?_
    refine gs m T0 142 #[vI (p0), vJ (p1), sS, vI (p2), vR (dl), vI (n), vR (al), sU] [(.int (4 : Int32)), (.long p1), (.ref dl), (.ref al)] (fun _ k => XS.iconst X0.here hx rfl (hb hby at_141) k) ?_
    obtain ⟨_, _, ⟨T102, L102, k102, n102⟩, -, X102, ⟨Lc102, hQ102, l102, y102, z102⟩, st102⟩ := Jvm.LawKit.callS X0 hx (y := (⟨"com/example/nuthatch/nuthatch/RetryScheduleMaxAttemptsPinLaw", "pick", "(JI)I"⟩ : MethodName)) hown (mvT hZ (hwi hw 120 rfl)) (mvT hZ (hwi hw 121 rfl)) (mvT hZ (hwi hw 122 rfl)) (mvT hZ (hwi hw 123 rfl)) (by decide) (backOf (W := 2) (Q := fun v h L => ∃ iq : Nat, (v = some (.int (Int32.ofNat iq))) ∧ (Fr n0 L) ∧ (h = h0) ∧ (iq < 9)) (own_pick l Z a0 hw [] p1 (4 : Int32) h0 n0 Z0 ) hZ (hwi hw 123 rfl) (hwi hw 122 rfl) (by decide) (by decide)) (g := (mkF m 142 #[vI (p0), vJ (p1), sS, vI (p2), vR (dl), vI (n), vR (al), sU] [(.int (4 : Int32)), (.long p1), (.ref dl), (.ref al)])) rfl (by rw [hml]; rfl) (argsL := [(.long p1), (.int (4 : Int32))]) (rest := [(.ref dl), (.ref al)]) (lenOf own_pd20 rfl) rfl (by show 2 * 0 + _ ≤ _; exact Nat.le_of_eq rfl) (hb hby at_142) (fun _ _ => ⟨rfl, e0, (by dsimp only [Pt.cells, Pt.slots, room_1]; omega), (by dsimp only [Pt.cells, Pt.slots, room_1]; omega)⟩)
    dsimp only [Pt.U, Pt.locs, Pt.cells, Pt.slots] at X102 l102 y102 z102 st102 hQ102
    subst l102 y102 z102
    obtain ⟨iq_102, rfl, N102q, eh102, R102_0⟩ := hQ102
    have N102 := Fr.app N0 N102q
    refine gs m T102 145 #[vI (p0), vJ (p1), sS, vI (p2), vR (dl), vI (n), vR (al), sU] [(.int (Int32.ofNat iq_102)), (.ref dl), (.ref al)] (st102) ?_
    obtain ⟨cq103, kq103, q103a, q103b, q103c⟩ := isOf hZ eh102 f3
    obtain ⟨_, _, ⟨T103, L103, k103, n103⟩, -, X103, ⟨Lc103, hQ103, l103, y103, z103⟩, st103⟩ := X102.interfaceBack hx (xi := (⟨"java/util/List", "get", "(I)Ljava/lang/Object;"⟩ : MethodName)) (y := (⟨"java/util/ImmutableCollections$ListN", "get", "(I)Ljava/lang/Object;"⟩ : MethodName)) hown (mvT hZ (hwi hw 125 rfl)) (mvT hZ (hwi hw 126 rfl)) (mvT hZ (hwi hw 127 rfl)) (mvT hZ (hwi hw 128 rfl)) (mvT hZ (hwi hw 129 rfl)) (mvT hZ (hwi hw 130 rfl)) (mvT hZ (hwi hw 131 rfl)) (mvT hZ (hwi hw 83 rfl)) (by decide) (backOf (W := 1) (Q := Qret (some (.ref (w iq_102))) h0 n0) (own_getw l Z a0 hw [] dl bd kd w iq_102 h0 n0 Z0 f3 f4 f5 R102_0) hZ (hwi hw 132 rfl) (hwi hw 94 rfl) (by decide) (by decide)) q103a q103b q103c (g := (mkF m 145 #[vI (p0), vJ (p1), sS, vI (p2), vR (dl), vI (n), vR (al), sU] [(.int (Int32.ofNat iq_102)), (.ref dl), (.ref al)])) rfl (by rw [hml]; rfl) (Steps.refl _) (argsL := [(.int (Int32.ofNat iq_102))]) (rest := [(.ref al)]) (lenOf own_pd15 rfl) rfl (by show 2 * 0 + _ ≤ _; exact Nat.le_of_eq rfl) (hb hby at_145) (fun _ _ => ⟨rfl, eh102, (by dsimp only [Pt.cells, Pt.slots, room_1]; omega), (by dsimp only [Pt.cells, Pt.slots, room_1]; omega)⟩)
    dsimp only [Pt.U, Pt.locs, Pt.cells, Pt.slots] at X103 l103 y103 z103 st103 hQ103
    subst l103 y103 z103
    obtain ⟨rfl, N103q, eh103⟩ := hQ103
    have N103 := Fr.app N102 N103q
    refine gs m T103 150 #[vI (p0), vJ (p1), sS, vI (p2), vR (dl), vI (n), vR (al), sU] [(.ref (w iq_102)), (.ref al)] (fun _ k => st103.trans k) ?_
    have Ew104 : Exa Z h0 (w iq_102) "java/time/Duration" := (f8 iq_102 R102_0).1
    obtain ⟨T105, X105, e105, st105⟩ := castY X103 hx hZ hown (hwi hw 133 rfl) eh103 (Ins.self Ew104) (g := (mkF m 150 #[vI (p0), vJ (p1), sS, vI (p2), vR (dl), vI (n), vR (al), sU] [(.ref (w iq_102)), (.ref al)])) rfl rfl (hb hby at_150)
    refine gs m T105 153 #[vI (p0), vJ (p1), sS, vI (p2), vR (dl), vI (n), vR (al), sU] [(.ref (w iq_102)), (.ref al)] st105 ?_
    obtain ⟨cq106, kq106, q106a, q106b, q106c⟩ := isOf hZ e105 f9
    obtain ⟨_, _, ⟨T106, L106, k106, n106⟩, -, X106, ⟨Lc106, hQ106, l106, y106, z106⟩, st106⟩ := X105.virtualBack hx (y := (⟨"java/util/ArrayList", "add", "(Ljava/lang/Object;)Z"⟩ : MethodName)) (z := (⟨"java/util/ArrayList", "add", "(Ljava/lang/Object;)Z"⟩ : MethodName)) hown (mvT hZ (hwi hw 135 rfl)) (mvT hZ (hwi hw 136 rfl)) (notFace_of_selects (args := #[]) (mvT hZ (hwi hw 138 rfl))) (mvT hZ (hwi hw 138 rfl)) (mvT hZ (hwi hw 137 rfl)) (by decide) (backOf (W := 0) (Q := fun v h L => (v = some (.int (1 : Int32))) ∧ (Fr n0 L) ∧ (Keep h0 h [al, b1]) ∧ (Exa Z h al "java/util/ArrayList") ∧ (Fld Z h al "java/util/AbstractList" "modCount" "I" (.int (mc + (1 : Int32)))) ∧ (Fld Z h al "java/util/ArrayList" "elementData" "[Ljava/lang/Object;" (.ref b1)) ∧ (Fld Z h al "java/util/ArrayList" "size" "I" (.int (Int32.ofNat (ys ++ [(w iq_102)]).length))) ∧ (Exa Z h b1 "[Ljava/lang/Object;") ∧ (Arv Z h b1 k1 (.object "java/lang/Object") (10 : Int32) (own_AV (ys ++ [(w iq_102)])) .null)) (own_addg l Z a0 hw [] al (w iq_102) b1 k1 mc ys h0 n0 Z0 f9 f10 f11 f12 f13 f14 f15 f17 f16 Ew104 ov1 (by omega)) hZ (hwi hw 139 rfl) (hwi hw 12 rfl) (by decide) (by decide)) q106a q106c (g := (mkF m 153 #[vI (p0), vJ (p1), sS, vI (p2), vR (dl), vI (n), vR (al), sU] [(.ref (w iq_102)), (.ref al)])) rfl (by rw [hml]; rfl) (Steps.refl _) (argsL := [(.ref (w iq_102))]) (rest := []) (lenOf own_pd21 rfl) rfl (by show 2 * 0 + _ ≤ _; exact Nat.le_of_eq rfl) (hb hby at_153) (fun _ _ => ⟨rfl, e105, (by dsimp only [Pt.cells, Pt.slots, room_1]; omega), (by dsimp only [Pt.cells, Pt.slots, room_1]; omega)⟩)
    dsimp only [Pt.U, Pt.locs, Pt.cells, Pt.slots] at X106 l106 y106 z106 st106 hQ106
    subst l106 y106 z106
    obtain ⟨rfl, N106q, K106, P106_0, P106_1, P106_2, P106_3, P106_4, P106_5⟩ := hQ106
    have N106 := Fr.app N103 N106q
    have Z106 : n0 ≤ T106.heap.size := Nat.le_trans Z0 K106.1
    have F107 := own_sta_keep f0 K106 (allS (own_plain f9) (allS (own_plain f14) all0))
    have F108 := f1.keep K106
    have F109 := f2.keep K106 (ninS f18 (ninS f19 nin0))
    have F110 := f3.keep K106
    have F111 := f4.keep K106 (ninS f20 (ninS f21 nin0))
    have F112 := f5.keep K106 (ninS f22 (ninS f23 nin0))
    have F113 := own_sta_keep f6 K106 (allS (own_plain f9) (allS (own_plain f14) all0))
    have F114 := f7.keep K106
    have F115 := f8.keep K106 (fun i hi => (ninS (f24 i hi) (ninS (f25 i hi) nin0)))
    have F116 := f9.keep K106
    have F117 := f14.keep K106
    have F118 := Ew104.keep K106
    refine gs m T106 156 #[vI (p0), vJ (p1), sS, vI (p2), vR (dl), vI (n), vR (al), sU] [(.int (1 : Int32))] (fun _ k => st106.trans k) ?_
    refine gs m T106 157 #[vI (p0), vJ (p1), sS, vI (p2), vR (dl), vI (n), vR (al), sU] [] (fun _ k => XS.pop X106.here hx rfl (hb hby at_156) rfl rfl k) ?_
    exact own_s5 p0 p1 p2 df dl bd kd em w sec n kn al (mc + (1 : Int32)) b1 k1 (ys ++ [(w iq_102)]) X106 hx hZ hw hby hml hown hret hlk rfl N106 Z106 (by omega) (by omega) F107 F108 F109 F110 F111 F112 F113 F114 F115 P106_0 f10 P106_1 P106_2 P106_3 P106_4 f15 P106_5 f17 f18 f19 f20 f21 f22 f23 f24 f25 hnk hk7 hk1 (by have q := (own_ltk (j := 4) hnk hk7 (by decide)).mp hc101; simp only [List.length_append, List.length_cons, List.length_nil]; omega) (own_hysS hys R102_0) hsec ov1 MM
  · skip
    refine gs m T0 157 #[vI (p0), vJ (p1), sS, vI (p2), vR (dl), vI (n), vR (al), sU] [] (fun _ k => XS.icmpYes X0.here hx rfl (pc0 := 133) (pc' := 157) rfl (hb hby at_133) rfl (flt hc101).2.2.2 (by decide) (by decide) k) ?_
    exact own_s5 p0 p1 p2 df dl bd kd em w sec n kn al mc b1 k1 ys X0 hx hZ hw hby hml hown hret hlk e0 N0 Z0 (by omega) (by omega) f0 f1 f2 f3 f4 f5 f6 f7 f8 f9 f10 f11 f12 f13 f14 f15 f16 f17 f18 f19 f20 f21 f22 f23 f24 f25 hnk hk7 hk1 (by have q := mt (own_ltk (j := 4) hnk hk7 (by decide)).mpr hc101; omega) hys hsec ov1 MM
theorem own_s3 {pgm : Program} {l : Launch} {e : Env} {s : State} {m : MethodId} {args : Array Value} {below : List Frame} {meth : Method} {c : Code} {T0 : State} {locs : List Loc} {cells slots : Nat} {Z : State} {a0 : Array Value} {h0 : Heap} {n0 : Nat} (p0 : Int32) (p1 : Int64) (p2 : Int32) (df : Addr) (dl : Addr) (bd : Addr) (kd : ClassId) (em : Addr) (w : Nat → Addr) (sec : Nat → Int64) (n : Int32) (kn : Nat) (al : Addr) (mc : Int32) (b1 : Addr) (k1 : ClassId) (ys : List Addr)
    (X0 : Stand pgm l e room_1 s m args below meth c T0 locs cells slots) (hx : pgm.tables.exec = Jvm.exec) (hZ : Z.Warmed39 s.vm) (hw : ∀ d ∈ tables_1, d.before a0 Z = true) (hby : c.code = code) (hml : c.maxLocals = maxLocals) (hown : s.vm.findClass "com/example/nuthatch/nuthatch/RetryScheduleMaxAttemptsPinLaw" = some m.cls) (hret : meth.sig.returnType = ret) (hlk : meth.locks = false) (e0 : T0.heap = h0) (N0 : Fr n0 locs) (Z0 : n0 ≤ h0.size) (hcells : cells ≤ 3) (hslots : slots ≤ 40) (f0 : Sta Z h0 "com/example/nuthatch/nuthatch/RetrySchedule" "DEFAULT" "Lcom/example/nuthatch/nuthatch/RetrySchedule;" (.ref df)) (f1 : Exa Z h0 df "com/example/nuthatch/nuthatch/RetrySchedule") (f2 : Fld Z h0 df "com/example/nuthatch/nuthatch/RetrySchedule" "delays" "Ljava/util/List;" (.ref dl)) (f3 : Exa Z h0 dl "java/util/ImmutableCollections$ListN") (f4 : Fld Z h0 dl "java/util/ImmutableCollections$ListN" "elements" "[Ljava/lang/Object;" (.ref bd)) (f5 : Arv Z h0 bd kd (.object "java/lang/Object") (9 : Int32) (own_W w) .null) (f6 : Sta Z h0 "java/util/ImmutableCollections" "EMPTY" "Ljava/lang/Object;" (.ref em)) (f7 : Exa Z h0 em "java/lang/Object") (f8 : UW Z h0 w sec) (f9 : Exa Z h0 al "java/util/ArrayList") (f10 : n0 ≤ al) (f11 : Fld Z h0 al "java/util/AbstractList" "modCount" "I" (.int mc)) (f12 : Fld Z h0 al "java/util/ArrayList" "elementData" "[Ljava/lang/Object;" (.ref b1)) (f13 : Fld Z h0 al "java/util/ArrayList" "size" "I" (.int (Int32.ofNat ys.length))) (f14 : Exa Z h0 b1 "[Ljava/lang/Object;") (f15 : n0 ≤ b1) (f16 : Arv Z h0 b1 k1 (.object "java/lang/Object") (10 : Int32) (own_AV ys) .null) (f17 : al ≠ b1) (f18 : df ≠ al) (f19 : df ≠ b1) (f20 : dl ≠ al) (f21 : dl ≠ b1) (f22 : bd ≠ al) (f23 : bd ≠ b1) (f24 : ∀ i, i < 9 → w i ≠ al) (f25 : ∀ i, i < 9 → w i ≠ b1) (hnk : n = Int32.ofNat kn) (hk7 : kn ≤ 7) (hk1 : 1 ≤ kn) (hyl : ys.length = min kn 3) (hys : ∀ y ∈ ys, ∃ i, i < 9 ∧ y = w i) (hsec : ∀ i, i < 9 → ¬ lcmpW (sec i) (0 : Int64) < (0 : Int32)) (ov1 : Ovr Z k1 "java/lang/Object") (MM : MirrorMade Z "[Ljava/lang/Object;") :
    Go pgm e below s (Q0 n0) 24 192 T0 (mkF m 103 #[vI (p0), vJ (p1), sS, vI (p2), vR (dl), vI (n), vR (al), sU] []) := by
  refine gs m T0 105 #[vI (p0), vJ (p1), sS, vI (p2), vR (dl), vI (n), vR (al), sU] [(.int n)] (fun _ k => XS.iload X0.here hx rfl (hb hby at_103) rfl  k) ?_
  refine gs m T0 106 #[vI (p0), vJ (p1), sS, vI (p2), vR (dl), vI (n), vR (al), sU] [(.int (3 : Int32)), (.int n)] (fun _ k => XS.iconst X0.here hx rfl (hb hby at_105) k) ?_
  by_cases hc101 : (3 : Int32) < n
  · skip
    refine gs m T0 109 #[vI (p0), vJ (p1), sS, vI (p2), vR (dl), vI (n), vR (al), sU] [] (fun _ k => XS.icmpNo X0.here hx rfl (hb hby at_106) rfl (tlt hc101).2.2.2 k) ?_
    refine gs m T0 111 #[vI (p0), vJ (p1), sS, vI (p2), vR (dl), vI (n), vR (al), sU] [(.ref al)] (fun _ k => XS.aload X0.here hx rfl (hb hby at_109) rfl rfl k) ?_
    refine gs m T0 113 #[vI (p0), vJ (p1), sS, vI (p2), vR (dl), vI (n), vR (al), sU] [(.ref dl), (.ref al)] (fun _ k => XS.aload X0.here hx rfl (hb hby at_111) rfl rfl k) ?_
    refine gs m T0 114 #[vI (p0), vJ (p1), sS, vI (p2), vR (dl), vI (n), vR (al), sU] [(.long p1), (.ref dl), (.ref al)] (fun _ k => XS.lloadN X0.here hx rfl (hb hby at_113) rfl  k) ?_
    refine gs m T0 115 #[vI (p0), vJ (p1), sS, vI (p2), vR (dl), vI (n), vR (al), sU] [(.int (3 : Int32)), (.long p1), (.ref dl), (.ref al)] (fun _ k => XS.iconst X0.here hx rfl (hb hby at_114) k) ?_
    obtain ⟨_, _, ⟨T102, L102, k102, n102⟩, -, X102, ⟨Lc102, hQ102, l102, y102, z102⟩, st102⟩ := Jvm.LawKit.callS X0 hx (y := (⟨"com/example/nuthatch/nuthatch/RetryScheduleMaxAttemptsPinLaw", "pick", "(JI)I"⟩ : MethodName)) hown (mvT hZ (hwi hw 120 rfl)) (mvT hZ (hwi hw 121 rfl)) (mvT hZ (hwi hw 122 rfl)) (mvT hZ (hwi hw 123 rfl)) (by decide) (backOf (W := 2) (Q := fun v h L => ∃ iq : Nat, (v = some (.int (Int32.ofNat iq))) ∧ (Fr n0 L) ∧ (h = h0) ∧ (iq < 9)) (own_pick l Z a0 hw [] p1 (3 : Int32) h0 n0 Z0 ) hZ (hwi hw 123 rfl) (hwi hw 122 rfl) (by decide) (by decide)) (g := (mkF m 115 #[vI (p0), vJ (p1), sS, vI (p2), vR (dl), vI (n), vR (al), sU] [(.int (3 : Int32)), (.long p1), (.ref dl), (.ref al)])) rfl (by rw [hml]; rfl) (argsL := [(.long p1), (.int (3 : Int32))]) (rest := [(.ref dl), (.ref al)]) (lenOf own_pd20 rfl) rfl (by show 2 * 0 + _ ≤ _; exact Nat.le_of_eq rfl) (hb hby at_115) (fun _ _ => ⟨rfl, e0, (by dsimp only [Pt.cells, Pt.slots, room_1]; omega), (by dsimp only [Pt.cells, Pt.slots, room_1]; omega)⟩)
    dsimp only [Pt.U, Pt.locs, Pt.cells, Pt.slots] at X102 l102 y102 z102 st102 hQ102
    subst l102 y102 z102
    obtain ⟨iq_102, rfl, N102q, eh102, R102_0⟩ := hQ102
    have N102 := Fr.app N0 N102q
    refine gs m T102 118 #[vI (p0), vJ (p1), sS, vI (p2), vR (dl), vI (n), vR (al), sU] [(.int (Int32.ofNat iq_102)), (.ref dl), (.ref al)] (st102) ?_
    obtain ⟨cq103, kq103, q103a, q103b, q103c⟩ := isOf hZ eh102 f3
    obtain ⟨_, _, ⟨T103, L103, k103, n103⟩, -, X103, ⟨Lc103, hQ103, l103, y103, z103⟩, st103⟩ := X102.interfaceBack hx (xi := (⟨"java/util/List", "get", "(I)Ljava/lang/Object;"⟩ : MethodName)) (y := (⟨"java/util/ImmutableCollections$ListN", "get", "(I)Ljava/lang/Object;"⟩ : MethodName)) hown (mvT hZ (hwi hw 125 rfl)) (mvT hZ (hwi hw 126 rfl)) (mvT hZ (hwi hw 127 rfl)) (mvT hZ (hwi hw 128 rfl)) (mvT hZ (hwi hw 129 rfl)) (mvT hZ (hwi hw 130 rfl)) (mvT hZ (hwi hw 131 rfl)) (mvT hZ (hwi hw 83 rfl)) (by decide) (backOf (W := 1) (Q := Qret (some (.ref (w iq_102))) h0 n0) (own_getw l Z a0 hw [] dl bd kd w iq_102 h0 n0 Z0 f3 f4 f5 R102_0) hZ (hwi hw 132 rfl) (hwi hw 94 rfl) (by decide) (by decide)) q103a q103b q103c (g := (mkF m 118 #[vI (p0), vJ (p1), sS, vI (p2), vR (dl), vI (n), vR (al), sU] [(.int (Int32.ofNat iq_102)), (.ref dl), (.ref al)])) rfl (by rw [hml]; rfl) (Steps.refl _) (argsL := [(.int (Int32.ofNat iq_102))]) (rest := [(.ref al)]) (lenOf own_pd15 rfl) rfl (by show 2 * 0 + _ ≤ _; exact Nat.le_of_eq rfl) (hb hby at_118) (fun _ _ => ⟨rfl, eh102, (by dsimp only [Pt.cells, Pt.slots, room_1]; omega), (by dsimp only [Pt.cells, Pt.slots, room_1]; omega)⟩)
    dsimp only [Pt.U, Pt.locs, Pt.cells, Pt.slots] at X103 l103 y103 z103 st103 hQ103
    subst l103 y103 z103
    obtain ⟨rfl, N103q, eh103⟩ := hQ103
    have N103 := Fr.app N102 N103q
    refine gs m T103 123 #[vI (p0), vJ (p1), sS, vI (p2), vR (dl), vI (n), vR (al), sU] [(.ref (w iq_102)), (.ref al)] (fun _ k => st103.trans k) ?_
    have Ew104 : Exa Z h0 (w iq_102) "java/time/Duration" := (f8 iq_102 R102_0).1
    obtain ⟨T105, X105, e105, st105⟩ := castY X103 hx hZ hown (hwi hw 133 rfl) eh103 (Ins.self Ew104) (g := (mkF m 123 #[vI (p0), vJ (p1), sS, vI (p2), vR (dl), vI (n), vR (al), sU] [(.ref (w iq_102)), (.ref al)])) rfl rfl (hb hby at_123)
    refine gs m T105 126 #[vI (p0), vJ (p1), sS, vI (p2), vR (dl), vI (n), vR (al), sU] [(.ref (w iq_102)), (.ref al)] st105 ?_
    obtain ⟨cq106, kq106, q106a, q106b, q106c⟩ := isOf hZ e105 f9
    obtain ⟨_, _, ⟨T106, L106, k106, n106⟩, -, X106, ⟨Lc106, hQ106, l106, y106, z106⟩, st106⟩ := X105.virtualBack hx (y := (⟨"java/util/ArrayList", "add", "(Ljava/lang/Object;)Z"⟩ : MethodName)) (z := (⟨"java/util/ArrayList", "add", "(Ljava/lang/Object;)Z"⟩ : MethodName)) hown (mvT hZ (hwi hw 135 rfl)) (mvT hZ (hwi hw 136 rfl)) (notFace_of_selects (args := #[]) (mvT hZ (hwi hw 138 rfl))) (mvT hZ (hwi hw 138 rfl)) (mvT hZ (hwi hw 137 rfl)) (by decide) (backOf (W := 0) (Q := fun v h L => (v = some (.int (1 : Int32))) ∧ (Fr n0 L) ∧ (Keep h0 h [al, b1]) ∧ (Exa Z h al "java/util/ArrayList") ∧ (Fld Z h al "java/util/AbstractList" "modCount" "I" (.int (mc + (1 : Int32)))) ∧ (Fld Z h al "java/util/ArrayList" "elementData" "[Ljava/lang/Object;" (.ref b1)) ∧ (Fld Z h al "java/util/ArrayList" "size" "I" (.int (Int32.ofNat (ys ++ [(w iq_102)]).length))) ∧ (Exa Z h b1 "[Ljava/lang/Object;") ∧ (Arv Z h b1 k1 (.object "java/lang/Object") (10 : Int32) (own_AV (ys ++ [(w iq_102)])) .null)) (own_addg l Z a0 hw [] al (w iq_102) b1 k1 mc ys h0 n0 Z0 f9 f10 f11 f12 f13 f14 f15 f17 f16 Ew104 ov1 (by omega)) hZ (hwi hw 139 rfl) (hwi hw 12 rfl) (by decide) (by decide)) q106a q106c (g := (mkF m 126 #[vI (p0), vJ (p1), sS, vI (p2), vR (dl), vI (n), vR (al), sU] [(.ref (w iq_102)), (.ref al)])) rfl (by rw [hml]; rfl) (Steps.refl _) (argsL := [(.ref (w iq_102))]) (rest := []) (lenOf own_pd21 rfl) rfl (by show 2 * 0 + _ ≤ _; exact Nat.le_of_eq rfl) (hb hby at_126) (fun _ _ => ⟨rfl, e105, (by dsimp only [Pt.cells, Pt.slots, room_1]; omega), (by dsimp only [Pt.cells, Pt.slots, room_1]; omega)⟩)
    dsimp only [Pt.U, Pt.locs, Pt.cells, Pt.slots] at X106 l106 y106 z106 st106 hQ106
    subst l106 y106 z106
    obtain ⟨rfl, N106q, K106, P106_0, P106_1, P106_2, P106_3, P106_4, P106_5⟩ := hQ106
    have N106 := Fr.app N103 N106q
    have Z106 : n0 ≤ T106.heap.size := Nat.le_trans Z0 K106.1
    have F107 := own_sta_keep f0 K106 (allS (own_plain f9) (allS (own_plain f14) all0))
    have F108 := f1.keep K106
    have F109 := f2.keep K106 (ninS f18 (ninS f19 nin0))
    have F110 := f3.keep K106
    have F111 := f4.keep K106 (ninS f20 (ninS f21 nin0))
    have F112 := f5.keep K106 (ninS f22 (ninS f23 nin0))
    have F113 := own_sta_keep f6 K106 (allS (own_plain f9) (allS (own_plain f14) all0))
    have F114 := f7.keep K106
    have F115 := f8.keep K106 (fun i hi => (ninS (f24 i hi) (ninS (f25 i hi) nin0)))
    have F116 := f9.keep K106
    have F117 := f14.keep K106
    have F118 := Ew104.keep K106
    refine gs m T106 129 #[vI (p0), vJ (p1), sS, vI (p2), vR (dl), vI (n), vR (al), sU] [(.int (1 : Int32))] (fun _ k => st106.trans k) ?_
    refine gs m T106 130 #[vI (p0), vJ (p1), sS, vI (p2), vR (dl), vI (n), vR (al), sU] [] (fun _ k => XS.pop X106.here hx rfl (hb hby at_129) rfl rfl k) ?_
    exact own_s4 p0 p1 p2 df dl bd kd em w sec n kn al (mc + (1 : Int32)) b1 k1 (ys ++ [(w iq_102)]) X106 hx hZ hw hby hml hown hret hlk rfl N106 Z106 (by omega) (by omega) F107 F108 F109 F110 F111 F112 F113 F114 F115 P106_0 f10 P106_1 P106_2 P106_3 P106_4 f15 P106_5 f17 f18 f19 f20 f21 f22 f23 f24 f25 hnk hk7 hk1 (by have q := (own_ltk (j := 3) hnk hk7 (by decide)).mp hc101; simp only [List.length_append, List.length_cons, List.length_nil]; omega) (own_hysS hys R102_0) hsec ov1 MM
  · skip
    refine gs m T0 130 #[vI (p0), vJ (p1), sS, vI (p2), vR (dl), vI (n), vR (al), sU] [] (fun _ k => XS.icmpYes X0.here hx rfl (pc0 := 106) (pc' := 130) rfl (hb hby at_106) rfl (flt hc101).2.2.2 (by decide) (by decide) k) ?_
    exact own_s4 p0 p1 p2 df dl bd kd em w sec n kn al mc b1 k1 ys X0 hx hZ hw hby hml hown hret hlk e0 N0 Z0 (by omega) (by omega) f0 f1 f2 f3 f4 f5 f6 f7 f8 f9 f10 f11 f12 f13 f14 f15 f16 f17 f18 f19 f20 f21 f22 f23 f24 f25 hnk hk7 hk1 (by have q := mt (own_ltk (j := 3) hnk hk7 (by decide)).mpr hc101; omega) hys hsec ov1 MM
theorem own_s2 {pgm : Program} {l : Launch} {e : Env} {s : State} {m : MethodId} {args : Array Value} {below : List Frame} {meth : Method} {c : Code} {T0 : State} {locs : List Loc} {cells slots : Nat} {Z : State} {a0 : Array Value} {h0 : Heap} {n0 : Nat} (p0 : Int32) (p1 : Int64) (p2 : Int32) (df : Addr) (dl : Addr) (bd : Addr) (kd : ClassId) (em : Addr) (w : Nat → Addr) (sec : Nat → Int64) (n : Int32) (kn : Nat) (al : Addr) (mc : Int32) (b1 : Addr) (k1 : ClassId) (ys : List Addr)
    (X0 : Stand pgm l e room_1 s m args below meth c T0 locs cells slots) (hx : pgm.tables.exec = Jvm.exec) (hZ : Z.Warmed39 s.vm) (hw : ∀ d ∈ tables_1, d.before a0 Z = true) (hby : c.code = code) (hml : c.maxLocals = maxLocals) (hown : s.vm.findClass "com/example/nuthatch/nuthatch/RetryScheduleMaxAttemptsPinLaw" = some m.cls) (hret : meth.sig.returnType = ret) (hlk : meth.locks = false) (e0 : T0.heap = h0) (N0 : Fr n0 locs) (Z0 : n0 ≤ h0.size) (hcells : cells ≤ 3) (hslots : slots ≤ 40) (f0 : Sta Z h0 "com/example/nuthatch/nuthatch/RetrySchedule" "DEFAULT" "Lcom/example/nuthatch/nuthatch/RetrySchedule;" (.ref df)) (f1 : Exa Z h0 df "com/example/nuthatch/nuthatch/RetrySchedule") (f2 : Fld Z h0 df "com/example/nuthatch/nuthatch/RetrySchedule" "delays" "Ljava/util/List;" (.ref dl)) (f3 : Exa Z h0 dl "java/util/ImmutableCollections$ListN") (f4 : Fld Z h0 dl "java/util/ImmutableCollections$ListN" "elements" "[Ljava/lang/Object;" (.ref bd)) (f5 : Arv Z h0 bd kd (.object "java/lang/Object") (9 : Int32) (own_W w) .null) (f6 : Sta Z h0 "java/util/ImmutableCollections" "EMPTY" "Ljava/lang/Object;" (.ref em)) (f7 : Exa Z h0 em "java/lang/Object") (f8 : UW Z h0 w sec) (f9 : Exa Z h0 al "java/util/ArrayList") (f10 : n0 ≤ al) (f11 : Fld Z h0 al "java/util/AbstractList" "modCount" "I" (.int mc)) (f12 : Fld Z h0 al "java/util/ArrayList" "elementData" "[Ljava/lang/Object;" (.ref b1)) (f13 : Fld Z h0 al "java/util/ArrayList" "size" "I" (.int (Int32.ofNat ys.length))) (f14 : Exa Z h0 b1 "[Ljava/lang/Object;") (f15 : n0 ≤ b1) (f16 : Arv Z h0 b1 k1 (.object "java/lang/Object") (10 : Int32) (own_AV ys) .null) (f17 : al ≠ b1) (f18 : df ≠ al) (f19 : df ≠ b1) (f20 : dl ≠ al) (f21 : dl ≠ b1) (f22 : bd ≠ al) (f23 : bd ≠ b1) (f24 : ∀ i, i < 9 → w i ≠ al) (f25 : ∀ i, i < 9 → w i ≠ b1) (hnk : n = Int32.ofNat kn) (hk7 : kn ≤ 7) (hk1 : 1 ≤ kn) (hyl : ys.length = min kn 2) (hys : ∀ y ∈ ys, ∃ i, i < 9 ∧ y = w i) (hsec : ∀ i, i < 9 → ¬ lcmpW (sec i) (0 : Int64) < (0 : Int32)) (ov1 : Ovr Z k1 "java/lang/Object") (MM : MirrorMade Z "[Ljava/lang/Object;") :
    Go pgm e below s (Q0 n0) 24 192 T0 (mkF m 76 #[vI (p0), vJ (p1), sS, vI (p2), vR (dl), vI (n), vR (al), sU] []) := by
  refine gs m T0 78 #[vI (p0), vJ (p1), sS, vI (p2), vR (dl), vI (n), vR (al), sU] [(.int n)] (fun _ k => XS.iload X0.here hx rfl (hb hby at_76) rfl  k) ?_
  refine gs m T0 79 #[vI (p0), vJ (p1), sS, vI (p2), vR (dl), vI (n), vR (al), sU] [(.int (2 : Int32)), (.int n)] (fun _ k => XS.iconst X0.here hx rfl (hb hby at_78) k) ?_
  by_cases hc101 : (2 : Int32) < n
  · skip
    refine gs m T0 82 #[vI (p0), vJ (p1), sS, vI (p2), vR (dl), vI (n), vR (al), sU] [] (fun _ k => XS.icmpNo X0.here hx rfl (hb hby at_79) rfl (tlt hc101).2.2.2 k) ?_
    refine gs m T0 84 #[vI (p0), vJ (p1), sS, vI (p2), vR (dl), vI (n), vR (al), sU] [(.ref al)] (fun _ k => XS.aload X0.here hx rfl (hb hby at_82) rfl rfl k) ?_
    refine gs m T0 86 #[vI (p0), vJ (p1), sS, vI (p2), vR (dl), vI (n), vR (al), sU] [(.ref dl), (.ref al)] (fun _ k => XS.aload X0.here hx rfl (hb hby at_84) rfl rfl k) ?_
    refine gs m T0 87 #[vI (p0), vJ (p1), sS, vI (p2), vR (dl), vI (n), vR (al), sU] [(.long p1), (.ref dl), (.ref al)] (fun _ k => XS.lloadN X0.here hx rfl (hb hby at_86) rfl  k) ?_
    refine gs m T0 88 #[vI (p0), vJ (p1), sS, vI (p2), vR (dl), vI (n), vR (al), sU] [(.int (2 : Int32)), (.long p1), (.ref dl), (.ref al)] (fun _ k => XS.iconst X0.here hx rfl (hb hby at_87) k) ?_
    obtain ⟨_, _, ⟨T102, L102, k102, n102⟩, -, X102, ⟨Lc102, hQ102, l102, y102, z102⟩, st102⟩ := Jvm.LawKit.callS X0 hx (y := (⟨"com/example/nuthatch/nuthatch/RetryScheduleMaxAttemptsPinLaw", "pick", "(JI)I"⟩ : MethodName)) hown (mvT hZ (hwi hw 120 rfl)) (mvT hZ (hwi hw 121 rfl)) (mvT hZ (hwi hw 122 rfl)) (mvT hZ (hwi hw 123 rfl)) (by decide) (backOf (W := 2) (Q := fun v h L => ∃ iq : Nat, (v = some (.int (Int32.ofNat iq))) ∧ (Fr n0 L) ∧ (h = h0) ∧ (iq < 9)) (own_pick l Z a0 hw [] p1 (2 : Int32) h0 n0 Z0 ) hZ (hwi hw 123 rfl) (hwi hw 122 rfl) (by decide) (by decide)) (g := (mkF m 88 #[vI (p0), vJ (p1), sS, vI (p2), vR (dl), vI (n), vR (al), sU] [(.int (2 : Int32)), (.long p1), (.ref dl), (.ref al)])) rfl (by rw [hml]; rfl) (argsL := [(.long p1), (.int (2 : Int32))]) (rest := [(.ref dl), (.ref al)]) (lenOf own_pd20 rfl) rfl (by show 2 * 0 + _ ≤ _; exact Nat.le_of_eq rfl) (hb hby at_88) (fun _ _ => ⟨rfl, e0, (by dsimp only [Pt.cells, Pt.slots, room_1]; omega), (by dsimp only [Pt.cells, Pt.slots, room_1]; omega)⟩)
    dsimp only [Pt.U, Pt.locs, Pt.cells, Pt.slots] at X102 l102 y102 z102 st102 hQ102
    subst l102 y102 z102
    obtain ⟨iq_102, rfl, N102q, eh102, R102_0⟩ := hQ102
    have N102 := Fr.app N0 N102q
    refine gs m T102 91 #[vI (p0), vJ (p1), sS, vI (p2), vR (dl), vI (n), vR (al), sU] [(.int (Int32.ofNat iq_102)), (.ref dl), (.ref al)] (st102) ?_
    obtain ⟨cq103, kq103, q103a, q103b, q103c⟩ := isOf hZ eh102 f3
    obtain ⟨_, _, ⟨T103, L103, k103, n103⟩, -, X103, ⟨Lc103, hQ103, l103, y103, z103⟩, st103⟩ := X102.interfaceBack hx (xi := (⟨"java/util/List", "get", "(I)Ljava/lang/Object;"⟩ : MethodName)) (y := (⟨"java/util/ImmutableCollections$ListN", "get", "(I)Ljava/lang/Object;"⟩ : MethodName)) hown (mvT hZ (hwi hw 125 rfl)) (mvT hZ (hwi hw 126 rfl)) (mvT hZ (hwi hw 127 rfl)) (mvT hZ (hwi hw 128 rfl)) (mvT hZ (hwi hw 129 rfl)) (mvT hZ (hwi hw 130 rfl)) (mvT hZ (hwi hw 131 rfl)) (mvT hZ (hwi hw 83 rfl)) (by decide) (backOf (W := 1) (Q := Qret (some (.ref (w iq_102))) h0 n0) (own_getw l Z a0 hw [] dl bd kd w iq_102 h0 n0 Z0 f3 f4 f5 R102_0) hZ (hwi hw 132 rfl) (hwi hw 94 rfl) (by decide) (by decide)) q103a q103b q103c (g := (mkF m 91 #[vI (p0), vJ (p1), sS, vI (p2), vR (dl), vI (n), vR (al), sU] [(.int (Int32.ofNat iq_102)), (.ref dl), (.ref al)])) rfl (by rw [hml]; rfl) (Steps.refl _) (argsL := [(.int (Int32.ofNat iq_102))]) (rest := [(.ref al)]) (lenOf own_pd15 rfl) rfl (by show 2 * 0 + _ ≤ _; exact Nat.le_of_eq rfl) (hb hby at_91) (fun _ _ => ⟨rfl, eh102, (by dsimp only [Pt.cells, Pt.slots, room_1]; omega), (by dsimp only [Pt.cells, Pt.slots, room_1]; omega)⟩)
    dsimp only [Pt.U, Pt.locs, Pt.cells, Pt.slots] at X103 l103 y103 z103 st103 hQ103
    subst l103 y103 z103
    obtain ⟨rfl, N103q, eh103⟩ := hQ103
    have N103 := Fr.app N102 N103q
    refine gs m T103 96 #[vI (p0), vJ (p1), sS, vI (p2), vR (dl), vI (n), vR (al), sU] [(.ref (w iq_102)), (.ref al)] (fun _ k => st103.trans k) ?_
    have Ew104 : Exa Z h0 (w iq_102) "java/time/Duration" := (f8 iq_102 R102_0).1
    obtain ⟨T105, X105, e105, st105⟩ := castY X103 hx hZ hown (hwi hw 133 rfl) eh103 (Ins.self Ew104) (g := (mkF m 96 #[vI (p0), vJ (p1), sS, vI (p2), vR (dl), vI (n), vR (al), sU] [(.ref (w iq_102)), (.ref al)])) rfl rfl (hb hby at_96)
    refine gs m T105 99 #[vI (p0), vJ (p1), sS, vI (p2), vR (dl), vI (n), vR (al), sU] [(.ref (w iq_102)), (.ref al)] st105 ?_
    obtain ⟨cq106, kq106, q106a, q106b, q106c⟩ := isOf hZ e105 f9
    obtain ⟨_, _, ⟨T106, L106, k106, n106⟩, -, X106, ⟨Lc106, hQ106, l106, y106, z106⟩, st106⟩ := X105.virtualBack hx (y := (⟨"java/util/ArrayList", "add", "(Ljava/lang/Object;)Z"⟩ : MethodName)) (z := (⟨"java/util/ArrayList", "add", "(Ljava/lang/Object;)Z"⟩ : MethodName)) hown (mvT hZ (hwi hw 135 rfl)) (mvT hZ (hwi hw 136 rfl)) (notFace_of_selects (args := #[]) (mvT hZ (hwi hw 138 rfl))) (mvT hZ (hwi hw 138 rfl)) (mvT hZ (hwi hw 137 rfl)) (by decide) (backOf (W := 0) (Q := fun v h L => (v = some (.int (1 : Int32))) ∧ (Fr n0 L) ∧ (Keep h0 h [al, b1]) ∧ (Exa Z h al "java/util/ArrayList") ∧ (Fld Z h al "java/util/AbstractList" "modCount" "I" (.int (mc + (1 : Int32)))) ∧ (Fld Z h al "java/util/ArrayList" "elementData" "[Ljava/lang/Object;" (.ref b1)) ∧ (Fld Z h al "java/util/ArrayList" "size" "I" (.int (Int32.ofNat (ys ++ [(w iq_102)]).length))) ∧ (Exa Z h b1 "[Ljava/lang/Object;") ∧ (Arv Z h b1 k1 (.object "java/lang/Object") (10 : Int32) (own_AV (ys ++ [(w iq_102)])) .null)) (own_addg l Z a0 hw [] al (w iq_102) b1 k1 mc ys h0 n0 Z0 f9 f10 f11 f12 f13 f14 f15 f17 f16 Ew104 ov1 (by omega)) hZ (hwi hw 139 rfl) (hwi hw 12 rfl) (by decide) (by decide)) q106a q106c (g := (mkF m 99 #[vI (p0), vJ (p1), sS, vI (p2), vR (dl), vI (n), vR (al), sU] [(.ref (w iq_102)), (.ref al)])) rfl (by rw [hml]; rfl) (Steps.refl _) (argsL := [(.ref (w iq_102))]) (rest := []) (lenOf own_pd21 rfl) rfl (by show 2 * 0 + _ ≤ _; exact Nat.le_of_eq rfl) (hb hby at_99) (fun _ _ => ⟨rfl, e105, (by dsimp only [Pt.cells, Pt.slots, room_1]; omega), (by dsimp only [Pt.cells, Pt.slots, room_1]; omega)⟩)
    dsimp only [Pt.U, Pt.locs, Pt.cells, Pt.slots] at X106 l106 y106 z106 st106 hQ106
    subst l106 y106 z106
    obtain ⟨rfl, N106q, K106, P106_0, P106_1, P106_2, P106_3, P106_4, P106_5⟩ := hQ106
    have N106 := Fr.app N103 N106q
    have Z106 : n0 ≤ T106.heap.size := Nat.le_trans Z0 K106.1
    have F107 := own_sta_keep f0 K106 (allS (own_plain f9) (allS (own_plain f14) all0))
    have F108 := f1.keep K106
    have F109 := f2.keep K106 (ninS f18 (ninS f19 nin0))
    have F110 := f3.keep K106
    have F111 := f4.keep K106 (ninS f20 (ninS f21 nin0))
    have F112 := f5.keep K106 (ninS f22 (ninS f23 nin0))
    have F113 := own_sta_keep f6 K106 (allS (own_plain f9) (allS (own_plain f14) all0))
    have F114 := f7.keep K106
    have F115 := f8.keep K106 (fun i hi => (ninS (f24 i hi) (ninS (f25 i hi) nin0)))
    have F116 := f9.keep K106
    have F117 := f14.keep K106
    have F118 := Ew104.keep K106
    refine gs m T106 102 #[vI (p0), vJ (p1), sS, vI (p2), vR (dl), vI (n), vR (al), sU] [(.int (1 : Int32))] (fun _ k => st106.trans k) ?_
    refine gs m T106 103 #[vI (p0), vJ (p1), sS, vI (p2), vR (dl), vI (n), vR (al), sU] [] (fun _ k => XS.pop X106.here hx rfl (hb hby at_102) rfl rfl k) ?_
    exact own_s3 p0 p1 p2 df dl bd kd em w sec n kn al (mc + (1 : Int32)) b1 k1 (ys ++ [(w iq_102)]) X106 hx hZ hw hby hml hown hret hlk rfl N106 Z106 (by omega) (by omega) F107 F108 F109 F110 F111 F112 F113 F114 F115 P106_0 f10 P106_1 P106_2 P106_3 P106_4 f15 P106_5 f17 f18 f19 f20 f21 f22 f23 f24 f25 hnk hk7 hk1 (by have q := (own_ltk (j := 2) hnk hk7 (by decide)).mp hc101; simp only [List.length_append, List.length_cons, List.length_nil]; omega) (own_hysS hys R102_0) hsec ov1 MM
  · skip
    refine gs m T0 103 #[vI (p0), vJ (p1), sS, vI (p2), vR (dl), vI (n), vR (al), sU] [] (fun _ k => XS.icmpYes X0.here hx rfl (pc0 := 79) (pc' := 103) rfl (hb hby at_79) rfl (flt hc101).2.2.2 (by decide) (by decide) k) ?_
    exact own_s3 p0 p1 p2 df dl bd kd em w sec n kn al mc b1 k1 ys X0 hx hZ hw hby hml hown hret hlk e0 N0 Z0 (by omega) (by omega) f0 f1 f2 f3 f4 f5 f6 f7 f8 f9 f10 f11 f12 f13 f14 f15 f16 f17 f18 f19 f20 f21 f22 f23 f24 f25 hnk hk7 hk1 (by have q := mt (own_ltk (j := 2) hnk hk7 (by decide)).mpr hc101; omega) hys hsec ov1 MM
theorem own_s1 {pgm : Program} {l : Launch} {e : Env} {s : State} {m : MethodId} {args : Array Value} {below : List Frame} {meth : Method} {c : Code} {T0 : State} {locs : List Loc} {cells slots : Nat} {Z : State} {a0 : Array Value} {h0 : Heap} {n0 : Nat} (p0 : Int32) (p1 : Int64) (p2 : Int32) (df : Addr) (dl : Addr) (bd : Addr) (kd : ClassId) (em : Addr) (w : Nat → Addr) (sec : Nat → Int64) (n : Int32) (kn : Nat) (al : Addr) (mc : Int32) (b1 : Addr) (k1 : ClassId) (ys : List Addr)
    (X0 : Stand pgm l e room_1 s m args below meth c T0 locs cells slots) (hx : pgm.tables.exec = Jvm.exec) (hZ : Z.Warmed39 s.vm) (hw : ∀ d ∈ tables_1, d.before a0 Z = true) (hby : c.code = code) (hml : c.maxLocals = maxLocals) (hown : s.vm.findClass "com/example/nuthatch/nuthatch/RetryScheduleMaxAttemptsPinLaw" = some m.cls) (hret : meth.sig.returnType = ret) (hlk : meth.locks = false) (e0 : T0.heap = h0) (N0 : Fr n0 locs) (Z0 : n0 ≤ h0.size) (hcells : cells ≤ 3) (hslots : slots ≤ 40) (f0 : Sta Z h0 "com/example/nuthatch/nuthatch/RetrySchedule" "DEFAULT" "Lcom/example/nuthatch/nuthatch/RetrySchedule;" (.ref df)) (f1 : Exa Z h0 df "com/example/nuthatch/nuthatch/RetrySchedule") (f2 : Fld Z h0 df "com/example/nuthatch/nuthatch/RetrySchedule" "delays" "Ljava/util/List;" (.ref dl)) (f3 : Exa Z h0 dl "java/util/ImmutableCollections$ListN") (f4 : Fld Z h0 dl "java/util/ImmutableCollections$ListN" "elements" "[Ljava/lang/Object;" (.ref bd)) (f5 : Arv Z h0 bd kd (.object "java/lang/Object") (9 : Int32) (own_W w) .null) (f6 : Sta Z h0 "java/util/ImmutableCollections" "EMPTY" "Ljava/lang/Object;" (.ref em)) (f7 : Exa Z h0 em "java/lang/Object") (f8 : UW Z h0 w sec) (f9 : Exa Z h0 al "java/util/ArrayList") (f10 : n0 ≤ al) (f11 : Fld Z h0 al "java/util/AbstractList" "modCount" "I" (.int mc)) (f12 : Fld Z h0 al "java/util/ArrayList" "elementData" "[Ljava/lang/Object;" (.ref b1)) (f13 : Fld Z h0 al "java/util/ArrayList" "size" "I" (.int (Int32.ofNat ys.length))) (f14 : Exa Z h0 b1 "[Ljava/lang/Object;") (f15 : n0 ≤ b1) (f16 : Arv Z h0 b1 k1 (.object "java/lang/Object") (10 : Int32) (own_AV ys) .null) (f17 : al ≠ b1) (f18 : df ≠ al) (f19 : df ≠ b1) (f20 : dl ≠ al) (f21 : dl ≠ b1) (f22 : bd ≠ al) (f23 : bd ≠ b1) (f24 : ∀ i, i < 9 → w i ≠ al) (f25 : ∀ i, i < 9 → w i ≠ b1) (hnk : n = Int32.ofNat kn) (hk7 : kn ≤ 7) (hk1 : 1 ≤ kn) (hyl : ys.length = min kn 1) (hys : ∀ y ∈ ys, ∃ i, i < 9 ∧ y = w i) (hsec : ∀ i, i < 9 → ¬ lcmpW (sec i) (0 : Int64) < (0 : Int32)) (ov1 : Ovr Z k1 "java/lang/Object") (MM : MirrorMade Z "[Ljava/lang/Object;") :
    Go pgm e below s (Q0 n0) 24 192 T0 (mkF m 49 #[vI (p0), vJ (p1), sS, vI (p2), vR (dl), vI (n), vR (al), sU] []) := by
  refine gs m T0 51 #[vI (p0), vJ (p1), sS, vI (p2), vR (dl), vI (n), vR (al), sU] [(.int n)] (fun _ k => XS.iload X0.here hx rfl (hb hby at_49) rfl  k) ?_
  refine gs m T0 52 #[vI (p0), vJ (p1), sS, vI (p2), vR (dl), vI (n), vR (al), sU] [(.int (1 : Int32)), (.int n)] (fun _ k => XS.iconst X0.here hx rfl (hb hby at_51) k) ?_
  by_cases hc101 : (1 : Int32) < n
  · skip
    refine gs m T0 55 #[vI (p0), vJ (p1), sS, vI (p2), vR (dl), vI (n), vR (al), sU] [] (fun _ k => XS.icmpNo X0.here hx rfl (hb hby at_52) rfl (tlt hc101).2.2.2 k) ?_
    refine gs m T0 57 #[vI (p0), vJ (p1), sS, vI (p2), vR (dl), vI (n), vR (al), sU] [(.ref al)] (fun _ k => XS.aload X0.here hx rfl (hb hby at_55) rfl rfl k) ?_
    refine gs m T0 59 #[vI (p0), vJ (p1), sS, vI (p2), vR (dl), vI (n), vR (al), sU] [(.ref dl), (.ref al)] (fun _ k => XS.aload X0.here hx rfl (hb hby at_57) rfl rfl k) ?_
    refine gs m T0 60 #[vI (p0), vJ (p1), sS, vI (p2), vR (dl), vI (n), vR (al), sU] [(.long p1), (.ref dl), (.ref al)] (fun _ k => XS.lloadN X0.here hx rfl (hb hby at_59) rfl  k) ?_
    refine gs m T0 61 #[vI (p0), vJ (p1), sS, vI (p2), vR (dl), vI (n), vR (al), sU] [(.int (1 : Int32)), (.long p1), (.ref dl), (.ref al)] (fun _ k => XS.iconst X0.here hx rfl (hb hby at_60) k) ?_
    obtain ⟨_, _, ⟨T102, L102, k102, n102⟩, -, X102, ⟨Lc102, hQ102, l102, y102, z102⟩, st102⟩ := Jvm.LawKit.callS X0 hx (y := (⟨"com/example/nuthatch/nuthatch/RetryScheduleMaxAttemptsPinLaw", "pick", "(JI)I"⟩ : MethodName)) hown (mvT hZ (hwi hw 120 rfl)) (mvT hZ (hwi hw 121 rfl)) (mvT hZ (hwi hw 122 rfl)) (mvT hZ (hwi hw 123 rfl)) (by decide) (backOf (W := 2) (Q := fun v h L => ∃ iq : Nat, (v = some (.int (Int32.ofNat iq))) ∧ (Fr n0 L) ∧ (h = h0) ∧ (iq < 9)) (own_pick l Z a0 hw [] p1 (1 : Int32) h0 n0 Z0 ) hZ (hwi hw 123 rfl) (hwi hw 122 rfl) (by decide) (by decide)) (g := (mkF m 61 #[vI (p0), vJ (p1), sS, vI (p2), vR (dl), vI (n), vR (al), sU] [(.int (1 : Int32)), (.long p1), (.ref dl), (.ref al)])) rfl (by rw [hml]; rfl) (argsL := [(.long p1), (.int (1 : Int32))]) (rest := [(.ref dl), (.ref al)]) (lenOf own_pd20 rfl) rfl (by show 2 * 0 + _ ≤ _; exact Nat.le_of_eq rfl) (hb hby at_61) (fun _ _ => ⟨rfl, e0, (by dsimp only [Pt.cells, Pt.slots, room_1]; omega), (by dsimp only [Pt.cells, Pt.slots, room_1]; omega)⟩)
    dsimp only [Pt.U, Pt.locs, Pt.cells, Pt.slots] at X102 l102 y102 z102 st102 hQ102
    subst l102 y102 z102
    obtain ⟨iq_102, rfl, N102q, eh102, R102_0⟩ := hQ102
    have N102 := Fr.app N0 N102q
    refine gs m T102 64 #[vI (p0), vJ (p1), sS, vI (p2), vR (dl), vI (n), vR (al), sU] [(.int (Int32.ofNat iq_102)), (.ref dl), (.ref al)] (st102) ?_
    obtain ⟨cq103, kq103, q103a, q103b, q103c⟩ := isOf hZ eh102 f3
    obtain ⟨_, _, ⟨T103, L103, k103, n103⟩, -, X103, ⟨Lc103, hQ103, l103, y103, z103⟩, st103⟩ := X102.interfaceBack hx (xi := (⟨"java/util/List", "get", "(I)Ljava/lang/Object;"⟩ : MethodName)) (y := (⟨"java/util/ImmutableCollections$ListN", "get", "(I)Ljava/lang/Object;"⟩ : MethodName)) hown (mvT hZ (hwi hw 125 rfl)) (mvT hZ (hwi hw 126 rfl)) (mvT hZ (hwi hw 127 rfl)) (mvT hZ (hwi hw 128 rfl)) (mvT hZ (hwi hw 129 rfl)) (mvT hZ (hwi hw 130 rfl)) (mvT hZ (hwi hw 131 rfl)) (mvT hZ (hwi hw 83 rfl)) (by decide) (backOf (W := 1) (Q := Qret (some (.ref (w iq_102))) h0 n0) (own_getw l Z a0 hw [] dl bd kd w iq_102 h0 n0 Z0 f3 f4 f5 R102_0) hZ (hwi hw 132 rfl) (hwi hw 94 rfl) (by decide) (by decide)) q103a q103b q103c (g := (mkF m 64 #[vI (p0), vJ (p1), sS, vI (p2), vR (dl), vI (n), vR (al), sU] [(.int (Int32.ofNat iq_102)), (.ref dl), (.ref al)])) rfl (by rw [hml]; rfl) (Steps.refl _) (argsL := [(.int (Int32.ofNat iq_102))]) (rest := [(.ref al)]) (lenOf own_pd15 rfl) rfl (by show 2 * 0 + _ ≤ _; exact Nat.le_of_eq rfl) (hb hby at_64) (fun _ _ => ⟨rfl, eh102, (by dsimp only [Pt.cells, Pt.slots, room_1]; omega), (by dsimp only [Pt.cells, Pt.slots, room_1]; omega)⟩)
    dsimp only [Pt.U, Pt.locs, Pt.cells, Pt.slots] at X103 l103 y103 z103 st103 hQ103
    subst l103 y103 z103
    obtain ⟨rfl, N103q, eh103⟩ := hQ103
    have N103 := Fr.app N102 N103q
    refine gs m T103 69 #[vI (p0), vJ (p1), sS, vI (p2), vR (dl), vI (n), vR (al), sU] [(.ref (w iq_102)), (.ref al)] (fun _ k => st103.trans k) ?_
    have Ew104 : Exa Z h0 (w iq_102) "java/time/Duration" := (f8 iq_102 R102_0).1
    obtain ⟨T105, X105, e105, st105⟩ := castY X103 hx hZ hown (hwi hw 133 rfl) eh103 (Ins.self Ew104) (g := (mkF m 69 #[vI (p0), vJ (p1), sS, vI (p2), vR (dl), vI (n), vR (al), sU] [(.ref (w iq_102)), (.ref al)])) rfl rfl (hb hby at_69)
    refine gs m T105 72 #[vI (p0), vJ (p1), sS, vI (p2), vR (dl), vI (n), vR (al), sU] [(.ref (w iq_102)), (.ref al)] st105 ?_
    obtain ⟨cq106, kq106, q106a, q106b, q106c⟩ := isOf hZ e105 f9
    obtain ⟨_, _, ⟨T106, L106, k106, n106⟩, -, X106, ⟨Lc106, hQ106, l106, y106, z106⟩, st106⟩ := X105.virtualBack hx (y := (⟨"java/util/ArrayList", "add", "(Ljava/lang/Object;)Z"⟩ : MethodName)) (z := (⟨"java/util/ArrayList", "add", "(Ljava/lang/Object;)Z"⟩ : MethodName)) hown (mvT hZ (hwi hw 135 rfl)) (mvT hZ (hwi hw 136 rfl)) (notFace_of_selects (args := #[]) (mvT hZ (hwi hw 138 rfl))) (mvT hZ (hwi hw 138 rfl)) (mvT hZ (hwi hw 137 rfl)) (by decide) (backOf (W := 0) (Q := fun v h L => (v = some (.int (1 : Int32))) ∧ (Fr n0 L) ∧ (Keep h0 h [al, b1]) ∧ (Exa Z h al "java/util/ArrayList") ∧ (Fld Z h al "java/util/AbstractList" "modCount" "I" (.int (mc + (1 : Int32)))) ∧ (Fld Z h al "java/util/ArrayList" "elementData" "[Ljava/lang/Object;" (.ref b1)) ∧ (Fld Z h al "java/util/ArrayList" "size" "I" (.int (Int32.ofNat (ys ++ [(w iq_102)]).length))) ∧ (Exa Z h b1 "[Ljava/lang/Object;") ∧ (Arv Z h b1 k1 (.object "java/lang/Object") (10 : Int32) (own_AV (ys ++ [(w iq_102)])) .null)) (own_addg l Z a0 hw [] al (w iq_102) b1 k1 mc ys h0 n0 Z0 f9 f10 f11 f12 f13 f14 f15 f17 f16 Ew104 ov1 (by omega)) hZ (hwi hw 139 rfl) (hwi hw 12 rfl) (by decide) (by decide)) q106a q106c (g := (mkF m 72 #[vI (p0), vJ (p1), sS, vI (p2), vR (dl), vI (n), vR (al), sU] [(.ref (w iq_102)), (.ref al)])) rfl (by rw [hml]; rfl) (Steps.refl _) (argsL := [(.ref (w iq_102))]) (rest := []) (lenOf own_pd21 rfl) rfl (by show 2 * 0 + _ ≤ _; exact Nat.le_of_eq rfl) (hb hby at_72) (fun _ _ => ⟨rfl, e105, (by dsimp only [Pt.cells, Pt.slots, room_1]; omega), (by dsimp only [Pt.cells, Pt.slots, room_1]; omega)⟩)
    dsimp only [Pt.U, Pt.locs, Pt.cells, Pt.slots] at X106 l106 y106 z106 st106 hQ106
    subst l106 y106 z106
    obtain ⟨rfl, N106q, K106, P106_0, P106_1, P106_2, P106_3, P106_4, P106_5⟩ := hQ106
    have N106 := Fr.app N103 N106q
    have Z106 : n0 ≤ T106.heap.size := Nat.le_trans Z0 K106.1
    have F107 := own_sta_keep f0 K106 (allS (own_plain f9) (allS (own_plain f14) all0))
    have F108 := f1.keep K106
    have F109 := f2.keep K106 (ninS f18 (ninS f19 nin0))
    have F110 := f3.keep K106
    have F111 := f4.keep K106 (ninS f20 (ninS f21 nin0))
    have F112 := f5.keep K106 (ninS f22 (ninS f23 nin0))
    have F113 := own_sta_keep f6 K106 (allS (own_plain f9) (allS (own_plain f14) all0))
    have F114 := f7.keep K106
    have F115 := f8.keep K106 (fun i hi => (ninS (f24 i hi) (ninS (f25 i hi) nin0)))
    have F116 := f9.keep K106
    have F117 := f14.keep K106
    have F118 := Ew104.keep K106
    refine gs m T106 75 #[vI (p0), vJ (p1), sS, vI (p2), vR (dl), vI (n), vR (al), sU] [(.int (1 : Int32))] (fun _ k => st106.trans k) ?_
    refine gs m T106 76 #[vI (p0), vJ (p1), sS, vI (p2), vR (dl), vI (n), vR (al), sU] [] (fun _ k => XS.pop X106.here hx rfl (hb hby at_75) rfl rfl k) ?_
    exact own_s2 p0 p1 p2 df dl bd kd em w sec n kn al (mc + (1 : Int32)) b1 k1 (ys ++ [(w iq_102)]) X106 hx hZ hw hby hml hown hret hlk rfl N106 Z106 (by omega) (by omega) F107 F108 F109 F110 F111 F112 F113 F114 F115 P106_0 f10 P106_1 P106_2 P106_3 P106_4 f15 P106_5 f17 f18 f19 f20 f21 f22 f23 f24 f25 hnk hk7 hk1 (by have q := (own_ltk (j := 1) hnk hk7 (by decide)).mp hc101; simp only [List.length_append, List.length_cons, List.length_nil]; omega) (own_hysS hys R102_0) hsec ov1 MM
  · skip
    refine gs m T0 76 #[vI (p0), vJ (p1), sS, vI (p2), vR (dl), vI (n), vR (al), sU] [] (fun _ k => XS.icmpYes X0.here hx rfl (pc0 := 52) (pc' := 76) rfl (hb hby at_52) rfl (flt hc101).2.2.2 (by decide) (by decide) k) ?_
    exact own_s2 p0 p1 p2 df dl bd kd em w sec n kn al mc b1 k1 ys X0 hx hZ hw hby hml hown hret hlk e0 N0 Z0 (by omega) (by omega) f0 f1 f2 f3 f4 f5 f6 f7 f8 f9 f10 f11 f12 f13 f14 f15 f16 f17 f18 f19 f20 f21 f22 f23 f24 f25 hnk hk7 hk1 (by have q := mt (own_ltk (j := 1) hnk hk7 (by decide)).mpr hc101; omega) hys hsec ov1 MM
theorem own_ef_code_IJI (m : MethodId) (x0 : Int32) (x1 : Int64) (x2 : Int32) : entryFrame m #[(.int x0), (.long x1), (.int x2)] maxLocals = mkF m 0 #[vI (x0), vJ (x1), sS, vI (x2), sU, sU, sU, sU] [] := by first | (simp [entryFrame, mkF, argsToLocals, Value.category, maxLocals]; done) | rfl | (simp [entryFrame, mkF, argsToLocals, own_cI, own_cJ, own_cR, own_cN, maxLocals]; done)
theorem rm0 (l : Launch) (Z : State) (a0 : Array Value) (hw : ∀ d ∈ tables_1, d.before a0 Z = true) (ws : List Jvm.Cond) (p0 : Int32) (p1 : Int64) (p2 : Int32) (df : Addr) (dl : Addr) (bd : Addr) (kd : ClassId) (em : Addr) (w : Nat → Addr) (sec : Nat → Int64) (ea : Addr) (ke : ClassId) (el : Addr) (bz : Addr) (kz : ClassId) (h0 : Heap) (n0 : Nat) (Z0 : n0 ≤ h0.size) (f0 : Sta Z h0 "com/example/nuthatch/nuthatch/RetrySchedule" "DEFAULT" "Lcom/example/nuthatch/nuthatch/RetrySchedule;" (.ref df)) (f1 : Exa Z h0 df "com/example/nuthatch/nuthatch/RetrySchedule") (f2 : Fld Z h0 df "com/example/nuthatch/nuthatch/RetrySchedule" "delays" "Ljava/util/List;" (.ref dl)) (f3 : Exa Z h0 dl "java/util/ImmutableCollections$ListN") (f4 : Fld Z h0 dl "java/util/ImmutableCollections$ListN" "elements" "[Ljava/lang/Object;" (.ref bd)) (f5 : Arv Z h0 bd kd (.object "java/lang/Object") (9 : Int32) (own_W w) .null) (f6 : Sta Z h0 "java/util/ImmutableCollections" "EMPTY" "Ljava/lang/Object;" (.ref em)) (f7 : Exa Z h0 em "java/lang/Object") (f8 : UW Z h0 w sec) (f9 : Sta Z h0 "java/util/ArrayList" "DEFAULTCAPACITY_EMPTY_ELEMENTDATA" "[Ljava/lang/Object;" (.ref ea)) (f10 : Arv Z h0 ea ke (.object "java/lang/Object") (0 : Int32) [] .null) (f11 : Sta Z h0 "java/util/ImmutableCollections" "EMPTY_LIST" "Ljava/util/ImmutableCollections$ListN;" (.ref el)) (f12 : Exa Z h0 el "java/util/ImmutableCollections$ListN") (f13 : Fld Z h0 el "java/util/ImmutableCollections$ListN" "elements" "[Ljava/lang/Object;" (.ref bz)) (f14 : Arv Z h0 bz kz (.object "java/lang/Object") (0 : Int32) [] .null) (MM : MirrorMade Z "[Ljava/lang/Object;") (hsec : ∀ i, i < 9 → ¬ lcmpW (sec i) (0 : Int64) < (0 : Int32)) :
    Con l Z x code maxLocals ret room_1 ws #[(.int p0), (.long p1), (.int p2)] h0 (Q0 n0) 24 192 := by
  refine Con.of (plainFor_of_name own_pn_RetryScheduleMaxAttemptsPinLaw) ?_
  intro pgm e s m below meth c s₁ X0 hx hZ hby hml hown hnm hret hlk e0 hs0
  have N0 := Fr.nil n0
  have hown : s.vm.findClass "com/example/nuthatch/nuthatch/RetryScheduleMaxAttemptsPinLaw" = some m.cls := hown
  have hnm : meth.name = "law" := hnm
  refine Go.cast (own_ef_code_IJI m p0 p1 p2) ?_
  obtain ⟨T101, X101, e101, st101⟩ := getS2 X0 hx hZ hown (host := "") (Or.inl (hwi hw 0 rfl)) Via.refl e0 f0 (g := (mkF m 0 #[vI (p0), vJ (p1), sS, vI (p2), sU, sU, sU, sU] [])) rfl (hb hby at_0)
  refine gs m T101 3 #[vI (p0), vJ (p1), sS, vI (p2), sU, sU, sU, sU] [(.ref df)] st101 ?_
  obtain ⟨cq102, kq102, q102a, q102b, q102c⟩ := isOf hZ e101 f1
  obtain ⟨_, _, ⟨T102, L102, k102, n102⟩, -, X102, ⟨Lc102, hQ102, l102, y102, z102⟩, st102⟩ := X101.virtualBack hx (y := (⟨"com/example/nuthatch/nuthatch/RetrySchedule", "delays", "()Ljava/util/List;"⟩ : MethodName)) (z := (⟨"com/example/nuthatch/nuthatch/RetrySchedule", "delays", "()Ljava/util/List;"⟩ : MethodName)) hown (mvT hZ (hwi hw 3 rfl)) (mvT hZ (hwi hw 4 rfl)) (notFace_of_selects (args := #[]) (mvT hZ (hwi hw 6 rfl))) (mvT hZ (hwi hw 6 rfl)) (mvT hZ (hwi hw 5 rfl)) (by decide) (backOf (W := 0) (Q := Qret (some (.ref dl)) h0 n0) (own_dls l Z a0 hw [] df dl h0 n0 Z0 f2) hZ (hwi hw 7 rfl) (hwi hw 1 rfl) (by decide) (by decide)) q102a q102c (g := (mkF m 3 #[vI (p0), vJ (p1), sS, vI (p2), sU, sU, sU, sU] [(.ref df)])) rfl (by rw [hml]; rfl) (Steps.refl _) (argsL := []) (rest := []) (lenOf own_pd10 rfl) rfl (by show 2 * 0 + _ ≤ _; exact Nat.le_of_eq rfl) (hb hby at_3) (fun _ _ => ⟨rfl, e101, (by decide : 0 + 0 ≤ _), (by decide : 0 + 0 ≤ _)⟩)
  dsimp only [Pt.U, Pt.locs, Pt.cells, Pt.slots] at X102 l102 y102 z102 st102 hQ102
  subst l102 y102 z102
  obtain ⟨rfl, N102q, eh102⟩ := hQ102
  have N102 := Fr.app N0 N102q
  refine gs m T102 6 #[vI (p0), vJ (p1), sS, vI (p2), sU, sU, sU, sU] [(.ref dl)] (fun _ k => st102.trans k) ?_
  refine gs m T102 8 #[vI (p0), vJ (p1), sS, vI (p2), vR (dl), sU, sU, sU] [] (fun _ k => XS.astore X102.here hx rfl (hb hby at_6) rfl rfl (l' := #[vI (p0), vJ (p1), sS, vI (p2), vR (dl), sU, sU, sU]) rfl k) ?_
  refine gs m T102 9 #[vI (p0), vJ (p1), sS, vI (p2), vR (dl), sU, sU, sU] [(.int p0)] (fun _ k => XS.iloadN X102.here hx rfl (hb hby at_8) rfl  k) ?_
  refine gs m T102 11 #[vI (p0), vJ (p1), sS, vI (p2), vR (dl), sU, sU, sU] [(.int (7 : Int32)), (.int p0)] (fun _ k => XS.bipush X102.here hx rfl (hb hby at_9) k) ?_
  refine gs m T102 12 #[vI (p0), vJ (p1), sS, vI (p2), vR (dl), sU, sU, sU] [(.int (p0 &&& (7 : Int32)))] (fun _ k => XS.iand X102.here hx rfl (hb hby at_11) rfl k) ?_
  refine gs m T102 14 #[vI (p0), vJ (p1), sS, vI (p2), vR (dl), vI ((p0 &&& (7 : Int32))), sU, sU] [] (fun _ k => XS.istore X102.here hx rfl (hb hby at_12) rfl (l' := #[vI (p0), vJ (p1), sS, vI (p2), vR (dl), vI ((p0 &&& (7 : Int32))), sU, sU]) rfl k) ?_
  obtain ⟨T103, h103, X103, e103, E103, A103, D103, -, st103⟩ := newO X102 hx hZ hown (hwi hw 10 rfl) (hwi hw 11 rfl) (hwi hw 12 rfl) eh102 (g := (mkF m 14 #[vI (p0), vJ (p1), sS, vI (p2), vR (dl), vI ((p0 &&& (7 : Int32))), sU, sU] [])) rfl (hb hby at_14) (by decide) (by decide)
  obtain ⟨b103, g103⟩ : ∃ z, z = h0.size := ⟨_, rfl⟩
  rw [← g103] at A103 D103 st103
  have ne104 : ∀ i, i < 9 → w i ≠ b103 := fun i hi r => by have q := (f8 i hi).1.lt; rw [r, g103] at q; exact Nat.lt_irrefl _ q
  have ne105 : df ≠ b103 := by have q := f1.lt; intro r; rw [r, g103] at q; exact Nat.lt_irrefl _ q
  have ne106 : dl ≠ b103 := by have q := f3.lt; intro r; rw [r, g103] at q; exact Nat.lt_irrefl _ q
  have ne107 : bd ≠ b103 := by have q := f5.lt; intro r; rw [r, g103] at q; exact Nat.lt_irrefl _ q
  have ne108 : em ≠ b103 := by have q := f7.lt; intro r; rw [r, g103] at q; exact Nat.lt_irrefl _ q
  have ne109 : ea ≠ b103 := by have q := f10.lt; intro r; rw [r, g103] at q; exact Nat.lt_irrefl _ q
  have ne110 : el ≠ b103 := by have q := f12.lt; intro r; rw [r, g103] at q; exact Nat.lt_irrefl _ q
  have ne111 : bz ≠ b103 := by have q := f14.lt; intro r; rw [r, g103] at q; exact Nat.lt_irrefl _ q
  have ge103 : n0 ≤ b103 := Nat.le_trans Z0 (Nat.le_of_eq g103.symm)
  have Z103 : n0 ≤ h103.size := Nat.le_trans Z0 E103.1
  have F112 := f0.ext E103
  have F113 := f1.ext E103
  have F114 := f2.ext E103
  have F115 := f3.ext E103
  have F116 := f4.ext E103
  have F117 := f5.ext E103
  have F118 := f6.ext E103
  have F119 := f7.ext E103
  have F120 := f8.ext E103
  have F121 := f9.ext E103
  have F122 := f10.ext E103
  have F123 := f11.ext E103
  have F124 := f12.ext E103
  have F125 := f13.ext E103
  have F126 := f14.ext E103
  have F127 : Fld Z h103 b103 "java/util/AbstractList" "modCount" "I" (.int (0 : Int32)) := D103 (Or.inl (hwi hw 32 rfl)) (ty := .int) (by decide)
  have F128 : Fld Z h103 b103 "java/util/ArrayList" "elementData" "[Ljava/lang/Object;" .null := D103 (Or.inl (hwi hw 35 rfl)) (ty := (.array (.object "java/lang/Object"))) (by decide)
  have F129 : Fld Z h103 b103 "java/util/ArrayList" "size" "I" (.int (0 : Int32)) := D103 (Or.inl (hwi hw 71 rfl)) (ty := .int) (by decide)
  refine gs m T103 17 #[vI (p0), vJ (p1), sS, vI (p2), vR (dl), vI ((p0 &&& (7 : Int32))), sU, sU] [(.ref b103)] st103 ?_
  refine gs m T103 18 #[vI (p0), vJ (p1), sS, vI (p2), vR (dl), vI ((p0 &&& (7 : Int32))), sU, sU] [(.ref b103), (.ref b103)] (fun _ k => XS.dup X103.here hx rfl (hb hby at_17) rfl rfl k) ?_
  obtain ⟨_, _, ⟨T130, L130, k130, n130⟩, -, X130, ⟨Lc130, hQ130, l130, y130, z130⟩, st130⟩ := X103.specialBack hx (y := (⟨"java/util/ArrayList", "<init>", "()V"⟩ : MethodName)) rfl hown (mvT hZ (hwi hw 13 rfl)) (mvT hZ (hwi hw 14 rfl)) (mvT hZ (hwi hw 15 rfl)) (by decide) (backOf (W := 1) (Q := fun v h L => (v = none) ∧ (Fr n0 L) ∧ (Keep h103 h [b103]) ∧ (Exa Z h b103 "java/util/ArrayList") ∧ (Fld Z h b103 "java/util/AbstractList" "modCount" "I" (.int (0 : Int32))) ∧ (Fld Z h b103 "java/util/ArrayList" "elementData" "[Ljava/lang/Object;" (.ref ea)) ∧ (Fld Z h b103 "java/util/ArrayList" "size" "I" (.int (0 : Int32)))) (own_al l Z a0 hw [] b103 (.int (0 : Int32)) .null ea h103 n0 Z103 A103 ge103 F127 F128 F129 F121) hZ (hwi hw 15 rfl) (hwi hw 12 rfl) (by decide) (by decide)) (g := (mkF m 18 #[vI (p0), vJ (p1), sS, vI (p2), vR (dl), vI ((p0 &&& (7 : Int32))), sU, sU] [(.ref b103), (.ref b103)])) rfl (by rw [hml]; rfl) (Steps.refl _) (a := b103) (argsL := []) (rest := [(.ref b103)]) (lenOf own_pd0 rfl) rfl (by show 2 * 0 + _ ≤ _; exact Nat.le_of_eq rfl) (hb hby at_18) (fun _ _ => ⟨rfl, e103, (by decide : 1 + 0 ≤ _), (by decide : 3 + 0 ≤ _)⟩)
  dsimp only [Pt.U, Pt.locs, Pt.cells, Pt.slots] at X130 l130 y130 z130 st130 hQ130
  subst l130 y130 z130
  obtain ⟨rfl, N130q, K130, P130_0, P130_1, P130_2, P130_3⟩ := hQ130
  have N130 := Fr.app N102 N130q
  have Z130 : n0 ≤ T130.heap.size := Nat.le_trans Z103 K130.1
  have F131 := own_sta_keep F112 K130 (allS (own_plain A103) all0)
  have F132 := F113.keep K130
  have F133 := F114.keep K130 (ninS ne105 nin0)
  have F134 := F115.keep K130
  have F135 := F116.keep K130 (ninS ne106 nin0)
  have F136 := F117.keep K130 (ninS ne107 nin0)
  have F137 := own_sta_keep F118 K130 (allS (own_plain A103) all0)
  have F138 := F119.keep K130
  have F139 := F120.keep K130 (fun i hi => (ninS (ne104 i hi) nin0))
  have F140 := own_sta_keep F121 K130 (allS (own_plain A103) all0)
  have F141 := F122.keep K130 (ninS ne109 nin0)
  have F142 := own_sta_keep F123 K130 (allS (own_plain A103) all0)
  have F143 := F124.keep K130
  have F144 := F125.keep K130 (ninS ne110 nin0)
  have F145 := F126.keep K130 (ninS ne111 nin0)
  have F146 := A103.keep K130
  refine gs m T130 21 #[vI (p0), vJ (p1), sS, vI (p2), vR (dl), vI ((p0 &&& (7 : Int32))), sU, sU] [(.ref b103)] (fun _ k => st130.trans k) ?_
  refine gs m T130 23 #[vI (p0), vJ (p1), sS, vI (p2), vR (dl), vI ((p0 &&& (7 : Int32))), vR (b103), sU] [] (fun _ k => XS.astore X130.here hx rfl (hb hby at_21) rfl rfl (l' := #[vI (p0), vJ (p1), sS, vI (p2), vR (dl), vI ((p0 &&& (7 : Int32))), vR (b103), sU]) rfl k) ?_
  obtain ⟨n, hnn⟩ : ∃ z, z = (p0 &&& (7 : Int32)) := ⟨_, rfl⟩
  rw [← hnn]
  obtain ⟨kn, hk7, hnk⟩ := own_n7 p0
  rw [← hnn] at hnk
  by_cases hk1 : 1 ≤ kn
  · skip
    have hp : (0 : Int32) < n := (own_ltk (j := 0) hnk hk7 (by decide)).mpr (by omega)
    refine gs m T130 25 #[vI (p0), vJ (p1), sS, vI (p2), vR (dl), vI (n), vR (b103), sU] [(.int n)] (fun _ k => XS.iload X130.here hx rfl (hb hby at_23) rfl  k) ?_
    refine gs m T130 28 #[vI (p0), vJ (p1), sS, vI (p2), vR (dl), vI (n), vR (b103), sU] [] (fun _ k => XS.ifNo X130.here hx rfl (hb hby at_25) rfl ((if0 _ _).trans (tlt hp).2.2.2) k) ?_
    refine gs m T130 30 #[vI (p0), vJ (p1), sS, vI (p2), vR (dl), vI (n), vR (b103), sU] [(.ref b103)] (fun _ k => XS.aload X130.here hx rfl (hb hby at_28) rfl rfl k) ?_
    refine gs m T130 32 #[vI (p0), vJ (p1), sS, vI (p2), vR (dl), vI (n), vR (b103), sU] [(.ref dl), (.ref b103)] (fun _ k => XS.aload X130.here hx rfl (hb hby at_30) rfl rfl k) ?_
    refine gs m T130 33 #[vI (p0), vJ (p1), sS, vI (p2), vR (dl), vI (n), vR (b103), sU] [(.long p1), (.ref dl), (.ref b103)] (fun _ k => XS.lloadN X130.here hx rfl (hb hby at_32) rfl  k) ?_
    refine gs m T130 34 #[vI (p0), vJ (p1), sS, vI (p2), vR (dl), vI (n), vR (b103), sU] [(.int (0 : Int32)), (.long p1), (.ref dl), (.ref b103)] (fun _ k => XS.iconst X130.here hx rfl (hb hby at_33) k) ?_
    obtain ⟨_, _, ⟨T147, L147, k147, n147⟩, -, X147, ⟨Lc147, hQ147, l147, y147, z147⟩, st147⟩ := Jvm.LawKit.callS X130 hx (y := (⟨"com/example/nuthatch/nuthatch/RetryScheduleMaxAttemptsPinLaw", "pick", "(JI)I"⟩ : MethodName)) hown (mvT hZ (hwi hw 120 rfl)) (mvT hZ (hwi hw 121 rfl)) (mvT hZ (hwi hw 122 rfl)) (mvT hZ (hwi hw 123 rfl)) (by decide) (backOf (W := 2) (Q := fun v h L => ∃ iq : Nat, (v = some (.int (Int32.ofNat iq))) ∧ (Fr n0 L) ∧ (h = T130.heap) ∧ (iq < 9)) (own_pick l Z a0 hw [] p1 (0 : Int32) T130.heap n0 Z130 ) hZ (hwi hw 123 rfl) (hwi hw 122 rfl) (by decide) (by decide)) (g := (mkF m 34 #[vI (p0), vJ (p1), sS, vI (p2), vR (dl), vI (n), vR (b103), sU] [(.int (0 : Int32)), (.long p1), (.ref dl), (.ref b103)])) rfl (by rw [hml]; rfl) (argsL := [(.long p1), (.int (0 : Int32))]) (rest := [(.ref dl), (.ref b103)]) (lenOf own_pd20 rfl) rfl (by show 2 * 0 + _ ≤ _; exact Nat.le_of_eq rfl) (hb hby at_34) (fun _ _ => ⟨rfl, rfl, (by decide : 1 + 0 ≤ _), (by decide : 3 + 0 ≤ _)⟩)
    dsimp only [Pt.U, Pt.locs, Pt.cells, Pt.slots] at X147 l147 y147 z147 st147 hQ147
    subst l147 y147 z147
    obtain ⟨iq_147, rfl, N147q, eh147, R147_0⟩ := hQ147
    have N147 := Fr.app N130 N147q
    refine gs m T147 37 #[vI (p0), vJ (p1), sS, vI (p2), vR (dl), vI (n), vR (b103), sU] [(.int (Int32.ofNat iq_147)), (.ref dl), (.ref b103)] (st147) ?_
    obtain ⟨cq148, kq148, q148a, q148b, q148c⟩ := isOf hZ eh147 F134
    obtain ⟨_, _, ⟨T148, L148, k148, n148⟩, -, X148, ⟨Lc148, hQ148, l148, y148, z148⟩, st148⟩ := X147.interfaceBack hx (xi := (⟨"java/util/List", "get", "(I)Ljava/lang/Object;"⟩ : MethodName)) (y := (⟨"java/util/ImmutableCollections$ListN", "get", "(I)Ljava/lang/Object;"⟩ : MethodName)) hown (mvT hZ (hwi hw 125 rfl)) (mvT hZ (hwi hw 126 rfl)) (mvT hZ (hwi hw 127 rfl)) (mvT hZ (hwi hw 128 rfl)) (mvT hZ (hwi hw 129 rfl)) (mvT hZ (hwi hw 130 rfl)) (mvT hZ (hwi hw 131 rfl)) (mvT hZ (hwi hw 83 rfl)) (by decide) (backOf (W := 1) (Q := Qret (some (.ref (w iq_147))) T130.heap n0) (own_getw l Z a0 hw [] dl bd kd w iq_147 T130.heap n0 Z130 F134 F135 F136 R147_0) hZ (hwi hw 132 rfl) (hwi hw 94 rfl) (by decide) (by decide)) q148a q148b q148c (g := (mkF m 37 #[vI (p0), vJ (p1), sS, vI (p2), vR (dl), vI (n), vR (b103), sU] [(.int (Int32.ofNat iq_147)), (.ref dl), (.ref b103)])) rfl (by rw [hml]; rfl) (Steps.refl _) (argsL := [(.int (Int32.ofNat iq_147))]) (rest := [(.ref b103)]) (lenOf own_pd15 rfl) rfl (by show 2 * 0 + _ ≤ _; exact Nat.le_of_eq rfl) (hb hby at_37) (fun _ _ => ⟨rfl, eh147, (by decide : 1 + 0 ≤ _), (by decide : 3 + 0 ≤ _)⟩)
    dsimp only [Pt.U, Pt.locs, Pt.cells, Pt.slots] at X148 l148 y148 z148 st148 hQ148
    subst l148 y148 z148
    obtain ⟨rfl, N148q, eh148⟩ := hQ148
    have N148 := Fr.app N147 N148q
    refine gs m T148 42 #[vI (p0), vJ (p1), sS, vI (p2), vR (dl), vI (n), vR (b103), sU] [(.ref (w iq_147)), (.ref b103)] (fun _ k => st148.trans k) ?_
    have Ew149 : Exa Z T130.heap (w iq_147) "java/time/Duration" := (F139 iq_147 R147_0).1
    obtain ⟨T150, X150, e150, st150⟩ := castY X148 hx hZ hown (hwi hw 133 rfl) eh148 (Ins.self Ew149) (g := (mkF m 42 #[vI (p0), vJ (p1), sS, vI (p2), vR (dl), vI (n), vR (b103), sU] [(.ref (w iq_147)), (.ref b103)])) rfl rfl (hb hby at_42)
    refine gs m T150 45 #[vI (p0), vJ (p1), sS, vI (p2), vR (dl), vI (n), vR (b103), sU] [(.ref (w iq_147)), (.ref b103)] st150 ?_
    obtain ⟨cq151, kq151, q151a, q151b, q151c⟩ := isOf hZ e150 P130_0
    obtain ⟨_, _, ⟨T151, L151, k151, n151⟩, -, X151, ⟨Lc151, hQ151, l151, y151, z151⟩, st151⟩ := X150.virtualBack hx (y := (⟨"java/util/ArrayList", "add", "(Ljava/lang/Object;)Z"⟩ : MethodName)) (z := (⟨"java/util/ArrayList", "add", "(Ljava/lang/Object;)Z"⟩ : MethodName)) hown (mvT hZ (hwi hw 135 rfl)) (mvT hZ (hwi hw 136 rfl)) (notFace_of_selects (args := #[]) (mvT hZ (hwi hw 138 rfl))) (mvT hZ (hwi hw 138 rfl)) (mvT hZ (hwi hw 137 rfl)) (by decide) (backOf (W := 0) (Q := fun v h L => ∃ b : Addr, ∃ kb : ClassId, (v = some (.int (1 : Int32))) ∧ (Fr n0 L) ∧ (Keep T130.heap h [b103]) ∧ (T130.heap.size ≤ b) ∧ (Exa Z h b103 "java/util/ArrayList") ∧ (Fld Z h b103 "java/util/AbstractList" "modCount" "I" (.int ((0 : Int32) + (1 : Int32)))) ∧ (Fld Z h b103 "java/util/ArrayList" "elementData" "[Ljava/lang/Object;" (.ref b)) ∧ (Fld Z h b103 "java/util/ArrayList" "size" "I" (.int (1 : Int32))) ∧ (Exa Z h b "[Ljava/lang/Object;") ∧ (Arv Z h b kb (.object "java/lang/Object") (10 : Int32) [(.ref (w iq_147)), .null, .null, .null, .null, .null, .null, .null, .null, .null] .null) ∧ (Ovr Z kb "java/lang/Object")) (own_add0 l Z a0 hw [] b103 (w iq_147) ea ke (0 : Int32) T130.heap n0 Z130 P130_0 ge103 P130_1 P130_2 P130_3 F140 F141 ne109 Ew149) hZ (hwi hw 139 rfl) (hwi hw 12 rfl) (by decide) (by decide)) q151a q151c (g := (mkF m 45 #[vI (p0), vJ (p1), sS, vI (p2), vR (dl), vI (n), vR (b103), sU] [(.ref (w iq_147)), (.ref b103)])) rfl (by rw [hml]; rfl) (Steps.refl _) (argsL := [(.ref (w iq_147))]) (rest := []) (lenOf own_pd21 rfl) rfl (by show 2 * 0 + _ ≤ _; exact Nat.le_of_eq rfl) (hb hby at_45) (fun _ _ => ⟨rfl, e150, (by decide : 1 + 1 ≤ _), (by decide : 3 + 10 ≤ _)⟩)
    dsimp only [Pt.U, Pt.locs, Pt.cells, Pt.slots] at X151 l151 y151 z151 st151 hQ151
    subst l151 y151 z151
    obtain ⟨b_151, kb_151, rfl, N151q, K151, lt151_0, P151_0, P151_1, P151_2, P151_3, P151_4, P151_5, R151_0⟩ := hQ151
    have N151 := Fr.app N148 N151q
    have ne152 : ∀ i, i < 9 → w i ≠ b_151 := fun i hi => Nat.ne_of_lt (Nat.lt_of_lt_of_le (F139 i hi).1.lt lt151_0)
    have ne153 : df ≠ b_151 := Nat.ne_of_lt (Nat.lt_of_lt_of_le F132.lt lt151_0)
    have ne154 : dl ≠ b_151 := Nat.ne_of_lt (Nat.lt_of_lt_of_le F134.lt lt151_0)
    have ne155 : bd ≠ b_151 := Nat.ne_of_lt (Nat.lt_of_lt_of_le F136.lt lt151_0)
    have ne156 : em ≠ b_151 := Nat.ne_of_lt (Nat.lt_of_lt_of_le F138.lt lt151_0)
    have ne157 : ea ≠ b_151 := Nat.ne_of_lt (Nat.lt_of_lt_of_le F141.lt lt151_0)
    have ne158 : b103 ≠ b_151 := Nat.ne_of_lt (Nat.lt_of_lt_of_le P130_0.lt lt151_0)
    have ne159 : (w iq_147) ≠ b_151 := Nat.ne_of_lt (Nat.lt_of_lt_of_le Ew149.lt lt151_0)
    have ge160 : n0 ≤ b_151 := Nat.le_trans Z130 lt151_0
    have Z151 : n0 ≤ T151.heap.size := Nat.le_trans Z130 K151.1
    have F161 := own_sta_keep F131 K151 (allS (own_plain P130_0) all0)
    have F162 := F132.keep K151
    have F163 := F133.keep K151 (ninS ne105 nin0)
    have F164 := F134.keep K151
    have F165 := F135.keep K151 (ninS ne106 nin0)
    have F166 := F136.keep K151 (ninS ne107 nin0)
    have F167 := own_sta_keep F137 K151 (allS (own_plain P130_0) all0)
    have F168 := F138.keep K151
    have F169 := F139.keep K151 (fun i hi => (ninS (ne104 i hi) nin0))
    have F170 := own_sta_keep F140 K151 (allS (own_plain P130_0) all0)
    have F171 := F141.keep K151 (ninS ne109 nin0)
    have F172 := P130_0.keep K151
    have F173 := Ew149.keep K151
    refine gs m T151 48 #[vI (p0), vJ (p1), sS, vI (p2), vR (dl), vI (n), vR (b103), sU] [(.int (1 : Int32))] (fun _ k => st151.trans k) ?_
    refine gs m T151 49 #[vI (p0), vJ (p1), sS, vI (p2), vR (dl), vI (n), vR (b103), sU] [] (fun _ k => XS.pop X151.here hx rfl (hb hby at_48) rfl rfl k) ?_
    have V174 : Arv Z T151.heap b_151 kb_151 (.object "java/lang/Object") (10 : Int32) (own_AV [(w iq_147)]) .null := by rw [own_AV1]; exact P151_5
    exact own_s1 p0 p1 p2 df dl bd kd em w sec n kn b103 ((0 : Int32) + (1 : Int32)) b_151 kb_151 [(w iq_147)] X151 hx hZ hw hby hml hown hret hlk rfl N151 Z151 (by decide) (by decide) F161 F162 F163 F164 F165 F166 F167 F168 F169 P151_0 ge103 P151_1 P151_2 P151_3 P151_4 ge160 V174 ne158 ne105 ne153 ne106 ne154 ne107 ne155 ne104 ne152 hnk hk7 hk1 (by simp only [List.length_cons, List.length_nil]; omega) (own_hys1 R147_0) hsec R151_0 MM
  · skip
    have hn0 : n = (0 : Int32) := by rw [hnk, show kn = 0 by omega]; rfl
    subst hn0
    refine gs m T130 25 #[vI (p0), vJ (p1), sS, vI (p2), vR (dl), vI ((0 : Int32)), vR (b103), sU] [(.int (0 : Int32))] (fun _ k => XS.iload X130.here hx rfl (hb hby at_23) rfl  k) ?_
    refine gs m T130 49 #[vI (p0), vJ (p1), sS, vI (p2), vR (dl), vI ((0 : Int32)), vR (b103), sU] [] (fun _ k => XS.ifYes X130.here hx rfl (pc0 := 25) (pc' := 49) rfl (hb hby at_25) rfl ((if0 _ _).trans (flt (by decide : ¬ ((0 : Int32) < (0 : Int32)))).2.2.2) (by decide) (by decide) k) ?_
    refine gs m T130 51 #[vI (p0), vJ (p1), sS, vI (p2), vR (dl), vI ((0 : Int32)), vR (b103), sU] [(.int (0 : Int32))] (fun _ k => XS.iload X130.here hx rfl (hb hby at_49) rfl  k) ?_
    refine gs m T130 52 #[vI (p0), vJ (p1), sS, vI (p2), vR (dl), vI ((0 : Int32)), vR (b103), sU] [(.int (1 : Int32)), (.int (0 : Int32))] (fun _ k => XS.iconst X130.here hx rfl (hb hby at_51) k) ?_
    refine gs m T130 76 #[vI (p0), vJ (p1), sS, vI (p2), vR (dl), vI ((0 : Int32)), vR (b103), sU] [] (fun _ k => XS.icmpYes X130.here hx rfl (pc0 := 52) (pc' := 76) rfl (hb hby at_52) rfl (flt (by decide : ¬ ((1 : Int32) < (0 : Int32)))).2.2.2 (by decide) (by decide) k) ?_
    refine gs m T130 78 #[vI (p0), vJ (p1), sS, vI (p2), vR (dl), vI ((0 : Int32)), vR (b103), sU] [(.int (0 : Int32))] (fun _ k => XS.iload X130.here hx rfl (hb hby at_76) rfl  k) ?_
    refine gs m T130 79 #[vI (p0), vJ (p1), sS, vI (p2), vR (dl), vI ((0 : Int32)), vR (b103), sU] [(.int (2 : Int32)), (.int (0 : Int32))] (fun _ k => XS.iconst X130.here hx rfl (hb hby at_78) k) ?_
    refine gs m T130 103 #[vI (p0), vJ (p1), sS, vI (p2), vR (dl), vI ((0 : Int32)), vR (b103), sU] [] (fun _ k => XS.icmpYes X130.here hx rfl (pc0 := 79) (pc' := 103) rfl (hb hby at_79) rfl (flt (by decide : ¬ ((2 : Int32) < (0 : Int32)))).2.2.2 (by decide) (by decide) k) ?_
    refine gs m T130 105 #[vI (p0), vJ (p1), sS, vI (p2), vR (dl), vI ((0 : Int32)), vR (b103), sU] [(.int (0 : Int32))] (fun _ k => XS.iload X130.here hx rfl (hb hby at_103) rfl  k) ?_
    refine gs m T130 106 #[vI (p0), vJ (p1), sS, vI (p2), vR (dl), vI ((0 : Int32)), vR (b103), sU] [(.int (3 : Int32)), (.int (0 : Int32))] (fun _ k => XS.iconst X130.here hx rfl (hb hby at_105) k) ?_
    refine gs m T130 130 #[vI (p0), vJ (p1), sS, vI (p2), vR (dl), vI ((0 : Int32)), vR (b103), sU] [] (fun _ k => XS.icmpYes X130.here hx rfl (pc0 := 106) (pc' := 130) rfl (hb hby at_106) rfl (flt (by decide : ¬ ((3 : Int32) < (0 : Int32)))).2.2.2 (by decide) (by decide) k) ?_
    refine gs m T130 132 #[vI (p0), vJ (p1), sS, vI (p2), vR (dl), vI ((0 : Int32)), vR (b103), sU] [(.int (0 : Int32))] (fun _ k => XS.iload X130.here hx rfl (hb hby at_130) rfl  k) ?_
    refine gs m T130 133 #[vI (p0), vJ (p1), sS, vI (p2), vR (dl), vI ((0 : Int32)), vR (b103), sU] [(.int (4 : Int32)), (.int (0 : Int32))] (fun _ k => XS.iconst X130.here hx rfl (hb hby at_132) k) ?_
    refine gs m T130 157 #[vI (p0), vJ (p1), sS, vI (p2), vR (dl), vI ((0 : Int32)), vR (b103), sU] [] (fun _ k => XS.icmpYes X130.here hx rfl (pc0 := 133) (pc' := 157) rfl (hb hby at_133) rfl (flt (by decide : ¬ ((4 : Int32) < (0 : Int32)))).2.2.2 (by decide) (by decide) k) ?_
    refine gs m T130 159 #[vI (p0), vJ (p1), sS, vI (p2), vR (dl), vI ((0 : Int32)), vR (b103), sU] [(.int (0 : Int32))] (fun _ k => XS.iload X130.here hx rfl (hb hby at_157) rfl  k) ?_
    refine gs m T130 160 #[vI (p0), vJ (p1), sS, vI (p2), vR (dl), vI ((0 : Int32)), vR (b103), sU] [(.int (5 : Int32)), (.int (0 : Int32))] (fun _ k => XS.iconst X130.here hx rfl (hb hby at_159) k) ?_
    refine gs m T130 184 #[vI (p0), vJ (p1), sS, vI (p2), vR (dl), vI ((0 : Int32)), vR (b103), sU] [] (fun _ k => XS.icmpYes X130.here hx rfl (pc0 := 160) (pc' := 184) rfl (hb hby at_160) rfl (flt (by decide : ¬ ((5 : Int32) < (0 : Int32)))).2.2.2 (by decide) (by decide) k) ?_
    refine gs m T130 186 #[vI (p0), vJ (p1), sS, vI (p2), vR (dl), vI ((0 : Int32)), vR (b103), sU] [(.int (0 : Int32))] (fun _ k => XS.iload X130.here hx rfl (hb hby at_184) rfl  k) ?_
    refine gs m T130 188 #[vI (p0), vJ (p1), sS, vI (p2), vR (dl), vI ((0 : Int32)), vR (b103), sU] [(.int (6 : Int32)), (.int (0 : Int32))] (fun _ k => XS.bipush X130.here hx rfl (hb hby at_186) k) ?_
    refine gs m T130 213 #[vI (p0), vJ (p1), sS, vI (p2), vR (dl), vI ((0 : Int32)), vR (b103), sU] [] (fun _ k => XS.icmpYes X130.here hx rfl (pc0 := 188) (pc' := 213) rfl (hb hby at_188) rfl (flt (by decide : ¬ ((6 : Int32) < (0 : Int32)))).2.2.2 (by decide) (by decide) k) ?_
    obtain ⟨T175, h175, X175, e175, E175, A175, D175, -, st175⟩ := newO X130 hx hZ hown (hwi hw 36 rfl) (hwi hw 37 rfl) (hwi hw 1 rfl) rfl (g := (mkF m 213 #[vI (p0), vJ (p1), sS, vI (p2), vR (dl), vI ((0 : Int32)), vR (b103), sU] [])) rfl (hb hby at_213) (by decide) (by decide)
    obtain ⟨b175, g175⟩ : ∃ z, z = T130.heap.size := ⟨_, rfl⟩
    rw [← g175] at A175 D175 st175
    have ne176 : ∀ i, i < 9 → w i ≠ b175 := fun i hi r => by have q := (F139 i hi).1.lt; rw [r, g175] at q; exact Nat.lt_irrefl _ q
    have ne177 : df ≠ b175 := by have q := F132.lt; intro r; rw [r, g175] at q; exact Nat.lt_irrefl _ q
    have ne178 : dl ≠ b175 := by have q := F134.lt; intro r; rw [r, g175] at q; exact Nat.lt_irrefl _ q
    have ne179 : bd ≠ b175 := by have q := F136.lt; intro r; rw [r, g175] at q; exact Nat.lt_irrefl _ q
    have ne180 : em ≠ b175 := by have q := F138.lt; intro r; rw [r, g175] at q; exact Nat.lt_irrefl _ q
    have ne181 : ea ≠ b175 := by have q := F141.lt; intro r; rw [r, g175] at q; exact Nat.lt_irrefl _ q
    have ne182 : el ≠ b175 := by have q := F143.lt; intro r; rw [r, g175] at q; exact Nat.lt_irrefl _ q
    have ne183 : bz ≠ b175 := by have q := F145.lt; intro r; rw [r, g175] at q; exact Nat.lt_irrefl _ q
    have ne184 : b103 ≠ b175 := by have q := P130_0.lt; intro r; rw [r, g175] at q; exact Nat.lt_irrefl _ q
    have ge175 : n0 ≤ b175 := Nat.le_trans Z130 (Nat.le_of_eq g175.symm)
    have Z175 : n0 ≤ h175.size := Nat.le_trans Z130 E175.1
    have F185 := F131.ext E175
    have F186 := F132.ext E175
    have F187 := F133.ext E175
    have F188 := F134.ext E175
    have F189 := F135.ext E175
    have F190 := F136.ext E175
    have F191 := F137.ext E175
    have F192 := F138.ext E175
    have F193 := F139.ext E175
    have F194 := F140.ext E175
    have F195 := F141.ext E175
    have F196 := F142.ext E175
    have F197 := F143.ext E175
    have F198 := F144.ext E175
    have F199 := F145.ext E175
    have F200 := P130_0.ext E175
    have F201 := P130_1.ext E175
    have F202 := P130_2.ext E175
    have F203 := P130_3.ext E175
    have F204 : Fld Z h175 b175 "com/example/nuthatch/nuthatch/RetrySchedule" "delays" "Ljava/util/List;" .null := D175 (Or.inr (hwi hw 9 rfl)) (ty := (.object "java/util/List")) (by decide)
    refine gs m T175 216 #[vI (p0), vJ (p1), sS, vI (p2), vR (dl), vI ((0 : Int32)), vR (b103), sU] [(.ref b175)] st175 ?_
    refine gs m T175 217 #[vI (p0), vJ (p1), sS, vI (p2), vR (dl), vI ((0 : Int32)), vR (b103), sU] [(.ref b175), (.ref b175)] (fun _ k => XS.dup X175.here hx rfl (hb hby at_216) rfl rfl k) ?_
    refine gs m T175 219 #[vI (p0), vJ (p1), sS, vI (p2), vR (dl), vI ((0 : Int32)), vR (b103), sU] [(.ref b103), (.ref b175), (.ref b175)] (fun _ k => XS.aload X175.here hx rfl (hb hby at_217) rfl rfl k) ?_
    obtain ⟨_, _, ⟨T205, L205, k205, n205⟩, -, X205, ⟨Lc205, hQ205, l205, y205, z205⟩, st205⟩ := X175.specialBack hx (y := (⟨"com/example/nuthatch/nuthatch/RetrySchedule", "<init>", "(Ljava/util/List;)V"⟩ : MethodName)) rfl hown (mvT hZ (hwi hw 38 rfl)) (mvT hZ (hwi hw 39 rfl)) (mvT hZ (hwi hw 40 rfl)) (by decide) (backOf (W := 1) (Q := fun v h L => (v = none) ∧ (Fr n0 L) ∧ (Keep h175 h [b175]) ∧ (Exa Z h b175 "com/example/nuthatch/nuthatch/RetrySchedule") ∧ (Fld Z h b175 "com/example/nuthatch/nuthatch/RetrySchedule" "delays" "Ljava/util/List;" (.ref el))) (own_rsi0 l Z a0 hw [] b175 b103 .null el bz kz h175 n0 Z175 A175 ge175 F204 F200 F203 F196 F197 F198 F199 ne184 ne182 ne183) hZ (hwi hw 40 rfl) (hwi hw 1 rfl) (by decide) (by decide)) (g := (mkF m 219 #[vI (p0), vJ (p1), sS, vI (p2), vR (dl), vI ((0 : Int32)), vR (b103), sU] [(.ref b103), (.ref b175), (.ref b175)])) rfl (by rw [hml]; rfl) (Steps.refl _) (a := b175) (argsL := [(.ref b103)]) (rest := [(.ref b175)]) (lenOf own_pd19 rfl) rfl (by show 2 * 0 + _ ≤ _; exact Nat.le_of_eq rfl) (hb hby at_219) (fun _ _ => ⟨rfl, e175, (by decide : 2 + 1 ≤ _), (by decide : 4 + 4 ≤ _)⟩)
    dsimp only [Pt.U, Pt.locs, Pt.cells, Pt.slots] at X205 l205 y205 z205 st205 hQ205
    subst l205 y205 z205
    obtain ⟨rfl, N205q, K205, P205_0, P205_1⟩ := hQ205
    have N205 := Fr.app N130 N205q
    have Z205 : n0 ≤ T205.heap.size := Nat.le_trans Z175 K205.1
    have F206 := own_sta_keep F185 K205 (allS (own_plain A175) all0)
    have F207 := F186.keep K205
    have F208 := F187.keep K205 (ninS ne177 nin0)
    have F209 := F188.keep K205
    have F210 := F189.keep K205 (ninS ne178 nin0)
    have F211 := F190.keep K205 (ninS ne179 nin0)
    have F212 := own_sta_keep F191 K205 (allS (own_plain A175) all0)
    have F213 := F192.keep K205
    have F214 := F193.keep K205 (fun i hi => (ninS (ne176 i hi) nin0))
    have F215 := own_sta_keep F194 K205 (allS (own_plain A175) all0)
    have F216 := F195.keep K205 (ninS ne181 nin0)
    have F217 := own_sta_keep F196 K205 (allS (own_plain A175) all0)
    have F218 := F197.keep K205
    have F219 := F198.keep K205 (ninS ne182 nin0)
    have F220 := F199.keep K205 (ninS ne183 nin0)
    have F221 := F200.keep K205
    have F222 := F201.keep K205 (ninS ne184 nin0)
    have F223 := F202.keep K205 (ninS ne184 nin0)
    have F224 := F203.keep K205 (ninS ne184 nin0)
    have F225 := A175.keep K205
    refine gs m T205 222 #[vI (p0), vJ (p1), sS, vI (p2), vR (dl), vI ((0 : Int32)), vR (b103), sU] [(.ref b175)] (fun _ k => st205.trans k) ?_
    refine gs m T205 224 #[vI (p0), vJ (p1), sS, vI (p2), vR (dl), vI ((0 : Int32)), vR (b103), vR (b175)] [] (fun _ k => XS.astore X205.here hx rfl (hb hby at_222) rfl rfl (l' := #[vI (p0), vJ (p1), sS, vI (p2), vR (dl), vI ((0 : Int32)), vR (b103), vR (b175)]) rfl k) ?_
    refine gs m T205 225 #[vI (p0), vJ (p1), sS, vI (p2), vR (dl), vI ((0 : Int32)), vR (b103), vR (b175)] [(.int p2)] (fun _ k => XS.iloadN X205.here hx rfl (hb hby at_224) rfl  k) ?_
    refine gs m T205 226 #[vI (p0), vJ (p1), sS, vI (p2), vR (dl), vI ((0 : Int32)), vR (b103), vR (b175)] [(.int (1 : Int32)), (.int p2)] (fun _ k => XS.iconst X205.here hx rfl (hb hby at_225) k) ?_
    refine gs m T205 227 #[vI (p0), vJ (p1), sS, vI (p2), vR (dl), vI ((0 : Int32)), vR (b103), vR (b175)] [(.int (p2 &&& (1 : Int32)))] (fun _ k => XS.iand X205.here hx rfl (hb hby at_226) rfl k) ?_
    by_cases hc226 : (p2 &&& (1 : Int32)) = (0 : Int32)
    · skip
      refine gs m T205 252 #[vI (p0), vJ (p1), sS, vI (p2), vR (dl), vI ((0 : Int32)), vR (b103), vR (b175)] [] (fun _ k => XS.ifYes X205.here hx rfl (pc0 := 227) (pc' := 252) rfl (hb hby at_227) rfl ((if0 _ _).trans (teq hc226).1) (by decide) (by decide) k) ?_
      refine gs m T205 254 #[vI (p0), vJ (p1), sS, vI (p2), vR (dl), vI ((0 : Int32)), vR (b103), vR (b175)] [(.ref b175)] (fun _ k => XS.aload X205.here hx rfl (hb hby at_252) rfl rfl k) ?_
      obtain ⟨cq227, kq227, q227a, q227b, q227c⟩ := isOf hZ rfl P205_0
      obtain ⟨_, _, ⟨T227, L227, k227, n227⟩, -, X227, ⟨Lc227, hQ227, l227, y227, z227⟩, st227⟩ := X205.virtualBack hx (y := (⟨"com/example/nuthatch/nuthatch/RetrySchedule", "maxAttempts", "()I"⟩ : MethodName)) (z := (⟨"com/example/nuthatch/nuthatch/RetrySchedule", "maxAttempts", "()I"⟩ : MethodName)) hown (mvT hZ (hwi hw 164 rfl)) (mvT hZ (hwi hw 165 rfl)) (notFace_of_selects (args := #[]) (mvT hZ (hwi hw 167 rfl))) (mvT hZ (hwi hw 167 rfl)) (mvT hZ (hwi hw 166 rfl)) (by decide) (backOf (W := 0) (Q := Qret (some (.int (1 : Int32))) T205.heap n0) (own_mxa0 l Z a0 hw [] b175 el bz kz T205.heap n0 Z205 P205_1 F218 F219 F220) hZ (hwi hw 168 rfl) (hwi hw 1 rfl) (by decide) (by decide)) q227a q227c (g := (mkF m 254 #[vI (p0), vJ (p1), sS, vI (p2), vR (dl), vI ((0 : Int32)), vR (b103), vR (b175)] [(.ref b175)])) rfl (by rw [hml]; rfl) (Steps.refl _) (argsL := []) (rest := []) (lenOf own_pd13 rfl) rfl (by show 2 * 0 + _ ≤ _; exact Nat.le_of_eq rfl) (hb hby at_254) (fun _ _ => ⟨rfl, rfl, (by decide : 3 + 0 ≤ _), (by decide : 8 + 0 ≤ _)⟩)
      dsimp only [Pt.U, Pt.locs, Pt.cells, Pt.slots] at X227 l227 y227 z227 st227 hQ227
      subst l227 y227 z227
      obtain ⟨rfl, N227q, eh227⟩ := hQ227
      have N227 := Fr.app N205 N227q
      refine gs m T227 257 #[vI (p0), vJ (p1), sS, vI (p2), vR (dl), vI ((0 : Int32)), vR (b103), vR (b175)] [(.int (1 : Int32))] (fun _ k => st227.trans k) ?_
      refine gs m T227 259 #[vI (p0), vJ (p1), sS, vI (p2), vR (dl), vI ((0 : Int32)), vR (b103), vR (b175)] [(.int (0 : Int32)), (.int (1 : Int32))] (fun _ k => XS.iload X227.here hx rfl (hb hby at_257) rfl  k) ?_
      refine gs m T227 260 #[vI (p0), vJ (p1), sS, vI (p2), vR (dl), vI ((0 : Int32)), vR (b103), vR (b175)] [(.int (1 : Int32)), (.int (0 : Int32)), (.int (1 : Int32))] (fun _ k => XS.iconst X227.here hx rfl (hb hby at_259) k) ?_
      refine gs m T227 261 #[vI (p0), vJ (p1), sS, vI (p2), vR (dl), vI ((0 : Int32)), vR (b103), vR (b175)] [(.int (1 : Int32)), (.int (1 : Int32))] (fun _ k => XS.iadd X227.here hx rfl (hb hby at_260) rfl k) ?_
      refine gs m T227 264 #[vI (p0), vJ (p1), sS, vI (p2), vR (dl), vI ((0 : Int32)), vR (b103), vR (b175)] [] (fun _ k => XS.icmpNo X227.here hx rfl (hb hby at_261) rfl (teq (by decide : (1 : Int32) = (1 : Int32))).2 k) ?_
      obtain ⟨T228, X228, e228, st228⟩ := getS2 X227 hx hZ hown (host := "") (Or.inl (hwi hw 0 rfl)) Via.refl eh227 F206 (g := (mkF m 264 #[vI (p0), vJ (p1), sS, vI (p2), vR (dl), vI ((0 : Int32)), vR (b103), vR (b175)] [])) rfl (hb hby at_264)
      refine gs m T228 267 #[vI (p0), vJ (p1), sS, vI (p2), vR (dl), vI ((0 : Int32)), vR (b103), vR (b175)] [(.ref df)] st228 ?_
      obtain ⟨cq229, kq229, q229a, q229b, q229c⟩ := isOf hZ e228 F207
      obtain ⟨_, _, ⟨T229, L229, k229, n229⟩, -, X229, ⟨Lc229, hQ229, l229, y229, z229⟩, st229⟩ := X228.virtualBack hx (y := (⟨"com/example/nuthatch/nuthatch/RetrySchedule", "maxAttempts", "()I"⟩ : MethodName)) (z := (⟨"com/example/nuthatch/nuthatch/RetrySchedule", "maxAttempts", "()I"⟩ : MethodName)) hown (mvT hZ (hwi hw 164 rfl)) (mvT hZ (hwi hw 165 rfl)) (notFace_of_selects (args := #[]) (mvT hZ (hwi hw 167 rfl))) (mvT hZ (hwi hw 167 rfl)) (mvT hZ (hwi hw 166 rfl)) (by decide) (backOf (W := 0) (Q := Qret (some (.int (10 : Int32))) T205.heap n0) (own_mxaw l Z a0 hw [] df dl bd kd w T205.heap n0 Z205 F208 F209 F210 F211) hZ (hwi hw 168 rfl) (hwi hw 1 rfl) (by decide) (by decide)) q229a q229c (g := (mkF m 267 #[vI (p0), vJ (p1), sS, vI (p2), vR (dl), vI ((0 : Int32)), vR (b103), vR (b175)] [(.ref df)])) rfl (by rw [hml]; rfl) (Steps.refl _) (argsL := []) (rest := []) (lenOf own_pd13 rfl) rfl (by show 2 * 0 + _ ≤ _; exact Nat.le_of_eq rfl) (hb hby at_267) (fun _ _ => ⟨rfl, e228, (by decide : 3 + 0 ≤ _), (by decide : 8 + 0 ≤ _)⟩)
      dsimp only [Pt.U, Pt.locs, Pt.cells, Pt.slots] at X229 l229 y229 z229 st229 hQ229
      subst l229 y229 z229
      obtain ⟨rfl, N229q, eh229⟩ := hQ229
      have N229 := Fr.app N227 N229q
      refine gs m T229 270 #[vI (p0), vJ (p1), sS, vI (p2), vR (dl), vI ((0 : Int32)), vR (b103), vR (b175)] [(.int (10 : Int32))] (fun _ k => st229.trans k) ?_
      refine gs m T229 272 #[vI (p0), vJ (p1), sS, vI (p2), vR (dl), vI ((0 : Int32)), vR (b103), vR (b175)] [(.int (10 : Int32)), (.int (10 : Int32))] (fun _ k => XS.bipush X229.here hx rfl (hb hby at_270) k) ?_
      refine gs m T229 275 #[vI (p0), vJ (p1), sS, vI (p2), vR (dl), vI ((0 : Int32)), vR (b103), vR (b175)] [] (fun _ k => XS.icmpNo X229.here hx rfl (hb hby at_272) rfl (teq (by decide : (10 : Int32) = (10 : Int32))).2 k) ?_
      refine gs m T229 276 #[vI (p0), vJ (p1), sS, vI (p2), vR (dl), vI ((0 : Int32)), vR (b103), vR (b175)] [(.int (1 : Int32))] (fun _ k => XS.iconst X229.here hx rfl (hb hby at_275) k) ?_
      refine gs m T229 280 #[vI (p0), vJ (p1), sS, vI (p2), vR (dl), vI ((0 : Int32)), vR (b103), vR (b175)] [(.int (1 : Int32))] (fun _ k => XS.goto X229.here hx rfl (pc0 := 276) (pc' := 280) rfl (hb hby at_276) (by decide) (by decide) k) ?_
      exact Go.retN X229 hx (t := .boolean) hret hlk (by simp) (hb hby at_280) (⟨rfl, N229⟩) (by decide) (by decide)
    · skip
      refine gs m T205 230 #[vI (p0), vJ (p1), sS, vI (p2), vR (dl), vI ((0 : Int32)), vR (b103), vR (b175)] [] (fun _ k => XS.ifNo X205.here hx rfl (hb hby at_227) rfl ((if0 _ _).trans (feq hc226).1) k) ?_
      refine gs m T205 232 #[vI (p0), vJ (p1), sS, vI (p2), vR (dl), vI ((0 : Int32)), vR (b103), vR (b175)] [(.ref b103)] (fun _ k => XS.aload X205.here hx rfl (hb hby at_230) rfl rfl k) ?_
      refine gs m T205 234 #[vI (p0), vJ (p1), sS, vI (p2), vR (dl), vI ((0 : Int32)), vR (b103), vR (b175)] [(.ref dl), (.ref b103)] (fun _ k => XS.aload X205.here hx rfl (hb hby at_232) rfl rfl k) ?_
      refine gs m T205 235 #[vI (p0), vJ (p1), sS, vI (p2), vR (dl), vI ((0 : Int32)), vR (b103), vR (b175)] [(.long p1), (.ref dl), (.ref b103)] (fun _ k => XS.lloadN X205.here hx rfl (hb hby at_234) rfl  k) ?_
      refine gs m T205 237 #[vI (p0), vJ (p1), sS, vI (p2), vR (dl), vI ((0 : Int32)), vR (b103), vR (b175)] [(.int (7 : Int32)), (.long p1), (.ref dl), (.ref b103)] (fun _ k => XS.bipush X205.here hx rfl (hb hby at_235) k) ?_
      obtain ⟨_, _, ⟨T230, L230, k230, n230⟩, -, X230, ⟨Lc230, hQ230, l230, y230, z230⟩, st230⟩ := Jvm.LawKit.callS X205 hx (y := (⟨"com/example/nuthatch/nuthatch/RetryScheduleMaxAttemptsPinLaw", "pick", "(JI)I"⟩ : MethodName)) hown (mvT hZ (hwi hw 120 rfl)) (mvT hZ (hwi hw 121 rfl)) (mvT hZ (hwi hw 122 rfl)) (mvT hZ (hwi hw 123 rfl)) (by decide) (backOf (W := 2) (Q := fun v h L => ∃ iq : Nat, (v = some (.int (Int32.ofNat iq))) ∧ (Fr n0 L) ∧ (h = T205.heap) ∧ (iq < 9)) (own_pick l Z a0 hw [] p1 (7 : Int32) T205.heap n0 Z205 ) hZ (hwi hw 123 rfl) (hwi hw 122 rfl) (by decide) (by decide)) (g := (mkF m 237 #[vI (p0), vJ (p1), sS, vI (p2), vR (dl), vI ((0 : Int32)), vR (b103), vR (b175)] [(.int (7 : Int32)), (.long p1), (.ref dl), (.ref b103)])) rfl (by rw [hml]; rfl) (argsL := [(.long p1), (.int (7 : Int32))]) (rest := [(.ref dl), (.ref b103)]) (lenOf own_pd20 rfl) rfl (by show 2 * 0 + _ ≤ _; exact Nat.le_of_eq rfl) (hb hby at_237) (fun _ _ => ⟨rfl, rfl, (by decide : 3 + 0 ≤ _), (by decide : 8 + 0 ≤ _)⟩)
      dsimp only [Pt.U, Pt.locs, Pt.cells, Pt.slots] at X230 l230 y230 z230 st230 hQ230
      subst l230 y230 z230
      obtain ⟨iq_230, rfl, N230q, eh230, R230_0⟩ := hQ230
      have N230 := Fr.app N205 N230q
      refine gs m T230 240 #[vI (p0), vJ (p1), sS, vI (p2), vR (dl), vI ((0 : Int32)), vR (b103), vR (b175)] [(.int (Int32.ofNat iq_230)), (.ref dl), (.ref b103)] (st230) ?_
      obtain ⟨cq231, kq231, q231a, q231b, q231c⟩ := isOf hZ eh230 F209
      obtain ⟨_, _, ⟨T231, L231, k231, n231⟩, -, X231, ⟨Lc231, hQ231, l231, y231, z231⟩, st231⟩ := X230.interfaceBack hx (xi := (⟨"java/util/List", "get", "(I)Ljava/lang/Object;"⟩ : MethodName)) (y := (⟨"java/util/ImmutableCollections$ListN", "get", "(I)Ljava/lang/Object;"⟩ : MethodName)) hown (mvT hZ (hwi hw 125 rfl)) (mvT hZ (hwi hw 126 rfl)) (mvT hZ (hwi hw 127 rfl)) (mvT hZ (hwi hw 128 rfl)) (mvT hZ (hwi hw 129 rfl)) (mvT hZ (hwi hw 130 rfl)) (mvT hZ (hwi hw 131 rfl)) (mvT hZ (hwi hw 83 rfl)) (by decide) (backOf (W := 1) (Q := Qret (some (.ref (w iq_230))) T205.heap n0) (own_getw l Z a0 hw [] dl bd kd w iq_230 T205.heap n0 Z205 F209 F210 F211 R230_0) hZ (hwi hw 132 rfl) (hwi hw 94 rfl) (by decide) (by decide)) q231a q231b q231c (g := (mkF m 240 #[vI (p0), vJ (p1), sS, vI (p2), vR (dl), vI ((0 : Int32)), vR (b103), vR (b175)] [(.int (Int32.ofNat iq_230)), (.ref dl), (.ref b103)])) rfl (by rw [hml]; rfl) (Steps.refl _) (argsL := [(.int (Int32.ofNat iq_230))]) (rest := [(.ref b103)]) (lenOf own_pd15 rfl) rfl (by show 2 * 0 + _ ≤ _; exact Nat.le_of_eq rfl) (hb hby at_240) (fun _ _ => ⟨rfl, eh230, (by decide : 3 + 0 ≤ _), (by decide : 8 + 0 ≤ _)⟩)
      dsimp only [Pt.U, Pt.locs, Pt.cells, Pt.slots] at X231 l231 y231 z231 st231 hQ231
      subst l231 y231 z231
      obtain ⟨rfl, N231q, eh231⟩ := hQ231
      have N231 := Fr.app N230 N231q
      refine gs m T231 245 #[vI (p0), vJ (p1), sS, vI (p2), vR (dl), vI ((0 : Int32)), vR (b103), vR (b175)] [(.ref (w iq_230)), (.ref b103)] (fun _ k => st231.trans k) ?_
      have Ew232 : Exa Z T205.heap (w iq_230) "java/time/Duration" := (F214 iq_230 R230_0).1
      obtain ⟨T233, X233, e233, st233⟩ := castY X231 hx hZ hown (hwi hw 133 rfl) eh231 (Ins.self Ew232) (g := (mkF m 245 #[vI (p0), vJ (p1), sS, vI (p2), vR (dl), vI ((0 : Int32)), vR (b103), vR (b175)] [(.ref (w iq_230)), (.ref b103)])) rfl rfl (hb hby at_245)
      refine gs m T233 248 #[vI (p0), vJ (p1), sS, vI (p2), vR (dl), vI ((0 : Int32)), vR (b103), vR (b175)] [(.ref (w iq_230)), (.ref b103)] st233 ?_
      obtain ⟨cq234, kq234, q234a, q234b, q234c⟩ := isOf hZ e233 F221
      obtain ⟨_, _, ⟨T234, L234, k234, n234⟩, -, X234, ⟨Lc234, hQ234, l234, y234, z234⟩, st234⟩ := X233.virtualBack hx (y := (⟨"java/util/ArrayList", "add", "(Ljava/lang/Object;)Z"⟩ : MethodName)) (z := (⟨"java/util/ArrayList", "add", "(Ljava/lang/Object;)Z"⟩ : MethodName)) hown (mvT hZ (hwi hw 135 rfl)) (mvT hZ (hwi hw 136 rfl)) (notFace_of_selects (args := #[]) (mvT hZ (hwi hw 138 rfl))) (mvT hZ (hwi hw 138 rfl)) (mvT hZ (hwi hw 137 rfl)) (by decide) (backOf (W := 0) (Q := fun v h L => ∃ b : Addr, ∃ kb : ClassId, (v = some (.int (1 : Int32))) ∧ (Fr n0 L) ∧ (Keep T205.heap h [b103]) ∧ (T205.heap.size ≤ b) ∧ (Exa Z h b103 "java/util/ArrayList") ∧ (Fld Z h b103 "java/util/AbstractList" "modCount" "I" (.int ((0 : Int32) + (1 : Int32)))) ∧ (Fld Z h b103 "java/util/ArrayList" "elementData" "[Ljava/lang/Object;" (.ref b)) ∧ (Fld Z h b103 "java/util/ArrayList" "size" "I" (.int (1 : Int32))) ∧ (Exa Z h b "[Ljava/lang/Object;") ∧ (Arv Z h b kb (.object "java/lang/Object") (10 : Int32) [(.ref (w iq_230)), .null, .null, .null, .null, .null, .null, .null, .null, .null] .null) ∧ (Ovr Z kb "java/lang/Object")) (own_add0 l Z a0 hw [] b103 (w iq_230) ea ke (0 : Int32) T205.heap n0 Z205 F221 ge103 F222 F223 F224 F215 F216 ne109 Ew232) hZ (hwi hw 139 rfl) (hwi hw 12 rfl) (by decide) (by decide)) q234a q234c (g := (mkF m 248 #[vI (p0), vJ (p1), sS, vI (p2), vR (dl), vI ((0 : Int32)), vR (b103), vR (b175)] [(.ref (w iq_230)), (.ref b103)])) rfl (by rw [hml]; rfl) (Steps.refl _) (argsL := [(.ref (w iq_230))]) (rest := []) (lenOf own_pd21 rfl) rfl (by show 2 * 0 + _ ≤ _; exact Nat.le_of_eq rfl) (hb hby at_248) (fun _ _ => ⟨rfl, e233, (by decide : 3 + 1 ≤ _), (by decide : 8 + 10 ≤ _)⟩)
      dsimp only [Pt.U, Pt.locs, Pt.cells, Pt.slots] at X234 l234 y234 z234 st234 hQ234
      subst l234 y234 z234
      obtain ⟨b_234, kb_234, rfl, N234q, K234, lt234_0, P234_0, P234_1, P234_2, P234_3, P234_4, P234_5, R234_0⟩ := hQ234
      have N234 := Fr.app N231 N234q
      have ne235 : ∀ i, i < 9 → w i ≠ b_234 := fun i hi => Nat.ne_of_lt (Nat.lt_of_lt_of_le (F214 i hi).1.lt lt234_0)
      have ne236 : df ≠ b_234 := Nat.ne_of_lt (Nat.lt_of_lt_of_le F207.lt lt234_0)
      have ne237 : dl ≠ b_234 := Nat.ne_of_lt (Nat.lt_of_lt_of_le F209.lt lt234_0)
      have ne238 : bd ≠ b_234 := Nat.ne_of_lt (Nat.lt_of_lt_of_le F211.lt lt234_0)
      have ne239 : em ≠ b_234 := Nat.ne_of_lt (Nat.lt_of_lt_of_le F213.lt lt234_0)
      have ne240 : ea ≠ b_234 := Nat.ne_of_lt (Nat.lt_of_lt_of_le F216.lt lt234_0)
      have ne241 : el ≠ b_234 := Nat.ne_of_lt (Nat.lt_of_lt_of_le F218.lt lt234_0)
      have ne242 : bz ≠ b_234 := Nat.ne_of_lt (Nat.lt_of_lt_of_le F220.lt lt234_0)
      have ne243 : b103 ≠ b_234 := Nat.ne_of_lt (Nat.lt_of_lt_of_le F221.lt lt234_0)
      have ne244 : b175 ≠ b_234 := Nat.ne_of_lt (Nat.lt_of_lt_of_le P205_0.lt lt234_0)
      have ne245 : (w iq_230) ≠ b_234 := Nat.ne_of_lt (Nat.lt_of_lt_of_le Ew232.lt lt234_0)
      have ge246 : n0 ≤ b_234 := Nat.le_trans Z205 lt234_0
      have Z234 : n0 ≤ T234.heap.size := Nat.le_trans Z205 K234.1
      have F247 := own_sta_keep F206 K234 (allS (own_plain F221) all0)
      have F248 := F207.keep K234
      have F249 := F208.keep K234 (ninS ne105 nin0)
      have F250 := F209.keep K234
      have F251 := F210.keep K234 (ninS ne106 nin0)
      have F252 := F211.keep K234 (ninS ne107 nin0)
      have F253 := own_sta_keep F212 K234 (allS (own_plain F221) all0)
      have F254 := F213.keep K234
      have F255 := F214.keep K234 (fun i hi => (ninS (ne104 i hi) nin0))
      have F256 := own_sta_keep F215 K234 (allS (own_plain F221) all0)
      have F257 := F216.keep K234 (ninS ne109 nin0)
      have F258 := own_sta_keep F217 K234 (allS (own_plain F221) all0)
      have F259 := F218.keep K234
      have F260 := F219.keep K234 (ninS ne110 nin0)
      have F261 := F220.keep K234 (ninS ne111 nin0)
      have F262 := F221.keep K234
      have F263 := P205_0.keep K234
      have F264 := P205_1.keep K234 (ninS (Ne.symm ne184) nin0)
      have F265 := Ew232.keep K234
      refine gs m T234 251 #[vI (p0), vJ (p1), sS, vI (p2), vR (dl), vI ((0 : Int32)), vR (b103), vR (b175)] [(.int (1 : Int32))] (fun _ k => st234.trans k) ?_
      refine gs m T234 252 #[vI (p0), vJ (p1), sS, vI (p2), vR (dl), vI ((0 : Int32)), vR (b103), vR (b175)] [] (fun _ k => XS.pop X234.here hx rfl (hb hby at_251) rfl rfl k) ?_
      refine gs m T234 254 #[vI (p0), vJ (p1), sS, vI (p2), vR (dl), vI ((0 : Int32)), vR (b103), vR (b175)] [(.ref b175)] (fun _ k => XS.aload X234.here hx rfl (hb hby at_252) rfl rfl k) ?_
      obtain ⟨cq266, kq266, q266a, q266b, q266c⟩ := isOf hZ rfl F263
      obtain ⟨_, _, ⟨T266, L266, k266, n266⟩, -, X266, ⟨Lc266, hQ266, l266, y266, z266⟩, st266⟩ := X234.virtualBack hx (y := (⟨"com/example/nuthatch/nuthatch/RetrySchedule", "maxAttempts", "()I"⟩ : MethodName)) (z := (⟨"com/example/nuthatch/nuthatch/RetrySchedule", "maxAttempts", "()I"⟩ : MethodName)) hown (mvT hZ (hwi hw 164 rfl)) (mvT hZ (hwi hw 165 rfl)) (notFace_of_selects (args := #[]) (mvT hZ (hwi hw 167 rfl))) (mvT hZ (hwi hw 167 rfl)) (mvT hZ (hwi hw 166 rfl)) (by decide) (backOf (W := 0) (Q := Qret (some (.int (1 : Int32))) T234.heap n0) (own_mxa0 l Z a0 hw [] b175 el bz kz T234.heap n0 Z234 F264 F259 F260 F261) hZ (hwi hw 168 rfl) (hwi hw 1 rfl) (by decide) (by decide)) q266a q266c (g := (mkF m 254 #[vI (p0), vJ (p1), sS, vI (p2), vR (dl), vI ((0 : Int32)), vR (b103), vR (b175)] [(.ref b175)])) rfl (by rw [hml]; rfl) (Steps.refl _) (argsL := []) (rest := []) (lenOf own_pd13 rfl) rfl (by show 2 * 0 + _ ≤ _; exact Nat.le_of_eq rfl) (hb hby at_254) (fun _ _ => ⟨rfl, rfl, (by decide : 4 + 0 ≤ _), (by decide : 18 + 0 ≤ _)⟩)
      dsimp only [Pt.U, Pt.locs, Pt.cells, Pt.slots] at X266 l266 y266 z266 st266 hQ266
      subst l266 y266 z266
      obtain ⟨rfl, N266q, eh266⟩ := hQ266
      have N266 := Fr.app N234 N266q
      refine gs m T266 257 #[vI (p0), vJ (p1), sS, vI (p2), vR (dl), vI ((0 : Int32)), vR (b103), vR (b175)] [(.int (1 : Int32))] (fun _ k => st266.trans k) ?_
      refine gs m T266 259 #[vI (p0), vJ (p1), sS, vI (p2), vR (dl), vI ((0 : Int32)), vR (b103), vR (b175)] [(.int (0 : Int32)), (.int (1 : Int32))] (fun _ k => XS.iload X266.here hx rfl (hb hby at_257) rfl  k) ?_
      refine gs m T266 260 #[vI (p0), vJ (p1), sS, vI (p2), vR (dl), vI ((0 : Int32)), vR (b103), vR (b175)] [(.int (1 : Int32)), (.int (0 : Int32)), (.int (1 : Int32))] (fun _ k => XS.iconst X266.here hx rfl (hb hby at_259) k) ?_
      refine gs m T266 261 #[vI (p0), vJ (p1), sS, vI (p2), vR (dl), vI ((0 : Int32)), vR (b103), vR (b175)] [(.int (1 : Int32)), (.int (1 : Int32))] (fun _ k => XS.iadd X266.here hx rfl (hb hby at_260) rfl k) ?_
      refine gs m T266 264 #[vI (p0), vJ (p1), sS, vI (p2), vR (dl), vI ((0 : Int32)), vR (b103), vR (b175)] [] (fun _ k => XS.icmpNo X266.here hx rfl (hb hby at_261) rfl (teq (by decide : (1 : Int32) = (1 : Int32))).2 k) ?_
      obtain ⟨T267, X267, e267, st267⟩ := getS2 X266 hx hZ hown (host := "") (Or.inl (hwi hw 0 rfl)) Via.refl eh266 F247 (g := (mkF m 264 #[vI (p0), vJ (p1), sS, vI (p2), vR (dl), vI ((0 : Int32)), vR (b103), vR (b175)] [])) rfl (hb hby at_264)
      refine gs m T267 267 #[vI (p0), vJ (p1), sS, vI (p2), vR (dl), vI ((0 : Int32)), vR (b103), vR (b175)] [(.ref df)] st267 ?_
      obtain ⟨cq268, kq268, q268a, q268b, q268c⟩ := isOf hZ e267 F248
      obtain ⟨_, _, ⟨T268, L268, k268, n268⟩, -, X268, ⟨Lc268, hQ268, l268, y268, z268⟩, st268⟩ := X267.virtualBack hx (y := (⟨"com/example/nuthatch/nuthatch/RetrySchedule", "maxAttempts", "()I"⟩ : MethodName)) (z := (⟨"com/example/nuthatch/nuthatch/RetrySchedule", "maxAttempts", "()I"⟩ : MethodName)) hown (mvT hZ (hwi hw 164 rfl)) (mvT hZ (hwi hw 165 rfl)) (notFace_of_selects (args := #[]) (mvT hZ (hwi hw 167 rfl))) (mvT hZ (hwi hw 167 rfl)) (mvT hZ (hwi hw 166 rfl)) (by decide) (backOf (W := 0) (Q := Qret (some (.int (10 : Int32))) T234.heap n0) (own_mxaw l Z a0 hw [] df dl bd kd w T234.heap n0 Z234 F249 F250 F251 F252) hZ (hwi hw 168 rfl) (hwi hw 1 rfl) (by decide) (by decide)) q268a q268c (g := (mkF m 267 #[vI (p0), vJ (p1), sS, vI (p2), vR (dl), vI ((0 : Int32)), vR (b103), vR (b175)] [(.ref df)])) rfl (by rw [hml]; rfl) (Steps.refl _) (argsL := []) (rest := []) (lenOf own_pd13 rfl) rfl (by show 2 * 0 + _ ≤ _; exact Nat.le_of_eq rfl) (hb hby at_267) (fun _ _ => ⟨rfl, e267, (by decide : 4 + 0 ≤ _), (by decide : 18 + 0 ≤ _)⟩)
      dsimp only [Pt.U, Pt.locs, Pt.cells, Pt.slots] at X268 l268 y268 z268 st268 hQ268
      subst l268 y268 z268
      obtain ⟨rfl, N268q, eh268⟩ := hQ268
      have N268 := Fr.app N266 N268q
      refine gs m T268 270 #[vI (p0), vJ (p1), sS, vI (p2), vR (dl), vI ((0 : Int32)), vR (b103), vR (b175)] [(.int (10 : Int32))] (fun _ k => st268.trans k) ?_
      refine gs m T268 272 #[vI (p0), vJ (p1), sS, vI (p2), vR (dl), vI ((0 : Int32)), vR (b103), vR (b175)] [(.int (10 : Int32)), (.int (10 : Int32))] (fun _ k => XS.bipush X268.here hx rfl (hb hby at_270) k) ?_
      refine gs m T268 275 #[vI (p0), vJ (p1), sS, vI (p2), vR (dl), vI ((0 : Int32)), vR (b103), vR (b175)] [] (fun _ k => XS.icmpNo X268.here hx rfl (hb hby at_272) rfl (teq (by decide : (10 : Int32) = (10 : Int32))).2 k) ?_
      refine gs m T268 276 #[vI (p0), vJ (p1), sS, vI (p2), vR (dl), vI ((0 : Int32)), vR (b103), vR (b175)] [(.int (1 : Int32))] (fun _ k => XS.iconst X268.here hx rfl (hb hby at_275) k) ?_
      refine gs m T268 280 #[vI (p0), vJ (p1), sS, vI (p2), vR (dl), vI ((0 : Int32)), vR (b103), vR (b175)] [(.int (1 : Int32))] (fun _ k => XS.goto X268.here hx rfl (pc0 := 276) (pc' := 280) rfl (hb hby at_276) (by decide) (by decide) k) ?_
      exact Go.retN X268 hx (t := .boolean) hret hlk (by simp) (hb hby at_280) (⟨rfl, N268⟩) (by decide) (by decide)
theorem own_eqJ {args : Array Value} {s : State} {t : Term} {k : Int64} (q : (Jvm.Cond.eq t (Jvm.Term.long k)).value args s none s [] = some true) : t.eval args s none [] s = some (.long k) := by
  have hn : (Jvm.Term.long k).eval args s none [] s = some (.long k) := rfl
  simp only [Cond.value, hn] at q
  cases ht : t.eval args s none [] s with
  | none => simp [ht] at q
  | some v => rw [ht] at q; cases v <;> simp at q ⊢ <;> exact q
theorem comes_1 {Post : Tables → Env → Array Value → State → Outcome → State → Prop} (hpost : ∀ tb e args s v u, (limb_1_1.after args s (.returned v) u = true ∧ limb_1_2.after args s (.returned v) u = true ∧ True) → FrameEnd s (.returned v) u (Jvm.fieldLocs frame_1_writes args s ++ Jvm.arrayLocs frame_1_arrays args s ++ Jvm.staticLocs frame_1_statics s) 24 192 → Post tb e args s (.returned v) u) :
    ArmFor flags0 classFile x code maxLocals ret World_1 tables_1 room_1 Calls_1 rest_1 Pre_1 Post := by
  intro l hfl _ _ p e ha hc hk s m args below hf hA hF happ hP
  obtain ⟨hcalls, hrest, hpre⟩ := hP
  obtain ⟨-, -, -, hnamed, -, -, -, hat⟩ := (Spec.applies_iff hf).mp happ
  obtain ⟨hg, hn⟩ := and_e (Cond.before_iff.mp (show (Jvm.Cond.and given_1 narrow_1).before args s = true from hpre))
  obtain ⟨g0a, g0b⟩ := and_e hg
  obtain ⟨g1a, g1b⟩ := and_e g0b
  obtain ⟨g2a, g2b⟩ := and_e g1b
  obtain ⟨vw0, vw1, vw2, rfl⟩ : ∃ vw0 vw1 vw2 : Value, args = #[vw0, vw1, vw2] := by
    have hs : args.size = 3 := by simpa [Cond.value, given_1] using g0a
    obtain ⟨L⟩ := args
    match L, hs with
    | [vw0, vw1, vw2], _ => exact ⟨vw0, vw1, vw2, rfl⟩
  have hw := fun d (hd : d ∈ tables_1) => atoms_spec (ws := Jvm.Cond.code x code maxLocals ret :: tables_1) hat d (List.mem_cons_of_mem _ hd)
  have hfit : Fit s := fun {y c} hc i hi => by
    obtain ⟨ha, rfl⟩ := Array.getElem?_eq_some_iff.mp hc
    have q := List.all_eq_true.mp ((Array.all_eq_true_iff_forall_mem.mp hF) _ (Array.getElem_mem ha)) i (List.mem_range.mpr hi)
    simpa [Array.getElem?_eq_getElem hi] using q
  obtain ⟨hsets, hown0⟩ := atoms_of _ (rest_1_c_eq ▸ (show rest_1_c.before _ s = true from hrest))
  obtain ⟨i0, ei0⟩ := is_v g1a
  obtain rfl : vw0 = (.int i0) := Option.some.inj ei0
  obtain ⟨i1, ei1⟩ := isL_v g2a
  obtain rfl : vw1 = (.long i1) := Option.some.inj ei1
  obtain ⟨i2, ei2⟩ := is_v g2b
  obtain rfl : vw2 = (.int i2) := Option.some.inj ei2
  obtain ⟨m0a, m0b⟩ := and_e hn
  obtain ⟨m1a, m1b⟩ := and_e m0b
  obtain ⟨m2a, m2b⟩ := and_e m1b
  obtain ⟨m3a, m3b⟩ := and_e m2b
  obtain ⟨m4a, m4b⟩ := and_e m3b
  obtain ⟨m5a, m5b⟩ := and_e m4b
  obtain ⟨m6a, m6b⟩ := and_e m5b
  obtain ⟨m7a, m7b⟩ := and_e m6b
  obtain ⟨m8a, m8b⟩ := and_e m7b
  obtain ⟨m9a, m9b⟩ := and_e m8b
  obtain ⟨m10a, m10b⟩ := and_e m9b
  obtain ⟨m11a, m11b⟩ := and_e m10b
  obtain ⟨m12a, m12b⟩ := and_e m11b
  obtain ⟨m13a, m13b⟩ := and_e m12b
  obtain ⟨m14a, m14b⟩ := and_e m13b
  obtain ⟨m15a, m15b⟩ := and_e m14b
  obtain ⟨m16a, m16b⟩ := and_e m15b
  obtain ⟨m17a, m17b⟩ := and_e m16b
  obtain ⟨m18a, m18b⟩ := and_e m17b
  obtain ⟨m19a, m19b⟩ := and_e m18b
  obtain ⟨m20a, m20b⟩ := and_e m19b
  obtain ⟨ea, eva⟩ := exa_v (Cond.before_iff.mp (hsets _ (List.mem_of_getElem? (i := 7) rfl)))
  have Sea := Sta.start eva (Or.inr ⟨(hwi hw 12 rfl), (hsets _ (List.mem_of_getElem? (i := 2) rfl))⟩)
  obtain ⟨cea, Aea⟩ := Arr.start eva (Cond.before_iff.mp (hsets _ (List.mem_of_getElem? (i := 6) rfl)))
  have lea := own_len eva Aea (own_eqI (Cond.before_iff.mp (hsets _ (List.mem_of_getElem? (i := 8) rfl))))
  have Vea : Arv s s.heap ea cea.cls (.object "java/lang/Object") (0 : Int32) [] .null := Arv.start hfit Aea lea.1 lea.2 (by decide) (by decide) trivial
  obtain ⟨el, evl⟩ := exa_v (Cond.before_iff.mp (hsets _ (List.mem_of_getElem? (i := 11) rfl)))
  have Sel := Sta.start evl (Or.inl (hsets _ (List.mem_of_getElem? (i := 10) rfl)))
  have Eel := Exa.start evl (Cond.before_iff.mp (hsets _ (List.mem_of_getElem? (i := 11) rfl)))
  obtain ⟨bz, evb⟩ := exa_v (Cond.before_iff.mp (hsets _ (List.mem_of_getElem? (i := 13) rfl)))
  have Fel := Fld.start ((fld_at evl).symm.trans evb)
  obtain ⟨cbz, Abz⟩ := Arr.start evb (Cond.before_iff.mp (hsets _ (List.mem_of_getElem? (i := 12) rfl)))
  have lbz := own_len evb Abz (own_eqI (Cond.before_iff.mp (hsets _ (List.mem_of_getElem? (i := 14) rfl))))
  have Vbz : Arv s s.heap bz cbz.cls (.object "java/lang/Object") (0 : Int32) [] .null := Arv.start hfit Abz lbz.1 lbz.2 (by decide) (by decide) trivial
  obtain ⟨em, evm⟩ := exa_v (Cond.before_iff.mp (hsets _ (List.mem_of_getElem? (i := 18) rfl)))
  have Sem := Sta.start evm (Or.inl (hsets _ (List.mem_of_getElem? (i := 17) rfl)))
  have Eem := Exa.start evm (Cond.before_iff.mp (hsets _ (List.mem_of_getElem? (i := 18) rfl)))
  obtain ⟨df, evd⟩ := exa_v m0a
  have Sd := Sta.start evd (Or.inr ⟨(hwi hw 1 rfl), (hwi hw 2 rfl)⟩)
  have Ed := Exa.start evd m0a
  obtain ⟨dl, evdl⟩ := exa_v m1a
  have Fd := Fld.start ((fld_at evd).symm.trans evdl)
  have Edl := Exa.start evdl m1a
  obtain ⟨bd, evbd⟩ := arr_v m2a
  have Fdl := Fld.start ((fld_at evdl).symm.trans evbd)
  obtain ⟨cbd, Abd⟩ := Arr.start evbd m2a
  have lbd := own_len evbd Abd (own_eqI m3a)
  obtain ⟨y0, ev0⟩ := exa_v m4a
  have E0 := Exa.start ev0 m4a
  have F0 := Fld.start ((fld_at ev0).symm.trans (own_eqJ m7a))
  have q0 := (elem_in ev0 evbd (Term.int_eval (0)) Abd.1).2
  obtain ⟨y1, ev1⟩ := exa_v m16a
  have E1 := Exa.start ev1 m16a
  have F1 := Fld.start ((fld_at ev1).symm.trans (own_eqJ m17a))
  have q1 := (elem_in ev1 evbd (Term.int_eval (1)) Abd.1).2
  obtain ⟨y2, ev2⟩ := exa_v m19a
  have E2 := Exa.start ev2 m19a
  have F2 := Fld.start ((fld_at ev2).symm.trans (own_eqJ m20a))
  have q2 := (elem_in ev2 evbd (Term.int_eval (2)) Abd.1).2
  obtain ⟨y3, ev3⟩ := exa_v m10a
  have E3 := Exa.start ev3 m10a
  have F3 := Fld.start ((fld_at ev3).symm.trans (own_eqJ m12a))
  have q3 := (elem_in ev3 evbd (Term.int_eval (3)) Abd.1).2
  obtain ⟨y4, ev4⟩ := exa_v m5a
  have E4 := Exa.start ev4 m5a
  have F4 := Fld.start ((fld_at ev4).symm.trans (own_eqJ m6a))
  have q4 := (elem_in ev4 evbd (Term.int_eval (4)) Abd.1).2
  obtain ⟨y5, ev5⟩ := exa_v m11a
  have E5 := Exa.start ev5 m11a
  have F5 := Fld.start ((fld_at ev5).symm.trans (own_eqJ m13a))
  have q5 := (elem_in ev5 evbd (Term.int_eval (5)) Abd.1).2
  obtain ⟨y6, ev6⟩ := exa_v m14a
  have E6 := Exa.start ev6 m14a
  have F6 := Fld.start ((fld_at ev6).symm.trans (own_eqJ m15a))
  have q6 := (elem_in ev6 evbd (Term.int_eval (6)) Abd.1).2
  obtain ⟨y7, ev7⟩ := exa_v m18a
  have E7 := Exa.start ev7 m18a
  have F7 := Fld.start ((fld_at ev7).symm.trans (own_eqJ m20b))
  have q7 := (elem_in ev7 evbd (Term.int_eval (7)) Abd.1).2
  obtain ⟨y8, ev8⟩ := exa_v m8a
  have E8 := Exa.start ev8 m8a
  have F8 := Fld.start ((fld_at ev8).symm.trans (own_eqJ m9a))
  have q8 := (elem_in ev8 evbd (Term.int_eval (8)) Abd.1).2
  have Vbd : Arv s s.heap bd cbd.cls (.object "java/lang/Object") (9 : Int32) [.ref y0, .ref y1, .ref y2, .ref y3, .ref y4, .ref y5, .ref y6, .ref y7, .ref y8] .null := Arv.start hfit Abd lbd.1 lbd.2 (by decide) (by show _ = 9; decide) ⟨q0, q1, q2, q3, q4, q5, q6, q7, q8, trivial⟩
  have U9 := own_U9 E0 F0 E1 F1 E2 F2 E3 F3 E4 F4 E5 F5 E6 F6 E7 F7 E8 F8
  obtain ⟨n, o, h1, h2, h3, _, L, rfl, ⟨rfl, N⟩, hq⟩ := rm0 l s _ hw tables_1 i0 i1 i2 df dl bd cbd.cls em (own_w9 y0 y1 y2 y3 y4 y5 y6 y7 y8) own_sec ea cea.cls el bz cbz.cls s.heap s.heap.size (Nat.le_refl _) Sd Ed Fd Edl Fdl Vbd Sem Eem U9 Sea Vea Sel Eel Fel Vbz hcalls.1 own_hsec p e ha hc hk s m _ below hf ((Spec.applies_iff_loose hf).mp happ).1 ⟨rfl, State.Warmed39.refl s, rfl⟩ trivial
  refine ⟨n, _, h1, h2, h3, hpost _ _ _ _ _ _ ⟨Cond.after_iff.mpr rfl, Cond.after_iff.mpr (eq_i res_at (Term.int_eval (1)) rfl), trivial⟩ ⟨hq.1, hq.2.1, (hq.2.2.sift fun y hy => Or.inr (N y hy)).mono (by decide) (by decide)⟩⟩
theorem main_1_1 : Claimed_1_1 := comes_1 fun _ _ _ _ _ _ h hF => ⟨h.1, hF⟩
theorem main_1_2 : Claimed_1_2 := comes_1 fun _ _ _ _ _ _ h hF => ⟨h.2.1, hF⟩
end Jvm.Pilot.@@N@@
namespace Jvm.Pilot.@@N@@
open Jvm Jvm.ClassFile Sem Op Lib Jvm.Free Jvm.Stand Jvm.Pilot.@@N@@.Jvm.D
/-! MADE BY PROGRAM (witnessworld.py) out of the Statement's table words and the real class files: 35 classes; the members and pool entries that the words name. The judged class is class 1, her method 1. -/
namespace start1
open Jvm.ClassFile
def u (s : String) : CpInfo := .utf8 (stringToUtf16 s)
/-- a pool by its gaps: so many unusable entries, then the entry; so many at the end -/
def gap : Nat → List CpInfo → List CpInfo
  | 0, r => r
  | n + 1, r => .unusable :: gap n r
def poolList (es : List (Nat × CpInfo)) (last : Nat) : List CpInfo := es.foldr (fun e r => gap e.1 (e.2 :: r)) (gap last [])
def pool (es : List (Nat × CpInfo)) (last : Nat) : Array CpInfo := ⟨poolList es last⟩
def fileOf (pool : Array CpInfo) (this : Nat) (attrs : Array Attribute := #[]) (ms : Array MethodInfo := #[]) (fl : Nat := 33) (sup : Nat := 0) (ifs : Array Nat := #[]) (fds : Array FieldInfo := #[]) : ClassFile where
  minorVersion := 0
  majorVersion := 65
  constantPool := pool
  accessFlags := fl
  thisClass := this
  superClass := sup
  interfaces := ifs
  fields := fds
  methods := ms
  attributes := attrs
def plain (name : String) (sup : Option ClassId) : Class where
  name := name
  kind := .ordinary
  loader := none
  accessFlags := 33
  super := sup
  interfaces := #[]
  cf := none
  fields := #[]
  methods := #[]
  instanceTypes := #[]
  staticTypes := #[]
  resolved := #[]
  callSites := []
  init := .initialized
  statics := none
  mirror := none

def pool0 : Array CpInfo := pool [(5, u "<init>"), (0, u "()V"), (1, .class_ 10), (1, u "java/lang/Object"), (0, u "getClass"), (0, u "()Ljava/lang/Class;")] 111

def k0c0 : Code := { maxStack := 0, maxLocals := 1, code := object_method_1_code, exceptionTable := #[], attributes := #[] }
def k0m0 : Method := { name := "<init>", desc := "()V", sig := { parameters := [], returnType := none }, accessFlags := 1, code := some k0c0 }
def k0m1 : Method := { name := "getClass", desc := "()Ljava/lang/Class;", sig := { parameters := [], returnType := some (.object "java/lang/Class") }, accessFlags := 273, code := none }
/-- java/lang/Object -/
def k0 : Class := { plain "java/lang/Object" none with
  accessFlags := 33
  interfaces := #[]
  cf := some (fileOf pool0 8 #[] #[{ accessFlags := 1, nameIndex := 5, descriptorIndex := 6, attributes := #[] }, { accessFlags := 273, nameIndex := 11, descriptorIndex := 12, attributes := #[] }] 33 0 #[] #[])
  fields := #[]
  methods := #[k0m0, k0m1]
  instanceTypes := #[]
  staticTypes := #[]
  resolved := Array.replicate 124 none
  statics := none }

def pool1 : Array CpInfo := pool [(2, .class_ 4), (0, .nameAndType 5 6), (0, u "java/lang/Object"), (0, u "<init>"), (0, u "()V"), (0, .fieldref 8 9), (0, .class_ 10), (0, .nameAndType 11 12), (0, u "com/example/nuthatch/nuthatch/RetrySchedule"), (0, u "DEFAULT"), (0, u "Lcom/example/nuthatch/nuthatch/RetrySchedule;"), (0, .methodref 8 14), (0, .nameAndType 15 16), (0, u "delays"), (0, u "()Ljava/util/List;"), (0, .class_ 18), (0, u "java/util/ArrayList"), (0, .methodref 17 3), (0, .methodref 21 22), (0, .class_ 23), (0, .nameAndType 24 25), (0, u "com/example/nuthatch/nuthatch/RetryScheduleMaxAttemptsPinLaw"), (0, u "pick"), (0, u "(JI)I"), (0, .interfaceMethodref 27 28), (0, .class_ 29), (0, .nameAndType 30 31), (0, u "java/util/List"), (0, u "get"), (0, u "(I)Ljava/lang/Object;"), (0, .class_ 33), (0, u "java/time/Duration"), (0, .methodref 17 35), (0, .nameAndType 36 37), (0, u "add"), (0, u "(Ljava/lang/Object;)Z"), (0, .methodref 8 39), (0, .nameAndType 5 40), (0, u "(Ljava/util/List;)V"), (0, .methodref 8 42), (0, .nameAndType 43 44), (0, u "maxAttempts"), (0, u "()I"), (0, .long 15), (3, u "law"), (0, u "(IJI)Z")] 3

def k1m0 : Method := { name := "<init>", desc := "()V", sig := { parameters := [], returnType := none }, accessFlags := 1, code := none }
def k1c1 : Code := { maxStack := 5, maxLocals := 8, code := code, exceptionTable := #[], attributes := #[] }
def k1m1 : Method := { name := "law", desc := "(IJI)Z", sig := { parameters := [.int, .long, .int], returnType := some .boolean }, accessFlags := 9, code := some k1c1 }
def k1c2 : Code := { maxStack := 4, maxLocals := 3, code := method_3_code, exceptionTable := #[], attributes := #[] }
def k1m2 : Method := { name := "pick", desc := "(JI)I", sig := { parameters := [.long, .int], returnType := some .int }, accessFlags := 10, code := some k1c2 }
/-- com/example/nuthatch/nuthatch/RetryScheduleMaxAttemptsPinLaw -/
def k1 : Class := { plain "com/example/nuthatch/nuthatch/RetryScheduleMaxAttemptsPinLaw" (some 0) with
  accessFlags := 49
  interfaces := #[]
  cf := some (fileOf pool1 21 #[] #[{ accessFlags := 1, nameIndex := 5, descriptorIndex := 6, attributes := #[] }, { accessFlags := 9, nameIndex := 49, descriptorIndex := 50, attributes := #[] }, { accessFlags := 10, nameIndex := 24, descriptorIndex := 25, attributes := #[] }] 49 2 #[] #[])
  fields := #[]
  methods := #[k1m0, k1m1, k1m2]
  instanceTypes := #[]
  staticTypes := #[]
  resolved := Array.replicate 54 none
  statics := none }

def pool2 : Array CpInfo := pool [(1, .methodref 2 3), (0, .class_ 4), (0, .nameAndType 5 6), (0, u "java/lang/Object"), (0, u "<init>"), (0, u "()V"), (0, .class_ 8), (0, u "java/lang/Record")] 13

def k2c0 : Code := { maxStack := 1, maxLocals := 1, code := jdk_30_method_1_code, exceptionTable := #[], attributes := #[] }
def k2m0 : Method := { name := "<init>", desc := "()V", sig := { parameters := [], returnType := none }, accessFlags := 4, code := some k2c0 }
/-- java/lang/Record -/
def k2 : Class := { plain "java/lang/Record" (some 0) with
  accessFlags := 1057
  interfaces := #[]
  cf := some (fileOf pool2 7 #[] #[{ accessFlags := 4, nameIndex := 5, descriptorIndex := 6, attributes := #[] }] 1057 2 #[] #[])
  fields := #[]
  methods := #[k2m0]
  instanceTypes := #[]
  staticTypes := #[]
  resolved := Array.replicate 22 none
  statics := none }

def pool3 : Array CpInfo := pool [(1, .methodref 2 3), (0, .class_ 4), (0, .nameAndType 5 6), (0, u "java/lang/Record"), (0, u "<init>"), (0, u "()V"), (0, .interfaceMethodref 8 9), (0, .class_ 10), (0, .nameAndType 11 12), (0, u "java/util/List"), (0, u "copyOf"), (0, u "(Ljava/util/Collection;)Ljava/util/List;"), (0, .interfaceMethodref 8 14), (0, .nameAndType 15 16), (0, u "iterator"), (0, u "()Ljava/util/Iterator;"), (0, .interfaceMethodref 18 19), (0, .class_ 20), (0, .nameAndType 21 22), (0, u "java/util/Iterator"), (0, u "hasNext"), (0, u "()Z"), (0, .interfaceMethodref 18 24), (0, .nameAndType 25 26), (0, u "next"), (0, u "()Ljava/lang/Object;"), (0, .class_ 28), (0, u "java/time/Duration"), (0, .methodref 27 30), (0, .nameAndType 31 22), (0, u "isNegative"), (15, .fieldref 48 49), (0, .class_ 50), (0, .nameAndType 51 52), (0, u "com/example/nuthatch/nuthatch/RetrySchedule"), (0, u "delays"), (0, u "Ljava/util/List;"), (6, u "(Ljava/util/List;)V"), (0, .interfaceMethodref 8 61), (0, .nameAndType 62 63), (0, u "size"), (0, u "()I"), (54, u "DEFAULT"), (0, u "Lcom/example/nuthatch/nuthatch/RetrySchedule;"), (7, u "maxAttempts"), (5, u "()Ljava/util/List;")] 29

def k3c0 : Code := { maxStack := 3, maxLocals := 4, code := prog_7_method_1_code, exceptionTable := #[], attributes := #[] }
def k3m0 : Method := { name := "<init>", desc := "(Ljava/util/List;)V", sig := { parameters := [(.object "java/util/List")], returnType := none }, accessFlags := 1, code := some k3c0 }
def k3c1 : Code := { maxStack := 2, maxLocals := 1, code := prog_7_method_3_code, exceptionTable := #[], attributes := #[] }
def k3m1 : Method := { name := "maxAttempts", desc := "()I", sig := { parameters := [], returnType := some .int }, accessFlags := 1, code := some k3c1 }
def k3c2 : Code := { maxStack := 1, maxLocals := 1, code := prog_7_method_8_code, exceptionTable := #[], attributes := #[] }
def k3m2 : Method := { name := "delays", desc := "()Ljava/util/List;", sig := { parameters := [], returnType := some (.object "java/util/List") }, accessFlags := 1, code := some k3c2 }
/-- com/example/nuthatch/nuthatch/RetrySchedule -/
def k3 : Class := { plain "com/example/nuthatch/nuthatch/RetrySchedule" (some 2) with
  accessFlags := 49
  interfaces := #[]
  cf := some (fileOf pool3 48 #[] #[{ accessFlags := 1, nameIndex := 5, descriptorIndex := 59, attributes := #[] }, { accessFlags := 1, nameIndex := 127, descriptorIndex := 63, attributes := #[] }, { accessFlags := 1, nameIndex := 51, descriptorIndex := 133, attributes := #[] }] 49 2 #[] #[{ accessFlags := 18, nameIndex := 51, descriptorIndex := 52, attributes := #[] }, { accessFlags := 25, nameIndex := 118, descriptorIndex := 119, attributes := #[] }])
  fields := #[{ name := "delays", type := (.object "java/util/List"), accessFlags := 18, slot := 0, constantValue := 0 }, { name := "DEFAULT", type := (.object "com/example/nuthatch/nuthatch/RetrySchedule"), accessFlags := 25, slot := 0, constantValue := 0 }]
  methods := #[k3m0, k3m1, k3m2]
  instanceTypes := #[(.object "java/util/List")]
  staticTypes := #[(.object "com/example/nuthatch/nuthatch/RetrySchedule")]
  resolved := Array.replicate 163 none
  statics := some 0 }

def pool4 : Array CpInfo := pool [(8, .class_ 10), (1, u "java/lang/Iterable"), (24, .class_ 36), (0, u "java/lang/Object")] 25

/-- java/lang/Iterable -/
def k4 : Class := { plain "java/lang/Iterable" (some 0) with
  accessFlags := 1537
  interfaces := #[]
  cf := some (fileOf pool4 8 #[] #[] 1537 35 #[] #[])
  fields := #[]
  methods := #[]
  instanceTypes := #[]
  staticTypes := #[]
  resolved := Array.replicate 62 none
  statics := none }

def pool5 : Array CpInfo := pool [(10, .class_ 12), (1, u "java/util/Collection"), (0, u "toArray"), (16, u "()Z"), (29, .class_ 61), (0, u "java/lang/Object"), (0, .class_ 63), (0, u "java/lang/Iterable"), (2, u "isEmpty"), (3, u "()[Ljava/lang/Object;")] 44

def k5m0 : Method := { name := "isEmpty", desc := "()Z", sig := { parameters := [], returnType := some .boolean }, accessFlags := 1025, code := none }
def k5m1 : Method := { name := "toArray", desc := "()[Ljava/lang/Object;", sig := { parameters := [], returnType := some (.array (.object "java/lang/Object")) }, accessFlags := 1025, code := none }
/-- java/util/Collection -/
def k5 : Class := { plain "java/util/Collection" (some 0) with
  accessFlags := 1537
  interfaces := #[4]
  cf := some (fileOf pool5 10 #[] #[{ accessFlags := 1025, nameIndex := 66, descriptorIndex := 30, attributes := #[] }, { accessFlags := 1025, nameIndex := 13, descriptorIndex := 70, attributes := #[] }] 1537 60 #[62] #[])
  fields := #[]
  methods := #[k5m0, k5m1]
  instanceTypes := #[]
  staticTypes := #[]
  resolved := Array.replicate 115 none
  statics := none }

def pool6 : Array CpInfo := pool [(1, .methodref 2 3), (0, .class_ 4), (0, .nameAndType 5 6), (0, u "java/lang/Object"), (0, u "<init>"), (0, u "()V"), (1, .class_ 10), (1, u "java/util/AbstractCollection"), (0, u "size"), (0, u "()I"), (64, .class_ 78), (0, u "java/util/Collection")] 81

def k6c0 : Code := { maxStack := 1, maxLocals := 1, code := jdk_22_method_1_code, exceptionTable := #[], attributes := #[] }
def k6m0 : Method := { name := "<init>", desc := "()V", sig := { parameters := [], returnType := none }, accessFlags := 4, code := some k6c0 }
def k6m1 : Method := { name := "size", desc := "()I", sig := { parameters := [], returnType := some .int }, accessFlags := 1025, code := none }
/-- java/util/AbstractCollection -/
def k6 : Class := { plain "java/util/AbstractCollection" (some 0) with
  accessFlags := 1057
  interfaces := #[5]
  cf := some (fileOf pool6 8 #[] #[{ accessFlags := 4, nameIndex := 5, descriptorIndex := 6, attributes := #[] }, { accessFlags := 1025, nameIndex := 11, descriptorIndex := 12, attributes := #[] }] 1057 2 #[77] #[])
  fields := #[]
  methods := #[k6m0, k6m1]
  instanceTypes := #[]
  staticTypes := #[]
  resolved := Array.replicate 160 none
  statics := none }

def pool7 : Array CpInfo := pool [(8, .class_ 10), (1, u "java/util/SequencedCollection"), (15, .class_ 27), (0, u "java/lang/Object"), (0, .class_ 29), (0, u "java/util/Collection")] 27

/-- java/util/SequencedCollection -/
def k7 : Class := { plain "java/util/SequencedCollection" (some 0) with
  accessFlags := 1537
  interfaces := #[5]
  cf := some (fileOf pool7 8 #[] #[] 1537 26 #[28] #[])
  fields := #[]
  methods := #[]
  instanceTypes := #[]
  staticTypes := #[]
  resolved := Array.replicate 57 none
  statics := none }

def pool8 : Array CpInfo := pool [(8, .class_ 10), (1, u "java/util/List"), (20, u "(Ljava/lang/Object;)V"), (16, u "<init>"), (26, u "get"), (0, u "(I)Ljava/lang/Object;"), (2, u "size"), (0, u "()I"), (7, u "of"), (1, .fieldref 91 92), (0, .class_ 93), (0, .nameAndType 94 95), (0, u "java/util/ImmutableCollections"), (0, u "EMPTY_LIST"), (0, u "Ljava/util/ImmutableCollections$ListN;"), (0, .class_ 97), (0, u "java/util/ImmutableCollections$List12"), (0, .methodref 96 99), (0, .nameAndType 48 31), (0, .methodref 96 101), (0, .nameAndType 48 102), (0, u "(Ljava/lang/Object;Ljava/lang/Object;)V"), (0, .class_ 104), (0, u "java/lang/Object"), (3, u "([Ljava/lang/Object;)Ljava/util/List;"), (0, .methodref 91 110), (0, .nameAndType 111 108), (0, u "listFromArray"), (0, .methodref 91 113), (0, .nameAndType 114 115), (0, u "listCopy"), (0, u "(Ljava/util/Collection;)Ljava/util/List;"), (3, u "()Ljava/util/List;"), (0, .class_ 121), (0, u "java/util/SequencedCollection"), (1, u "iterator"), (0, u "()Ljava/util/Iterator;"), (109, u "copyOf")] 16

def k8m0 : Method := { name := "size", desc := "()I", sig := { parameters := [], returnType := some .int }, accessFlags := 1025, code := none }
def k8m1 : Method := { name := "iterator", desc := "()Ljava/util/Iterator;", sig := { parameters := [], returnType := some (.object "java/util/Iterator") }, accessFlags := 1025, code := none }
def k8m2 : Method := { name := "get", desc := "(I)Ljava/lang/Object;", sig := { parameters := [.int], returnType := some (.object "java/lang/Object") }, accessFlags := 1025, code := none }
def k8c3 : Code := { maxStack := 1, maxLocals := 0, code := jdk_40_method_36_code, exceptionTable := #[], attributes := #[] }
def k8m3 : Method := { name := "of", desc := "()Ljava/util/List;", sig := { parameters := [], returnType := some (.object "java/util/List") }, accessFlags := 9, code := some k8c3 }
def k8c4 : Code := { maxStack := 5, maxLocals := 2, code := jdk_40_method_47_code, exceptionTable := #[], attributes := #[] }
def k8m4 : Method := { name := "of", desc := "([Ljava/lang/Object;)Ljava/util/List;", sig := { parameters := [(.array (.object "java/lang/Object"))], returnType := some (.object "java/util/List") }, accessFlags := 137, code := some k8c4 }
def k8c5 : Code := { maxStack := 1, maxLocals := 1, code := jdk_40_method_48_code, exceptionTable := #[], attributes := #[] }
def k8m5 : Method := { name := "copyOf", desc := "(Ljava/util/Collection;)Ljava/util/List;", sig := { parameters := [(.object "java/util/Collection")], returnType := some (.object "java/util/List") }, accessFlags := 9, code := some k8c5 }
/-- java/util/List -/
def k8 : Class := { plain "java/util/List" (some 0) with
  accessFlags := 1537
  interfaces := #[7]
  cf := some (fileOf pool8 8 #[] #[{ accessFlags := 1025, nameIndex := 79, descriptorIndex := 80, attributes := #[] }, { accessFlags := 1025, nameIndex := 123, descriptorIndex := 124, attributes := #[] }, { accessFlags := 1025, nameIndex := 75, descriptorIndex := 76, attributes := #[] }, { accessFlags := 9, nameIndex := 88, descriptorIndex := 119, attributes := #[] }, { accessFlags := 137, nameIndex := 88, descriptorIndex := 108, attributes := #[] }, { accessFlags := 9, nameIndex := 234, descriptorIndex := 115, attributes := #[] }] 1537 103 #[120] #[])
  fields := #[]
  methods := #[k8m0, k8m1, k8m2, k8m3, k8m4, k8m5]
  instanceTypes := #[]
  staticTypes := #[]
  resolved := Array.replicate 251 none
  statics := none }

def pool9 : Array CpInfo := pool [(1, .methodref 2 3), (0, .class_ 4), (0, .nameAndType 5 6), (0, u "java/util/AbstractCollection"), (0, u "<init>"), (0, u "()V"), (0, .fieldref 8 9), (0, .class_ 10), (0, .nameAndType 11 12), (0, u "java/util/AbstractList"), (0, u "modCount"), (0, u "I"), (64, .class_ 78), (0, u "java/util/AbstractList$Itr"), (3, .class_ 83), (0, u "java/util/AbstractList$ListItr"), (9, .class_ 94), (0, u "java/util/AbstractList$RandomAccessSubList"), (3, .class_ 99), (0, u "java/util/AbstractList$SubList"), (33, .class_ 134), (0, u "java/util/List"), (73, .class_ 209), (0, u "java/util/AbstractList$SubList$1"), (0, .class_ 211), (0, u "java/util/AbstractList$RandomAccessSpliterator")] 6

def k9c0 : Code := { maxStack := 2, maxLocals := 1, code := jdk_39_method_1_code, exceptionTable := #[], attributes := #[] }
def k9m0 : Method := { name := "<init>", desc := "()V", sig := { parameters := [], returnType := none }, accessFlags := 4, code := some k9c0 }
/-- java/util/AbstractList -/
def k9 : Class := { plain "java/util/AbstractList" (some 6) with
  accessFlags := 1057
  interfaces := #[8]
  cf := some (fileOf pool9 8 #[.nestMembers #[93, 98, 208, 210, 82, 77]] #[{ accessFlags := 4, nameIndex := 5, descriptorIndex := 6, attributes := #[] }] 1057 2 #[133] #[{ accessFlags := 132, nameIndex := 11, descriptorIndex := 12, attributes := #[] }])
  fields := #[{ name := "modCount", type := .int, accessFlags := 132, slot := 0, constantValue := 0 }]
  methods := #[k9m0]
  instanceTypes := #[.int]
  staticTypes := #[]
  resolved := Array.replicate 218 none
  statics := none }

def pool10 : Array CpInfo := pool [(1, .class_ 2), (0, u "java/util/RandomAccess"), (0, .class_ 4), (0, u "java/lang/Object")] 2

/-- java/util/RandomAccess -/
def k10 : Class := { plain "java/util/RandomAccess" (some 0) with
  accessFlags := 1537
  interfaces := #[]
  cf := some (fileOf pool10 1 #[] #[] 1537 3 #[] #[])
  fields := #[]
  methods := #[]
  instanceTypes := #[]
  staticTypes := #[]
  resolved := Array.replicate 7 none
  statics := none }

def pool11 : Array CpInfo := pool [(1, .class_ 2), (0, u "java/lang/Cloneable"), (0, .class_ 4), (0, u "java/lang/Object")] 2

/-- java/lang/Cloneable -/
def k11 : Class := { plain "java/lang/Cloneable" (some 0) with
  accessFlags := 1537
  interfaces := #[]
  cf := some (fileOf pool11 1 #[] #[] 1537 3 #[] #[])
  fields := #[]
  methods := #[]
  instanceTypes := #[]
  staticTypes := #[]
  resolved := Array.replicate 7 none
  statics := none }

def pool12 : Array CpInfo := pool [(1, .class_ 2), (0, u "java/io/Serializable"), (0, .class_ 4), (0, u "java/lang/Object")] 2

/-- java/io/Serializable -/
def k12 : Class := { plain "java/io/Serializable" (some 0) with
  accessFlags := 1537
  interfaces := #[]
  cf := some (fileOf pool12 1 #[] #[] 1537 3 #[] #[])
  fields := #[]
  methods := #[]
  instanceTypes := #[]
  staticTypes := #[]
  resolved := Array.replicate 7 none
  statics := none }

def pool13 : Array CpInfo := pool [(1, .methodref 2 3), (0, .class_ 4), (0, .nameAndType 5 6), (0, u "java/util/AbstractList"), (0, u "<init>"), (0, u "()V"), (0, .class_ 8), (0, u "java/lang/Object"), (0, .fieldref 10 11), (0, .class_ 12), (0, .nameAndType 13 14), (0, u "java/util/ArrayList"), (0, u "elementData"), (0, u "[Ljava/lang/Object;"), (2, u "EMPTY_ELEMENTDATA"), (21, .fieldref 10 40), (0, .nameAndType 41 14), (0, u "DEFAULTCAPACITY_EMPTY_ELEMENTDATA"), (4, u "toArray"), (0, u "()[Ljava/lang/Object;"), (0, .fieldref 10 49), (0, .nameAndType 50 51), (0, u "size"), (0, u "I"), (6, .class_ 60), (1, u "java/util/Arrays"), (0, u "copyOf"), (1, .fieldref 10 64), (0, .nameAndType 65 51), (0, u "modCount"), (0, .methodref 58 67), (0, .nameAndType 61 68), (0, u "([Ljava/lang/Object;I)[Ljava/lang/Object;"), (0, .methodref 10 70), (0, .nameAndType 71 72), (0, u "grow"), (0, u "(I)[Ljava/lang/Object;"), (6, .methodref 80 81), (0, .class_ 82), (0, .nameAndType 83 84), (0, u "java/lang/Math"), (0, u "max"), (0, u "(II)I"), (11, u "(Ljava/lang/Object;)Z"), (32, .methodref 10 130), (0, .nameAndType 71 47), (0, .methodref 10 132), (0, .nameAndType 133 134), (0, u "add"), (0, u "(Ljava/lang/Object;[Ljava/lang/Object;I)V"), (13, .class_ 149), (0, u "java/util/List"), (23, u "()Z"), (88, .class_ 263), (0, u "java/util/ArrayList$ListItr"), (3, .class_ 268), (0, u "java/util/ArrayList$Itr"), (7, .class_ 277), (0, u "java/util/ArrayList$SubList"), (12, .class_ 291), (0, u "java/util/ArrayList$ArrayListSpliterator"), (37, .class_ 330), (0, u "java/util/RandomAccess"), (0, .class_ 332), (0, u "java/lang/Cloneable"), (0, .class_ 334), (0, u "java/io/Serializable"), (0, u "serialVersionUID"), (0, u "J"), (3, u "DEFAULT_CAPACITY"), (22, u "isEmpty"), (136, .class_ 501), (0, u "java/util/ArrayList$SubList$2"), (0, .class_ 503), (0, u "java/util/ArrayList$SubList$1")] 5

def k13c0 : Code := { maxStack := 2, maxLocals := 1, code := jdk_38_method_2_code, exceptionTable := #[], attributes := #[] }
def k13m0 : Method := { name := "<init>", desc := "()V", sig := { parameters := [], returnType := none }, accessFlags := 1, code := some k13c0 }
def k13c1 : Code := { maxStack := 4, maxLocals := 4, code := jdk_38_method_6_code, exceptionTable := #[], attributes := #[] }
def k13m1 : Method := { name := "grow", desc := "(I)[Ljava/lang/Object;", sig := { parameters := [.int], returnType := some (.array (.object "java/lang/Object")) }, accessFlags := 2, code := some k13c1 }
def k13c2 : Code := { maxStack := 3, maxLocals := 1, code := jdk_38_method_7_code, exceptionTable := #[], attributes := #[] }
def k13m2 : Method := { name := "grow", desc := "()[Ljava/lang/Object;", sig := { parameters := [], returnType := some (.array (.object "java/lang/Object")) }, accessFlags := 2, code := some k13c2 }
def k13c3 : Code := { maxStack := 1, maxLocals := 1, code := jdk_38_method_9_code, exceptionTable := #[], attributes := #[] }
def k13m3 : Method := { name := "isEmpty", desc := "()Z", sig := { parameters := [], returnType := some .boolean }, accessFlags := 1, code := some k13c3 }
def k13c4 : Code := { maxStack := 2, maxLocals := 1, code := jdk_38_method_16_code, exceptionTable := #[], attributes := #[] }
def k13m4 : Method := { name := "toArray", desc := "()[Ljava/lang/Object;", sig := { parameters := [], returnType := some (.array (.object "java/lang/Object")) }, accessFlags := 1, code := some k13c4 }
def k13c5 : Code := { maxStack := 3, maxLocals := 4, code := jdk_38_method_24_code, exceptionTable := #[], attributes := #[] }
def k13m5 : Method := { name := "add", desc := "(Ljava/lang/Object;[Ljava/lang/Object;I)V", sig := { parameters := [(.object "java/lang/Object"), (.array (.object "java/lang/Object")), .int], returnType := none }, accessFlags := 2, code := some k13c5 }
def k13c6 : Code := { maxStack := 4, maxLocals := 2, code := jdk_38_method_25_code, exceptionTable := #[], attributes := #[] }
def k13m6 : Method := { name := "add", desc := "(Ljava/lang/Object;)Z", sig := { parameters := [(.object "java/lang/Object")], returnType := some .boolean }, accessFlags := 1, code := some k13c6 }
/-- java/util/ArrayList -/
def k13 : Class := { plain "java/util/ArrayList" (some 9) with
  accessFlags := 33
  interfaces := #[8, 10, 11, 12]
  cf := some (fileOf pool13 10 #[.nestMembers #[290, 276, 500, 502, 262, 267]] #[{ accessFlags := 1, nameIndex := 5, descriptorIndex := 6, attributes := #[] }, { accessFlags := 2, nameIndex := 71, descriptorIndex := 72, attributes := #[] }, { accessFlags := 2, nameIndex := 71, descriptorIndex := 47, attributes := #[] }, { accessFlags := 1, nameIndex := 363, descriptorIndex := 173, attributes := #[] }, { accessFlags := 1, nameIndex := 46, descriptorIndex := 47, attributes := #[] }, { accessFlags := 2, nameIndex := 133, descriptorIndex := 134, attributes := #[] }, { accessFlags := 1, nameIndex := 133, descriptorIndex := 96, attributes := #[] }] 33 2 #[148, 329, 331, 333] #[{ accessFlags := 26, nameIndex := 335, descriptorIndex := 336, attributes := #[] }, { accessFlags := 26, nameIndex := 340, descriptorIndex := 51, attributes := #[] }, { accessFlags := 26, nameIndex := 17, descriptorIndex := 14, attributes := #[] }, { accessFlags := 26, nameIndex := 41, descriptorIndex := 14, attributes := #[] }, { accessFlags := 128, nameIndex := 13, descriptorIndex := 14, attributes := #[] }, { accessFlags := 2, nameIndex := 50, descriptorIndex := 51, attributes := #[] }])
  fields := #[{ name := "serialVersionUID", type := .long, accessFlags := 26, slot := 0, constantValue := 0 }, { name := "DEFAULT_CAPACITY", type := .int, accessFlags := 26, slot := 1, constantValue := 0 }, { name := "EMPTY_ELEMENTDATA", type := (.array (.object "java/lang/Object")), accessFlags := 26, slot := 2, constantValue := 0 }, { name := "DEFAULTCAPACITY_EMPTY_ELEMENTDATA", type := (.array (.object "java/lang/Object")), accessFlags := 26, slot := 3, constantValue := 0 }, { name := "elementData", type := (.array (.object "java/lang/Object")), accessFlags := 128, slot := 1, constantValue := 0 }, { name := "size", type := .int, accessFlags := 2, slot := 2, constantValue := 0 }]
  methods := #[k13m0, k13m1, k13m2, k13m3, k13m4, k13m5, k13m6]
  instanceTypes := #[.int, (.array (.object "java/lang/Object")), .int]
  staticTypes := #[.long, .int, (.array (.object "java/lang/Object")), (.array (.object "java/lang/Object"))]
  resolved := Array.replicate 509 none
  statics := some 1 }

def pool14 : Array CpInfo := pool [(2, .class_ 4), (1, u "java/lang/Object"), (0, u "<init>"), (0, u "()V"), (3, .class_ 11), (0, u "java/util/ImmutableCollections$List12"), (0, .class_ 13), (0, u "java/util/ImmutableCollections$ListN"), (3, u "Z"), (0, .class_ 19), (0, u "java/util/List"), (0, .interfaceMethodref 21 22), (0, .class_ 23), (0, .nameAndType 24 25), (0, u "java/util/Collection"), (0, u "isEmpty"), (0, u "()Z"), (0, .interfaceMethodref 18 27), (0, .nameAndType 28 29), (0, u "of"), (0, u "()Ljava/util/List;"), (0, .interfaceMethodref 21 31), (0, .nameAndType 32 33), (0, u "toArray"), (0, u "()[Ljava/lang/Object;"), (0, .interfaceMethodref 18 35), (0, .nameAndType 28 36), (0, u "([Ljava/lang/Object;)Ljava/util/List;"), (0, .methodref 38 39), (0, .class_ 40), (0, .nameAndType 41 42), (0, u "java/util/Objects"), (0, u "requireNonNull"), (0, u "(Ljava/lang/Object;)Ljava/lang/Object;"), (0, .methodref 12 44), (0, .nameAndType 5 45), (0, u "([Ljava/lang/Object;Z)V"), (1, .class_ 49), (1, u "java/util/ImmutableCollections"), (0, u "$assertionsDisabled"), (5, u "[Ljava/lang/Object;"), (5, u "EMPTY_LIST"), (0, u "Ljava/util/ImmutableCollections$ListN;"), (8, u "EMPTY_LIST_NULLS"), (22, u "SALT32L"), (0, u "J"), (2, u "REVERSE"), (6, u "archivedObjects"), (2, u "EMPTY"), (0, u "Ljava/lang/Object;"), (0, .class_ 112), (0, u "java/util/ImmutableCollections$SetN"), (5, u "EMPTY_SET"), (0, u "Ljava/util/ImmutableCollections$SetN;"), (0, .class_ 121), (0, u "java/util/ImmutableCollections$MapN"), (3, u "EMPTY_MAP"), (0, u "Ljava/util/ImmutableCollections$MapN;"), (4, u "EXPAND_FACTOR"), (0, u "I"), (9, u "listCopy"), (0, u "(Ljava/util/Collection;)Ljava/util/List;"), (7, u "listFromArray"), (17, .class_ 170), (0, u "java/util/ImmutableCollections$MapN$MapNIterator"), (0, .class_ 172), (0, u "java/util/ImmutableCollections$MapN$1"), (0, .class_ 174), (0, u "java/util/ImmutableCollections$Map1"), (0, .class_ 176), (0, u "java/util/ImmutableCollections$AbstractImmutableMap"), (0, .class_ 178), (0, u "java/util/ImmutableCollections$SetN$SetNIterator"), (0, .class_ 180), (0, u "java/util/ImmutableCollections$Set12"), (0, .class_ 182), (0, u "java/util/ImmutableCollections$Set12$1"), (0, .class_ 184), (0, u "java/util/ImmutableCollections$AbstractImmutableSet"), (0, .class_ 186), (0, u "java/util/ImmutableCollections$SubList"), (0, .class_ 188), (0, u "java/util/ImmutableCollections$ListItr"), (0, .class_ 190), (0, u "java/util/ImmutableCollections$AbstractImmutableList"), (0, .class_ 192), (0, u "java/util/ImmutableCollections$AbstractImmutableCollection"), (0, .class_ 194), (0, u "java/util/ImmutableCollections$Access"), (0, .class_ 196), (0, u "java/util/ImmutableCollections$Access$1")] 16

def k14m0 : Method := { name := "<init>", desc := "()V", sig := { parameters := [], returnType := none }, accessFlags := 2, code := none }
def k14c1 : Code := { maxStack := 1, maxLocals := 2, code := jdk_56_method_3_code, exceptionTable := #[], attributes := #[] }
def k14m1 : Method := { name := "listCopy", desc := "(Ljava/util/Collection;)Ljava/util/List;", sig := { parameters := [(.object "java/util/Collection")], returnType := some (.object "java/util/List") }, accessFlags := 8, code := some k14c1 }
def k14c2 : Code := { maxStack := 4, maxLocals := 3, code := jdk_56_method_4_code, exceptionTable := #[], attributes := #[] }
def k14m2 : Method := { name := "listFromArray", desc := "([Ljava/lang/Object;)Ljava/util/List;", sig := { parameters := [(.array (.object "java/lang/Object"))], returnType := some (.object "java/util/List") }, accessFlags := 136, code := some k14c2 }
/-- java/util/ImmutableCollections -/
def k14 : Class := { plain "java/util/ImmutableCollections" (some 0) with
  accessFlags := 32
  interfaces := #[]
  cf := some (fileOf pool14 47 #[.nestMembers #[120, 169, 171, 173, 175, 111, 177, 179, 181, 183, 12, 10, 185, 187, 189, 191, 193, 195]] #[{ accessFlags := 2, nameIndex := 5, descriptorIndex := 6, attributes := #[] }, { accessFlags := 8, nameIndex := 142, descriptorIndex := 143, attributes := #[] }, { accessFlags := 136, nameIndex := 151, descriptorIndex := 36, attributes := #[] }] 32 2 #[] #[{ accessFlags := 26, nameIndex := 95, descriptorIndex := 96, attributes := #[] }, { accessFlags := 26, nameIndex := 99, descriptorIndex := 17, attributes := #[] }, { accessFlags := 10, nameIndex := 106, descriptorIndex := 56, attributes := #[] }, { accessFlags := 26, nameIndex := 109, descriptorIndex := 110, attributes := #[] }, { accessFlags := 24, nameIndex := 62, descriptorIndex := 63, attributes := #[] }, { accessFlags := 24, nameIndex := 72, descriptorIndex := 63, attributes := #[] }, { accessFlags := 24, nameIndex := 118, descriptorIndex := 119, attributes := #[] }, { accessFlags := 24, nameIndex := 125, descriptorIndex := 126, attributes := #[] }, { accessFlags := 24, nameIndex := 131, descriptorIndex := 132, attributes := #[] }, { accessFlags := 4120, nameIndex := 50, descriptorIndex := 17, attributes := #[] }])
  fields := #[{ name := "SALT32L", type := .long, accessFlags := 26, slot := 0, constantValue := 0 }, { name := "REVERSE", type := .boolean, accessFlags := 26, slot := 1, constantValue := 0 }, { name := "archivedObjects", type := (.array (.object "java/lang/Object")), accessFlags := 10, slot := 2, constantValue := 0 }, { name := "EMPTY", type := (.object "java/lang/Object"), accessFlags := 26, slot := 3, constantValue := 0 }, { name := "EMPTY_LIST", type := (.object "java/util/ImmutableCollections$ListN"), accessFlags := 24, slot := 4, constantValue := 0 }, { name := "EMPTY_LIST_NULLS", type := (.object "java/util/ImmutableCollections$ListN"), accessFlags := 24, slot := 5, constantValue := 0 }, { name := "EMPTY_SET", type := (.object "java/util/ImmutableCollections$SetN"), accessFlags := 24, slot := 6, constantValue := 0 }, { name := "EMPTY_MAP", type := (.object "java/util/ImmutableCollections$MapN"), accessFlags := 24, slot := 7, constantValue := 0 }, { name := "EXPAND_FACTOR", type := .int, accessFlags := 24, slot := 8, constantValue := 0 }, { name := "$assertionsDisabled", type := .boolean, accessFlags := 4120, slot := 9, constantValue := 0 }]
  methods := #[k14m0, k14m1, k14m2]
  instanceTypes := #[]
  staticTypes := #[.long, .boolean, (.array (.object "java/lang/Object")), (.object "java/lang/Object"), (.object "java/util/ImmutableCollections$ListN"), (.object "java/util/ImmutableCollections$ListN"), (.object "java/util/ImmutableCollections$SetN"), (.object "java/util/ImmutableCollections$MapN"), .int, .boolean]
  resolved := Array.replicate 213 none
  statics := some 2 }

def pool15 : Array CpInfo := pool [(1, .methodref 2 3), (0, .class_ 4), (0, .nameAndType 5 6), (0, u "java/util/AbstractCollection"), (0, u "<init>"), (0, u "()V"), (1, .class_ 10), (1, u "java/util/ImmutableCollections"), (2, .class_ 14), (0, u "java/util/ImmutableCollections$AbstractImmutableCollection")] 41

def k15c0 : Code := { maxStack := 1, maxLocals := 1, code := jdk_47_method_1_code, exceptionTable := #[], attributes := #[] }
def k15m0 : Method := { name := "<init>", desc := "()V", sig := { parameters := [], returnType := none }, accessFlags := 0, code := some k15c0 }
/-- java/util/ImmutableCollections$AbstractImmutableCollection -/
def k15 : Class := { plain "java/util/ImmutableCollections$AbstractImmutableCollection" (some 6) with
  accessFlags := 1056
  interfaces := #[]
  cf := some (fileOf pool15 13 #[.nestHost 8] #[{ accessFlags := 0, nameIndex := 5, descriptorIndex := 6, attributes := #[] }] 1056 2 #[] #[])
  fields := #[]
  methods := #[k15m0]
  instanceTypes := #[]
  staticTypes := #[]
  resolved := Array.replicate 56 none
  statics := none }

def pool16 : Array CpInfo := pool [(1, .methodref 2 3), (0, .class_ 4), (0, .nameAndType 5 6), (0, u "java/util/ImmutableCollections$AbstractImmutableCollection"), (0, u "<init>"), (0, u "()V"), (1, .class_ 10), (1, u "java/util/ImmutableCollections"), (2, .methodref 14 15), (0, .class_ 16), (0, .nameAndType 17 18), (0, u "java/util/ImmutableCollections$AbstractImmutableList"), (0, u "size"), (0, u "()I"), (42, .class_ 62), (0, u "java/util/ImmutableCollections$ListItr"), (0, .methodref 61 64), (0, .nameAndType 5 65), (0, u "(Ljava/util/List;I)V"), (11, .class_ 78), (0, u "java/util/List"), (2, u "iterator"), (0, u "()Ljava/util/Iterator;"), (41, .class_ 125), (0, u "java/util/RandomAccess")] 70

def k16c0 : Code := { maxStack := 1, maxLocals := 1, code := jdk_46_method_1_code, exceptionTable := #[], attributes := #[] }
def k16m0 : Method := { name := "<init>", desc := "()V", sig := { parameters := [], returnType := none }, accessFlags := 0, code := some k16c0 }
def k16c1 : Code := { maxStack := 4, maxLocals := 1, code := jdk_46_method_10_code, exceptionTable := #[], attributes := #[] }
def k16m1 : Method := { name := "iterator", desc := "()Ljava/util/Iterator;", sig := { parameters := [], returnType := some (.object "java/util/Iterator") }, accessFlags := 1, code := some k16c1 }
/-- java/util/ImmutableCollections$AbstractImmutableList -/
def k16 : Class := { plain "java/util/ImmutableCollections$AbstractImmutableList" (some 15) with
  accessFlags := 1056
  interfaces := #[8, 10]
  cf := some (fileOf pool16 14 #[.nestHost 8] #[{ accessFlags := 0, nameIndex := 5, descriptorIndex := 6, attributes := #[] }, { accessFlags := 1, nameIndex := 81, descriptorIndex := 82, attributes := #[] }] 1056 2 #[77, 124] #[])
  fields := #[]
  methods := #[k16m0, k16m1]
  instanceTypes := #[]
  staticTypes := #[]
  resolved := Array.replicate 196 none
  statics := none }

def pool17 : Array CpInfo := pool [(1, .methodref 2 3), (0, .class_ 4), (0, .nameAndType 5 6), (0, u "java/util/ImmutableCollections$AbstractImmutableList"), (0, u "<init>"), (0, u "()V"), (0, .methodref 8 9), (0, .class_ 10), (0, .nameAndType 11 12), (0, u "java/util/Objects"), (0, u "requireNonNull"), (0, u "(Ljava/lang/Object;)Ljava/lang/Object;"), (0, .fieldref 14 15), (0, .class_ 16), (0, .nameAndType 17 18), (0, u "java/util/ImmutableCollections$List12"), (0, u "e0"), (0, u "Ljava/lang/Object;"), (0, .fieldref 20 21), (0, .class_ 22), (0, .nameAndType 23 18), (0, u "java/util/ImmutableCollections"), (0, u "EMPTY"), (0, .fieldref 14 25), (0, .nameAndType 26 18), (0, u "e1"), (24, u "size"), (0, u "()I"), (17, .class_ 71), (0, u "java/io/Serializable"), (4, u "(Ljava/lang/Object;)V"), (8, u "(Ljava/lang/Object;Ljava/lang/Object;)V"), (4, u "get"), (0, u "(I)Ljava/lang/Object;")] 33

def k17c0 : Code := { maxStack := 2, maxLocals := 2, code := jdk_44_method_1_code, exceptionTable := #[], attributes := #[] }
def k17m0 : Method := { name := "<init>", desc := "(Ljava/lang/Object;)V", sig := { parameters := [(.object "java/lang/Object")], returnType := none }, accessFlags := 0, code := some k17c0 }
def k17c1 : Code := { maxStack := 2, maxLocals := 3, code := jdk_44_method_2_code, exceptionTable := #[], attributes := #[] }
def k17m1 : Method := { name := "<init>", desc := "(Ljava/lang/Object;Ljava/lang/Object;)V", sig := { parameters := [(.object "java/lang/Object"), (.object "java/lang/Object")], returnType := none }, accessFlags := 0, code := some k17c1 }
def k17c2 : Code := { maxStack := 2, maxLocals := 1, code := jdk_44_method_3_code, exceptionTable := #[], attributes := #[] }
def k17m2 : Method := { name := "size", desc := "()I", sig := { parameters := [], returnType := some .int }, accessFlags := 1, code := some k17c2 }
def k17c3 : Code := { maxStack := 2, maxLocals := 2, code := jdk_44_method_5_code, exceptionTable := #[], attributes := #[] }
def k17m3 : Method := { name := "get", desc := "(I)Ljava/lang/Object;", sig := { parameters := [.int], returnType := some (.object "java/lang/Object") }, accessFlags := 1, code := some k17c3 }
/-- java/util/ImmutableCollections$List12 -/
def k17 : Class := { plain "java/util/ImmutableCollections$List12" (some 16) with
  accessFlags := 48
  interfaces := #[12]
  cf := some (fileOf pool17 14 #[.nestHost 20] #[{ accessFlags := 0, nameIndex := 5, descriptorIndex := 76, attributes := #[] }, { accessFlags := 0, nameIndex := 5, descriptorIndex := 85, attributes := #[] }, { accessFlags := 1, nameIndex := 51, descriptorIndex := 52, attributes := #[] }, { accessFlags := 1, nameIndex := 90, descriptorIndex := 91, attributes := #[] }] 48 2 #[70] #[{ accessFlags := 18, nameIndex := 17, descriptorIndex := 18, attributes := #[] }, { accessFlags := 18, nameIndex := 26, descriptorIndex := 18, attributes := #[] }])
  fields := #[{ name := "e0", type := (.object "java/lang/Object"), accessFlags := 18, slot := 0, constantValue := 0 }, { name := "e1", type := (.object "java/lang/Object"), accessFlags := 18, slot := 1, constantValue := 0 }]
  methods := #[k17m0, k17m1, k17m2, k17m3]
  instanceTypes := #[(.object "java/lang/Object"), (.object "java/lang/Object")]
  staticTypes := #[]
  resolved := Array.replicate 125 none
  statics := none }

def pool18 : Array CpInfo := pool [(1, .methodref 2 3), (0, .class_ 4), (0, .nameAndType 5 6), (0, u "java/util/ImmutableCollections$AbstractImmutableList"), (0, u "<init>"), (0, u "()V"), (0, .fieldref 8 9), (0, .class_ 10), (0, .nameAndType 11 12), (0, u "java/util/ImmutableCollections$ListN"), (0, u "elements"), (0, u "[Ljava/lang/Object;"), (0, .fieldref 8 14), (0, .nameAndType 15 16), (0, u "allowNulls"), (0, u "Z"), (42, .class_ 60), (0, u "java/io/Serializable"), (4, u "([Ljava/lang/Object;Z)V"), (11, u "size"), (0, u "()I"), (0, u "get"), (0, u "(I)Ljava/lang/Object;"), (33, .class_ 115), (0, u "java/util/ImmutableCollections")] 3

def k18c0 : Code := { maxStack := 2, maxLocals := 3, code := jdk_45_method_1_code, exceptionTable := #[], attributes := #[] }
def k18m0 : Method := { name := "<init>", desc := "([Ljava/lang/Object;Z)V", sig := { parameters := [(.array (.object "java/lang/Object")), .boolean], returnType := none }, accessFlags := 2, code := some k18c0 }
def k18c1 : Code := { maxStack := 1, maxLocals := 1, code := jdk_45_method_3_code, exceptionTable := #[], attributes := #[] }
def k18m1 : Method := { name := "size", desc := "()I", sig := { parameters := [], returnType := some .int }, accessFlags := 1, code := some k18c1 }
def k18c2 : Code := { maxStack := 2, maxLocals := 2, code := jdk_45_method_4_code, exceptionTable := #[], attributes := #[] }
def k18m2 : Method := { name := "get", desc := "(I)Ljava/lang/Object;", sig := { parameters := [.int], returnType := some (.object "java/lang/Object") }, accessFlags := 1, code := some k18c2 }
/-- java/util/ImmutableCollections$ListN -/
def k18 : Class := { plain "java/util/ImmutableCollections$ListN" (some 16) with
  accessFlags := 48
  interfaces := #[12]
  cf := some (fileOf pool18 8 #[.nestHost 114] #[{ accessFlags := 2, nameIndex := 5, descriptorIndex := 65, attributes := #[] }, { accessFlags := 1, nameIndex := 77, descriptorIndex := 78, attributes := #[] }, { accessFlags := 1, nameIndex := 79, descriptorIndex := 80, attributes := #[] }] 48 2 #[59] #[{ accessFlags := 18, nameIndex := 11, descriptorIndex := 12, attributes := #[] }, { accessFlags := 18, nameIndex := 15, descriptorIndex := 16, attributes := #[] }])
  fields := #[{ name := "elements", type := (.array (.object "java/lang/Object")), accessFlags := 18, slot := 0, constantValue := 0 }, { name := "allowNulls", type := .boolean, accessFlags := 18, slot := 1, constantValue := 0 }]
  methods := #[k18m0, k18m1, k18m2]
  instanceTypes := #[(.array (.object "java/lang/Object")), .boolean]
  staticTypes := #[]
  resolved := Array.replicate 119 none
  statics := none }

def pool19 : Array CpInfo := pool [(16, .class_ 18), (1, u "java/util/Iterator"), (0, u "hasNext"), (0, u "()Z"), (2, u "next"), (0, u "()Ljava/lang/Object;"), (6, .class_ 32), (0, u "java/lang/Object")] 20

def k19m0 : Method := { name := "hasNext", desc := "()Z", sig := { parameters := [], returnType := some .boolean }, accessFlags := 1025, code := none }
def k19m1 : Method := { name := "next", desc := "()Ljava/lang/Object;", sig := { parameters := [], returnType := some (.object "java/lang/Object") }, accessFlags := 1025, code := none }
/-- java/util/Iterator -/
def k19 : Class := { plain "java/util/Iterator" (some 0) with
  accessFlags := 1537
  interfaces := #[]
  cf := some (fileOf pool19 16 #[] #[{ accessFlags := 1025, nameIndex := 19, descriptorIndex := 20, attributes := #[] }, { accessFlags := 1025, nameIndex := 23, descriptorIndex := 24, attributes := #[] }] 1537 31 #[] #[])
  fields := #[]
  methods := #[k19m0, k19m1]
  instanceTypes := #[]
  staticTypes := #[]
  resolved := Array.replicate 53 none
  statics := none }

def pool20 : Array CpInfo := pool [(1, .class_ 2), (0, u "java/util/ListIterator"), (0, .class_ 4), (0, u "java/lang/Object"), (0, .class_ 6), (0, u "java/util/Iterator")] 20

/-- java/util/ListIterator -/
def k20 : Class := { plain "java/util/ListIterator" (some 0) with
  accessFlags := 1537
  interfaces := #[19]
  cf := some (fileOf pool20 1 #[] #[] 1537 3 #[5] #[])
  fields := #[]
  methods := #[]
  instanceTypes := #[]
  staticTypes := #[]
  resolved := Array.replicate 27 none
  statics := none }

def pool21 : Array CpInfo := pool [(1, .methodref 2 3), (0, .class_ 4), (0, .nameAndType 5 6), (0, u "java/lang/Object"), (0, u "<init>"), (0, u "()V"), (0, .fieldref 8 9), (0, .class_ 10), (0, .nameAndType 11 12), (0, u "java/util/ImmutableCollections$ListItr"), (0, u "list"), (0, u "Ljava/util/List;"), (0, .fieldref 8 14), (0, .nameAndType 15 16), (0, u "size"), (0, u "I"), (0, .fieldref 8 18), (0, .nameAndType 19 16), (0, u "cursor"), (0, .fieldref 8 21), (0, .nameAndType 22 23), (0, u "isListIterator"), (0, u "Z"), (0, .interfaceMethodref 25 26), (0, .class_ 27), (0, .nameAndType 28 29), (0, u "java/util/List"), (0, u "get"), (0, u "(I)Ljava/lang/Object;"), (6, .class_ 38), (1, u "java/util/ImmutableCollections"), (2, .class_ 42), (0, u "java/util/ListIterator"), (4, u "(Ljava/util/List;I)V"), (11, u "hasNext"), (0, u "()Z"), (1, u "next"), (0, u "()Ljava/lang/Object;")] 22

def k21c0 : Code := { maxStack := 2, maxLocals := 3, code := jdk_53_method_1_code, exceptionTable := #[], attributes := #[] }
def k21m0 : Method := { name := "<init>", desc := "(Ljava/util/List;I)V", sig := { parameters := [(.object "java/util/List"), .int], returnType := none }, accessFlags := 0, code := some k21c0 }
def k21c1 : Code := { maxStack := 2, maxLocals := 1, code := jdk_53_method_3_code, exceptionTable := #[], attributes := #[] }
def k21m1 : Method := { name := "hasNext", desc := "()Z", sig := { parameters := [], returnType := some .boolean }, accessFlags := 1, code := some k21c1 }
def k21c2 : Code := { maxStack := 3, maxLocals := 3, code := jdk_53_method_4_code, exceptionTable := #[{ startPc := 0, endPc := 24, handlerPc := 25, catchType := 30 }], attributes := #[] }
def k21m2 : Method := { name := "next", desc := "()Ljava/lang/Object;", sig := { parameters := [], returnType := some (.object "java/lang/Object") }, accessFlags := 1, code := some k21c2 }
/-- java/util/ImmutableCollections$ListItr -/
def k21 : Class := { plain "java/util/ImmutableCollections$ListItr" (some 0) with
  accessFlags := 48
  interfaces := #[20]
  cf := some (fileOf pool21 8 #[.nestHost 36] #[{ accessFlags := 0, nameIndex := 5, descriptorIndex := 47, attributes := #[] }, { accessFlags := 1, nameIndex := 59, descriptorIndex := 60, attributes := #[] }, { accessFlags := 1, nameIndex := 62, descriptorIndex := 63, attributes := #[] }] 48 2 #[41] #[{ accessFlags := 18, nameIndex := 11, descriptorIndex := 12, attributes := #[] }, { accessFlags := 18, nameIndex := 15, descriptorIndex := 16, attributes := #[] }, { accessFlags := 18, nameIndex := 22, descriptorIndex := 23, attributes := #[] }, { accessFlags := 2, nameIndex := 19, descriptorIndex := 16, attributes := #[] }])
  fields := #[{ name := "list", type := (.object "java/util/List"), accessFlags := 18, slot := 0, constantValue := 0 }, { name := "size", type := .int, accessFlags := 18, slot := 1, constantValue := 0 }, { name := "isListIterator", type := .boolean, accessFlags := 18, slot := 2, constantValue := 0 }, { name := "cursor", type := .int, accessFlags := 2, slot := 3, constantValue := 0 }]
  methods := #[k21m0, k21m1, k21m2]
  instanceTypes := #[(.object "java/util/List"), .int, .boolean, .int]
  staticTypes := #[]
  resolved := Array.replicate 86 none
  statics := none }

def pool22 : Array CpInfo := pool [(1, .class_ 2), (0, u "java/time/temporal/TemporalAmount"), (0, .class_ 4), (0, u "java/lang/Object")] 11

/-- java/time/temporal/TemporalAmount -/
def k22 : Class := { plain "java/time/temporal/TemporalAmount" (some 0) with
  accessFlags := 1537
  interfaces := #[]
  cf := some (fileOf pool22 1 #[] #[] 1537 3 #[] #[])
  fields := #[]
  methods := #[]
  instanceTypes := #[]
  staticTypes := #[]
  resolved := Array.replicate 16 none
  statics := none }

def pool23 : Array CpInfo := pool [(1, .class_ 2), (0, u "java/lang/Comparable"), (0, .class_ 4), (0, u "java/lang/Object")] 7

/-- java/lang/Comparable -/
def k23 : Class := { plain "java/lang/Comparable" (some 0) with
  accessFlags := 1537
  interfaces := #[]
  cf := some (fileOf pool23 1 #[] #[] 1537 3 #[] #[])
  fields := #[]
  methods := #[]
  instanceTypes := #[]
  staticTypes := #[]
  resolved := Array.replicate 12 none
  statics := none }

def pool24 : Array CpInfo := pool [(11, .class_ 13), (1, u "java/time/Duration"), (20, u "ZERO"), (0, u "Ljava/time/Duration;"), (13, .class_ 51), (1, u "java/time/temporal/TemporalAmount"), (13, u "()Z"), (13, .class_ 81), (1, u "java/time/Duration$Lazy"), (35, u "seconds"), (101, .class_ 220), (0, u "java/lang/Object"), (0, .fieldref 11 222), (0, .nameAndType 117 223), (0, u "J"), (2, u "nanos"), (0, u "I"), (11, .class_ 241), (1, u "java/time/Duration$DurationUnits"), (27, .class_ 271), (1, u "java/time/Duration$1"), (91, u "BI_NANOS_PER_SECOND"), (0, u "Ljava/math/BigInteger;"), (21, u "isNegative"), (98, .class_ 486), (0, u "java/lang/Comparable"), (0, .class_ 488), (0, u "java/io/Serializable"), (0, u "serialVersionUID")] 166

def k24c0 : Code := { maxStack := 4, maxLocals := 1, code := jdk_2316_method_22_code, exceptionTable := #[], attributes := #[] }
def k24m0 : Method := { name := "isNegative", desc := "()Z", sig := { parameters := [], returnType := some .boolean }, accessFlags := 1, code := some k24c0 }
/-- java/time/Duration -/
def k24 : Class := { plain "java/time/Duration" (some 0) with
  accessFlags := 49
  interfaces := #[22, 23, 12]
  cf := some (fileOf pool24 11 #[.nestMembers #[269, 239, 79]] #[{ accessFlags := 1, nameIndex := 386, descriptorIndex := 65, attributes := #[] }] 49 219 #[49, 485, 487] #[{ accessFlags := 25, nameIndex := 34, descriptorIndex := 35, attributes := #[] }, { accessFlags := 26, nameIndex := 489, descriptorIndex := 223, attributes := #[] }, { accessFlags := 26, nameIndex := 363, descriptorIndex := 364, attributes := #[] }, { accessFlags := 18, nameIndex := 117, descriptorIndex := 223, attributes := #[] }, { accessFlags := 18, nameIndex := 226, descriptorIndex := 227, attributes := #[] }])
  fields := #[{ name := "ZERO", type := (.object "java/time/Duration"), accessFlags := 25, slot := 0, constantValue := 0 }, { name := "serialVersionUID", type := .long, accessFlags := 26, slot := 1, constantValue := 0 }, { name := "BI_NANOS_PER_SECOND", type := (.object "java/math/BigInteger"), accessFlags := 26, slot := 2, constantValue := 0 }, { name := "seconds", type := .long, accessFlags := 18, slot := 0, constantValue := 0 }, { name := "nanos", type := .int, accessFlags := 18, slot := 1, constantValue := 0 }]
  methods := #[k24m0]
  instanceTypes := #[.long, .int]
  staticTypes := #[(.object "java/time/Duration"), .long, (.object "java/math/BigInteger")]
  resolved := Array.replicate 656 none
  statics := none }

def pool25 : Array CpInfo := pool [(1, .class_ 2), (0, u "java/lang/Math"), (1, .class_ 6), (1, u "java/lang/Object"), (0, u "<init>"), (0, u "()V"), (89, .class_ 100), (1, u "java/lang/Math$RandomNumberGeneratorHolder"), (71, u "negativeZeroFloatBits"), (0, u "J"), (2, u "negativeZeroDoubleBits"), (21, u "max"), (2, u "min"), (43, u "$assertionsDisabled"), (0, u "Z"), (88, u "(II)I"), (2, u "twoToTheDoubleScaleDown"), (0, u "D"), (4, u "twoToTheDoubleScaleUp"), (9, u "E"), (3, u "PI"), (2, u "TAU"), (2, u "DEGREES_TO_RADIANS"), (0, u "RADIANS_TO_DEGREES")] 94

def k25m0 : Method := { name := "<init>", desc := "()V", sig := { parameters := [], returnType := none }, accessFlags := 2, code := none }
def k25c1 : Code := { maxStack := 2, maxLocals := 2, code := jdk_29_method_65_code, exceptionTable := #[], attributes := #[] }
def k25m1 : Method := { name := "max", desc := "(II)I", sig := { parameters := [.int, .int], returnType := some .int }, accessFlags := 9, code := some k25c1 }
def k25c2 : Code := { maxStack := 2, maxLocals := 2, code := jdk_29_method_69_code, exceptionTable := #[], attributes := #[] }
def k25m2 : Method := { name := "min", desc := "(II)I", sig := { parameters := [.int, .int], returnType := some .int }, accessFlags := 9, code := some k25c2 }
/-- java/lang/Math -/
def k25 : Class := { plain "java/lang/Math" (some 0) with
  accessFlags := 49
  interfaces := #[]
  cf := some (fileOf pool25 1 #[.nestMembers #[98]] #[{ accessFlags := 2, nameIndex := 7, descriptorIndex := 8, attributes := #[] }, { accessFlags := 9, nameIndex := 198, descriptorIndex := 335, attributes := #[] }, { accessFlags := 9, nameIndex := 201, descriptorIndex := 335, attributes := #[] }] 49 4 #[] #[{ accessFlags := 25, nameIndex := 354, descriptorIndex := 339, attributes := #[] }, { accessFlags := 25, nameIndex := 358, descriptorIndex := 339, attributes := #[] }, { accessFlags := 25, nameIndex := 361, descriptorIndex := 339, attributes := #[] }, { accessFlags := 26, nameIndex := 364, descriptorIndex := 339, attributes := #[] }, { accessFlags := 26, nameIndex := 365, descriptorIndex := 339, attributes := #[] }, { accessFlags := 26, nameIndex := 172, descriptorIndex := 173, attributes := #[] }, { accessFlags := 26, nameIndex := 176, descriptorIndex := 173, attributes := #[] }, { accessFlags := 8, nameIndex := 344, descriptorIndex := 339, attributes := #[] }, { accessFlags := 8, nameIndex := 338, descriptorIndex := 339, attributes := #[] }, { accessFlags := 4120, nameIndex := 245, descriptorIndex := 246, attributes := #[] }])
  fields := #[{ name := "E", type := .double, accessFlags := 25, slot := 0, constantValue := 0 }, { name := "PI", type := .double, accessFlags := 25, slot := 1, constantValue := 0 }, { name := "TAU", type := .double, accessFlags := 25, slot := 2, constantValue := 0 }, { name := "DEGREES_TO_RADIANS", type := .double, accessFlags := 26, slot := 3, constantValue := 0 }, { name := "RADIANS_TO_DEGREES", type := .double, accessFlags := 26, slot := 4, constantValue := 0 }, { name := "negativeZeroFloatBits", type := .long, accessFlags := 26, slot := 5, constantValue := 0 }, { name := "negativeZeroDoubleBits", type := .long, accessFlags := 26, slot := 6, constantValue := 0 }, { name := "twoToTheDoubleScaleUp", type := .double, accessFlags := 8, slot := 7, constantValue := 0 }, { name := "twoToTheDoubleScaleDown", type := .double, accessFlags := 8, slot := 8, constantValue := 0 }, { name := "$assertionsDisabled", type := .boolean, accessFlags := 4120, slot := 9, constantValue := 0 }]
  methods := #[k25m0, k25m1, k25m2]
  instanceTypes := #[]
  staticTypes := #[.double, .double, .double, .double, .double, .long, .long, .double, .double, .boolean]
  resolved := Array.replicate 460 none
  statics := none }

def pool26 : Array CpInfo := pool [(2, .class_ 4), (1, u "java/lang/Object"), (0, u "<init>"), (0, u "()V"), (7, .class_ 16), (1, u "java/util/Arrays"), (57, .class_ 76), (1, u "java/util/Arrays$NaturalOrder"), (9, .methodref 2 87), (0, .nameAndType 88 89), (0, u "getClass"), (0, u "()Ljava/lang/Class;"), (20, .class_ 111), (0, u "[Ljava/lang/Object;"), (1, .class_ 115), (1, u "java/util/Arrays$LegacyMergeSort"), (1, u "Z"), (32, .methodref 151 152), (0, .class_ 153), (0, .nameAndType 154 155), (0, u "java/lang/System"), (0, u "arraycopy"), (0, u "(Ljava/lang/Object;ILjava/lang/Object;II)V"), (144, .methodref 14 301), (0, .nameAndType 302 303), (0, u "copyOf"), (0, u "([Ljava/lang/Object;ILjava/lang/Class;)[Ljava/lang/Object;"), (0, .methodref 305 306), (0, .class_ 307), (0, .nameAndType 308 309), (0, u "java/lang/Math"), (0, u "min"), (0, u "(II)I"), (65, .class_ 376), (0, u "java/util/Arrays$ArrayList"), (68, u "$assertionsDisabled"), (269, u "MIN_ARRAY_SORT_GRAN"), (0, u "I"), (2, u "INSERTIONSORT_THRESHOLD"), (140, u "([Ljava/lang/Object;I)[Ljava/lang/Object;"), (114, .class_ 976), (0, u "java/util/Arrays$ArrayItr")] 52

def k26m0 : Method := { name := "<init>", desc := "()V", sig := { parameters := [], returnType := none }, accessFlags := 2, code := none }
def k26c1 : Code := { maxStack := 3, maxLocals := 2, code := jdk_65_method_119_code, exceptionTable := #[], attributes := #[] }
def k26m1 : Method := { name := "copyOf", desc := "([Ljava/lang/Object;I)[Ljava/lang/Object;", sig := { parameters := [(.array (.object "java/lang/Object")), .int], returnType := some (.array (.object "java/lang/Object")) }, accessFlags := 9, code := some k26c1 }
def k26c2 : Code := { maxStack := 6, maxLocals := 4, code := jdk_65_method_120_code, exceptionTable := #[], attributes := #[] }
def k26m2 : Method := { name := "copyOf", desc := "([Ljava/lang/Object;ILjava/lang/Class;)[Ljava/lang/Object;", sig := { parameters := [(.array (.object "java/lang/Object")), .int, (.object "java/lang/Class")], returnType := some (.array (.object "java/lang/Object")) }, accessFlags := 9, code := some k26c2 }
/-- java/util/Arrays -/
def k26 : Class := { plain "java/util/Arrays" (some 0) with
  accessFlags := 49
  interfaces := #[]
  cf := some (fileOf pool26 14 #[.nestMembers #[975, 375, 113, 74]] #[{ accessFlags := 2, nameIndex := 5, descriptorIndex := 6, attributes := #[] }, { accessFlags := 9, nameIndex := 302, descriptorIndex := 860, attributes := #[] }, { accessFlags := 9, nameIndex := 302, descriptorIndex := 303, attributes := #[] }] 49 2 #[] #[{ accessFlags := 26, nameIndex := 715, descriptorIndex := 716, attributes := #[] }, { accessFlags := 26, nameIndex := 719, descriptorIndex := 716, attributes := #[] }, { accessFlags := 4120, nameIndex := 445, descriptorIndex := 117, attributes := #[] }])
  fields := #[{ name := "MIN_ARRAY_SORT_GRAN", type := .int, accessFlags := 26, slot := 0, constantValue := 0 }, { name := "INSERTIONSORT_THRESHOLD", type := .int, accessFlags := 26, slot := 1, constantValue := 0 }, { name := "$assertionsDisabled", type := .boolean, accessFlags := 4120, slot := 2, constantValue := 0 }]
  methods := #[k26m0, k26m1, k26m2]
  instanceTypes := #[]
  staticTypes := #[.int, .int, .boolean]
  resolved := Array.replicate 1029 none
  statics := none }

def pool27 : Array CpInfo := pool [(2, .class_ 4), (1, u "java/lang/Object"), (0, u "<init>"), (0, u "()V"), (1, .class_ 10), (1, u "java/lang/System"), (0, u "allowSecurityManager"), (0, u "I"), (16, u "cons"), (0, u "Ljava/io/Console;"), (77, .class_ 110), (1, u "java/lang/System$CallersHolder"), (43, u "initialErrStream"), (0, u "Ljava/io/PrintStream;"), (19, u "security"), (0, u "Ljava/lang/SecurityManager;"), (31, .class_ 209), (0, u "java/lang/System$1"), (7, u "props"), (0, u "Ljava/util/Properties;"), (2, u "lineSeparator"), (0, u "Ljava/lang/String;"), (96, .class_ 321), (1, u "java/lang/System$LoggerFinder"), (5, .class_ 328), (0, u "java/lang/System$Logger"), (67, u "err"), (2, u "out"), (91, u "notSupportedJnuEncoding"), (15, u "in"), (17, u "initialIn"), (0, u "Ljava/io/InputStream;"), (35, u "bootLayer"), (0, u "Ljava/lang/ModuleLayer;"), (99, .class_ 664), (0, u "java/lang/System$2"), (9, u "NEVER"), (2, u "MAYBE"), (49, u "arraycopy"), (0, u "(Ljava/lang/Object;ILjava/lang/Object;II)V"), (72, .class_ 802), (0, u "java/lang/System$Logger$Level")] 31

def k27m0 : Method := { name := "<init>", desc := "()V", sig := { parameters := [], returnType := none }, accessFlags := 2, code := none }
def k27m1 : Method := { name := "arraycopy", desc := "(Ljava/lang/Object;ILjava/lang/Object;II)V", sig := { parameters := [(.object "java/lang/Object"), .int, (.object "java/lang/Object"), .int, .int], returnType := none }, accessFlags := 265, code := none }
/-- java/lang/System -/
def k27 : Class := { plain "java/lang/System" (some 0) with
  accessFlags := 49
  interfaces := #[]
  cf := some (fileOf pool27 8 #[.nestMembers #[319, 327, 801, 108, 663, 208]] #[{ accessFlags := 2, nameIndex := 5, descriptorIndex := 6, attributes := #[] }, { accessFlags := 265, nameIndex := 727, descriptorIndex := 728, attributes := #[] }] 49 2 #[] #[{ accessFlags := 25, nameIndex := 507, descriptorIndex := 526, attributes := #[] }, { accessFlags := 25, nameIndex := 399, descriptorIndex := 155, attributes := #[] }, { accessFlags := 25, nameIndex := 396, descriptorIndex := 155, attributes := #[] }, { accessFlags := 10, nameIndex := 525, descriptorIndex := 526, attributes := #[] }, { accessFlags := 26, nameIndex := 674, descriptorIndex := 12, attributes := #[] }, { accessFlags := 26, nameIndex := 677, descriptorIndex := 12, attributes := #[] }, { accessFlags := 10, nameIndex := 11, descriptorIndex := 12, attributes := #[] }, { accessFlags := 74, nameIndex := 175, descriptorIndex := 176, attributes := #[] }, { accessFlags := 10, nameIndex := 491, descriptorIndex := 222, attributes := #[] }, { accessFlags := 74, nameIndex := 29, descriptorIndex := 30, attributes := #[] }, { accessFlags := 74, nameIndex := 154, descriptorIndex := 155, attributes := #[] }, { accessFlags := 10, nameIndex := 217, descriptorIndex := 218, attributes := #[] }, { accessFlags := 10, nameIndex := 221, descriptorIndex := 222, attributes := #[] }, { accessFlags := 8, nameIndex := 562, descriptorIndex := 563, attributes := #[] }])
  fields := #[{ name := "in", type := (.object "java/io/InputStream"), accessFlags := 25, slot := 0, constantValue := 0 }, { name := "out", type := (.object "java/io/PrintStream"), accessFlags := 25, slot := 1, constantValue := 0 }, { name := "err", type := (.object "java/io/PrintStream"), accessFlags := 25, slot := 2, constantValue := 0 }, { name := "initialIn", type := (.object "java/io/InputStream"), accessFlags := 10, slot := 3, constantValue := 0 }, { name := "NEVER", type := .int, accessFlags := 26, slot := 4, constantValue := 0 }, { name := "MAYBE", type := .int, accessFlags := 26, slot := 5, constantValue := 0 }, { name := "allowSecurityManager", type := .int, accessFlags := 10, slot := 6, constantValue := 0 }, { name := "security", type := (.object "java/lang/SecurityManager"), accessFlags := 74, slot := 7, constantValue := 0 }, { name := "notSupportedJnuEncoding", type := (.object "java/lang/String"), accessFlags := 10, slot := 8, constantValue := 0 }, { name := "cons", type := (.object "java/io/Console"), accessFlags := 74, slot := 9, constantValue := 0 }, { name := "initialErrStream", type := (.object "java/io/PrintStream"), accessFlags := 74, slot := 10, constantValue := 0 }, { name := "props", type := (.object "java/util/Properties"), accessFlags := 10, slot := 11, constantValue := 0 }, { name := "lineSeparator", type := (.object "java/lang/String"), accessFlags := 10, slot := 12, constantValue := 0 }, { name := "bootLayer", type := (.object "java/lang/ModuleLayer"), accessFlags := 8, slot := 13, constantValue := 0 }]
  methods := #[k27m0, k27m1]
  instanceTypes := #[]
  staticTypes := #[(.object "java/io/InputStream"), (.object "java/io/PrintStream"), (.object "java/io/PrintStream"), (.object "java/io/InputStream"), .int, .int, .int, (.object "java/lang/SecurityManager"), (.object "java/lang/String"), (.object "java/io/Console"), (.object "java/io/PrintStream"), (.object "java/util/Properties"), (.object "java/lang/String"), (.object "java/lang/ModuleLayer")]
  resolved := Array.replicate 834 none
  statics := none }

def pool28 : Array CpInfo := pool [(2, .class_ 4), (1, u "java/lang/Object"), (0, u "<init>"), (0, u "()V"), (35, .class_ 44), (1, u "java/util/Objects"), (0, u "requireNonNull"), (0, u "(Ljava/lang/Object;)Ljava/lang/Object;")] 137

def k28m0 : Method := { name := "<init>", desc := "()V", sig := { parameters := [], returnType := none }, accessFlags := 2, code := none }
def k28c1 : Code := { maxStack := 2, maxLocals := 1, code := jdk_31_method_10_code, exceptionTable := #[], attributes := #[] }
def k28m1 : Method := { name := "requireNonNull", desc := "(Ljava/lang/Object;)Ljava/lang/Object;", sig := { parameters := [(.object "java/lang/Object")], returnType := some (.object "java/lang/Object") }, accessFlags := 9, code := some k28c1 }
/-- java/util/Objects -/
def k28 : Class := { plain "java/util/Objects" (some 0) with
  accessFlags := 49
  interfaces := #[]
  cf := some (fileOf pool28 42 #[] #[{ accessFlags := 2, nameIndex := 5, descriptorIndex := 6, attributes := #[] }, { accessFlags := 9, nameIndex := 45, descriptorIndex := 46, attributes := #[] }] 49 2 #[] #[])
  fields := #[]
  methods := #[k28m0, k28m1]
  instanceTypes := #[]
  staticTypes := #[]
  resolved := Array.replicate 184 none
  statics := none }

def pool29 : Array CpInfo := pool [(1, u "java/lang/Class"), (0, .class_ 1), (0, u "java/lang/Object"), (0, .class_ 3)] 0

/-- java/lang/Class -/
def k29 : Class := { plain "java/lang/Class" (some 0) with
  accessFlags := 49
  interfaces := #[]
  cf := some (fileOf pool29 2 #[] #[] 49 4 #[] #[])
  fields := #[]
  methods := #[]
  instanceTypes := #[]
  staticTypes := #[]
  resolved := Array.replicate 5 none
  statics := none }

/-- the primitive byte -/
def k30 : Class := { plain "byte" none with kind := .primitive 'B', accessFlags := 0x411 }
/-- [B -/
def k31 : Class := { plain "[B" (some 0) with kind := .array 30 .byte, interfaces := #[11, 12], accessFlags := 1041 }

/-- the primitive int -/
def k32 : Class := { plain "int" none with kind := .primitive 'I', accessFlags := 0x411 }
/-- [I -/
def k33 : Class := { plain "[I" (some 0) with kind := .array 32 .int, interfaces := #[11, 12], accessFlags := 1041 }

/-- [Ljava/lang/Object; -/
def k34 : Class := { plain "[Ljava/lang/Object;" (some 0) with kind := .array 0 (.object "java/lang/Object"), interfaces := #[11, 12], accessFlags := 1041, mirror := some 3 }

def heap : Heap := #[{ cls := 3, slots := #[.ref 11], vm := .statics 3 },
  { cls := 13, slots := #[.long 0, .int 0, .ref 6, .ref 4], vm := .statics 13 },
  { cls := 14, slots := #[.long 0, .int 0, .null, .ref 9, .ref 8, .null, .null, .null, .int 0, .int 1], vm := .statics 14 },
  { cls := 29, slots := #[], vm := .mirror 34 },
  { cls := 34, slots := #[], vm := .none },
  { cls := 34, slots := #[], vm := .none },
  { cls := 34, slots := #[], vm := .none },
  { cls := 34, slots := #[.ref 12, .ref 13, .ref 14, .ref 15, .ref 16, .ref 17, .ref 18, .ref 19, .ref 20], vm := .none },
  { cls := 18, slots := #[.ref 5, .int 0], vm := .none },
  { cls := 0, slots := #[], vm := .none },
  { cls := 18, slots := #[.ref 7, .int 0], vm := .none },
  { cls := 3, slots := #[.ref 10], vm := .none },
  { cls := 24, slots := #[.long 5, .int 0], vm := .none },
  { cls := 24, slots := #[.long 30, .int 0], vm := .none },
  { cls := 24, slots := #[.long 60, .int 0], vm := .none },
  { cls := 24, slots := #[.long 600, .int 0], vm := .none },
  { cls := 24, slots := #[.long 1800, .int 0], vm := .none },
  { cls := 24, slots := #[.long 3600, .int 0], vm := .none },
  { cls := 24, slots := #[.long 21600, .int 0], vm := .none },
  { cls := 24, slots := #[.long 86400, .int 0], vm := .none },
  { cls := 24, slots := #[.long 172800, .int 0], vm := .none }]
def classes : Array Class := #[k0, k1, k2, k3, k4, k5, k6, k7, k8, k9, k10, k11, k12, k13, k14, k15, k16, k17, k18, k19, k20, k21, k22, k23, k24, k25, k26, k27, k28, k29, k30, k31, k32, k33, k34]
def interned : List (Array UInt16 × Addr) := []
def slotsUsed : Nat := 47
def theMethod : MethodId := ⟨1, 1⟩
def args0 : Array Value := #[.int 1, .long 2, .int 3]
def aboutOver (below : List Frame) : State where
  vm := { classes := classes, interned := interned.toArray }
  heap := heap
  slotsUsed := slotsUsed
  threads := #[{ frames := .invoking theMethod args0 :: below }]
def below0 : List Frame := [.native { method := ⟨0, 0⟩, args := #[] }]
def about1 : State := aboutOver below0
def p0 : Program := .bare "" "" ""
def e0 : Env := launch0.env 0 0 0
theorem w_frames : about1.frames = Frame.invoking theMethod args0 :: below0 := rfl
set_option maxRecDepth 65536 in
theorem w_args : argsFit about1.vm theMethod args0 = true := by decide +kernel
set_option maxRecDepth 65536 in
theorem w_heap : heapFits about1 = true := by decide +kernel
set_option maxRecDepth 65536 in
theorem w_runnable : about1.curStatus? = some .runnable := by decide +kernel
set_option maxRecDepth 65536 in
theorem w_alone : about1.alone = true := by decide +kernel
set_option maxRecDepth 65536 in
theorem w_named : about1.methodNamed? x = some theMethod := by decide +kernel
set_option maxRecDepth 65536 in
theorem w_hears : about1.hears theMethod below0 = true := by decide +kernel
set_option maxRecDepth 65536 in
theorem w_ripe : about1.ripe theMethod args0 below0 = true := by decide +kernel
theorem w_running : about1.status = .running := rfl
set_option maxRecDepth 65536 in
theorem w_room : about1.hasRoom e0.platform room_1 = true :=
  launch0.hasRoom_least _ room_1 (by decide +kernel) (by decide +kernel) (by decide +kernel) (by decide +kernel) (by decide +kernel) (by decide +kernel)
theorem allAtoms_all (ts : List Jvm.Cond) (a : Array Jvm.Value) (st : Jvm.State) : (allAtoms ts).before a st = ts.all (fun c => c.before a st) := by
  induction ts with
  | nil => rfl
  | cons c t ih =>
    show (Jvm.Cond.and c (allAtoms t)).before a st = _
    rw [Jvm.Cond.before_and, ih, List.all_cons]
def words1 : List Jvm.Cond := Jvm.Cond.code x code maxLocals ret :: tables_1
/-- a 'code' word, met by the world's own term for the bytes: nothing is compared byte by byte -/
theorem code_word {y : MethodName} {bytes : ByteArray} {mx : Nat} {rt : Option FieldType} {a : Array Value} {s : State} {m : MethodId} {meth : Method} {c : Code} (h1 : s.methodNamed? y = some m) (h2 : s.vm.method? m = some meth) (h3 : meth.code = some c) (h4 : c.code = bytes)
    (h5 : (c.maxLocals == mx && c.exceptionTable.isEmpty && decide (c.maxStack ≤ mostOperands) && decide (meth.sig.returnType = rt) && !meth.locks && decide (parseMethodDescriptor y.desc = some meth.sig)) = true) : (Jvm.Cond.code y bytes mx rt).before a s = true := by
  simp only [Bool.and_eq_true, beq_iff_eq, Bool.not_eq_true', decide_eq_true_eq] at h5
  obtain ⟨⟨⟨⟨⟨g1, g2⟩, g3⟩, g4⟩, g5⟩, g6⟩ := h5
  simp [Cond.before, Cond.holds, Cond.value, h1, h2, h3, h4, g1, g2, g3, g4, g5, g6]
def isCode : Jvm.Cond → Bool
  | .code _ _ _ _ => true
  | _ => false
theorem all_split {L : List Jvm.Cond} {P : Jvm.Cond → Bool} (h1 : L.all (fun c => isCode c || P c) = true) (h2 : ∀ c ∈ L.filter isCode, P c = true) : L.all P = true := by
  refine List.all_eq_true.mpr fun c hc => ?_
  have h := List.all_eq_true.mp h1 c hc
  rcases Bool.eq_false_or_eq_true (isCode c) with hi | hi
  · exact h2 c (List.mem_filter.mpr ⟨hc, hi⟩)
  · simpa [hi] using h
set_option maxRecDepth 65536 in
theorem w_c0 : (Jvm.Cond.code x code maxLocals ret).before args0 about1 = true := code_word (m := ⟨1, 1⟩) (meth := k1m1) (c := k1c1) (by decide +kernel) rfl rfl rfl (by decide +kernel)
set_option maxRecDepth 65536 in
theorem w_c1 : (Jvm.Cond.code ({ cls := "com/example/nuthatch/nuthatch/RetrySchedule", name := "delays", desc := "()Ljava/util/List;" } : Jvm.MethodName) prog_7_method_8_code (1 : Nat) (Option.some (Jvm.ClassFile.FieldType.object "java/util/List"))).before args0 about1 = true := code_word (m := ⟨3, 2⟩) (meth := k3m2) (c := k3c2) (by decide +kernel) rfl rfl rfl (by decide +kernel)
set_option maxRecDepth 65536 in
theorem w_c2 : (Jvm.Cond.code ({ cls := "java/util/ArrayList", name := "<init>", desc := "()V" } : Jvm.MethodName) jdk_38_method_2_code (1 : Nat) (Option.none : Option Jvm.ClassFile.FieldType)).before args0 about1 = true := code_word (m := ⟨13, 0⟩) (meth := k13m0) (c := k13c0) (by decide +kernel) rfl rfl rfl (by decide +kernel)
set_option maxRecDepth 65536 in
theorem w_c3 : (Jvm.Cond.code ({ cls := "java/util/AbstractList", name := "<init>", desc := "()V" } : Jvm.MethodName) jdk_39_method_1_code (1 : Nat) (Option.none : Option Jvm.ClassFile.FieldType)).before args0 about1 = true := code_word (m := ⟨9, 0⟩) (meth := k9m0) (c := k9c0) (by decide +kernel) rfl rfl rfl (by decide +kernel)
set_option maxRecDepth 65536 in
theorem w_c4 : (Jvm.Cond.code ({ cls := "java/util/AbstractCollection", name := "<init>", desc := "()V" } : Jvm.MethodName) jdk_22_method_1_code (1 : Nat) (Option.none : Option Jvm.ClassFile.FieldType)).before args0 about1 = true := code_word (m := ⟨6, 0⟩) (meth := k6m0) (c := k6c0) (by decide +kernel) rfl rfl rfl (by decide +kernel)
set_option maxRecDepth 65536 in
theorem w_c5 : (Jvm.Cond.code ({ cls := "java/lang/Object", name := "<init>", desc := "()V" } : Jvm.MethodName) object_method_1_code (1 : Nat) (Option.none : Option Jvm.ClassFile.FieldType)).before args0 about1 = true := code_word (m := ⟨0, 0⟩) (meth := k0m0) (c := k0c0) (by decide +kernel) rfl rfl rfl (by decide +kernel)
set_option maxRecDepth 65536 in
theorem w_c6 : (Jvm.Cond.code ({ cls := "com/example/nuthatch/nuthatch/RetrySchedule", name := "<init>", desc := "(Ljava/util/List;)V" } : Jvm.MethodName) prog_7_method_1_code (4 : Nat) (Option.none : Option Jvm.ClassFile.FieldType)).before args0 about1 = true := code_word (m := ⟨3, 0⟩) (meth := k3m0) (c := k3c0) (by decide +kernel) rfl rfl rfl (by decide +kernel)
set_option maxRecDepth 65536 in
theorem w_c7 : (Jvm.Cond.code ({ cls := "java/lang/Record", name := "<init>", desc := "()V" } : Jvm.MethodName) jdk_30_method_1_code (1 : Nat) (Option.none : Option Jvm.ClassFile.FieldType)).before args0 about1 = true := code_word (m := ⟨2, 0⟩) (meth := k2m0) (c := k2c0) (by decide +kernel) rfl rfl rfl (by decide +kernel)
set_option maxRecDepth 65536 in
theorem w_c8 : (Jvm.Cond.code ({ cls := "java/util/List", name := "copyOf", desc := "(Ljava/util/Collection;)Ljava/util/List;" } : Jvm.MethodName) jdk_40_method_48_code (1 : Nat) (Option.some (Jvm.ClassFile.FieldType.object "java/util/List"))).before args0 about1 = true := code_word (m := ⟨8, 5⟩) (meth := k8m5) (c := k8c5) (by decide +kernel) rfl rfl rfl (by decide +kernel)
set_option maxRecDepth 65536 in
theorem w_c9 : (Jvm.Cond.code ({ cls := "java/util/ImmutableCollections", name := "listCopy", desc := "(Ljava/util/Collection;)Ljava/util/List;" } : Jvm.MethodName) jdk_56_method_3_code (2 : Nat) (Option.some (Jvm.ClassFile.FieldType.object "java/util/List"))).before args0 about1 = true := code_word (m := ⟨14, 1⟩) (meth := k14m1) (c := k14c1) (by decide +kernel) rfl rfl rfl (by decide +kernel)
set_option maxRecDepth 65536 in
theorem w_c10 : (Jvm.Cond.code ({ cls := "java/util/ArrayList", name := "isEmpty", desc := "()Z" } : Jvm.MethodName) jdk_38_method_9_code (1 : Nat) (Option.some Jvm.ClassFile.FieldType.boolean)).before args0 about1 = true := code_word (m := ⟨13, 3⟩) (meth := k13m3) (c := k13c3) (by decide +kernel) rfl rfl rfl (by decide +kernel)
set_option maxRecDepth 65536 in
theorem w_c11 : (Jvm.Cond.code ({ cls := "java/util/List", name := "of", desc := "()Ljava/util/List;" } : Jvm.MethodName) jdk_40_method_36_code (0 : Nat) (Option.some (Jvm.ClassFile.FieldType.object "java/util/List"))).before args0 about1 = true := code_word (m := ⟨8, 3⟩) (meth := k8m3) (c := k8c3) (by decide +kernel) rfl rfl rfl (by decide +kernel)
set_option maxRecDepth 65536 in
theorem w_c12 : (Jvm.Cond.code ({ cls := "java/util/ImmutableCollections$AbstractImmutableList", name := "iterator", desc := "()Ljava/util/Iterator;" } : Jvm.MethodName) jdk_46_method_10_code (1 : Nat) (Option.some (Jvm.ClassFile.FieldType.object "java/util/Iterator"))).before args0 about1 = true := code_word (m := ⟨16, 1⟩) (meth := k16m1) (c := k16c1) (by decide +kernel) rfl rfl rfl (by decide +kernel)
set_option maxRecDepth 65536 in
theorem w_c13 : (Jvm.Cond.code ({ cls := "java/util/ImmutableCollections$ListN", name := "size", desc := "()I" } : Jvm.MethodName) jdk_45_method_3_code (1 : Nat) (Option.some Jvm.ClassFile.FieldType.int)).before args0 about1 = true := code_word (m := ⟨18, 1⟩) (meth := k18m1) (c := k18c1) (by decide +kernel) rfl rfl rfl (by decide +kernel)
set_option maxRecDepth 65536 in
theorem w_c14 : (Jvm.Cond.code ({ cls := "java/util/ImmutableCollections$ListItr", name := "<init>", desc := "(Ljava/util/List;I)V" } : Jvm.MethodName) jdk_53_method_1_code (3 : Nat) (Option.none : Option Jvm.ClassFile.FieldType)).before args0 about1 = true := code_word (m := ⟨21, 0⟩) (meth := k21m0) (c := k21c0) (by decide +kernel) rfl rfl rfl (by decide +kernel)
set_option maxRecDepth 65536 in
theorem w_c15 : (Jvm.Cond.code ({ cls := "java/util/ImmutableCollections$ListItr", name := "hasNext", desc := "()Z" } : Jvm.MethodName) jdk_53_method_3_code (1 : Nat) (Option.some Jvm.ClassFile.FieldType.boolean)).before args0 about1 = true := code_word (m := ⟨21, 1⟩) (meth := k21m1) (c := k21c1) (by decide +kernel) rfl rfl rfl (by decide +kernel)
set_option maxRecDepth 65536 in
theorem w_c16 : (Jvm.Cond.code ({ cls := "com/example/nuthatch/nuthatch/RetryScheduleMaxAttemptsPinLaw", name := "pick", desc := "(JI)I" } : Jvm.MethodName) method_3_code (3 : Nat) (Option.some Jvm.ClassFile.FieldType.int)).before args0 about1 = true := code_word (m := ⟨1, 2⟩) (meth := k1m2) (c := k1c2) (by decide +kernel) rfl rfl rfl (by decide +kernel)
set_option maxRecDepth 65536 in
theorem w_c17 : (Jvm.Cond.code ({ cls := "java/util/ImmutableCollections$ListN", name := "get", desc := "(I)Ljava/lang/Object;" } : Jvm.MethodName) jdk_45_method_4_code (2 : Nat) (Option.some (Jvm.ClassFile.FieldType.object "java/lang/Object"))).before args0 about1 = true := code_word (m := ⟨18, 2⟩) (meth := k18m2) (c := k18c2) (by decide +kernel) rfl rfl rfl (by decide +kernel)
set_option maxRecDepth 65536 in
theorem w_c18 : (Jvm.Cond.code ({ cls := "java/util/ArrayList", name := "add", desc := "(Ljava/lang/Object;)Z" } : Jvm.MethodName) jdk_38_method_25_code (2 : Nat) (Option.some Jvm.ClassFile.FieldType.boolean)).before args0 about1 = true := code_word (m := ⟨13, 6⟩) (meth := k13m6) (c := k13c6) (by decide +kernel) rfl rfl rfl (by decide +kernel)
set_option maxRecDepth 65536 in
theorem w_c19 : (Jvm.Cond.code ({ cls := "java/util/ArrayList", name := "add", desc := "(Ljava/lang/Object;[Ljava/lang/Object;I)V" } : Jvm.MethodName) jdk_38_method_24_code (4 : Nat) (Option.none : Option Jvm.ClassFile.FieldType)).before args0 about1 = true := code_word (m := ⟨13, 5⟩) (meth := k13m5) (c := k13c5) (by decide +kernel) rfl rfl rfl (by decide +kernel)
set_option maxRecDepth 65536 in
theorem w_c20 : (Jvm.Cond.code ({ cls := "java/util/ArrayList", name := "grow", desc := "()[Ljava/lang/Object;" } : Jvm.MethodName) jdk_38_method_7_code (1 : Nat) (Option.some (Jvm.ClassFile.FieldType.array (Jvm.ClassFile.FieldType.object "java/lang/Object")))).before args0 about1 = true := code_word (m := ⟨13, 2⟩) (meth := k13m2) (c := k13c2) (by decide +kernel) rfl rfl rfl (by decide +kernel)
set_option maxRecDepth 65536 in
theorem w_c21 : (Jvm.Cond.code ({ cls := "java/util/ArrayList", name := "grow", desc := "(I)[Ljava/lang/Object;" } : Jvm.MethodName) jdk_38_method_6_code (4 : Nat) (Option.some (Jvm.ClassFile.FieldType.array (Jvm.ClassFile.FieldType.object "java/lang/Object")))).before args0 about1 = true := code_word (m := ⟨13, 1⟩) (meth := k13m1) (c := k13c1) (by decide +kernel) rfl rfl rfl (by decide +kernel)
set_option maxRecDepth 65536 in
theorem w_c22 : (Jvm.Cond.code ({ cls := "java/lang/Math", name := "max", desc := "(II)I" } : Jvm.MethodName) jdk_29_method_65_code (2 : Nat) (Option.some Jvm.ClassFile.FieldType.int)).before args0 about1 = true := code_word (m := ⟨25, 1⟩) (meth := k25m1) (c := k25c1) (by decide +kernel) rfl rfl rfl (by decide +kernel)
set_option maxRecDepth 65536 in
theorem w_c23 : (Jvm.Cond.code ({ cls := "com/example/nuthatch/nuthatch/RetrySchedule", name := "maxAttempts", desc := "()I" } : Jvm.MethodName) prog_7_method_3_code (1 : Nat) (Option.some Jvm.ClassFile.FieldType.int)).before args0 about1 = true := code_word (m := ⟨3, 1⟩) (meth := k3m1) (c := k3c1) (by decide +kernel) rfl rfl rfl (by decide +kernel)
set_option maxRecDepth 65536 in
theorem w_c24 : (Jvm.Cond.code ({ cls := "java/util/ArrayList", name := "toArray", desc := "()[Ljava/lang/Object;" } : Jvm.MethodName) jdk_38_method_16_code (1 : Nat) (Option.some (Jvm.ClassFile.FieldType.array (Jvm.ClassFile.FieldType.object "java/lang/Object")))).before args0 about1 = true := code_word (m := ⟨13, 4⟩) (meth := k13m4) (c := k13c4) (by decide +kernel) rfl rfl rfl (by decide +kernel)
set_option maxRecDepth 65536 in
theorem w_c25 : (Jvm.Cond.code ({ cls := "java/util/Arrays", name := "copyOf", desc := "([Ljava/lang/Object;I)[Ljava/lang/Object;" } : Jvm.MethodName) jdk_65_method_119_code (2 : Nat) (Option.some (Jvm.ClassFile.FieldType.array (Jvm.ClassFile.FieldType.object "java/lang/Object")))).before args0 about1 = true := code_word (m := ⟨26, 1⟩) (meth := k26m1) (c := k26c1) (by decide +kernel) rfl rfl rfl (by decide +kernel)
set_option maxRecDepth 65536 in
theorem w_c26 : (Jvm.Cond.code ({ cls := "java/util/Arrays", name := "copyOf", desc := "([Ljava/lang/Object;ILjava/lang/Class;)[Ljava/lang/Object;" } : Jvm.MethodName) jdk_65_method_120_code (4 : Nat) (Option.some (Jvm.ClassFile.FieldType.array (Jvm.ClassFile.FieldType.object "java/lang/Object")))).before args0 about1 = true := code_word (m := ⟨26, 2⟩) (meth := k26m2) (c := k26c2) (by decide +kernel) rfl rfl rfl (by decide +kernel)
set_option maxRecDepth 65536 in
theorem w_c27 : (Jvm.Cond.code ({ cls := "java/lang/Math", name := "min", desc := "(II)I" } : Jvm.MethodName) jdk_29_method_69_code (2 : Nat) (Option.some Jvm.ClassFile.FieldType.int)).before args0 about1 = true := code_word (m := ⟨25, 2⟩) (meth := k25m2) (c := k25c2) (by decide +kernel) rfl rfl rfl (by decide +kernel)
set_option maxRecDepth 65536 in
theorem w_c28 : (Jvm.Cond.code ({ cls := "java/util/List", name := "of", desc := "([Ljava/lang/Object;)Ljava/util/List;" } : Jvm.MethodName) jdk_40_method_47_code (2 : Nat) (Option.some (Jvm.ClassFile.FieldType.object "java/util/List"))).before args0 about1 = true := code_word (m := ⟨8, 4⟩) (meth := k8m4) (c := k8c4) (by decide +kernel) rfl rfl rfl (by decide +kernel)
set_option maxRecDepth 65536 in
theorem w_c29 : (Jvm.Cond.code ({ cls := "java/util/ImmutableCollections", name := "listFromArray", desc := "([Ljava/lang/Object;)Ljava/util/List;" } : Jvm.MethodName) jdk_56_method_4_code (3 : Nat) (Option.some (Jvm.ClassFile.FieldType.object "java/util/List"))).before args0 about1 = true := code_word (m := ⟨14, 2⟩) (meth := k14m2) (c := k14c2) (by decide +kernel) rfl rfl rfl (by decide +kernel)
set_option maxRecDepth 65536 in
theorem w_c30 : (Jvm.Cond.code ({ cls := "java/util/Objects", name := "requireNonNull", desc := "(Ljava/lang/Object;)Ljava/lang/Object;" } : Jvm.MethodName) jdk_31_method_10_code (1 : Nat) (Option.some (Jvm.ClassFile.FieldType.object "java/lang/Object"))).before args0 about1 = true := code_word (m := ⟨28, 1⟩) (meth := k28m1) (c := k28c1) (by decide +kernel) rfl rfl rfl (by decide +kernel)
set_option maxRecDepth 65536 in
theorem w_c31 : (Jvm.Cond.code ({ cls := "java/util/ImmutableCollections$ListN", name := "<init>", desc := "([Ljava/lang/Object;Z)V" } : Jvm.MethodName) jdk_45_method_1_code (3 : Nat) (Option.none : Option Jvm.ClassFile.FieldType)).before args0 about1 = true := code_word (m := ⟨18, 0⟩) (meth := k18m0) (c := k18c0) (by decide +kernel) rfl rfl rfl (by decide +kernel)
set_option maxRecDepth 65536 in
theorem w_c32 : (Jvm.Cond.code ({ cls := "java/util/ImmutableCollections$AbstractImmutableList", name := "<init>", desc := "()V" } : Jvm.MethodName) jdk_46_method_1_code (1 : Nat) (Option.none : Option Jvm.ClassFile.FieldType)).before args0 about1 = true := code_word (m := ⟨16, 0⟩) (meth := k16m0) (c := k16c0) (by decide +kernel) rfl rfl rfl (by decide +kernel)
set_option maxRecDepth 65536 in
theorem w_c33 : (Jvm.Cond.code ({ cls := "java/util/ImmutableCollections$AbstractImmutableCollection", name := "<init>", desc := "()V" } : Jvm.MethodName) jdk_47_method_1_code (1 : Nat) (Option.none : Option Jvm.ClassFile.FieldType)).before args0 about1 = true := code_word (m := ⟨15, 0⟩) (meth := k15m0) (c := k15c0) (by decide +kernel) rfl rfl rfl (by decide +kernel)
set_option maxRecDepth 65536 in
theorem w_c34 : (Jvm.Cond.code ({ cls := "java/time/Duration", name := "isNegative", desc := "()Z" } : Jvm.MethodName) jdk_2316_method_22_code (1 : Nat) (Option.some Jvm.ClassFile.FieldType.boolean)).before args0 about1 = true := code_word (m := ⟨24, 0⟩) (meth := k24m0) (c := k24c0) (by decide +kernel) rfl rfl rfl (by decide +kernel)
set_option maxRecDepth 65536 in
theorem w_c35 : (Jvm.Cond.code ({ cls := "java/util/ImmutableCollections$List12", name := "<init>", desc := "(Ljava/lang/Object;Ljava/lang/Object;)V" } : Jvm.MethodName) jdk_44_method_2_code (3 : Nat) (Option.none : Option Jvm.ClassFile.FieldType)).before args0 about1 = true := code_word (m := ⟨17, 1⟩) (meth := k17m1) (c := k17c1) (by decide +kernel) rfl rfl rfl (by decide +kernel)
set_option maxRecDepth 65536 in
theorem w_c36 : (Jvm.Cond.code ({ cls := "java/util/ImmutableCollections$List12", name := "size", desc := "()I" } : Jvm.MethodName) jdk_44_method_3_code (1 : Nat) (Option.some Jvm.ClassFile.FieldType.int)).before args0 about1 = true := code_word (m := ⟨17, 2⟩) (meth := k17m2) (c := k17c2) (by decide +kernel) rfl rfl rfl (by decide +kernel)
set_option maxRecDepth 65536 in
theorem w_c37 : (Jvm.Cond.code ({ cls := "java/util/ImmutableCollections$List12", name := "get", desc := "(I)Ljava/lang/Object;" } : Jvm.MethodName) jdk_44_method_5_code (2 : Nat) (Option.some (Jvm.ClassFile.FieldType.object "java/lang/Object"))).before args0 about1 = true := code_word (m := ⟨17, 3⟩) (meth := k17m3) (c := k17c3) (by decide +kernel) rfl rfl rfl (by decide +kernel)
set_option maxRecDepth 65536 in
theorem w_c38 : (Jvm.Cond.code ({ cls := "java/util/ImmutableCollections$List12", name := "<init>", desc := "(Ljava/lang/Object;)V" } : Jvm.MethodName) jdk_44_method_1_code (2 : Nat) (Option.none : Option Jvm.ClassFile.FieldType)).before args0 about1 = true := code_word (m := ⟨17, 0⟩) (meth := k17m0) (c := k17c0) (by decide +kernel) rfl rfl rfl (by decide +kernel)
def codes1 : List Jvm.Cond := [Jvm.Cond.code x code maxLocals ret, Jvm.Cond.code ({ cls := "com/example/nuthatch/nuthatch/RetrySchedule", name := "delays", desc := "()Ljava/util/List;" } : Jvm.MethodName) prog_7_method_8_code (1 : Nat) (Option.some (Jvm.ClassFile.FieldType.object "java/util/List")), Jvm.Cond.code ({ cls := "java/util/ArrayList", name := "<init>", desc := "()V" } : Jvm.MethodName) jdk_38_method_2_code (1 : Nat) (Option.none : Option Jvm.ClassFile.FieldType), Jvm.Cond.code ({ cls := "java/util/AbstractList", name := "<init>", desc := "()V" } : Jvm.MethodName) jdk_39_method_1_code (1 : Nat) (Option.none : Option Jvm.ClassFile.FieldType), Jvm.Cond.code ({ cls := "java/util/AbstractCollection", name := "<init>", desc := "()V" } : Jvm.MethodName) jdk_22_method_1_code (1 : Nat) (Option.none : Option Jvm.ClassFile.FieldType), Jvm.Cond.code ({ cls := "java/lang/Object", name := "<init>", desc := "()V" } : Jvm.MethodName) object_method_1_code (1 : Nat) (Option.none : Option Jvm.ClassFile.FieldType), Jvm.Cond.code ({ cls := "com/example/nuthatch/nuthatch/RetrySchedule", name := "<init>", desc := "(Ljava/util/List;)V" } : Jvm.MethodName) prog_7_method_1_code (4 : Nat) (Option.none : Option Jvm.ClassFile.FieldType), Jvm.Cond.code ({ cls := "java/lang/Record", name := "<init>", desc := "()V" } : Jvm.MethodName) jdk_30_method_1_code (1 : Nat) (Option.none : Option Jvm.ClassFile.FieldType), Jvm.Cond.code ({ cls := "java/util/List", name := "copyOf", desc := "(Ljava/util/Collection;)Ljava/util/List;" } : Jvm.MethodName) jdk_40_method_48_code (1 : Nat) (Option.some (Jvm.ClassFile.FieldType.object "java/util/List")), Jvm.Cond.code ({ cls := "java/util/ImmutableCollections", name := "listCopy", desc := "(Ljava/util/Collection;)Ljava/util/List;" } : Jvm.MethodName) jdk_56_method_3_code (2 : Nat) (Option.some (Jvm.ClassFile.FieldType.object "java/util/List")), Jvm.Cond.code ({ cls := "java/util/ArrayList", name := "isEmpty", desc := "()Z" } : Jvm.MethodName) jdk_38_method_9_code (1 : Nat) (Option.some Jvm.ClassFile.FieldType.boolean), Jvm.Cond.code ({ cls := "java/util/List", name := "of", desc := "()Ljava/util/List;" } : Jvm.MethodName) jdk_40_method_36_code (0 : Nat) (Option.some (Jvm.ClassFile.FieldType.object "java/util/List")), Jvm.Cond.code ({ cls := "java/util/ImmutableCollections$AbstractImmutableList", name := "iterator", desc := "()Ljava/util/Iterator;" } : Jvm.MethodName) jdk_46_method_10_code (1 : Nat) (Option.some (Jvm.ClassFile.FieldType.object "java/util/Iterator")), Jvm.Cond.code ({ cls := "java/util/ImmutableCollections$ListN", name := "size", desc := "()I" } : Jvm.MethodName) jdk_45_method_3_code (1 : Nat) (Option.some Jvm.ClassFile.FieldType.int), Jvm.Cond.code ({ cls := "java/util/ImmutableCollections$ListItr", name := "<init>", desc := "(Ljava/util/List;I)V" } : Jvm.MethodName) jdk_53_method_1_code (3 : Nat) (Option.none : Option Jvm.ClassFile.FieldType), Jvm.Cond.code ({ cls := "java/util/ImmutableCollections$ListItr", name := "hasNext", desc := "()Z" } : Jvm.MethodName) jdk_53_method_3_code (1 : Nat) (Option.some Jvm.ClassFile.FieldType.boolean), Jvm.Cond.code ({ cls := "com/example/nuthatch/nuthatch/RetryScheduleMaxAttemptsPinLaw", name := "pick", desc := "(JI)I" } : Jvm.MethodName) method_3_code (3 : Nat) (Option.some Jvm.ClassFile.FieldType.int), Jvm.Cond.code ({ cls := "java/util/ImmutableCollections$ListN", name := "get", desc := "(I)Ljava/lang/Object;" } : Jvm.MethodName) jdk_45_method_4_code (2 : Nat) (Option.some (Jvm.ClassFile.FieldType.object "java/lang/Object")), Jvm.Cond.code ({ cls := "java/util/ArrayList", name := "add", desc := "(Ljava/lang/Object;)Z" } : Jvm.MethodName) jdk_38_method_25_code (2 : Nat) (Option.some Jvm.ClassFile.FieldType.boolean), Jvm.Cond.code ({ cls := "java/util/ArrayList", name := "add", desc := "(Ljava/lang/Object;[Ljava/lang/Object;I)V" } : Jvm.MethodName) jdk_38_method_24_code (4 : Nat) (Option.none : Option Jvm.ClassFile.FieldType), Jvm.Cond.code ({ cls := "java/util/ArrayList", name := "grow", desc := "()[Ljava/lang/Object;" } : Jvm.MethodName) jdk_38_method_7_code (1 : Nat) (Option.some (Jvm.ClassFile.FieldType.array (Jvm.ClassFile.FieldType.object "java/lang/Object"))), Jvm.Cond.code ({ cls := "java/util/ArrayList", name := "grow", desc := "(I)[Ljava/lang/Object;" } : Jvm.MethodName) jdk_38_method_6_code (4 : Nat) (Option.some (Jvm.ClassFile.FieldType.array (Jvm.ClassFile.FieldType.object "java/lang/Object"))), Jvm.Cond.code ({ cls := "java/lang/Math", name := "max", desc := "(II)I" } : Jvm.MethodName) jdk_29_method_65_code (2 : Nat) (Option.some Jvm.ClassFile.FieldType.int), Jvm.Cond.code ({ cls := "com/example/nuthatch/nuthatch/RetrySchedule", name := "maxAttempts", desc := "()I" } : Jvm.MethodName) prog_7_method_3_code (1 : Nat) (Option.some Jvm.ClassFile.FieldType.int), Jvm.Cond.code ({ cls := "java/util/ArrayList", name := "toArray", desc := "()[Ljava/lang/Object;" } : Jvm.MethodName) jdk_38_method_16_code (1 : Nat) (Option.some (Jvm.ClassFile.FieldType.array (Jvm.ClassFile.FieldType.object "java/lang/Object"))), Jvm.Cond.code ({ cls := "java/util/Arrays", name := "copyOf", desc := "([Ljava/lang/Object;I)[Ljava/lang/Object;" } : Jvm.MethodName) jdk_65_method_119_code (2 : Nat) (Option.some (Jvm.ClassFile.FieldType.array (Jvm.ClassFile.FieldType.object "java/lang/Object"))), Jvm.Cond.code ({ cls := "java/util/Arrays", name := "copyOf", desc := "([Ljava/lang/Object;ILjava/lang/Class;)[Ljava/lang/Object;" } : Jvm.MethodName) jdk_65_method_120_code (4 : Nat) (Option.some (Jvm.ClassFile.FieldType.array (Jvm.ClassFile.FieldType.object "java/lang/Object"))), Jvm.Cond.code ({ cls := "java/lang/Math", name := "min", desc := "(II)I" } : Jvm.MethodName) jdk_29_method_69_code (2 : Nat) (Option.some Jvm.ClassFile.FieldType.int), Jvm.Cond.code ({ cls := "java/util/List", name := "of", desc := "([Ljava/lang/Object;)Ljava/util/List;" } : Jvm.MethodName) jdk_40_method_47_code (2 : Nat) (Option.some (Jvm.ClassFile.FieldType.object "java/util/List")), Jvm.Cond.code ({ cls := "java/util/ImmutableCollections", name := "listFromArray", desc := "([Ljava/lang/Object;)Ljava/util/List;" } : Jvm.MethodName) jdk_56_method_4_code (3 : Nat) (Option.some (Jvm.ClassFile.FieldType.object "java/util/List")), Jvm.Cond.code ({ cls := "java/util/Objects", name := "requireNonNull", desc := "(Ljava/lang/Object;)Ljava/lang/Object;" } : Jvm.MethodName) jdk_31_method_10_code (1 : Nat) (Option.some (Jvm.ClassFile.FieldType.object "java/lang/Object")), Jvm.Cond.code ({ cls := "java/util/ImmutableCollections$ListN", name := "<init>", desc := "([Ljava/lang/Object;Z)V" } : Jvm.MethodName) jdk_45_method_1_code (3 : Nat) (Option.none : Option Jvm.ClassFile.FieldType), Jvm.Cond.code ({ cls := "java/util/ImmutableCollections$AbstractImmutableList", name := "<init>", desc := "()V" } : Jvm.MethodName) jdk_46_method_1_code (1 : Nat) (Option.none : Option Jvm.ClassFile.FieldType), Jvm.Cond.code ({ cls := "java/util/ImmutableCollections$AbstractImmutableCollection", name := "<init>", desc := "()V" } : Jvm.MethodName) jdk_47_method_1_code (1 : Nat) (Option.none : Option Jvm.ClassFile.FieldType), Jvm.Cond.code ({ cls := "java/time/Duration", name := "isNegative", desc := "()Z" } : Jvm.MethodName) jdk_2316_method_22_code (1 : Nat) (Option.some Jvm.ClassFile.FieldType.boolean), Jvm.Cond.code ({ cls := "java/util/ImmutableCollections$List12", name := "<init>", desc := "(Ljava/lang/Object;Ljava/lang/Object;)V" } : Jvm.MethodName) jdk_44_method_2_code (3 : Nat) (Option.none : Option Jvm.ClassFile.FieldType), Jvm.Cond.code ({ cls := "java/util/ImmutableCollections$List12", name := "size", desc := "()I" } : Jvm.MethodName) jdk_44_method_3_code (1 : Nat) (Option.some Jvm.ClassFile.FieldType.int), Jvm.Cond.code ({ cls := "java/util/ImmutableCollections$List12", name := "get", desc := "(I)Ljava/lang/Object;" } : Jvm.MethodName) jdk_44_method_5_code (2 : Nat) (Option.some (Jvm.ClassFile.FieldType.object "java/lang/Object")), Jvm.Cond.code ({ cls := "java/util/ImmutableCollections$List12", name := "<init>", desc := "(Ljava/lang/Object;)V" } : Jvm.MethodName) jdk_44_method_1_code (2 : Nat) (Option.none : Option Jvm.ClassFile.FieldType)]
set_option maxRecDepth 65536 in
theorem codes_eq : words1.filter isCode = codes1 := rfl
theorem w_codes : ∀ c ∈ words1.filter isCode, c.before args0 about1 = true := by
  rw [codes_eq]
  intro c hc
  simp only [codes1, List.mem_cons, List.not_mem_nil, or_false] at hc
  rcases hc with rfl | rfl | rfl | rfl | rfl | rfl | rfl | rfl | rfl | rfl | rfl | rfl | rfl | rfl | rfl | rfl | rfl | rfl | rfl | rfl | rfl | rfl | rfl | rfl | rfl | rfl | rfl | rfl | rfl | rfl | rfl | rfl | rfl | rfl | rfl | rfl | rfl | rfl | rfl
  · exact w_c0
  · exact w_c1
  · exact w_c2
  · exact w_c3
  · exact w_c4
  · exact w_c5
  · exact w_c6
  · exact w_c7
  · exact w_c8
  · exact w_c9
  · exact w_c10
  · exact w_c11
  · exact w_c12
  · exact w_c13
  · exact w_c14
  · exact w_c15
  · exact w_c16
  · exact w_c17
  · exact w_c18
  · exact w_c19
  · exact w_c20
  · exact w_c21
  · exact w_c22
  · exact w_c23
  · exact w_c24
  · exact w_c25
  · exact w_c26
  · exact w_c27
  · exact w_c28
  · exact w_c29
  · exact w_c30
  · exact w_c31
  · exact w_c32
  · exact w_c33
  · exact w_c34
  · exact w_c35
  · exact w_c36
  · exact w_c37
  · exact w_c38
set_option maxRecDepth 65536 in
theorem w_t1 : (words1.take 24).all (fun c => isCode c || c.before args0 about1) = true := by decide +kernel
set_option maxRecDepth 65536 in
theorem w_t2 : ((words1.drop 24).take 24).all (fun c => isCode c || c.before args0 about1) = true := by decide +kernel
set_option maxRecDepth 65536 in
theorem w_t3 : (((words1.drop 24).drop 24).take 24).all (fun c => isCode c || c.before args0 about1) = true := by decide +kernel
set_option maxRecDepth 65536 in
theorem w_t4 : ((((words1.drop 24).drop 24).drop 24).take 24).all (fun c => isCode c || c.before args0 about1) = true := by decide +kernel
set_option maxRecDepth 65536 in
theorem w_t5 : (((((words1.drop 24).drop 24).drop 24).drop 24).take 24).all (fun c => isCode c || c.before args0 about1) = true := by decide +kernel
set_option maxRecDepth 65536 in
theorem w_t6 : ((((((words1.drop 24).drop 24).drop 24).drop 24).drop 24).take 24).all (fun c => isCode c || c.before args0 about1) = true := by decide +kernel
set_option maxRecDepth 65536 in
theorem w_t7 : (((((((words1.drop 24).drop 24).drop 24).drop 24).drop 24).drop 24).take 24).all (fun c => isCode c || c.before args0 about1) = true := by decide +kernel
set_option maxRecDepth 65536 in
theorem w_t8 : ((((((((words1.drop 24).drop 24).drop 24).drop 24).drop 24).drop 24).drop 24).take 24).all (fun c => isCode c || c.before args0 about1) = true := by decide +kernel
set_option maxRecDepth 65536 in
theorem w_t9 : (((((((((words1.drop 24).drop 24).drop 24).drop 24).drop 24).drop 24).drop 24).drop 24).take 24).all (fun c => isCode c || c.before args0 about1) = true := by decide +kernel
set_option maxRecDepth 65536 in
theorem w_t10 : ((((((((((words1.drop 24).drop 24).drop 24).drop 24).drop 24).drop 24).drop 24).drop 24).drop 24).take 24).all (fun c => isCode c || c.before args0 about1) = true := by decide +kernel
set_option maxRecDepth 65536 in
theorem w_t11 : (((((((((((words1.drop 24).drop 24).drop 24).drop 24).drop 24).drop 24).drop 24).drop 24).drop 24).drop 24).take 24).all (fun c => isCode c || c.before args0 about1) = true := by decide +kernel
set_option maxRecDepth 65536 in
theorem w_t12 : ((((((((((((words1.drop 24).drop 24).drop 24).drop 24).drop 24).drop 24).drop 24).drop 24).drop 24).drop 24).drop 24).take 24).all (fun c => isCode c || c.before args0 about1) = true := by decide +kernel
set_option maxRecDepth 65536 in
theorem w_t13 : ((((((((((((words1.drop 24).drop 24).drop 24).drop 24).drop 24).drop 24).drop 24).drop 24).drop 24).drop 24).drop 24).drop 24).all (fun c => isCode c || c.before args0 about1) = true := by decide +kernel
theorem w_tables : (allAtoms (Jvm.Cond.code x code maxLocals ret :: tables_1)).before args0 about1 = true := by
  rw [allAtoms_all]
  show words1.all (fun c => c.before args0 about1) = true
  refine all_split ?_ w_codes
  rw [← List.take_append_drop 24 words1, List.all_append, w_t1, ← List.take_append_drop 24 (words1.drop 24), List.all_append, w_t2, ← List.take_append_drop 24 ((words1.drop 24).drop 24), List.all_append, w_t3, ← List.take_append_drop 24 (((words1.drop 24).drop 24).drop 24), List.all_append, w_t4, ← List.take_append_drop 24 ((((words1.drop 24).drop 24).drop 24).drop 24), List.all_append, w_t5, ← List.take_append_drop 24 (((((words1.drop 24).drop 24).drop 24).drop 24).drop 24), List.all_append, w_t6, ← List.take_append_drop 24 ((((((words1.drop 24).drop 24).drop 24).drop 24).drop 24).drop 24), List.all_append, w_t7, ← List.take_append_drop 24 (((((((words1.drop 24).drop 24).drop 24).drop 24).drop 24).drop 24).drop 24), List.all_append, w_t8, ← List.take_append_drop 24 ((((((((words1.drop 24).drop 24).drop 24).drop 24).drop 24).drop 24).drop 24).drop 24), List.all_append, w_t9, ← List.take_append_drop 24 (((((((((words1.drop 24).drop 24).drop 24).drop 24).drop 24).drop 24).drop 24).drop 24).drop 24), List.all_append, w_t10, ← List.take_append_drop 24 ((((((((((words1.drop 24).drop 24).drop 24).drop 24).drop 24).drop 24).drop 24).drop 24).drop 24).drop 24), List.all_append, w_t11, ← List.take_append_drop 24 (((((((((((words1.drop 24).drop 24).drop 24).drop 24).drop 24).drop 24).drop 24).drop 24).drop 24).drop 24).drop 24), List.all_append, w_t12, w_t13]
  rfl
set_option maxRecDepth 65536 in
theorem w_rest : rest_1_c.before args0 about1 = true := by decide +kernel
set_option maxRecDepth 65536 in
theorem w_case : (Jvm.Cond.and given_1 narrow_1).before args0 about1 = true := by decide +kernel
theorem w_applies : (headSpec (Jvm.Cond.code x code maxLocals ret :: tables_1) room_1).applies x e0.platform about1 = true :=
  (Spec.applies_iff w_frames).mpr ⟨w_running, w_runnable, w_alone, w_named, w_hears, w_ripe, w_room, w_tables⟩
theorem atStart : AtStart classFile x code maxLocals ret World_1 tables_1 room_1 Calls_1 rest_1 Pre_1 launch0 p0 e0 about1 theMethod args0 below0 :=
  ⟨lists_1, trivial, launch0.admits_env _ _ _, launch0.least_env, fairChoices_fair.cas, fairChoices_fair.clock, w_frames, w_args, w_heap, w_applies, ⟨⟨34, k34, 3, by decide +kernel, rfl, rfl, _, rfl, rfl⟩, trivial⟩, w_rest, w_case⟩
end start1
theorem witness_1 : WitnessClaimed_1 := ⟨start1.p0, start1.e0, start1.about1, start1.theMethod, start1.args0, start1.below0, start1.atStart⟩
end Jvm.Pilot.@@N@@
