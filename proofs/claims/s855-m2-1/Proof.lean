import JvmDerived
import JvmDerived.Pilot.@@N@@Statement
import JvmDerived.Pilot.@@N@@Code
set_option linter.unusedVariables false
set_option linter.unusedSimpArgs false
namespace Jvm.Pilot.@@N@@
set_option maxRecDepth 65536
set_option maxHeartbeats 40000000
open Jvm Jvm.ClassFile Sem Op Lib Jvm.Free Jvm.Stand Jvm.LawKit Jvm.RoadKit Bundle Jvm.Pilot.@@N@@.Jvm.D
/-- from the frame g over the state T the run comes to a return that Q allows, with at most kc new cells and ks new slots -/
def Go (p : Program) (e : Env) (below : List Frame) (s : State) (Q : Option Value → Heap → List Loc → Prop) (kc ks : Nat) (T : State) (g : JFrame) : Prop :=
  ∃ s₂ o, Steps p.tables e below (T.setTop g) s₂ ∧ s₂.status = .running ∧ Ended s₂ below o ∧ ∃ v L, o = .returned v ∧ Q v s₂.heap L ∧ FrameEnd s o s₂ L kc ks
/-- a body's contract in this family: called with these arguments over the heap h0 it returns what Q says -/
def Con (l : Launch) (Z : State) (y : MethodName) (bytes : ByteArray) (maxL : Nat) (ret : Option FieldType) (rm : Room) (ws : List Jvm.Cond) (as' : Array Value) (h0 : Heap) (Q : Option Value → Heap → List Loc → Prop) (kc ks : Nat) : Prop :=
  MetFree l y (head1 (Jvm.Cond.code y bytes maxL ret :: ws) rm) (fun a U => a = as' ∧ Z.Warmed39 U.vm ∧ U.heap = h0) (fun _ _ _ _ _ => True) (fun _ U o U' => ∃ v L, o = .returned v ∧ Q v U'.heap L ∧ FrameEnd U o U' L kc ks)
/-- the same for a body with handlers -/
def ConH (hs : List (Nat × Nat × Nat × Nat)) (l : Launch) (Z : State) (y : MethodName) (bytes : ByteArray) (maxL : Nat) (ret : Option FieldType) (rm : Room) (ws : List Jvm.Cond) (as' : Array Value) (h0 : Heap) (Q : Option Value → Heap → List Loc → Prop) (kc ks : Nat) : Prop :=
  MetFree l y (head1 (Jvm.Cond.codeWith y bytes maxL ret hs :: ws) rm) (fun a U => a = as' ∧ Z.Warmed39 U.vm ∧ U.heap = h0) (fun _ _ _ _ _ => True) (fun _ U o U' => ∃ v L, o = .returned v ∧ Q v U'.heap L ∧ FrameEnd U o U' L kc ks)
/-- it returns r and leaves the heap as it was -/
def Qret (r : Option Value) (h0 : Heap) (n0 : Nat) (v : Option Value) (h : Heap) (L : List Loc) : Prop := v = r ∧ Fr n0 L ∧ h = h0
/-- the law's own end: true; nothing old written -/
def Q0 (n0 : Nat) (v : Option Value) (h : Heap) (L : List Loc) : Prop := v = some (.int 1) ∧ Fr n0 L
theorem own_cI (x : Int32) : (Value.int x).category = 1 := rfl
theorem own_cJ (x : Int64) : (Value.long x).category = 2 := rfl
theorem own_cR (x : Addr) : (Value.ref x).category = 1 := rfl
theorem own_cN : (Value.null).category = 1 := rfl
theorem hwi {Z : State} {a0 : Array Value} (hw : ∀ d ∈ tables_1, d.before a0 Z = true) (i : Nat) {d : Jvm.Cond} (h : tables_1[i]? = some d) : d.before a0 Z = true := hw d (List.mem_of_getElem? h)
abbrev vR (a : Addr) : Slot := .val (.ref a)
abbrev vI (a : Int32) : Slot := .val (.int a)
abbrev vJ (a : Int64) : Slot := .val (.long a)
abbrev sU : Slot := .unset
abbrev sS : Slot := .second
section Own
variable {p : Program} {l : Launch} {e : Env} {R : Room} {s Z : State} {m : MethodId} {args : Array Value} {below : List Frame} {meth : Method} {c : Code} {T T' : State} {locs : List Loc} {cells slots kc ks : Nat} {Q : Option Value → Heap → List Loc → Prop} {g g' : JFrame} {h h' : Heap} {a : Addr} {C n d : String} {v : Value} {ws : List Addr}
theorem Con.of {y : MethodName} {bytes : ByteArray} {maxL : Nat} {ret : Option FieldType} {rm : Room} {cs : List Jvm.Cond} {as' : Array Value} {h0 : Heap} (hp : plainFor y = true)
    (body : ∀ p e s m below meth c s₁, Stand p l e rm s m as' below meth c s₁ [] 0 0 → p.tables.exec = Jvm.exec → Z.Warmed39 s.vm → c.code = bytes → c.maxLocals = maxL → s.vm.findClass y.cls = some m.cls → meth.name = y.name → meth.sig.returnType = ret → meth.locks = false → s₁.heap = h0 → s.heap = h0 → Go p e below s Q kc ks s₁ (entryFrame m as' maxL)) :
    Con l Z y bytes maxL ret rm cs as' h0 Q kc ks := by
  refine MetFree.of_bodySF hp hisR ?_
  intro p e s m args below meth c s₁ Bd hml0 hP hK
  obtain ⟨rfl, hZ, hh⟩ := hP
  exact body p e s m below meth c s₁ (Stand.of_body Bd) Bd.exec hZ Bd.bytes hml0 (findClass_of_methodNamed Bd.named) (name_of_methodNamed Bd.named Bd.method).1 Bd.returns Bd.notSynchronized (by rw [← hh, Bd.state]; rfl) hh
theorem ConH.of {hs : List (Nat × Nat × Nat × Nat)} {y : MethodName} {bytes : ByteArray} {maxL : Nat} {ret : Option FieldType} {rm : Room} {cs : List Jvm.Cond} {as' : Array Value} {h0 : Heap} (hp : plainFor y = true)
    (body : ∀ p e s m below meth c s₁, Stand p l e rm s m as' below meth c s₁ [] 0 0 → p.tables.exec = Jvm.exec → Z.Warmed39 s.vm → c.code = bytes → c.maxLocals = maxL → s.vm.findClass y.cls = some m.cls → meth.name = y.name → meth.sig.returnType = ret → meth.locks = false → s₁.heap = h0 → s.heap = h0 → Go p e below s Q kc ks s₁ (entryFrame m as' maxL)) :
    ConH hs l Z y bytes maxL ret rm cs as' h0 Q kc ks := by
  refine MetFree.of_bodySF hp hisWith ?_
  intro p e s m args below meth c s₁ Bd hml0 hP hK
  obtain ⟨rfl, hZ, hh⟩ := hP
  exact body p e s m below meth c s₁ (Stand.of_body Bd) Bd.exec hZ Bd.bytes hml0 (findClass_of_methodNamed Bd.named) (name_of_methodNamed Bd.named Bd.method).1 Bd.returns Bd.notSynchronized (by rw [← hh, Bd.state]; rfl) hh
theorem Go.step (st : ∀ target, Steps p.tables e below (T'.setTop g') target → Steps p.tables e below (T.setTop g) target) (k : Go p e below s Q kc ks T' g') : Go p e below s Q kc ks T g := by
  obtain ⟨s₂, o, h1, h2⟩ := k
  exact ⟨s₂, o, st _ h1, h2⟩
theorem Go.cast (q : g = g') (k : Go p e below s Q kc ks T g') : Go p e below s Q kc ks T g := q ▸ k
theorem Go.ret (X : Stand p l e R s m args below meth c T locs cells slots) {v : Option Value} (hv : meth.sig.returnType = none → v = none) (hlk : meth.locks = false) (hq : Q v T.heap locs) (hc : cells ≤ kc) (hs : slots ≤ ks)
    (st : ∀ fs, (∀ (f : JFrame) (acts : List Action), f.method = m → f.locked = none → f.entered = [] → (doReturn e (T.setTop f) acts v).1 = T.setFrames fs) → Steps p.tables e below (T.setTop g) (T.setFrames fs)) : Go p e below s Q kc ks T g := by
  obtain ⟨fs, hr, hrun, hended, hW, hsame⟩ := X.leave (v := v) hv hlk
  exact ⟨_, _, st fs hr, hrun, hended, v, locs, rfl, hq, ⟨_, rfl⟩, hW, hsame.mono hc hs⟩
theorem Go.retN (X : Stand p l e R s m args below meth c T locs cells slots) (hx : p.tables.exec = Jvm.exec) {pc : Nat} {Ls : Array Slot} {z : Int32} {t : FieldType} {rest : List Value} (hret : meth.sig.returnType = some t) (hlk : meth.locks = false) (ht : t = .boolean ∨ t = .byte ∨ t = .char ∨ t = .short)
    (hd : decode c.code pc = .ok (.ireturn, 1)) (hq : Q (some (.int (nar t z))) T.heap locs) (hc : cells ≤ kc) (hs : slots ≤ ks) : Go p e below s Q kc ks T (mkF m pc Ls (.int z :: rest)) :=
  Go.ret X (fun q => by rw [hret] at q; cases q) hlk hq hc hs fun fs hr => Jvm.RoadKit.retN X hx hret ht hd hr
theorem Go.retI (X : Stand p l e R s m args below meth c T locs cells slots) (hx : p.tables.exec = Jvm.exec) {pc : Nat} {Ls : Array Slot} {z : Int32} {rest : List Value} (hret : meth.sig.returnType = some .int) (hlk : meth.locks = false)
    (hd : decode c.code pc = .ok (.ireturn, 1)) (hq : Q (some (.int z)) T.heap locs) (hc : cells ≤ kc) (hs : slots ≤ ks) : Go p e below s Q kc ks T (mkF m pc Ls (.int z :: rest)) :=
  Go.ret X (fun q => by rw [hret] at q; cases q) hlk hq hc hs fun fs hr => retOut X hx hret rfl (Or.inl ⟨rfl, Or.inl rfl, z, rfl⟩) hd hr
theorem Go.retJ (X : Stand p l e R s m args below meth c T locs cells slots) (hx : p.tables.exec = Jvm.exec) {pc : Nat} {Ls : Array Slot} {z : Int64} {rest : List Value} (hret : meth.sig.returnType = some .long) (hlk : meth.locks = false)
    (hd : decode c.code pc = .ok (.lreturn, 1)) (hq : Q (some (.long z)) T.heap locs) (hc : cells ≤ kc) (hs : slots ≤ ks) : Go p e below s Q kc ks T (mkF m pc Ls (.long z :: rest)) :=
  Go.ret X (fun q => by rw [hret] at q; cases q) hlk hq hc hs fun fs hr => retOut X hx hret rfl (Or.inr (Or.inl ⟨rfl, rfl, z, rfl⟩)) hd hr
theorem Go.retA (X : Stand p l e R s m args below meth c T locs cells slots) (hx : p.tables.exec = Jvm.exec) {pc : Nat} {Ls : Array Slot} {w : Value} {t : FieldType} {rest : List Value} (hret : meth.sig.returnType = some t) (ht : t.isReference = true) (hlk : meth.locks = false) (hw : w.isRef = true)
    (hd : decode c.code pc = .ok (.areturn, 1)) (hq : Q (some w) T.heap locs) (hc : cells ≤ kc) (hs : slots ≤ ks) : Go p e below s Q kc ks T (mkF m pc Ls (w :: rest)) :=
  Go.ret X (fun q => by rw [hret] at q; cases q) hlk hq hc hs fun fs hr => retOut X hx hret (by cases t <;> first | (cases ht; done) | (cases w <;> first | rfl | (cases hw; done))) (Or.inr (Or.inr (Or.inr (Or.inr ⟨rfl, ht, hw⟩)))) hd hr
theorem Go.retV (X : Stand p l e R s m args below meth c T locs cells slots) (hx : p.tables.exec = Jvm.exec) {pc : Nat} {Ls : Array Slot} (hret : meth.sig.returnType = none) (hlk : meth.locks = false)
    (hd : decode c.code pc = .ok (.return_, 1)) (hq : Q none T.heap locs) (hc : cells ≤ kc) (hs : slots ≤ ks) : Go p e below s Q kc ks T (mkF m pc Ls []) :=
  Go.ret X (fun _ => rfl) hlk hq hc hs fun fs hr => X.returnOut hx hret hd hr
theorem own_sta_keep (F : Sta Z h C n d v) (K : Keep h h' ws) (q : ∀ x ∈ ws, ∀ c : Cell, h[x]? = some c → c.vm.isStatics = false) : Sta Z h' C n d v := by
  obtain ⟨cf, i, k, f, st, cell, h1, h2, h3, h4, h5, h6, h7⟩ := F
  refine ⟨cf, i, k, f, st, cell, h1, h2, h3, h4, K.2.1 _ _ h5 (fun hm => ?_), h6, h7⟩
  have := q _ hm _ h5
  rw [h6] at this; cases this
theorem own_plain (E : Exa Z h a C) : ∀ c : Cell, h[a]? = some c → c.vm.isStatics = false := fun c hc => by
  obtain ⟨cell, k, h1, -, -, h4, -⟩ := E
  cases h1.symm.trans hc; exact h4
theorem own_eqI {args : Array Value} {s : State} {t : Term} {k : Int32} (q : (Jvm.Cond.eq t (Jvm.Term.int k)).value args s none s [] = some true) : t.eval args s none [] s = some (.int k) := by
  obtain ⟨x, y, hx, hy, kin, kin'⟩ := cmp_v (Or.inl q)
  have hy' : y = .int k := (Option.some.inj hy).symm
  subst hy'
  obtain ⟨z, rfl⟩ := kin'
  have e : (Jvm.Cond.eq t (Jvm.Term.int k)).value args s none s [] = some (decide (z = k)) := by simp [Cond.value, hx, hy]
  rw [hx, gotT e q]
theorem Con.ret {y : MethodName} {bytes : ByteArray} {maxL n0 : Nat} {ret : Option FieldType} {rm : Room} {cs : List Jvm.Cond} {as' : Array Value} {h0 h1 : Heap} {r r' : Int32} (q : r = r') (k : Con l Z y bytes maxL ret rm cs as' h0 (Qret (some (.int r)) h1 n0) kc ks) : Con l Z y bytes maxL ret rm cs as' h0 (Qret (some (.int r')) h1 n0) kc ks := q ▸ k
theorem own_arr_keep {cl : Cell} {ty : FieldType} (F : Arr Z h a cl ty) (K : Keep h h' ws) (q : a ∉ ws) : Arr Z h' a cl ty := ⟨K.2.1 a cl F.1 q, F.2⟩
/-- an object whose chain of classes lacks the class K is no K -/
theorem own_noins {a0 : Array Value} {K : String} {t : List String} {k : Nat} (E : Exa Z h a C) (hw : ∀ w ∈ Cond.chainWords (C :: t), w.before a0 Z = true) (wi : (Jvm.Cond.instantiable K k).before a0 Z = true) (hn : K ∉ C :: t) : Ins Z h a K false := by
  obtain ⟨cell, kc, h1, h2, -, h4, -⟩ := E
  obtain ⟨cy, ky, y1, y2, y3, y4, -⟩ := Cond.instantiable_spec wi
  have y5 : ky.isInterface = false := by simp only [Bool.or_eq_false_iff] at y4; exact y4.1
  exact ⟨cell, cy, h1, y1, by rw [Vm.notAssignable_of_chain h2 y1 y2 y3 y5 hw hn]; simp⟩
theorem own_len {args : Array Value} {t : Term} {cl : Cell} {ty : FieldType} {z : Int32} (ev : t.eval args Z none [] Z = some (.ref a)) (A : Arr Z Z.heap a cl ty) (el : (Jvm.Term.length t).eval args Z none [] Z = some (.int z)) : cl.slots.size < 2 ^ 31 ∧ cl.slots.size.toInt32 = z := by
  have ha := A.fin (Vm.Alike.refl _)
  by_cases q : cl.slots.size < 2 ^ 31
  · rw [len_f ev ha q] at el
    exact ⟨q, Value.int.inj (Option.some.inj el)⟩
  · simp [Term.eval, ev, ha, q] at el
theorem own_sub_at {args : Array Value} {t : Term} {idx : List Nat} {y k : Int32} (q : t.eval args Z none idx Z = some (.int y)) : (Jvm.Term.sub t (Jvm.Term.int k)).eval args Z none idx Z = some (.int (y - k)) := by simp [Term.eval, q]
theorem own_ifc {P P' : Prop} [Decidable P] [Decidable P'] (q : P ↔ P') : (if P then (1 : Int32) else 0) = if P' then 1 else 0 := by
  by_cases r : P
  · rw [if_pos r, if_pos (q.mp r)]
  · rw [if_neg r, if_neg (fun t => r (q.mpr t))]
theorem own_nf {a0 : Array Value} {y y' : MethodName} (w : (Cond.selects C y' y').before a0 Z = true) (q : y'.cls = y.cls) (hi : (Cond.instanceMethod y').before a0 Z = true) : NotFace Z y := fun r0 h0 => by
  obtain ⟨mk, meth', hn, -⟩ := Cond.instanceMethod_spec hi
  obtain ⟨k, hk, hki⟩ := notFace_of_selects w mk hn
  have t : mk.cls = r0.cls := Option.some.inj ((findClass_of_methodNamed hn).symm.trans (q ▸ findClass_of_methodNamed h0))
  rw [t] at hk; exact ⟨k, hk, hki⟩
theorem own_samem {a0 : Array Value} {y : MethodName} (d : (Cond.declares y).before a0 Z = true) (nf : NotFace Z y) (hy : y.cls ≠ "java/lang/invoke/MethodHandle" ∧ y.cls ≠ "java/lang/invoke/VarHandle") : (Cond.sameMethod y.cls y.cls y.name y.desc).before a0 Z = true := by
  obtain ⟨mm, meth', hn, -⟩ := Cond.declares_spec d
  obtain ⟨k, hk, hki⟩ := nf mm hn
  have hf := State.methodFound?_of_named hn hy
  have hc := findClass_of_methodNamed hn
  have hn' : Z.methodNamed? ⟨y.cls, y.name, y.desc⟩ = some mm := hn
  simp [Cond.before, Cond.holds, Cond.value, hc, hf, hn', hk, hki]
theorem own_selP {a0 : Array Value} {y : MethodName} (w : (Cond.selects C y y).before a0 Z = true) (hp : (Cond.privateMethod y).before a0 Z = true) (hi : (Cond.instanceMethod y).before a0 Z = true) (hy : y.cls ≠ "java/lang/invoke/MethodHandle" ∧ y.cls ≠ "java/lang/invoke/VarHandle") : (Cond.selects y.cls y y).before a0 Z = true := by
  obtain ⟨mk, meth', hn, -⟩ := Cond.instanceMethod_spec hi
  obtain ⟨k, hk, hki⟩ := notFace_of_selects w mk hn
  exact selects_self_of_private (findClass_of_methodNamed hn) hk hki (Cond.privateMethod_at hp) hi hy
theorem own_nfs {y : MethodName} (hZ : Z.Warmed39 s.vm) (nf : NotFace Z y) : NotFace s y := NotFace.move hZ.alike nf
theorem own_padr (n : Nat) {d : Value} : ∀ i, (List.replicate n d).getD i d = ([] : List Value).getD i d := fun i => by
  simp only [List.getD_eq_getElem?_getD, List.getElem?_replicate]
  split <;> rfl
theorem own_noas {a0 : Array Value} {K : String} {t : List String} {k : Nat} (E : Exa Z h a C) (hw : ∀ w ∈ Cond.chainWords (C :: t), w.before a0 Z = true) (wi : (Jvm.Cond.instantiable K k).before a0 Z = true) (hn : K ∉ C :: t) : ∃ c t, Z.vm.findClass C = some c ∧ Z.vm.findClass K = some t ∧ Z.vm.assignable c t = false := by
  obtain ⟨cell, kc, h1, h2, -, h4, -⟩ := E
  obtain ⟨cy, ky, y1, y2, y3, y4, -⟩ := Cond.instantiable_spec wi
  have y5 : ky.isInterface = false := by simp only [Bool.or_eq_false_iff] at y4; exact y4.1
  exact ⟨_, cy, h2, y1, Vm.notAssignable_of_chain h2 y1 y2 y3 y5 hw hn⟩
theorem own_mvN {a0 args : Array Value} {own host : String} {index : Nat} {y : MethodName} (hZ : Z.Warmed39 s.vm) (w : (Cond.methodLinkNest own index y host).before a0 Z = true) : (Cond.methodLinkNest own index y host).before args s = true := (Cond.methodLinkNest_wide hZ w :)
theorem gs (m : MethodId) (T' : State) (pc : Nat) (Ls : Array Slot) (S : List Value) (st : ∀ target, Steps p.tables e below (T'.setTop (mkF m pc Ls S)) target → Steps p.tables e below (T.setTop g) target) (k : Go p e below s Q kc ks T' (mkF m pc Ls S)) : Go p e below s Q kc ks T g := Go.step st k
end Own
/-- Arrays.copyOf(Object[], int), by the library's own law of the same body: a fresh Object[] of the first n places -/
def Qcp (Z : State) (n : Nat) (vs : List Value) (h0 : Heap) (n0 : Nat) (v : Option Value) (h : Heap) (L : List Loc) : Prop := ∃ k : ClassId, v = some (.ref h0.size) ∧ Fr n0 L ∧ Ext h0 h ∧ Exa Z h h0.size "[Ljava/lang/Object;" ∧ Arv Z h h0.size k (.object "java/lang/Object") (Int32.ofNat n) (vs.take n) .null
section Cp
open Jvm.Free.CopyOfC Jvm.Free.SB Jvm.Free.SBG
theorem own_clampN {k : Nat} (h : k < 2147483648) : (Int32.ofNat k).toNatClampNeg = k := by rw [Int32.toNatClampNeg, Int32.toInt_ofNat_of_lt (by omega)]; rfl
theorem own_toIntN {k : Nat} (h : k < 2147483648) : (Int32.ofNat k).toInt = k := Int32.toInt_ofNat_of_lt (by omega)
theorem own_cp2 {p : Program} {l : Launch} {e : Env} {R : Room} {s Z : State} {args a0 : Array Value} {below : List Frame} {h : Heap} {a : Addr} {k : ClassId} {vs : List Value} {z : Int32} {n n0 W : Nat} (hZ : Z.Warmed39 s.vm) (htab : Copy2.tab.before a0 Z = true) (hts : Copy2.tab.before args s = true)
    (MM : MirrorMade Z "[Ljava/lang/Object;") (Vv : Arv Z h a k (.object "java/lang/Object") z vs .null) (E : Exa Z h a "[Ljava/lang/Object;") (OV : Ovr Z k "java/lang/Object") (hel : ∀ i, vs.getD i .null = .null ∨ ∃ y, vs.getD i .null = .ref y ∧ Ins Z h y "java/lang/Object" true)
    (hn : n ≤ z.toNatClampNeg) (hn2 : n ≤ 1000) (hz : z.toNatClampNeg ≤ 1000) (hvl : vs.length = z.toNatClampNeg) (hfr : 4 ≤ R.frames) (hlo : W + 77 ≤ R.locals) :
    Back l R p e below s args copy2N 3 W (fun A a' => a' = #[.ref a, .int (Int32.ofNat n)] ∧ A.U.heap = h ∧ A.cells + 1 ≤ R.cells ∧ A.slots + n ≤ R.slots)
      (fun A _ v B => ∃ L, Qcp Z n vs h n0 v B.U.heap L ∧ B.locs = A.locs ++ L ∧ B.cells = A.cells + 1 ∧ B.slots = A.slots + n) := by
  intro m meth c A g ig mk a' X hg hsz hd hWW hnm hpre
  obtain ⟨rfl, hh, hc, hs⟩ := hpre
  obtain ⟨cs, Ar, qk, Ssz, Mz, H, G⟩ := id Vv
  obtain ⟨cOA, kOA, mir, f1, f2, f3, -⟩ := MM
  have hW39 : Z.Warmed39 A.U.vm := wtrans hZ X.warmed
  have hal : Z.vm.Alike A.U.vm := hW39.alike
  obtain ⟨cellE, kE, e1, e2, e3, e4, -⟩ := id E
  cases Ar.1.symm.trans e1
  have eO : cs.cls = cOA := Option.some.inj (e2.symm.trans f1)
  obtain ⟨kV, comp, o1, o2, o3⟩ := OV
  have o1' : Z.vm.classes[cOA]? = some kV := by rw [← eO, qk]; exact o1
  cases f2.symm.trans o1'
  obtain ⟨kO', hkO', heq⟩ := hal.2.2 _ _ f2
  obtain ⟨kObj, hkObj, -⟩ := Vm.findClass_spec o3
  obtain ⟨kObj', hkObj', -⟩ := hal.2.2 _ _ hkObj
  obtain ⟨-, k0, k1, comp0, k2⟩ := State.isArrayOf_alike hal Ar.2.1
  have hP : Copy2.P n ⟨a, cs, Int32.ofNat n, mir, cOA, comp, mk.cls⟩ #[.ref a, .int (Int32.ofNat n)] A.U := by
    refine ⟨rfl, ⟨rfl, by show A.U.heap[a]? = some cs; rw [hh]; exact Ar.1, Ar.2.2, Ar.2.1.1, ⟨k0, comp0, _, k1, k2, rfl⟩, by show A.U.vm.findClass _ = _; rw [hal.findClass]; exact f1, ⟨kO', hkO', by rw [heq]; exact o2, by rw [heq]; exact f3⟩, by show A.U.vm.findClass _ = _; rw [hal.findClass]; exact o3, ⟨kObj', hkObj'⟩, findClass_of_methodNamed hnm, ?_, ?_, ?_, ?_, fun i hi => ?_⟩, ?_, eO⟩
    · show 0 ≤ (Int32.ofNat n).toInt
      rw [own_toIntN (by omega)]; exact Int.natCast_nonneg _
    · show (Int32.ofNat n).toNatClampNeg ≤ n
      rw [own_clampN (by omega)]; exact Nat.le_refl _
    · show (Int32.ofNat n).toNatClampNeg * 4 ≤ _
      rw [own_clampN (by omega)]; omega
    · show cs.slots.size < 2 ^ 31
      rw [Ssz]; omega
    · refine ⟨_, H i hi, ?_⟩
      rcases hel i with q | ⟨y, q, cv, cT, i1, i2, i3⟩
      · exact Or.inl q
      · cases o3.symm.trans i2
        simp only [Bool.and_eq_true, Bool.not_eq_true'] at i3
        obtain ⟨kk, hkk⟩ := Vm.classAt_of_assignable i3.2 (Vm.classAt_of_findClass o3)
        obtain ⟨kk', hkk', -⟩ := hal.2.2 _ _ hkk
        exact Or.inr ⟨y, cv, q, by rw [hh]; exact i1, (fun r hr => by rw [hr] at i3; cases i3.1), ⟨kk', hkk'⟩, by show A.U.vm.assignable _ _ = _; rw [hal.assignable]; exact i3.2⟩
    · exact Copy2.notFace_at (a := args) (Copy2.tab_warm X.warmed hts)
  obtain ⟨v, B, X', ⟨hv, hcell, hL, hcc, hss, hold⟩, st⟩ := Copy2.pays (l := l) (R := R) (p := p) (e := e) (below := below) (s := s) (sargs := args) (len := 3) (W := W) n ⟨a, cs, Int32.ofNat n, mir, cOA, comp, mk.cls⟩ hts hfr hlo m meth c A g ig mk _ X hg hsz hd hWW hnm ⟨hc, hs, hP⟩
  rw [hh] at hv hcell
  have hold' : ∀ (x : Addr) (c : Cell), h[x]? = some c → B.U.heap[x]? = some c := fun x c q => hold x c (by rw [hh]; exact q)
  have hsz' : h.size < B.U.heap.size := (Array.getElem?_eq_some_iff.mp hcell).1
  have hcl : (Int32.ofNat n).toNatClampNeg = n := own_clampN (by omega)
  have hmn : Copy3.mn ⟨a, cs, Int32.ofNat n, mir, cOA, comp, mk.cls⟩ = Int32.ofNat n := by
    show (if Int32.ofNat n < cs.slots.size.toInt32 then Int32.ofNat n else cs.slots.size.toInt32) = _
    split
    · rfl
    · rename_i hlt
      have e5 : cs.slots.size = n := by
        have q : ¬ (Int32.ofNat n).toInt < (Int32.ofNat cs.slots.size).toInt := fun r => hlt (Int32.lt_iff_toInt_lt.mpr r)
        rw [own_toIntN (by omega), own_toIntN (by omega)] at q
        omega
      show Int32.ofNat cs.slots.size = _
      rw [e5]
  have hfr' : Copy3.fresh ⟨a, cs, Int32.ofNat n, mir, cOA, comp, mk.cls⟩ = { cls := cOA, slots := Array.replicate n .null, vm := .none } := by
    show ({ cls := cOA, slots := Array.replicate (Int32.ofNat n).toNatClampNeg .null, vm := .none } : Cell) = _
    rw [hcl]
  have hcell' : B.U.heap[h.size]? = some (copied cs ({ cls := cOA, slots := Array.replicate n .null, vm := .none } : Cell) 0 0 (Int32.ofNat n)) := by
    have q := hcell
    rw [hmn, hfr'] at q
    exact q
  obtain ⟨g1, g2, g3⟩ := copied_facts cs ({ cls := cOA, slots := Array.replicate n .null, vm := .none } : Cell) 0 0 (Int32.ofNat n)
  have g3' : (copied cs ({ cls := cOA, slots := Array.replicate n .null, vm := .none } : Cell) 0 0 (Int32.ofNat n)).slots.size = n := by rw [g3]; simp
  have gat : ∀ i, i < n → (copied cs ({ cls := cOA, slots := Array.replicate n .null, vm := .none } : Cell) 0 0 (Int32.ofNat n)).slots[i]? = some (vs.getD i .null) := fun i hi => by
    have q := copied_at (cs := cs) (cd := ({ cls := cOA, slots := Array.replicate n .null, vm := .none } : Cell)) (p := 0) (n := n) (by decide) (by omega) (by simp) i
    rw [show (Int32.ofNat 0 : Int32) = 0 from rfl] at q
    rw [q, if_pos ⟨Nat.zero_le _, by omega⟩]
    have hiE : i < cs.slots.size := by omega
    have r := H i hiE
    rw [Array.getElem?_eq_getElem hiE] at r
    simp [Array.getD, hiE, Option.some.inj r]
  refine ⟨v, B, X', ⟨[], ⟨cOA, hv, Fr.nil _, ⟨Nat.le_of_lt hsz', hold'⟩, ?_, ?_⟩, by rw [hL, List.append_nil], hcc, by rw [hss]; show A.slots + (Int32.ofNat n).toNatClampNeg = _; rw [hcl]⟩, st⟩
  · exact ⟨_, kOA, hcell', by rw [g1]; exact f1, by rw [g1]; exact f2, by rw [g2]; rfl, fun q => by rw [o2] at q; cases q⟩
  · refine ⟨_, ⟨hcell', ⟨(fun q r => by rw [g2] at r; cases r), kOA, by rw [g1]; exact f2, comp, o2⟩, (by rw [g2]; intro r; cases r)⟩, g1, by rw [g3', hcl], ?_, fun i hi => ?_, fun i hi => ?_⟩
    · rw [Int32.lt_iff_toInt_lt, own_toIntN (by omega)]; show ¬ ((n : Int) < 0); omega
    · rw [g3'] at hi
      rw [gat i hi]
      simp only [List.getD_eq_getElem?_getD, List.getElem?_take_of_lt hi]
    · rw [g3'] at hi
      have r : (vs.take n).getD i .null = vs.getD i .null := by simp only [List.getD_eq_getElem?_getD, List.getElem?_take_of_lt hi]
      rw [r]; exact G i (by omega)
end Cp

open Jvm.Free.CopyOfC in
theorem own_tabS {s Z : State} {a0 args : Array Value} (hZ : Z.Warmed39 s.vm) (hw : ∀ d ∈ tables_1, d.before a0 Z = true) : Copy2.tab.before args s = true := by
  unfold Copy2.tab
  refine (conj_holds (args := args) (first := s) (o := none) (s := s) (idx := []) _ _).mpr ⟨(mvT hZ (hwi hw 197 rfl) : (Jvm.Cond.code _ _ _ _).before args s = true), fun d hd => ?_⟩
  simp only [Copy2.siteAtoms, List.mem_append, List.mem_cons, List.not_mem_nil, or_false] at hd
  rcases hd with (rfl | rfl | rfl | rfl | rfl | rfl | rfl | rfl) | rfl
  · exact mvT hZ (hwi hw 198 rfl)
  · exact mvT hZ (hwi hw 199 rfl)
  · exact mvT hZ (hwi hw 201 rfl)
  · exact mvT hZ (hwi hw 200 rfl)
  · exact mvT hZ (hwi hw 202 rfl)
  · exact mvT hZ (hwi hw 204 rfl)
  · exact mvT hZ (hwi hw 205 rfl)
  · exact mvT hZ (hwi hw 196 rfl)
  · unfold Copy3.tab
    refine (conj_holds (args := args) (first := s) (o := none) (s := s) (idx := []) _ _).mpr ⟨(mvT hZ (hwi hw 206 rfl) : (Jvm.Cond.code _ _ _ _).before args s = true), fun d hd => ?_⟩
    simp only [List.mem_cons, List.not_mem_nil, or_false] at hd
    rcases hd with rfl | rfl | rfl | rfl | rfl | rfl | rfl | rfl | rfl | rfl | rfl
    · exact mvT hZ (hwi hw 208 rfl)
    · exact Cond.arrayOver_alike hZ.alike (hwi hw 184 rfl)
    · exact mvT hZ (hwi hw 209 rfl)
    · exact mvT hZ (hwi hw 210 rfl)
    · exact mvT hZ (hwi hw 3 rfl)
    · exact mvT hZ (hwi hw 211 rfl)
    · exact mvT hZ (hwi hw 212 rfl)
    · exact mvT hZ (hwi hw 215 rfl)
    · exact mvT hZ (hwi hw 213 rfl)
    · exact mvT hZ (hwi hw 214 rfl)
    · exact mvT hZ (hwi hw 207 rfl)
theorem own_ef_jdk_22_method_1_code_R (m : MethodId) (x0 : Addr) : entryFrame m #[(.ref x0)] 1 = mkF m 0 #[vR (x0)] [] := by first | (simp [entryFrame, mkF, argsToLocals, Value.category]; done) | rfl | (simp [entryFrame, mkF, argsToLocals, own_cI, own_cJ, own_cR, own_cN]; done)
theorem own_pn_AbstractCollection : plainName "java/util/AbstractCollection" = true := by first | (simp [plainName, overriddenIn]; done) | decide +kernel
theorem q0 : decode jdk_22_method_1_code 0 = .ok (.aload_n 0, 1) := by decide +kernel
theorem q1 : decode jdk_22_method_1_code 1 = .ok (.invokespecial 1, 3) := by decide +kernel
theorem q2 : decode jdk_22_method_1_code 4 = .ok (.return_, 1) := by decide +kernel
theorem own_aco (l : Launch) (Z : State) (a0 : Array Value) (hw : ∀ d ∈ tables_1, d.before a0 Z = true) (ws : List Jvm.Cond) (a1 : Addr) (h0 : Heap) (n0 : Nat) (Z0 : n0 ≤ h0.size)   :
    Con l Z (⟨"java/util/AbstractCollection", "<init>", "()V"⟩ : MethodName) jdk_22_method_1_code 1 none ({ frames := 1, cells := 0, slots := 0, locals := 12 } : Room) ws #[(.ref a1)] h0 (Qret (none) h0 n0) 0 0 := by
  refine Con.of (plainFor_of_name own_pn_AbstractCollection) ?_
  intro pgm e s m below meth c s₁ X0 hx hZ hby hml hown hnm hret hlk e0 hs0
  have N0 := Fr.nil n0
  have hown : s.vm.findClass "java/util/AbstractCollection" = some m.cls := hown
  have hnm : meth.name = "<init>" := hnm
  refine Go.cast (own_ef_jdk_22_method_1_code_R m a1) ?_
  refine gs m s₁ 1 #[vR (a1)] [(.ref a1)] (fun _ k => XS.aloadN X0.here hx rfl (hb hby q0) rfl rfl k) ?_
  obtain ⟨T101, X101, e101, st101⟩ := initO X0 hx hZ hown (hwi hw 44 rfl) (hwi hw 20 rfl) (hwi hw 21 rfl) e0 (g := (mkF m 1 #[vR (a1)] [(.ref a1)])) rfl (by rw [hml]; rfl) rfl (hb hby q1) (by decide) (W := 0) (by show 2 * 0 + _ ≤ _; exact Nat.le_of_eq rfl) (by decide)
  refine gs m T101 4 #[vR (a1)] [] st101 ?_
  exact Go.retV X101 hx hret hlk (hb hby q2) (⟨rfl, N0, e101⟩) (by decide) (by decide)
theorem own_ef_jdk_30_method_1_code_R (m : MethodId) (x0 : Addr) : entryFrame m #[(.ref x0)] 1 = mkF m 0 #[vR (x0)] [] := by first | (simp [entryFrame, mkF, argsToLocals, Value.category]; done) | rfl | (simp [entryFrame, mkF, argsToLocals, own_cI, own_cJ, own_cR, own_cN]; done)
theorem own_pn_Record : plainName "java/lang/Record" = true := by first | (simp [plainName, overriddenIn]; done) | decide +kernel
theorem q3 : decode jdk_30_method_1_code 0 = .ok (.aload_n 0, 1) := by decide +kernel
theorem q4 : decode jdk_30_method_1_code 1 = .ok (.invokespecial 1, 3) := by decide +kernel
theorem q5 : decode jdk_30_method_1_code 4 = .ok (.return_, 1) := by decide +kernel
theorem own_rec (l : Launch) (Z : State) (a0 : Array Value) (hw : ∀ d ∈ tables_1, d.before a0 Z = true) (ws : List Jvm.Cond) (a1 : Addr) (h0 : Heap) (n0 : Nat) (Z0 : n0 ≤ h0.size)   :
    Con l Z (⟨"java/lang/Record", "<init>", "()V"⟩ : MethodName) jdk_30_method_1_code 1 none ({ frames := 1, cells := 0, slots := 0, locals := 12 } : Room) ws #[(.ref a1)] h0 (Qret (none) h0 n0) 0 0 := by
  refine Con.of (plainFor_of_name own_pn_Record) ?_
  intro pgm e s m below meth c s₁ X0 hx hZ hby hml hown hnm hret hlk e0 hs0
  have N0 := Fr.nil n0
  have hown : s.vm.findClass "java/lang/Record" = some m.cls := hown
  have hnm : meth.name = "<init>" := hnm
  refine Go.cast (own_ef_jdk_30_method_1_code_R m a1) ?_
  refine gs m s₁ 1 #[vR (a1)] [(.ref a1)] (fun _ k => XS.aloadN X0.here hx rfl (hb hby q3) rfl rfl k) ?_
  obtain ⟨T101, X101, e101, st101⟩ := initO X0 hx hZ hown (hwi hw 61 rfl) (hwi hw 20 rfl) (hwi hw 21 rfl) e0 (g := (mkF m 1 #[vR (a1)] [(.ref a1)])) rfl (by rw [hml]; rfl) rfl (hb hby q4) (by decide) (W := 0) (by show 2 * 0 + _ ≤ _; exact Nat.le_of_eq rfl) (by decide)
  refine gs m T101 4 #[vR (a1)] [] st101 ?_
  exact Go.retV X101 hx hret hlk (hb hby q5) (⟨rfl, N0, e101⟩) (by decide) (by decide)
theorem own_ef_jdk_47_method_1_code_R (m : MethodId) (x0 : Addr) : entryFrame m #[(.ref x0)] 1 = mkF m 0 #[vR (x0)] [] := by first | (simp [entryFrame, mkF, argsToLocals, Value.category]; done) | rfl | (simp [entryFrame, mkF, argsToLocals, own_cI, own_cJ, own_cR, own_cN]; done)
theorem own_pn_ImmutableCollections_AbstractImmutableCollection : plainName "java/util/ImmutableCollections$AbstractImmutableCollection" = true := by first | (simp [plainName, overriddenIn]; done) | decide +kernel
theorem q6 : decode jdk_47_method_1_code 0 = .ok (.aload_n 0, 1) := by decide +kernel
theorem q7 : decode jdk_47_method_1_code 1 = .ok (.invokespecial 1, 3) := by decide +kernel
theorem own_pd0 : parseMethodDescriptor "()V" = some ⟨[], none⟩ := by decide +kernel
theorem q8 : decode jdk_47_method_1_code 4 = .ok (.return_, 1) := by decide +kernel
theorem own_aic (l : Launch) (Z : State) (a0 : Array Value) (hw : ∀ d ∈ tables_1, d.before a0 Z = true) (ws : List Jvm.Cond) (a1 : Addr) (h0 : Heap) (n0 : Nat) (Z0 : n0 ≤ h0.size)   :
    Con l Z (⟨"java/util/ImmutableCollections$AbstractImmutableCollection", "<init>", "()V"⟩ : MethodName) jdk_47_method_1_code 1 none ({ frames := 2, cells := 0, slots := 0, locals := 24 } : Room) ws #[(.ref a1)] h0 (Qret (none) h0 n0) 0 0 := by
  refine Con.of (plainFor_of_name own_pn_ImmutableCollections_AbstractImmutableCollection) ?_
  intro pgm e s m below meth c s₁ X0 hx hZ hby hml hown hnm hret hlk e0 hs0
  have N0 := Fr.nil n0
  have hown : s.vm.findClass "java/util/ImmutableCollections$AbstractImmutableCollection" = some m.cls := hown
  have hnm : meth.name = "<init>" := hnm
  refine Go.cast (own_ef_jdk_47_method_1_code_R m a1) ?_
  refine gs m s₁ 1 #[vR (a1)] [(.ref a1)] (fun _ k => XS.aloadN X0.here hx rfl (hb hby q6) rfl rfl k) ?_
  obtain ⟨_, _, ⟨T101, L101, k101, n101⟩, -, X101, ⟨Lc101, hQ101, l101, y101, z101⟩, st101⟩ := X0.specialBack hx (y := (⟨"java/util/AbstractCollection", "<init>", "()V"⟩ : MethodName)) rfl hown (mvT hZ (hwi hw 243 rfl)) (mvT hZ (hwi hw 39 rfl)) (mvT hZ (hwi hw 43 rfl)) (by decide) (backOf (W := 0) (Q := Qret (none) h0 n0) (own_aco l Z a0 hw [] a1 h0 n0 Z0 ) hZ (hwi hw 43 rfl) (hwi hw 42 rfl) (by decide) (by decide)) (g := (mkF m 1 #[vR (a1)] [(.ref a1)])) rfl (by rw [hml]; rfl) (Steps.refl _) (a := a1) (argsL := []) (rest := []) (lenOf own_pd0 rfl) rfl (by show 2 * 0 + _ ≤ _; exact Nat.le_of_eq rfl) (hb hby q7) (fun _ _ => ⟨rfl, e0, (by decide : 0 + 0 ≤ _), (by decide : 0 + 0 ≤ _)⟩)
  dsimp only [Pt.U, Pt.locs, Pt.cells, Pt.slots] at X101 l101 y101 z101 st101 hQ101
  subst l101 y101 z101
  obtain ⟨rfl, N101q, eh101⟩ := hQ101
  have N101 := Fr.app N0 N101q
  refine gs m T101 4 #[vR (a1)] [] (fun _ k => st101.trans k) ?_
  exact Go.retV X101 hx hret hlk (hb hby q8) (⟨rfl, N101, eh101⟩) (by decide) (by decide)
theorem own_ef_jdk_46_method_1_code_R (m : MethodId) (x0 : Addr) : entryFrame m #[(.ref x0)] 1 = mkF m 0 #[vR (x0)] [] := by first | (simp [entryFrame, mkF, argsToLocals, Value.category]; done) | rfl | (simp [entryFrame, mkF, argsToLocals, own_cI, own_cJ, own_cR, own_cN]; done)
theorem own_pn_ImmutableCollections_AbstractImmutableList : plainName "java/util/ImmutableCollections$AbstractImmutableList" = true := by first | (simp [plainName, overriddenIn]; done) | decide +kernel
theorem q9 : decode jdk_46_method_1_code 0 = .ok (.aload_n 0, 1) := by decide +kernel
theorem qa : decode jdk_46_method_1_code 1 = .ok (.invokespecial 1, 3) := by decide +kernel
theorem qb : decode jdk_46_method_1_code 4 = .ok (.return_, 1) := by decide +kernel
theorem own_ail (l : Launch) (Z : State) (a0 : Array Value) (hw : ∀ d ∈ tables_1, d.before a0 Z = true) (ws : List Jvm.Cond) (a1 : Addr) (h0 : Heap) (n0 : Nat) (Z0 : n0 ≤ h0.size)   :
    Con l Z (⟨"java/util/ImmutableCollections$AbstractImmutableList", "<init>", "()V"⟩ : MethodName) jdk_46_method_1_code 1 none ({ frames := 3, cells := 0, slots := 0, locals := 36 } : Room) ws #[(.ref a1)] h0 (Qret (none) h0 n0) 0 0 := by
  refine Con.of (plainFor_of_name own_pn_ImmutableCollections_AbstractImmutableList) ?_
  intro pgm e s m below meth c s₁ X0 hx hZ hby hml hown hnm hret hlk e0 hs0
  have N0 := Fr.nil n0
  have hown : s.vm.findClass "java/util/ImmutableCollections$AbstractImmutableList" = some m.cls := hown
  have hnm : meth.name = "<init>" := hnm
  refine Go.cast (own_ef_jdk_46_method_1_code_R m a1) ?_
  refine gs m s₁ 1 #[vR (a1)] [(.ref a1)] (fun _ k => XS.aloadN X0.here hx rfl (hb hby q9) rfl rfl k) ?_
  obtain ⟨_, _, ⟨T101, L101, k101, n101⟩, -, X101, ⟨Lc101, hQ101, l101, y101, z101⟩, st101⟩ := X0.specialBack hx (y := (⟨"java/util/ImmutableCollections$AbstractImmutableCollection", "<init>", "()V"⟩ : MethodName)) rfl hown (mvT hZ (hwi hw 237 rfl)) (mvT hZ (hwi hw 238 rfl)) (mvT hZ (hwi hw 242 rfl)) (by decide) (backOf (W := 0) (Q := Qret (none) h0 n0) (own_aic l Z a0 hw [] a1 h0 n0 Z0 ) hZ (hwi hw 242 rfl) (hwi hw 241 rfl) (by decide) (by decide)) (g := (mkF m 1 #[vR (a1)] [(.ref a1)])) rfl (by rw [hml]; rfl) (Steps.refl _) (a := a1) (argsL := []) (rest := []) (lenOf own_pd0 rfl) rfl (by show 2 * 0 + _ ≤ _; exact Nat.le_of_eq rfl) (hb hby qa) (fun _ _ => ⟨rfl, e0, (by decide : 0 + 0 ≤ _), (by decide : 0 + 0 ≤ _)⟩)
  dsimp only [Pt.U, Pt.locs, Pt.cells, Pt.slots] at X101 l101 y101 z101 st101 hQ101
  subst l101 y101 z101
  obtain ⟨rfl, N101q, eh101⟩ := hQ101
  have N101 := Fr.app N0 N101q
  refine gs m T101 4 #[vR (a1)] [] (fun _ k => st101.trans k) ?_
  exact Go.retV X101 hx hret hlk (hb hby qb) (⟨rfl, N101, eh101⟩) (by decide) (by decide)
theorem own_ef_jdk_39_method_1_code_R (m : MethodId) (x0 : Addr) : entryFrame m #[(.ref x0)] 1 = mkF m 0 #[vR (x0)] [] := by first | (simp [entryFrame, mkF, argsToLocals, Value.category]; done) | rfl | (simp [entryFrame, mkF, argsToLocals, own_cI, own_cJ, own_cR, own_cN]; done)
theorem own_pn_AbstractList : plainName "java/util/AbstractList" = true := by first | (simp [plainName, overriddenIn]; done) | decide +kernel
theorem qc : decode jdk_39_method_1_code 0 = .ok (.aload_n 0, 1) := by decide +kernel
theorem qd : decode jdk_39_method_1_code 1 = .ok (.invokespecial 1, 3) := by decide +kernel
theorem qe : decode jdk_39_method_1_code 4 = .ok (.aload_n 0, 1) := by decide +kernel
theorem qf : decode jdk_39_method_1_code 5 = .ok (.iconst 0, 1) := by decide +kernel
theorem qg : decode jdk_39_method_1_code 6 = .ok (.putfield 7, 3) := by decide +kernel
theorem qh : decode jdk_39_method_1_code 9 = .ok (.return_, 1) := by decide +kernel
theorem own_ali (l : Launch) (Z : State) (a0 : Array Value) (hw : ∀ d ∈ tables_1, d.before a0 Z = true) (ws : List Jvm.Cond) (a1 : Addr) (u0 : Value) (u1 : Value) (u2 : Value) (h0 : Heap) (n0 : Nat) (Z0 : n0 ≤ h0.size) (f0 : Exa Z h0 a1 "java/util/ArrayList") (f1 : n0 ≤ a1) (f2 : Fld Z h0 a1 "java/util/AbstractList" "modCount" "I" u0) (f3 : Fld Z h0 a1 "java/util/ArrayList" "elementData" "[Ljava/lang/Object;" u1) (f4 : Fld Z h0 a1 "java/util/ArrayList" "size" "I" u2)  :
    Con l Z (⟨"java/util/AbstractList", "<init>", "()V"⟩ : MethodName) jdk_39_method_1_code 1 none ({ frames := 2, cells := 0, slots := 0, locals := 24 } : Room) ws #[(.ref a1)] h0 (fun v h L => (v = none) ∧ (Fr n0 L) ∧ (Keep h0 h [a1]) ∧ (Exa Z h a1 "java/util/ArrayList") ∧ (Fld Z h a1 "java/util/AbstractList" "modCount" "I" (.int (0 : Int32))) ∧ (Fld Z h a1 "java/util/ArrayList" "elementData" "[Ljava/lang/Object;" u1) ∧ (Fld Z h a1 "java/util/ArrayList" "size" "I" u2)) 0 0 := by
  refine Con.of (plainFor_of_name own_pn_AbstractList) ?_
  intro pgm e s m below meth c s₁ X0 hx hZ hby hml hown hnm hret hlk e0 hs0
  have N0 := Fr.nil n0
  have hown : s.vm.findClass "java/util/AbstractList" = some m.cls := hown
  have hnm : meth.name = "<init>" := hnm
  refine Go.cast (own_ef_jdk_39_method_1_code_R m a1) ?_
  have K0 := Keep.refl h0 [a1]
  refine gs m s₁ 1 #[vR (a1)] [(.ref a1)] (fun _ k => XS.aloadN X0.here hx rfl (hb hby qc) rfl rfl k) ?_
  obtain ⟨_, _, ⟨T101, L101, k101, n101⟩, -, X101, ⟨Lc101, hQ101, l101, y101, z101⟩, st101⟩ := X0.specialBack hx (y := (⟨"java/util/AbstractCollection", "<init>", "()V"⟩ : MethodName)) rfl hown (mvT hZ (hwi hw 38 rfl)) (mvT hZ (hwi hw 39 rfl)) (mvT hZ (hwi hw 43 rfl)) (by decide) (backOf (W := 0) (Q := Qret (none) h0 n0) (own_aco l Z a0 hw [] a1 h0 n0 Z0 ) hZ (hwi hw 43 rfl) (hwi hw 42 rfl) (by decide) (by decide)) (g := (mkF m 1 #[vR (a1)] [(.ref a1)])) rfl (by rw [hml]; rfl) (Steps.refl _) (a := a1) (argsL := []) (rest := []) (lenOf own_pd0 rfl) rfl (by show 2 * 0 + _ ≤ _; exact Nat.le_of_eq rfl) (hb hby qd) (fun _ _ => ⟨rfl, e0, (by decide : 0 + 0 ≤ _), (by decide : 0 + 0 ≤ _)⟩)
  dsimp only [Pt.U, Pt.locs, Pt.cells, Pt.slots] at X101 l101 y101 z101 st101 hQ101
  subst l101 y101 z101
  obtain ⟨rfl, N101q, eh101⟩ := hQ101
  have N101 := Fr.app N0 N101q
  refine gs m T101 4 #[vR (a1)] [] (fun _ k => st101.trans k) ?_
  refine gs m T101 5 #[vR (a1)] [(.ref a1)] (fun _ k => XS.aloadN X101.here hx rfl (hb hby qe) rfl rfl k) ?_
  refine gs m T101 6 #[vR (a1)] [(.int (0 : Int32)), (.ref a1)] (fun _ k => XS.iconst X101.here hx rfl (hb hby qf) k) ?_
  obtain ⟨T102, h102, X102, e102, W102, st102⟩ := putF X101 hx hZ hown (host := "") (Or.inl (hwi hw 45 rfl)) Via.refl eh101 f2 f0 (Or.inl (hwi hw 46 rfl)) (hwi hw 27 rfl) (ty := .int) (by decide) rfl rfl (g := (mkF m 6 #[vR (a1)] [(.int (0 : Int32)), (.ref a1)])) rfl rfl (hb hby qg)
  have N102 := Fr.snoc X102 N101 f1
  have Z102 : n0 ≤ h102.size := Nat.le_trans Z0 (Keep.of_wr W102).1
  have K102 := K0.wr W102 (Or.inl (List.mem_of_getElem? (i := 0) rfl))
  have F103 := f0.wr W102
  have F104 := f3.other W102 (Or.inr (slot_ne (Or.inl (hwi hw 49 rfl)) (Or.inl (hwi hw 46 rfl)) (by decide) (t := (.array (.object "java/lang/Object"))) (t' := .int) (by decide) (by decide)))
  have F105 := f4.other W102 (Or.inr (slot_ne (Or.inl (hwi hw 86 rfl)) (Or.inl (hwi hw 46 rfl)) (by decide) (t := .int) (t' := .int) (by decide) (by decide)))
  have F106 := f2.same W102
  refine gs m T102 9 #[vR (a1)] [] st102 ?_
  exact Go.retV X102 hx hret hlk (hb hby qh) (by rw [e102]; exact ⟨rfl, N102, K102, F103, F106, F104, F105⟩) (by decide) (by decide)
theorem own_ef_jdk_38_method_2_code_R (m : MethodId) (x0 : Addr) : entryFrame m #[(.ref x0)] 1 = mkF m 0 #[vR (x0)] [] := by first | (simp [entryFrame, mkF, argsToLocals, Value.category]; done) | rfl | (simp [entryFrame, mkF, argsToLocals, own_cI, own_cJ, own_cR, own_cN]; done)
theorem own_pn_ArrayList : plainName "java/util/ArrayList" = true := by first | (simp [plainName, overriddenIn]; done) | decide +kernel
theorem qi : decode jdk_38_method_2_code 0 = .ok (.aload_n 0, 1) := by decide +kernel
theorem qj : decode jdk_38_method_2_code 1 = .ok (.invokespecial 1, 3) := by decide +kernel
theorem qk : decode jdk_38_method_2_code 4 = .ok (.aload_n 0, 1) := by decide +kernel
theorem ql : decode jdk_38_method_2_code 5 = .ok (.getstatic 39, 3) := by decide +kernel
theorem qm : decode jdk_38_method_2_code 8 = .ok (.putfield 9, 3) := by decide +kernel
theorem qn : decode jdk_38_method_2_code 11 = .ok (.return_, 1) := by decide +kernel
theorem own_al (l : Launch) (Z : State) (a0 : Array Value) (hw : ∀ d ∈ tables_1, d.before a0 Z = true) (ws : List Jvm.Cond) (a1 : Addr) (u0 : Value) (u1 : Value) (ea : Addr) (h0 : Heap) (n0 : Nat) (Z0 : n0 ≤ h0.size) (f0 : Exa Z h0 a1 "java/util/ArrayList") (f1 : n0 ≤ a1) (f2 : Fld Z h0 a1 "java/util/AbstractList" "modCount" "I" u0) (f3 : Fld Z h0 a1 "java/util/ArrayList" "elementData" "[Ljava/lang/Object;" u1) (f4 : Fld Z h0 a1 "java/util/ArrayList" "size" "I" (.int (0 : Int32))) (f5 : Sta Z h0 "java/util/ArrayList" "DEFAULTCAPACITY_EMPTY_ELEMENTDATA" "[Ljava/lang/Object;" (.ref ea))  :
    Con l Z (⟨"java/util/ArrayList", "<init>", "()V"⟩ : MethodName) jdk_38_method_2_code 1 none ({ frames := 3, cells := 0, slots := 0, locals := 36 } : Room) ws #[(.ref a1)] h0 (fun v h L => (v = none) ∧ (Fr n0 L) ∧ (Keep h0 h [a1]) ∧ (Exa Z h a1 "java/util/ArrayList") ∧ (Fld Z h a1 "java/util/AbstractList" "modCount" "I" (.int (0 : Int32))) ∧ (Fld Z h a1 "java/util/ArrayList" "elementData" "[Ljava/lang/Object;" (.ref ea)) ∧ (Fld Z h a1 "java/util/ArrayList" "size" "I" (.int (0 : Int32)))) 0 0 := by
  refine Con.of (plainFor_of_name own_pn_ArrayList) ?_
  intro pgm e s m below meth c s₁ X0 hx hZ hby hml hown hnm hret hlk e0 hs0
  have N0 := Fr.nil n0
  have hown : s.vm.findClass "java/util/ArrayList" = some m.cls := hown
  have hnm : meth.name = "<init>" := hnm
  refine Go.cast (own_ef_jdk_38_method_2_code_R m a1) ?_
  have K0 := Keep.refl h0 [a1]
  refine gs m s₁ 1 #[vR (a1)] [(.ref a1)] (fun _ k => XS.aloadN X0.here hx rfl (hb hby qi) rfl rfl k) ?_
  obtain ⟨_, _, ⟨T101, L101, k101, n101⟩, -, X101, ⟨Lc101, hQ101, l101, y101, z101⟩, st101⟩ := X0.specialBack hx (y := (⟨"java/util/AbstractList", "<init>", "()V"⟩ : MethodName)) rfl hown (mvT hZ (hwi hw 32 rfl)) (mvT hZ (hwi hw 33 rfl)) (mvT hZ (hwi hw 37 rfl)) (by decide) (backOf (W := 0) (Q := fun v h L => (v = none) ∧ (Fr n0 L) ∧ (Keep h0 h [a1]) ∧ (Exa Z h a1 "java/util/ArrayList") ∧ (Fld Z h a1 "java/util/AbstractList" "modCount" "I" (.int (0 : Int32))) ∧ (Fld Z h a1 "java/util/ArrayList" "elementData" "[Ljava/lang/Object;" u1) ∧ (Fld Z h a1 "java/util/ArrayList" "size" "I" (.int (0 : Int32)))) (own_ali l Z a0 hw [] a1 u0 u1 (.int (0 : Int32)) h0 n0 Z0 f0 f1 f2 f3 f4) hZ (hwi hw 37 rfl) (hwi hw 36 rfl) (by decide) (by decide)) (g := (mkF m 1 #[vR (a1)] [(.ref a1)])) rfl (by rw [hml]; rfl) (Steps.refl _) (a := a1) (argsL := []) (rest := []) (lenOf own_pd0 rfl) rfl (by show 2 * 0 + _ ≤ _; exact Nat.le_of_eq rfl) (hb hby qj) (fun _ _ => ⟨rfl, e0, (by decide : 0 + 0 ≤ _), (by decide : 0 + 0 ≤ _)⟩)
  dsimp only [Pt.U, Pt.locs, Pt.cells, Pt.slots] at X101 l101 y101 z101 st101 hQ101
  subst l101 y101 z101
  obtain ⟨rfl, N101q, K101, P101_0, P101_1, P101_2, P101_3⟩ := hQ101
  have N101 := Fr.app N0 N101q
  have KK101 := K0.trans K101 (allS (Or.inl (List.mem_of_getElem? (i := 0) rfl)) all0)
  have Z101 : n0 ≤ T101.heap.size := Nat.le_trans Z0 K101.1
  have F102 := f0.keep K101
  have F103 := own_sta_keep f5 K101 (allS (own_plain f0) all0)
  refine gs m T101 4 #[vR (a1)] [] (fun _ k => st101.trans k) ?_
  refine gs m T101 5 #[vR (a1)] [(.ref a1)] (fun _ k => XS.aloadN X101.here hx rfl (hb hby qk) rfl rfl k) ?_
  obtain ⟨T104, X104, e104, st104⟩ := getS2 X101 hx hZ hown (host := "") (Or.inl (hwi hw 47 rfl)) Via.refl rfl F103 (g := (mkF m 5 #[vR (a1)] [(.ref a1)])) rfl (hb hby ql)
  refine gs m T104 8 #[vR (a1)] [(.ref ea), (.ref a1)] st104 ?_
  obtain ⟨T105, h105, X105, e105, W105, st105⟩ := putF X104 hx hZ hown (host := "") (Or.inl (hwi hw 48 rfl)) Via.refl e104 P101_2 P101_0 (Or.inl (hwi hw 49 rfl)) (hwi hw 27 rfl) (ty := (.array (.object "java/lang/Object"))) (by decide) rfl rfl (g := (mkF m 8 #[vR (a1)] [(.ref ea), (.ref a1)])) rfl rfl (hb hby qm)
  have N105 := Fr.snoc X105 N101 f1
  have Z105 : n0 ≤ h105.size := Nat.le_trans Z101 (Keep.of_wr W105).1
  have K105 := KK101.wr W105 (Or.inl (List.mem_of_getElem? (i := 0) rfl))
  have F106 := P101_0.wr W105
  have F107 := F103.wr W105
  have F108 := P101_1.other W105 (Or.inr (slot_ne (Or.inl (hwi hw 46 rfl)) (Or.inl (hwi hw 49 rfl)) (by decide) (t := .int) (t' := (.array (.object "java/lang/Object"))) (by decide) (by decide)))
  have F109 := P101_3.other W105 (Or.inr (slot_ne (Or.inl (hwi hw 86 rfl)) (Or.inl (hwi hw 49 rfl)) (by decide) (t := .int) (t' := (.array (.object "java/lang/Object"))) (by decide) (by decide)))
  have F110 := P101_2.same W105
  refine gs m T105 11 #[vR (a1)] [] st105 ?_
  exact Go.retV X105 hx hret hlk (hb hby qn) (by rw [e105]; exact ⟨rfl, N105, K105, F106, F108, F110, F109⟩) (by decide) (by decide)
theorem own_ef_jdk_29_method_65_code_II (m : MethodId) (x0 : Int32) (x1 : Int32) : entryFrame m #[(.int x0), (.int x1)] 2 = mkF m 0 #[vI (x0), vI (x1)] [] := by first | (simp [entryFrame, mkF, argsToLocals, Value.category]; done) | rfl | (simp [entryFrame, mkF, argsToLocals, own_cI, own_cJ, own_cR, own_cN]; done)
theorem qo : decode jdk_29_method_65_code 0 = .ok (.iload_n 0, 1) := by decide +kernel
theorem qp : decode jdk_29_method_65_code 1 = .ok (.iload_n 1, 1) := by decide +kernel
theorem qq : decode jdk_29_method_65_code 2 = .ok (.if_icmp .lt 7, 3) := by decide +kernel
theorem qr : decode jdk_29_method_65_code 5 = .ok (.iload_n 0, 1) := by decide +kernel
theorem qs : decode jdk_29_method_65_code 6 = .ok (.goto 4, 3) := by decide +kernel
theorem qt : decode jdk_29_method_65_code 10 = .ok (.ireturn, 1) := by decide +kernel
theorem own_max10 (l : Launch) (Z : State) (a0 : Array Value) (hw : ∀ d ∈ tables_1, d.before a0 Z = true) (ws : List Jvm.Cond)  (h0 : Heap) (n0 : Nat) (Z0 : n0 ≤ h0.size)   :
    Con l Z (⟨"java/lang/Math", "max", "(II)I"⟩ : MethodName) jdk_29_method_65_code 2 (some .int) ({ frames := 0, cells := 0, slots := 0, locals := 0 } : Room) ws #[(.int (10 : Int32)), (.int (1 : Int32))] h0 (Qret (some (.int (10 : Int32))) h0 n0) 0 0 := by
  refine Con.of (Jvm.Free.JP.mathPlain rfl (by decide +kernel)) ?_
  intro pgm e s m below meth c s₁ X0 hx hZ hby hml hown hnm hret hlk e0 hs0
  have N0 := Fr.nil n0
  have hown : s.vm.findClass "java/lang/Math" = some m.cls := hown
  have hnm : meth.name = "max" := hnm
  refine Go.cast (own_ef_jdk_29_method_65_code_II m (10 : Int32) (1 : Int32)) ?_
  refine gs m s₁ 1 #[vI ((10 : Int32)), vI ((1 : Int32))] [(.int (10 : Int32))] (fun _ k => XS.iloadN X0.here hx rfl (hb hby qo) rfl  k) ?_
  refine gs m s₁ 2 #[vI ((10 : Int32)), vI ((1 : Int32))] [(.int (1 : Int32)), (.int (10 : Int32))] (fun _ k => XS.iloadN X0.here hx rfl (hb hby qp) rfl  k) ?_
  refine gs m s₁ 5 #[vI ((10 : Int32)), vI ((1 : Int32))] [] (fun _ k => XS.icmpNo X0.here hx rfl (hb hby qq) rfl (flt (by decide : ¬ ((10 : Int32) < (1 : Int32)))).1 k) ?_
  refine gs m s₁ 6 #[vI ((10 : Int32)), vI ((1 : Int32))] [(.int (10 : Int32))] (fun _ k => XS.iloadN X0.here hx rfl (hb hby qr) rfl  k) ?_
  refine gs m s₁ 10 #[vI ((10 : Int32)), vI ((1 : Int32))] [(.int (10 : Int32))] (fun _ k => XS.goto X0.here hx rfl (pc0 := 6) (pc' := 10) rfl (hb hby qs) (by decide) (by decide) k) ?_
  exact Go.retI X0 hx hret hlk (hb hby qt) (⟨rfl, N0, e0⟩) (by decide) (by decide)
theorem own_ef_jdk_38_method_6_code_RI (m : MethodId) (x0 : Addr) (x1 : Int32) : entryFrame m #[(.ref x0), (.int x1)] 4 = mkF m 0 #[vR (x0), vI (x1), sU, sU] [] := by first | (simp [entryFrame, mkF, argsToLocals, Value.category]; done) | rfl | (simp [entryFrame, mkF, argsToLocals, own_cI, own_cJ, own_cR, own_cN]; done)
theorem qu : decode jdk_38_method_6_code 0 = .ok (.aload_n 0, 1) := by decide +kernel
theorem qv : decode jdk_38_method_6_code 1 = .ok (.getfield 9, 3) := by decide +kernel
theorem qw : decode jdk_38_method_6_code 4 = .ok (.arraylength, 1) := by decide +kernel
theorem qx : decode jdk_38_method_6_code 5 = .ok (.istore_n 2, 1) := by decide +kernel
theorem qy : decode jdk_38_method_6_code 6 = .ok (.iload_n 2, 1) := by decide +kernel
theorem qz : decode jdk_38_method_6_code 7 = .ok (.ifCond .gt 13, 3) := by decide +kernel
theorem q10 : decode jdk_38_method_6_code 10 = .ok (.aload_n 0, 1) := by decide +kernel
theorem q11 : decode jdk_38_method_6_code 11 = .ok (.getfield 9, 3) := by decide +kernel
theorem q12 : decode jdk_38_method_6_code 14 = .ok (.getstatic 39, 3) := by decide +kernel
theorem q13 : decode jdk_38_method_6_code 17 = .ok (.if_acmp .eq 28, 3) := by decide +kernel
theorem q14 : decode jdk_38_method_6_code 45 = .ok (.aload_n 0, 1) := by decide +kernel
theorem q15 : decode jdk_38_method_6_code 46 = .ok (.bipush 10, 2) := by decide +kernel
theorem q16 : decode jdk_38_method_6_code 48 = .ok (.iload_n 1, 1) := by decide +kernel
theorem q17 : decode jdk_38_method_6_code 49 = .ok (.invokestatic 79, 3) := by decide +kernel
theorem own_pd1 : parseMethodDescriptor "(II)I" = some ⟨[.int, .int], some .int⟩ := by decide +kernel
theorem q18 : decode jdk_38_method_6_code 52 = .ok (.anewarray 7, 3) := by decide +kernel
theorem q19 : decode jdk_38_method_6_code 55 = .ok (.dup_x1, 1) := by decide +kernel
theorem q1a : decode jdk_38_method_6_code 56 = .ok (.putfield 9, 3) := by decide +kernel
theorem q1b : decode jdk_38_method_6_code 59 = .ok (.areturn, 1) := by decide +kernel
theorem own_growI (l : Launch) (Z : State) (a0 : Array Value) (hw : ∀ d ∈ tables_1, d.before a0 Z = true) (ws : List Jvm.Cond) (a1 : Addr) (ea : Addr) (ke : ClassId) (mc : Int32) (h0 : Heap) (n0 : Nat) (Z0 : n0 ≤ h0.size) (f0 : Exa Z h0 a1 "java/util/ArrayList") (f1 : n0 ≤ a1) (f2 : Fld Z h0 a1 "java/util/AbstractList" "modCount" "I" (.int mc)) (f3 : Fld Z h0 a1 "java/util/ArrayList" "elementData" "[Ljava/lang/Object;" (.ref ea)) (f4 : Fld Z h0 a1 "java/util/ArrayList" "size" "I" (.int (0 : Int32))) (f5 : Sta Z h0 "java/util/ArrayList" "DEFAULTCAPACITY_EMPTY_ELEMENTDATA" "[Ljava/lang/Object;" (.ref ea)) (f6 : Arv Z h0 ea ke (.object "java/lang/Object") (0 : Int32) [] .null) (f7 : ea ≠ a1)  :
    Con l Z (⟨"java/util/ArrayList", "grow", "(I)[Ljava/lang/Object;"⟩ : MethodName) jdk_38_method_6_code 4 (some (.array (.object "java/lang/Object"))) ({ frames := 1, cells := 1, slots := 10, locals := 14 } : Room) ws #[(.ref a1), (.int (1 : Int32))] h0 (fun v h L => ∃ b : Addr, ∃ kb : ClassId, (v = some (.ref b)) ∧ (Fr n0 L) ∧ (Keep h0 h [a1]) ∧ (h0.size ≤ b) ∧ (Exa Z h a1 "java/util/ArrayList") ∧ (Fld Z h a1 "java/util/AbstractList" "modCount" "I" (.int mc)) ∧ (Fld Z h a1 "java/util/ArrayList" "elementData" "[Ljava/lang/Object;" (.ref b)) ∧ (Fld Z h a1 "java/util/ArrayList" "size" "I" (.int (0 : Int32))) ∧ (Exa Z h b "[Ljava/lang/Object;") ∧ (Arv Z h b kb (.object "java/lang/Object") (10 : Int32) [.null, .null, .null, .null, .null, .null, .null, .null, .null, .null] .null) ∧ (Ovr Z kb "java/lang/Object")) 1 10 := by
  refine Con.of (plainFor_of_name own_pn_ArrayList) ?_
  intro pgm e s m below meth c s₁ X0 hx hZ hby hml hown hnm hret hlk e0 hs0
  have N0 := Fr.nil n0
  have hown : s.vm.findClass "java/util/ArrayList" = some m.cls := hown
  have hnm : meth.name = "grow" := hnm
  refine Go.cast (own_ef_jdk_38_method_6_code_RI m a1 (1 : Int32)) ?_
  have K0 := Keep.refl h0 [a1]
  refine gs m s₁ 1 #[vR (a1), vI ((1 : Int32)), sU, sU] [(.ref a1)] (fun _ k => XS.aloadN X0.here hx rfl (hb hby qu) rfl rfl k) ?_
  obtain ⟨T101, X101, e101, st101⟩ := getF X0 hx hZ hown (host := "") (Or.inl (hwi hw 48 rfl)) Via.refl e0 f3 (g := (mkF m 1 #[vR (a1), vI ((1 : Int32)), sU, sU] [(.ref a1)])) rfl rfl (hb hby qv)
  refine gs m T101 4 #[vR (a1), vI ((1 : Int32)), sU, sU] [(.ref ea)] st101 ?_
  obtain ⟨cl102, Ar102, -, S102, M102, -, -⟩ := id f6
  refine gs m T101 5 #[vR (a1), vI ((1 : Int32)), sU, sU] [(.int (0 : Int32))] (fun _ k => X101.arraylength hx (cell := cl102) (by rw [e101]; exact Ar102.1) (State.isArrayOf_alike hZ.alike Ar102.2.1) (g := (mkF m 4 #[vR (a1), vI ((1 : Int32)), sU, sU] [(.ref ea)])) rfl (rest := []) rfl (hb hby qw) _ (by rw [len_of S102 M102]; exact k)) ?_
  refine gs m T101 6 #[vR (a1), vI ((1 : Int32)), vI ((0 : Int32)), sU] [] (fun _ k => XS.istoreN X101.here hx rfl (hb hby qx) rfl (l' := #[vR (a1), vI ((1 : Int32)), vI ((0 : Int32)), sU]) rfl k) ?_
  refine gs m T101 7 #[vR (a1), vI ((1 : Int32)), vI ((0 : Int32)), sU] [(.int (0 : Int32))] (fun _ k => XS.iloadN X101.here hx rfl (hb hby qy) rfl  k) ?_
  refine gs m T101 10 #[vR (a1), vI ((1 : Int32)), vI ((0 : Int32)), sU] [] (fun _ k => XS.ifNo X101.here hx rfl (hb hby qz) rfl ((if0 _ _).trans (flt (by decide : ¬ ((0 : Int32) < (0 : Int32)))).2.2.1) k) ?_
  refine gs m T101 11 #[vR (a1), vI ((1 : Int32)), vI ((0 : Int32)), sU] [(.ref a1)] (fun _ k => XS.aloadN X101.here hx rfl (hb hby q10) rfl rfl k) ?_
  obtain ⟨T103, X103, e103, st103⟩ := getF X101 hx hZ hown (host := "") (Or.inl (hwi hw 48 rfl)) Via.refl e101 f3 (g := (mkF m 11 #[vR (a1), vI ((1 : Int32)), vI ((0 : Int32)), sU] [(.ref a1)])) rfl rfl (hb hby q11)
  refine gs m T103 14 #[vR (a1), vI ((1 : Int32)), vI ((0 : Int32)), sU] [(.ref ea)] st103 ?_
  obtain ⟨T104, X104, e104, st104⟩ := getS2 X103 hx hZ hown (host := "") (Or.inl (hwi hw 47 rfl)) Via.refl e103 f5 (g := (mkF m 14 #[vR (a1), vI ((1 : Int32)), vI ((0 : Int32)), sU] [(.ref ea)])) rfl (hb hby q12)
  refine gs m T104 17 #[vR (a1), vI ((1 : Int32)), vI ((0 : Int32)), sU] [(.ref ea), (.ref ea)] st104 ?_
  refine gs m T104 45 #[vR (a1), vI ((1 : Int32)), vI ((0 : Int32)), sU] [] (fun _ k => Jvm.RoadKit.acmp (g := (mkF m 17 #[vR (a1), vI ((1 : Int32)), vI ((0 : Int32)), sU] [(.ref ea), (.ref ea)])) X104 hx rfl rfl rfl (pc0 := 17) (pc' := 45) (same := true) rfl (hb hby q13) rfl (decide_eq_true rfl) (by decide) (by decide) k) ?_
  refine gs m T104 46 #[vR (a1), vI ((1 : Int32)), vI ((0 : Int32)), sU] [(.ref a1)] (fun _ k => XS.aloadN X104.here hx rfl (hb hby q14) rfl rfl k) ?_
  refine gs m T104 48 #[vR (a1), vI ((1 : Int32)), vI ((0 : Int32)), sU] [(.int (10 : Int32)), (.ref a1)] (fun _ k => XS.bipush X104.here hx rfl (hb hby q15) k) ?_
  refine gs m T104 49 #[vR (a1), vI ((1 : Int32)), vI ((0 : Int32)), sU] [(.int (1 : Int32)), (.int (10 : Int32)), (.ref a1)] (fun _ k => XS.iloadN X104.here hx rfl (hb hby q16) rfl  k) ?_
  obtain ⟨_, _, ⟨T105, L105, k105, n105⟩, -, X105, ⟨Lc105, hQ105, l105, y105, z105⟩, st105⟩ := Jvm.LawKit.callS X104 hx (y := (⟨"java/lang/Math", "max", "(II)I"⟩ : MethodName)) hown (mvT hZ (hwi hw 182 rfl)) (mvT hZ (hwi hw 2 rfl)) (mvT hZ (hwi hw 3 rfl)) (mvT hZ (hwi hw 4 rfl)) (by decide) (backOf (W := 1) (Q := Qret (some (.int (10 : Int32))) h0 n0) (own_max10 l Z a0 hw []  h0 n0 Z0 ) hZ (hwi hw 4 rfl) (hwi hw 3 rfl) (by decide) (by decide)) (g := (mkF m 49 #[vR (a1), vI ((1 : Int32)), vI ((0 : Int32)), sU] [(.int (1 : Int32)), (.int (10 : Int32)), (.ref a1)])) rfl (by rw [hml]; rfl) (argsL := [(.int (10 : Int32)), (.int (1 : Int32))]) (rest := [(.ref a1)]) (lenOf own_pd1 rfl) rfl (by show 2 * 0 + _ ≤ _; exact Nat.le_of_eq rfl) (hb hby q17) (fun _ _ => ⟨rfl, e104, (by decide : 0 + 0 ≤ _), (by decide : 0 + 0 ≤ _)⟩)
  dsimp only [Pt.U, Pt.locs, Pt.cells, Pt.slots] at X105 l105 y105 z105 st105 hQ105
  subst l105 y105 z105
  obtain ⟨rfl, N105q, eh105⟩ := hQ105
  have N105 := Fr.app N0 N105q
  refine gs m T105 52 #[vR (a1), vI ((1 : Int32)), vI ((0 : Int32)), sU] [(.int (10 : Int32)), (.ref a1)] (st105) ?_
  obtain ⟨T106, h106, k106, X106, e106, E106, A106, EA106, OV106, st106⟩ := newRE X105 hx hZ hown (hwi hw 183 rfl) (hwi hw 184 rfl) eh105 (g := (mkF m 52 #[vR (a1), vI ((1 : Int32)), vI ((0 : Int32)), sU] [(.int (10 : Int32)), (.ref a1)])) rfl (hb hby q18) rfl (by decide) (cap := 10) (by decide) (by decide) (by decide) (by decide) (ad := "[Ljava/lang/Object;") (by decide)
  obtain ⟨b106, g106⟩ : ∃ z, z = h0.size := ⟨_, rfl⟩
  rw [← g106] at A106 EA106 st106
  have ne107 : a1 ≠ b106 := by have q := f0.lt; intro r; rw [r, g106] at q; exact Nat.lt_irrefl _ q
  have ne108 : ea ≠ b106 := by have q := f6.lt; intro r; rw [r, g106] at q; exact Nat.lt_irrefl _ q
  have ge106 : n0 ≤ b106 := Nat.le_trans Z0 (Nat.le_of_eq g106.symm)
  have Z106 : n0 ≤ h106.size := Nat.le_trans Z0 E106.1
  have sz106 : h0.size ≤ b106 := Nat.le_trans K0.1 (Nat.le_of_eq g106.symm)
  have K106 := K0.ext E106
  have F109 := f0.ext E106
  have F110 := f2.ext E106
  have F111 := f3.ext E106
  have F112 := f4.ext E106
  have F113 := f5.ext E106
  have F114 := f6.ext E106
  have V106 : Arv Z h106 b106 k106 (.object "java/lang/Object") (10 : Int32) [.null, .null, .null, .null, .null, .null, .null, .null, .null, .null] .null := (Arv.new A106 (by decide)).pad (pad_rep [] .null 10)
  refine gs m T106 55 #[vR (a1), vI ((1 : Int32)), vI ((0 : Int32)), sU] [(.ref b106), (.ref a1)] st106 ?_
  refine gs m T106 56 #[vR (a1), vI ((1 : Int32)), vI ((0 : Int32)), sU] [(.ref b106), (.ref a1), (.ref b106)] (fun _ k => XS.dupX1 X106.here hx rfl (hb hby q19) rfl rfl rfl k) ?_
  obtain ⟨T115, h115, X115, e115, W115, st115⟩ := putF X106 hx hZ hown (host := "") (Or.inl (hwi hw 48 rfl)) Via.refl e106 F111 F109 (Or.inl (hwi hw 49 rfl)) (hwi hw 27 rfl) (ty := (.array (.object "java/lang/Object"))) (by decide) rfl rfl (g := (mkF m 56 #[vR (a1), vI ((1 : Int32)), vI ((0 : Int32)), sU] [(.ref b106), (.ref a1), (.ref b106)])) rfl rfl (hb hby q1a)
  have N115 := Fr.snoc X115 N105 f1
  have Z115 : n0 ≤ h115.size := Nat.le_trans Z106 (Keep.of_wr W115).1
  have K115 := K106.wr W115 (Or.inl (List.mem_of_getElem? (i := 0) rfl))
  have F116 := F109.wr W115
  have F117 := F110.other W115 (Or.inr (slot_ne (Or.inl (hwi hw 46 rfl)) (Or.inl (hwi hw 49 rfl)) (by decide) (t := .int) (t' := (.array (.object "java/lang/Object"))) (by decide) (by decide)))
  have F118 := F112.other W115 (Or.inr (slot_ne (Or.inl (hwi hw 86 rfl)) (Or.inl (hwi hw 49 rfl)) (by decide) (t := .int) (t' := (.array (.object "java/lang/Object"))) (by decide) (by decide)))
  have F119 := F113.wr W115
  have F120 := F114.other W115 f7
  have F121 := V106.other W115 (Ne.symm ne107)
  have F122 := EA106.wr W115
  have F123 := F111.same W115
  refine gs m T115 59 #[vR (a1), vI ((1 : Int32)), vI ((0 : Int32)), sU] [(.ref b106)] st115 ?_
  exact Go.retA X115 hx (t := (.array (.object "java/lang/Object"))) hret rfl hlk rfl (hb hby q1b) (by rw [e115]; exact ⟨b106, k106, rfl, N115, K115, sz106, F116, F117, F123, F118, F122, F121, OV106⟩) (by decide) (by decide)
theorem own_ef_jdk_38_method_7_code_R (m : MethodId) (x0 : Addr) : entryFrame m #[(.ref x0)] 1 = mkF m 0 #[vR (x0)] [] := by first | (simp [entryFrame, mkF, argsToLocals, Value.category]; done) | rfl | (simp [entryFrame, mkF, argsToLocals, own_cI, own_cJ, own_cR, own_cN]; done)
theorem q1c : decode jdk_38_method_7_code 0 = .ok (.aload_n 0, 1) := by decide +kernel
theorem q1d : decode jdk_38_method_7_code 1 = .ok (.aload_n 0, 1) := by decide +kernel
theorem q1e : decode jdk_38_method_7_code 2 = .ok (.getfield 48, 3) := by decide +kernel
theorem q1f : decode jdk_38_method_7_code 5 = .ok (.iconst 1, 1) := by decide +kernel
theorem q1g : decode jdk_38_method_7_code 6 = .ok (.iadd, 1) := by decide +kernel
theorem q1h : decode jdk_38_method_7_code 7 = .ok (.invokevirtual 69, 3) := by decide +kernel
theorem own_pd2 : parseMethodDescriptor "(I)[Ljava/lang/Object;" = some ⟨[.int], some (.array (.object "java/lang/Object"))⟩ := by decide +kernel
theorem q1i : decode jdk_38_method_7_code 10 = .ok (.areturn, 1) := by decide +kernel
theorem own_grow (l : Launch) (Z : State) (a0 : Array Value) (hw : ∀ d ∈ tables_1, d.before a0 Z = true) (ws : List Jvm.Cond) (a1 : Addr) (ea : Addr) (ke : ClassId) (mc : Int32) (h0 : Heap) (n0 : Nat) (Z0 : n0 ≤ h0.size) (f0 : Exa Z h0 a1 "java/util/ArrayList") (f1 : n0 ≤ a1) (f2 : Fld Z h0 a1 "java/util/AbstractList" "modCount" "I" (.int mc)) (f3 : Fld Z h0 a1 "java/util/ArrayList" "elementData" "[Ljava/lang/Object;" (.ref ea)) (f4 : Fld Z h0 a1 "java/util/ArrayList" "size" "I" (.int (0 : Int32))) (f5 : Sta Z h0 "java/util/ArrayList" "DEFAULTCAPACITY_EMPTY_ELEMENTDATA" "[Ljava/lang/Object;" (.ref ea)) (f6 : Arv Z h0 ea ke (.object "java/lang/Object") (0 : Int32) [] .null) (f7 : ea ≠ a1)  :
    Con l Z (⟨"java/util/ArrayList", "grow", "()[Ljava/lang/Object;"⟩ : MethodName) jdk_38_method_7_code 1 (some (.array (.object "java/lang/Object"))) ({ frames := 2, cells := 1, slots := 10, locals := 29 } : Room) ws #[(.ref a1)] h0 (fun v h L => ∃ b : Addr, ∃ kb : ClassId, (v = some (.ref b)) ∧ (Fr n0 L) ∧ (Keep h0 h [a1]) ∧ (h0.size ≤ b) ∧ (Exa Z h a1 "java/util/ArrayList") ∧ (Fld Z h a1 "java/util/AbstractList" "modCount" "I" (.int mc)) ∧ (Fld Z h a1 "java/util/ArrayList" "elementData" "[Ljava/lang/Object;" (.ref b)) ∧ (Fld Z h a1 "java/util/ArrayList" "size" "I" (.int (0 : Int32))) ∧ (Exa Z h b "[Ljava/lang/Object;") ∧ (Arv Z h b kb (.object "java/lang/Object") (10 : Int32) [.null, .null, .null, .null, .null, .null, .null, .null, .null, .null] .null) ∧ (Ovr Z kb "java/lang/Object")) 1 10 := by
  refine Con.of (plainFor_of_name own_pn_ArrayList) ?_
  intro pgm e s m below meth c s₁ X0 hx hZ hby hml hown hnm hret hlk e0 hs0
  have N0 := Fr.nil n0
  have hown : s.vm.findClass "java/util/ArrayList" = some m.cls := hown
  have hnm : meth.name = "grow" := hnm
  refine Go.cast (own_ef_jdk_38_method_7_code_R m a1) ?_
  have K0 := Keep.refl h0 [a1]
  refine gs m s₁ 1 #[vR (a1)] [(.ref a1)] (fun _ k => XS.aloadN X0.here hx rfl (hb hby q1c) rfl rfl k) ?_
  refine gs m s₁ 2 #[vR (a1)] [(.ref a1), (.ref a1)] (fun _ k => XS.aloadN X0.here hx rfl (hb hby q1d) rfl rfl k) ?_
  obtain ⟨T101, X101, e101, st101⟩ := getF X0 hx hZ hown (host := "") (Or.inl (hwi hw 85 rfl)) Via.refl e0 f4 (g := (mkF m 2 #[vR (a1)] [(.ref a1), (.ref a1)])) rfl rfl (hb hby q1e)
  refine gs m T101 5 #[vR (a1)] [(.int (0 : Int32)), (.ref a1)] st101 ?_
  refine gs m T101 6 #[vR (a1)] [(.int (1 : Int32)), (.int (0 : Int32)), (.ref a1)] (fun _ k => XS.iconst X101.here hx rfl (hb hby q1f) k) ?_
  refine gs m T101 7 #[vR (a1)] [(.int (1 : Int32)), (.ref a1)] (fun _ k => XS.iadd X101.here hx rfl (hb hby q1g) rfl k) ?_
  obtain ⟨cq102, q102, q102'⟩ := f0.cell
  obtain ⟨_, _, ⟨T102, L102, k102, n102⟩, -, X102, ⟨Lc102, hQ102, l102, y102, z102⟩, st102⟩ := X101.privateBack hx (y := (⟨"java/util/ArrayList", "grow", "(I)[Ljava/lang/Object;"⟩ : MethodName)) hown (mvT hZ (hwi hw 177 rfl)) (mvT hZ (hwi hw 178 rfl)) (mvT hZ (hwi hw 180 rfl)) (Cond.privateMethod_at (mvP hZ (hwi hw 179 rfl) (args := #[]))) (mvT hZ (hwi hw 181 rfl)) (by decide) (backOf (W := 0) (Q := fun v h L => ∃ b : Addr, ∃ kb : ClassId, (v = some (.ref b)) ∧ (Fr n0 L) ∧ (Keep h0 h [a1]) ∧ (h0.size ≤ b) ∧ (Exa Z h a1 "java/util/ArrayList") ∧ (Fld Z h a1 "java/util/AbstractList" "modCount" "I" (.int mc)) ∧ (Fld Z h a1 "java/util/ArrayList" "elementData" "[Ljava/lang/Object;" (.ref b)) ∧ (Fld Z h a1 "java/util/ArrayList" "size" "I" (.int (0 : Int32))) ∧ (Exa Z h b "[Ljava/lang/Object;") ∧ (Arv Z h b kb (.object "java/lang/Object") (10 : Int32) [.null, .null, .null, .null, .null, .null, .null, .null, .null, .null] .null) ∧ (Ovr Z kb "java/lang/Object")) (own_growI l Z a0 hw [] a1 ea ke mc h0 n0 Z0 f0 f1 f2 f3 f4 f5 f6 f7) hZ (hwi hw 181 rfl) (hwi hw 28 rfl) (by decide) (by decide)) (g := (mkF m 7 #[vR (a1)] [(.int (1 : Int32)), (.ref a1)])) rfl (by rw [hml]; rfl) (Steps.refl _) (a := a1) (by rw [e101]; exact q102) q102' (argsL := [(.int (1 : Int32))]) (rest := []) (lenOf own_pd2 rfl) rfl (by show 2 * 0 + _ ≤ _; exact Nat.le_of_eq rfl) (hb hby q1h) (fun _ _ => ⟨rfl, e101, (by decide : 0 + 1 ≤ _), (by decide : 0 + 10 ≤ _)⟩)
  dsimp only [Pt.U, Pt.locs, Pt.cells, Pt.slots] at X102 l102 y102 z102 st102 hQ102
  subst l102 y102 z102
  obtain ⟨b_102, kb_102, rfl, N102q, K102, lt102_0, P102_0, P102_1, P102_2, P102_3, P102_4, P102_5, R102_0⟩ := hQ102
  have N102 := Fr.app N0 N102q
  have ne103 : a1 ≠ b_102 := Nat.ne_of_lt (Nat.lt_of_lt_of_le f0.lt lt102_0)
  have ne104 : ea ≠ b_102 := Nat.ne_of_lt (Nat.lt_of_lt_of_le f6.lt lt102_0)
  have ge105 : n0 ≤ b_102 := Nat.le_trans Z0 lt102_0
  have sz106 : h0.size ≤ b_102 := Nat.le_trans K0.1 lt102_0
  have KK102 := K0.trans K102 (allS (Or.inl (List.mem_of_getElem? (i := 0) rfl)) all0)
  have Z102 : n0 ≤ T102.heap.size := Nat.le_trans Z0 K102.1
  have F107 := f0.keep K102
  have F108 := own_sta_keep f5 K102 (allS (own_plain f0) all0)
  have F109 := f6.keep K102 (ninS f7 nin0)
  refine gs m T102 10 #[vR (a1)] [(.ref b_102)] (fun _ k => st102.trans k) ?_
  exact Go.retA X102 hx (t := (.array (.object "java/lang/Object"))) hret rfl hlk rfl (hb hby q1i) (⟨b_102, kb_102, rfl, N102, KK102, sz106, P102_0, P102_1, P102_2, P102_3, P102_4, P102_5, R102_0⟩) (by decide) (by decide)
theorem own_ef_jdk_38_method_24_code_RRRI (m : MethodId) (x0 : Addr) (x1 : Addr) (x2 : Addr) (x3 : Int32) : entryFrame m #[(.ref x0), (.ref x1), (.ref x2), (.int x3)] 4 = mkF m 0 #[vR (x0), vR (x1), vR (x2), vI (x3)] [] := by first | (simp [entryFrame, mkF, argsToLocals, Value.category]; done) | rfl | (simp [entryFrame, mkF, argsToLocals, own_cI, own_cJ, own_cR, own_cN]; done)
theorem q1j : decode jdk_38_method_24_code 0 = .ok (.iload_n 3, 1) := by decide +kernel
theorem q1k : decode jdk_38_method_24_code 1 = .ok (.aload_n 2, 1) := by decide +kernel
theorem q1l : decode jdk_38_method_24_code 2 = .ok (.arraylength, 1) := by decide +kernel
theorem q1m : decode jdk_38_method_24_code 3 = .ok (.if_icmp .ne 8, 3) := by decide +kernel
theorem q1n : decode jdk_38_method_24_code 6 = .ok (.aload_n 0, 1) := by decide +kernel
theorem q1o : decode jdk_38_method_24_code 7 = .ok (.invokevirtual 129, 3) := by decide +kernel
theorem own_pd3 : parseMethodDescriptor "()[Ljava/lang/Object;" = some ⟨[], some (.array (.object "java/lang/Object"))⟩ := by decide +kernel
theorem q1p : decode jdk_38_method_24_code 10 = .ok (.astore_n 2, 1) := by decide +kernel
theorem q1q : decode jdk_38_method_24_code 11 = .ok (.aload_n 2, 1) := by decide +kernel
theorem q1r : decode jdk_38_method_24_code 12 = .ok (.iload_n 3, 1) := by decide +kernel
theorem q1s : decode jdk_38_method_24_code 13 = .ok (.aload_n 1, 1) := by decide +kernel
theorem q1t : decode jdk_38_method_24_code 14 = .ok (.aastore, 1) := by decide +kernel
theorem q1u : decode jdk_38_method_24_code 15 = .ok (.aload_n 0, 1) := by decide +kernel
theorem q1v : decode jdk_38_method_24_code 16 = .ok (.iload_n 3, 1) := by decide +kernel
theorem q1w : decode jdk_38_method_24_code 17 = .ok (.iconst 1, 1) := by decide +kernel
theorem q1x : decode jdk_38_method_24_code 18 = .ok (.iadd, 1) := by decide +kernel
theorem q1y : decode jdk_38_method_24_code 19 = .ok (.putfield 48, 3) := by decide +kernel
theorem q1z : decode jdk_38_method_24_code 22 = .ok (.return_, 1) := by decide +kernel
theorem own_addh0 (l : Launch) (Z : State) (a0 : Array Value) (hw : ∀ d ∈ tables_1, d.before a0 Z = true) (ws : List Jvm.Cond) (a1 : Addr) (x1 : Addr) (ea : Addr) (ke : ClassId) (mc : Int32) (h0 : Heap) (n0 : Nat) (Z0 : n0 ≤ h0.size) (f0 : Exa Z h0 a1 "java/util/ArrayList") (f1 : n0 ≤ a1) (f2 : Fld Z h0 a1 "java/util/AbstractList" "modCount" "I" (.int mc)) (f3 : Fld Z h0 a1 "java/util/ArrayList" "elementData" "[Ljava/lang/Object;" (.ref ea)) (f4 : Fld Z h0 a1 "java/util/ArrayList" "size" "I" (.int (0 : Int32))) (f5 : Sta Z h0 "java/util/ArrayList" "DEFAULTCAPACITY_EMPTY_ELEMENTDATA" "[Ljava/lang/Object;" (.ref ea)) (f6 : Arv Z h0 ea ke (.object "java/lang/Object") (0 : Int32) [] .null) (f7 : ea ≠ a1) (f8 : Exa Z h0 x1 "java/time/Duration")  :
    Con l Z (⟨"java/util/ArrayList", "add", "(Ljava/lang/Object;[Ljava/lang/Object;I)V"⟩ : MethodName) jdk_38_method_24_code 4 none ({ frames := 3, cells := 1, slots := 10, locals := 41 } : Room) ws #[(.ref a1), (.ref x1), (.ref ea), (.int (0 : Int32))] h0 (fun v h L => ∃ b : Addr, ∃ kb : ClassId, (v = none) ∧ (Fr n0 L) ∧ (Keep h0 h [a1]) ∧ (h0.size ≤ b) ∧ (Exa Z h a1 "java/util/ArrayList") ∧ (Fld Z h a1 "java/util/AbstractList" "modCount" "I" (.int mc)) ∧ (Fld Z h a1 "java/util/ArrayList" "elementData" "[Ljava/lang/Object;" (.ref b)) ∧ (Fld Z h a1 "java/util/ArrayList" "size" "I" (.int (1 : Int32))) ∧ (Exa Z h b "[Ljava/lang/Object;") ∧ (Arv Z h b kb (.object "java/lang/Object") (10 : Int32) [(.ref x1), .null, .null, .null, .null, .null, .null, .null, .null, .null] .null) ∧ (Ovr Z kb "java/lang/Object")) 1 10 := by
  refine Con.of (plainFor_of_name own_pn_ArrayList) ?_
  intro pgm e s m below meth c s₁ X0 hx hZ hby hml hown hnm hret hlk e0 hs0
  have N0 := Fr.nil n0
  have hown : s.vm.findClass "java/util/ArrayList" = some m.cls := hown
  have hnm : meth.name = "add" := hnm
  refine Go.cast (own_ef_jdk_38_method_24_code_RRRI m a1 x1 ea (0 : Int32)) ?_
  have K0 := Keep.refl h0 [a1]
  refine gs m s₁ 1 #[vR (a1), vR (x1), vR (ea), vI ((0 : Int32))] [(.int (0 : Int32))] (fun _ k => XS.iloadN X0.here hx rfl (hb hby q1j) rfl  k) ?_
  refine gs m s₁ 2 #[vR (a1), vR (x1), vR (ea), vI ((0 : Int32))] [(.ref ea), (.int (0 : Int32))] (fun _ k => XS.aloadN X0.here hx rfl (hb hby q1k) rfl rfl k) ?_
  obtain ⟨cl101, Ar101, -, S101, M101, -, -⟩ := id f6
  refine gs m s₁ 3 #[vR (a1), vR (x1), vR (ea), vI ((0 : Int32))] [(.int (0 : Int32)), (.int (0 : Int32))] (fun _ k => X0.arraylength hx (cell := cl101) (by rw [e0]; exact Ar101.1) (State.isArrayOf_alike hZ.alike Ar101.2.1) (g := (mkF m 2 #[vR (a1), vR (x1), vR (ea), vI ((0 : Int32))] [(.ref ea), (.int (0 : Int32))])) rfl (rest := [(.int (0 : Int32))]) rfl (hb hby q1l) _ (by rw [len_of S101 M101]; exact k)) ?_
  refine gs m s₁ 6 #[vR (a1), vR (x1), vR (ea), vI ((0 : Int32))] [] (fun _ k => XS.icmpNo X0.here hx rfl (hb hby q1m) rfl (teq (by decide : (0 : Int32) = (0 : Int32))).2 k) ?_
  refine gs m s₁ 7 #[vR (a1), vR (x1), vR (ea), vI ((0 : Int32))] [(.ref a1)] (fun _ k => XS.aloadN X0.here hx rfl (hb hby q1n) rfl rfl k) ?_
  obtain ⟨cq102, q102, q102'⟩ := f0.cell
  obtain ⟨_, _, ⟨T102, L102, k102, n102⟩, -, X102, ⟨Lc102, hQ102, l102, y102, z102⟩, st102⟩ := X0.privateBack hx (y := (⟨"java/util/ArrayList", "grow", "()[Ljava/lang/Object;"⟩ : MethodName)) hown (mvT hZ (hwi hw 172 rfl)) (mvT hZ (hwi hw 173 rfl)) (mvT hZ (hwi hw 175 rfl)) (Cond.privateMethod_at (mvP hZ (hwi hw 174 rfl) (args := #[]))) (mvT hZ (hwi hw 176 rfl)) (by decide) (backOf (W := 0) (Q := fun v h L => ∃ b : Addr, ∃ kb : ClassId, (v = some (.ref b)) ∧ (Fr n0 L) ∧ (Keep h0 h [a1]) ∧ (h0.size ≤ b) ∧ (Exa Z h a1 "java/util/ArrayList") ∧ (Fld Z h a1 "java/util/AbstractList" "modCount" "I" (.int mc)) ∧ (Fld Z h a1 "java/util/ArrayList" "elementData" "[Ljava/lang/Object;" (.ref b)) ∧ (Fld Z h a1 "java/util/ArrayList" "size" "I" (.int (0 : Int32))) ∧ (Exa Z h b "[Ljava/lang/Object;") ∧ (Arv Z h b kb (.object "java/lang/Object") (10 : Int32) [.null, .null, .null, .null, .null, .null, .null, .null, .null, .null] .null) ∧ (Ovr Z kb "java/lang/Object")) (own_grow l Z a0 hw [] a1 ea ke mc h0 n0 Z0 f0 f1 f2 f3 f4 f5 f6 f7) hZ (hwi hw 176 rfl) (hwi hw 28 rfl) (by decide) (by decide)) (g := (mkF m 7 #[vR (a1), vR (x1), vR (ea), vI ((0 : Int32))] [(.ref a1)])) rfl (by rw [hml]; rfl) (Steps.refl _) (a := a1) (by rw [e0]; exact q102) q102' (argsL := []) (rest := []) (lenOf own_pd3 rfl) rfl (by show 2 * 0 + _ ≤ _; exact Nat.le_of_eq rfl) (hb hby q1o) (fun _ _ => ⟨rfl, e0, (by decide : 0 + 1 ≤ _), (by decide : 0 + 10 ≤ _)⟩)
  dsimp only [Pt.U, Pt.locs, Pt.cells, Pt.slots] at X102 l102 y102 z102 st102 hQ102
  subst l102 y102 z102
  obtain ⟨b_102, kb_102, rfl, N102q, K102, lt102_0, P102_0, P102_1, P102_2, P102_3, P102_4, P102_5, R102_0⟩ := hQ102
  have N102 := Fr.app N0 N102q
  have ne103 : a1 ≠ b_102 := Nat.ne_of_lt (Nat.lt_of_lt_of_le f0.lt lt102_0)
  have ne104 : ea ≠ b_102 := Nat.ne_of_lt (Nat.lt_of_lt_of_le f6.lt lt102_0)
  have ne105 : x1 ≠ b_102 := Nat.ne_of_lt (Nat.lt_of_lt_of_le f8.lt lt102_0)
  have ge106 : n0 ≤ b_102 := Nat.le_trans Z0 lt102_0
  have sz107 : h0.size ≤ b_102 := Nat.le_trans K0.1 lt102_0
  have KK102 := K0.trans K102 (allS (Or.inl (List.mem_of_getElem? (i := 0) rfl)) all0)
  have Z102 : n0 ≤ T102.heap.size := Nat.le_trans Z0 K102.1
  have F108 := f0.keep K102
  have F109 := own_sta_keep f5 K102 (allS (own_plain f0) all0)
  have F110 := f6.keep K102 (ninS f7 nin0)
  have F111 := f8.keep K102
  refine gs m T102 10 #[vR (a1), vR (x1), vR (ea), vI ((0 : Int32))] [(.ref b_102)] (fun _ k => st102.trans k) ?_
  refine gs m T102 11 #[vR (a1), vR (x1), vR (b_102), vI ((0 : Int32))] [] (fun _ k => XS.astoreN X102.here hx rfl (hb hby q1p) rfl rfl (l' := #[vR (a1), vR (x1), vR (b_102), vI ((0 : Int32))]) rfl k) ?_
  refine gs m T102 12 #[vR (a1), vR (x1), vR (b_102), vI ((0 : Int32))] [(.ref b_102)] (fun _ k => XS.aloadN X102.here hx rfl (hb hby q1q) rfl rfl k) ?_
  refine gs m T102 13 #[vR (a1), vR (x1), vR (b_102), vI ((0 : Int32))] [(.int (0 : Int32)), (.ref b_102)] (fun _ k => XS.iloadN X102.here hx rfl (hb hby q1r) rfl  k) ?_
  refine gs m T102 14 #[vR (a1), vR (x1), vR (b_102), vI ((0 : Int32))] [(.ref x1), (.int (0 : Int32)), (.ref b_102)] (fun _ k => XS.aloadN X102.here hx rfl (hb hby q1s) rfl rfl k) ?_
  obtain ⟨cl112, Ar112, q112, S112, M112, H112, G112⟩ := id P102_5
  obtain ⟨T112, h112, X112, e112, W112, st112⟩ := stR X102 hx hZ rfl Ar112 (j := (0 : Int32)) (inb_of S112 (by decide)) rfl (Sto.ofV Ar112 q112 R102_0 (Ins.of_exa F111 (hwi hw 185 rfl))) (g := (mkF m 14 #[vR (a1), vR (x1), vR (b_102), vI ((0 : Int32))] [(.ref x1), (.int (0 : Int32)), (.ref b_102)])) rfl rfl (hb hby q1t)
  have V112 : Arv Z h112 b_102 kb_102 (.object "java/lang/Object") (10 : Int32) [(.ref x1), .null, .null, .null, .null, .null, .null, .null, .null, .null] .null := Arv.set Ar112 q112 S112 M112 H112 G112 rfl W112 0 rfl (by show 0 < 10; decide)
  have N112 := Fr.snoc X112 N102 ge106
  have Z112 : n0 ≤ h112.size := Nat.le_trans Z102 (Keep.of_wr W112).1
  have K112 := KK102.wr W112 (Or.inr sz107)
  have F113 := P102_0.wr W112
  have F114 := F109.wr W112
  have F115 := F110.other W112 ne104
  have F116 := F111.wr W112
  have F117 := P102_1.other W112 (Or.inl ne103)
  have F118 := P102_2.other W112 (Or.inl ne103)
  have F119 := P102_3.other W112 (Or.inl ne103)
  have F120 := P102_4.wr W112
  refine gs m T112 15 #[vR (a1), vR (x1), vR (b_102), vI ((0 : Int32))] [] st112 ?_
  refine gs m T112 16 #[vR (a1), vR (x1), vR (b_102), vI ((0 : Int32))] [(.ref a1)] (fun _ k => XS.aloadN X112.here hx rfl (hb hby q1u) rfl rfl k) ?_
  refine gs m T112 17 #[vR (a1), vR (x1), vR (b_102), vI ((0 : Int32))] [(.int (0 : Int32)), (.ref a1)] (fun _ k => XS.iloadN X112.here hx rfl (hb hby q1v) rfl  k) ?_
  refine gs m T112 18 #[vR (a1), vR (x1), vR (b_102), vI ((0 : Int32))] [(.int (1 : Int32)), (.int (0 : Int32)), (.ref a1)] (fun _ k => XS.iconst X112.here hx rfl (hb hby q1w) k) ?_
  refine gs m T112 19 #[vR (a1), vR (x1), vR (b_102), vI ((0 : Int32))] [(.int (1 : Int32)), (.ref a1)] (fun _ k => XS.iadd X112.here hx rfl (hb hby q1x) rfl k) ?_
  obtain ⟨T121, h121, X121, e121, W121, st121⟩ := putF X112 hx hZ hown (host := "") (Or.inl (hwi hw 85 rfl)) Via.refl e112 F119 F113 (Or.inl (hwi hw 86 rfl)) (hwi hw 27 rfl) (ty := .int) (by decide) rfl rfl (g := (mkF m 19 #[vR (a1), vR (x1), vR (b_102), vI ((0 : Int32))] [(.int (1 : Int32)), (.ref a1)])) rfl rfl (hb hby q1y)
  have N121 := Fr.snoc X121 N112 f1
  have Z121 : n0 ≤ h121.size := Nat.le_trans Z112 (Keep.of_wr W121).1
  have K121 := K112.wr W121 (Or.inl (List.mem_of_getElem? (i := 0) rfl))
  have F122 := F113.wr W121
  have F123 := F114.wr W121
  have F124 := F115.other W121 f7
  have F125 := F116.wr W121
  have F126 := F117.other W121 (Or.inr (slot_ne (Or.inl (hwi hw 46 rfl)) (Or.inl (hwi hw 86 rfl)) (by decide) (t := .int) (t' := .int) (by decide) (by decide)))
  have F127 := F118.other W121 (Or.inr (slot_ne (Or.inl (hwi hw 49 rfl)) (Or.inl (hwi hw 86 rfl)) (by decide) (t := (.array (.object "java/lang/Object"))) (t' := .int) (by decide) (by decide)))
  have F128 := F120.wr W121
  have F129 := V112.other W121 (Ne.symm ne103)
  have F130 := F119.same W121
  refine gs m T121 22 #[vR (a1), vR (x1), vR (b_102), vI ((0 : Int32))] [] st121 ?_
  exact Go.retV X121 hx hret hlk (hb hby q1z) (by rw [e121]; exact ⟨b_102, kb_102, rfl, N121, K121, sz107, F122, F126, F127, F130, F128, F129, R102_0⟩) (by decide) (by decide)
theorem own_ef_jdk_38_method_25_code_RR (m : MethodId) (x0 : Addr) (x1 : Addr) : entryFrame m #[(.ref x0), (.ref x1)] 2 = mkF m 0 #[vR (x0), vR (x1)] [] := by first | (simp [entryFrame, mkF, argsToLocals, Value.category]; done) | rfl | (simp [entryFrame, mkF, argsToLocals, own_cI, own_cJ, own_cR, own_cN]; done)
theorem q20 : decode jdk_38_method_25_code 0 = .ok (.aload_n 0, 1) := by decide +kernel
theorem q21 : decode jdk_38_method_25_code 1 = .ok (.dup, 1) := by decide +kernel
theorem q22 : decode jdk_38_method_25_code 2 = .ok (.getfield 63, 3) := by decide +kernel
theorem q23 : decode jdk_38_method_25_code 5 = .ok (.iconst 1, 1) := by decide +kernel
theorem q24 : decode jdk_38_method_25_code 6 = .ok (.iadd, 1) := by decide +kernel
theorem q25 : decode jdk_38_method_25_code 7 = .ok (.putfield 63, 3) := by decide +kernel
theorem q26 : decode jdk_38_method_25_code 10 = .ok (.aload_n 0, 1) := by decide +kernel
theorem q27 : decode jdk_38_method_25_code 11 = .ok (.aload_n 1, 1) := by decide +kernel
theorem q28 : decode jdk_38_method_25_code 12 = .ok (.aload_n 0, 1) := by decide +kernel
theorem q29 : decode jdk_38_method_25_code 13 = .ok (.getfield 9, 3) := by decide +kernel
theorem q2a : decode jdk_38_method_25_code 16 = .ok (.aload_n 0, 1) := by decide +kernel
theorem q2b : decode jdk_38_method_25_code 17 = .ok (.getfield 48, 3) := by decide +kernel
theorem q2c : decode jdk_38_method_25_code 20 = .ok (.invokevirtual 131, 3) := by decide +kernel
theorem own_pd4 : parseMethodDescriptor "(Ljava/lang/Object;[Ljava/lang/Object;I)V" = some ⟨[(.object "java/lang/Object"), (.array (.object "java/lang/Object")), .int], none⟩ := by decide +kernel
theorem q2d : decode jdk_38_method_25_code 23 = .ok (.iconst 1, 1) := by decide +kernel
theorem q2e : decode jdk_38_method_25_code 24 = .ok (.ireturn, 1) := by decide +kernel
theorem own_add0 (l : Launch) (Z : State) (a0 : Array Value) (hw : ∀ d ∈ tables_1, d.before a0 Z = true) (ws : List Jvm.Cond) (a1 : Addr) (x1 : Addr) (ea : Addr) (ke : ClassId) (mc : Int32) (h0 : Heap) (n0 : Nat) (Z0 : n0 ≤ h0.size) (f0 : Exa Z h0 a1 "java/util/ArrayList") (f1 : n0 ≤ a1) (f2 : Fld Z h0 a1 "java/util/AbstractList" "modCount" "I" (.int mc)) (f3 : Fld Z h0 a1 "java/util/ArrayList" "elementData" "[Ljava/lang/Object;" (.ref ea)) (f4 : Fld Z h0 a1 "java/util/ArrayList" "size" "I" (.int (0 : Int32))) (f5 : Sta Z h0 "java/util/ArrayList" "DEFAULTCAPACITY_EMPTY_ELEMENTDATA" "[Ljava/lang/Object;" (.ref ea)) (f6 : Arv Z h0 ea ke (.object "java/lang/Object") (0 : Int32) [] .null) (f7 : ea ≠ a1) (f8 : Exa Z h0 x1 "java/time/Duration")  :
    Con l Z (⟨"java/util/ArrayList", "add", "(Ljava/lang/Object;)Z"⟩ : MethodName) jdk_38_method_25_code 2 (some .boolean) ({ frames := 4, cells := 1, slots := 10, locals := 56 } : Room) ws #[(.ref a1), (.ref x1)] h0 (fun v h L => ∃ b : Addr, ∃ kb : ClassId, (v = some (.int (1 : Int32))) ∧ (Fr n0 L) ∧ (Keep h0 h [a1]) ∧ (h0.size ≤ b) ∧ (Exa Z h a1 "java/util/ArrayList") ∧ (Fld Z h a1 "java/util/AbstractList" "modCount" "I" (.int (mc + (1 : Int32)))) ∧ (Fld Z h a1 "java/util/ArrayList" "elementData" "[Ljava/lang/Object;" (.ref b)) ∧ (Fld Z h a1 "java/util/ArrayList" "size" "I" (.int (1 : Int32))) ∧ (Exa Z h b "[Ljava/lang/Object;") ∧ (Arv Z h b kb (.object "java/lang/Object") (10 : Int32) [(.ref x1), .null, .null, .null, .null, .null, .null, .null, .null, .null] .null) ∧ (Ovr Z kb "java/lang/Object")) 1 10 := by
  refine Con.of (plainFor_of_name own_pn_ArrayList) ?_
  intro pgm e s m below meth c s₁ X0 hx hZ hby hml hown hnm hret hlk e0 hs0
  have N0 := Fr.nil n0
  have hown : s.vm.findClass "java/util/ArrayList" = some m.cls := hown
  have hnm : meth.name = "add" := hnm
  refine Go.cast (own_ef_jdk_38_method_25_code_RR m a1 x1) ?_
  have K0 := Keep.refl h0 [a1]
  refine gs m s₁ 1 #[vR (a1), vR (x1)] [(.ref a1)] (fun _ k => XS.aloadN X0.here hx rfl (hb hby q20) rfl rfl k) ?_
  refine gs m s₁ 2 #[vR (a1), vR (x1)] [(.ref a1), (.ref a1)] (fun _ k => XS.dup X0.here hx rfl (hb hby q21) rfl rfl k) ?_
  obtain ⟨T101, X101, e101, st101⟩ := getF X0 hx hZ hown (host := "") (Or.inl (hwi hw 165 rfl)) (Via.of (hwi hw 166 rfl)) e0 f2 (g := (mkF m 2 #[vR (a1), vR (x1)] [(.ref a1), (.ref a1)])) rfl rfl (hb hby q22)
  refine gs m T101 5 #[vR (a1), vR (x1)] [(.int mc), (.ref a1)] st101 ?_
  refine gs m T101 6 #[vR (a1), vR (x1)] [(.int (1 : Int32)), (.int mc), (.ref a1)] (fun _ k => XS.iconst X101.here hx rfl (hb hby q23) k) ?_
  refine gs m T101 7 #[vR (a1), vR (x1)] [(.int (mc + (1 : Int32))), (.ref a1)] (fun _ k => XS.iadd X101.here hx rfl (hb hby q24) rfl k) ?_
  obtain ⟨T102, h102, X102, e102, W102, st102⟩ := putF X101 hx hZ hown (host := "") (Or.inl (hwi hw 165 rfl)) (Via.of (hwi hw 166 rfl)) e101 f2 f0 (Or.inl (hwi hw 46 rfl)) (hwi hw 27 rfl) (ty := .int) (by decide) rfl rfl (g := (mkF m 7 #[vR (a1), vR (x1)] [(.int (mc + (1 : Int32))), (.ref a1)])) rfl rfl (hb hby q25)
  have N102 := Fr.snoc X102 N0 f1
  have Z102 : n0 ≤ h102.size := Nat.le_trans Z0 (Keep.of_wr W102).1
  have K102 := K0.wr W102 (Or.inl (List.mem_of_getElem? (i := 0) rfl))
  have F103 := f0.wr W102
  have F104 := f3.other W102 (Or.inr (slot_ne (Or.inl (hwi hw 49 rfl)) (Or.inl (hwi hw 46 rfl)) (by decide) (t := (.array (.object "java/lang/Object"))) (t' := .int) (by decide) (by decide)))
  have F105 := f4.other W102 (Or.inr (slot_ne (Or.inl (hwi hw 86 rfl)) (Or.inl (hwi hw 46 rfl)) (by decide) (t := .int) (t' := .int) (by decide) (by decide)))
  have F106 := f5.wr W102
  have F107 := f6.other W102 f7
  have F108 := f8.wr W102
  have F109 := f2.same W102
  refine gs m T102 10 #[vR (a1), vR (x1)] [] st102 ?_
  refine gs m T102 11 #[vR (a1), vR (x1)] [(.ref a1)] (fun _ k => XS.aloadN X102.here hx rfl (hb hby q26) rfl rfl k) ?_
  refine gs m T102 12 #[vR (a1), vR (x1)] [(.ref x1), (.ref a1)] (fun _ k => XS.aloadN X102.here hx rfl (hb hby q27) rfl rfl k) ?_
  refine gs m T102 13 #[vR (a1), vR (x1)] [(.ref a1), (.ref x1), (.ref a1)] (fun _ k => XS.aloadN X102.here hx rfl (hb hby q28) rfl rfl k) ?_
  obtain ⟨T110, X110, e110, st110⟩ := getF X102 hx hZ hown (host := "") (Or.inl (hwi hw 48 rfl)) Via.refl e102 F104 (g := (mkF m 13 #[vR (a1), vR (x1)] [(.ref a1), (.ref x1), (.ref a1)])) rfl rfl (hb hby q29)
  refine gs m T110 16 #[vR (a1), vR (x1)] [(.ref ea), (.ref x1), (.ref a1)] st110 ?_
  refine gs m T110 17 #[vR (a1), vR (x1)] [(.ref a1), (.ref ea), (.ref x1), (.ref a1)] (fun _ k => XS.aloadN X110.here hx rfl (hb hby q2a) rfl rfl k) ?_
  obtain ⟨T111, X111, e111, st111⟩ := getF X110 hx hZ hown (host := "") (Or.inl (hwi hw 85 rfl)) Via.refl e110 F105 (g := (mkF m 17 #[vR (a1), vR (x1)] [(.ref a1), (.ref ea), (.ref x1), (.ref a1)])) rfl rfl (hb hby q2b)
  refine gs m T111 20 #[vR (a1), vR (x1)] [(.int (0 : Int32)), (.ref ea), (.ref x1), (.ref a1)] st111 ?_
  obtain ⟨cq112, q112, q112'⟩ := F103.cell
  obtain ⟨_, _, ⟨T112, L112, k112, n112⟩, -, X112, ⟨Lc112, hQ112, l112, y112, z112⟩, st112⟩ := X111.privateBack hx (y := (⟨"java/util/ArrayList", "add", "(Ljava/lang/Object;[Ljava/lang/Object;I)V"⟩ : MethodName)) hown (mvT hZ (hwi hw 167 rfl)) (mvT hZ (hwi hw 168 rfl)) (mvT hZ (hwi hw 170 rfl)) (Cond.privateMethod_at (mvP hZ (hwi hw 169 rfl) (args := #[]))) (mvT hZ (hwi hw 171 rfl)) (by decide) (backOf (W := 0) (Q := fun v h L => ∃ b : Addr, ∃ kb : ClassId, (v = none) ∧ (Fr n0 L) ∧ (Keep h102 h [a1]) ∧ (h102.size ≤ b) ∧ (Exa Z h a1 "java/util/ArrayList") ∧ (Fld Z h a1 "java/util/AbstractList" "modCount" "I" (.int (mc + (1 : Int32)))) ∧ (Fld Z h a1 "java/util/ArrayList" "elementData" "[Ljava/lang/Object;" (.ref b)) ∧ (Fld Z h a1 "java/util/ArrayList" "size" "I" (.int (1 : Int32))) ∧ (Exa Z h b "[Ljava/lang/Object;") ∧ (Arv Z h b kb (.object "java/lang/Object") (10 : Int32) [(.ref x1), .null, .null, .null, .null, .null, .null, .null, .null, .null] .null) ∧ (Ovr Z kb "java/lang/Object")) (own_addh0 l Z a0 hw [] a1 x1 ea ke (mc + (1 : Int32)) h102 n0 Z102 F103 f1 F109 F104 F105 F106 F107 f7 F108) hZ (hwi hw 171 rfl) (hwi hw 28 rfl) (by decide) (by decide)) (g := (mkF m 20 #[vR (a1), vR (x1)] [(.int (0 : Int32)), (.ref ea), (.ref x1), (.ref a1)])) rfl (by rw [hml]; rfl) (Steps.refl _) (a := a1) (by rw [e111]; exact q112) q112' (argsL := [(.ref x1), (.ref ea), (.int (0 : Int32))]) (rest := []) (lenOf own_pd4 rfl) rfl (by show 2 * 0 + _ ≤ _; exact Nat.le_of_eq rfl) (hb hby q2c) (fun _ _ => ⟨rfl, e111, (by decide : 0 + 1 ≤ _), (by decide : 0 + 10 ≤ _)⟩)
  dsimp only [Pt.U, Pt.locs, Pt.cells, Pt.slots] at X112 l112 y112 z112 st112 hQ112
  subst l112 y112 z112
  obtain ⟨b_112, kb_112, rfl, N112q, K112, lt112_0, P112_0, P112_1, P112_2, P112_3, P112_4, P112_5, R112_0⟩ := hQ112
  have N112 := Fr.app N102 N112q
  have ne113 : a1 ≠ b_112 := Nat.ne_of_lt (Nat.lt_of_lt_of_le F103.lt lt112_0)
  have ne114 : ea ≠ b_112 := Nat.ne_of_lt (Nat.lt_of_lt_of_le F107.lt lt112_0)
  have ne115 : x1 ≠ b_112 := Nat.ne_of_lt (Nat.lt_of_lt_of_le F108.lt lt112_0)
  have ge116 : n0 ≤ b_112 := Nat.le_trans Z102 lt112_0
  have sz117 : h0.size ≤ b_112 := Nat.le_trans K102.1 lt112_0
  have KK112 := K102.trans K112 (allS (Or.inl (List.mem_of_getElem? (i := 0) rfl)) all0)
  have Z112 : n0 ≤ T112.heap.size := Nat.le_trans Z102 K112.1
  have F118 := F103.keep K112
  have F119 := own_sta_keep F106 K112 (allS (own_plain F103) all0)
  have F120 := F107.keep K112 (ninS f7 nin0)
  have F121 := F108.keep K112
  refine gs m T112 23 #[vR (a1), vR (x1)] [] (fun _ k => st112.trans k) ?_
  refine gs m T112 24 #[vR (a1), vR (x1)] [(.int (1 : Int32))] (fun _ k => XS.iconst X112.here hx rfl (hb hby q2d) k) ?_
  exact Go.retN X112 hx (t := .boolean) hret hlk (by simp) (hb hby q2e) (⟨b_112, kb_112, rfl, N112, KK112, sz117, P112_0, P112_1, P112_2, P112_3, P112_4, P112_5, R112_0⟩) (by decide) (by decide)
theorem own_addh1 (l : Launch) (Z : State) (a0 : Array Value) (hw : ∀ d ∈ tables_1, d.before a0 Z = true) (ws : List Jvm.Cond) (a1 : Addr) (x2 : Addr) (b1 : Addr) (k1 : ClassId) (mc : Int32) (x1 : Addr) (h0 : Heap) (n0 : Nat) (Z0 : n0 ≤ h0.size) (f0 : Exa Z h0 a1 "java/util/ArrayList") (f1 : n0 ≤ a1) (f2 : Fld Z h0 a1 "java/util/AbstractList" "modCount" "I" (.int mc)) (f3 : Fld Z h0 a1 "java/util/ArrayList" "elementData" "[Ljava/lang/Object;" (.ref b1)) (f4 : Fld Z h0 a1 "java/util/ArrayList" "size" "I" (.int (1 : Int32))) (f5 : Exa Z h0 b1 "[Ljava/lang/Object;") (f6 : n0 ≤ b1) (f7 : a1 ≠ b1) (f8 : Arv Z h0 b1 k1 (.object "java/lang/Object") (10 : Int32) [(.ref x1), .null, .null, .null, .null, .null, .null, .null, .null, .null] .null) (f9 : Exa Z h0 x2 "java/time/Duration") (ov1 : Ovr Z k1 "java/lang/Object") :
    Con l Z (⟨"java/util/ArrayList", "add", "(Ljava/lang/Object;[Ljava/lang/Object;I)V"⟩ : MethodName) jdk_38_method_24_code 4 none ({ frames := 0, cells := 0, slots := 0, locals := 0 } : Room) ws #[(.ref a1), (.ref x2), (.ref b1), (.int (1 : Int32))] h0 (fun v h L => (v = none) ∧ (Fr n0 L) ∧ (Keep h0 h [a1, b1]) ∧ (Exa Z h a1 "java/util/ArrayList") ∧ (Fld Z h a1 "java/util/AbstractList" "modCount" "I" (.int mc)) ∧ (Fld Z h a1 "java/util/ArrayList" "elementData" "[Ljava/lang/Object;" (.ref b1)) ∧ (Fld Z h a1 "java/util/ArrayList" "size" "I" (.int (2 : Int32))) ∧ (Exa Z h b1 "[Ljava/lang/Object;") ∧ (Arv Z h b1 k1 (.object "java/lang/Object") (10 : Int32) [(.ref x1), (.ref x2), .null, .null, .null, .null, .null, .null, .null, .null] .null)) 0 0 := by
  refine Con.of (plainFor_of_name own_pn_ArrayList) ?_
  intro pgm e s m below meth c s₁ X0 hx hZ hby hml hown hnm hret hlk e0 hs0
  have N0 := Fr.nil n0
  have hown : s.vm.findClass "java/util/ArrayList" = some m.cls := hown
  have hnm : meth.name = "add" := hnm
  refine Go.cast (own_ef_jdk_38_method_24_code_RRRI m a1 x2 b1 (1 : Int32)) ?_
  have K0 := Keep.refl h0 [a1, b1]
  refine gs m s₁ 1 #[vR (a1), vR (x2), vR (b1), vI ((1 : Int32))] [(.int (1 : Int32))] (fun _ k => XS.iloadN X0.here hx rfl (hb hby q1j) rfl  k) ?_
  refine gs m s₁ 2 #[vR (a1), vR (x2), vR (b1), vI ((1 : Int32))] [(.ref b1), (.int (1 : Int32))] (fun _ k => XS.aloadN X0.here hx rfl (hb hby q1k) rfl rfl k) ?_
  obtain ⟨cl101, Ar101, -, S101, M101, -, -⟩ := id f8
  refine gs m s₁ 3 #[vR (a1), vR (x2), vR (b1), vI ((1 : Int32))] [(.int (10 : Int32)), (.int (1 : Int32))] (fun _ k => X0.arraylength hx (cell := cl101) (by rw [e0]; exact Ar101.1) (State.isArrayOf_alike hZ.alike Ar101.2.1) (g := (mkF m 2 #[vR (a1), vR (x2), vR (b1), vI ((1 : Int32))] [(.ref b1), (.int (1 : Int32))])) rfl (rest := [(.int (1 : Int32))]) rfl (hb hby q1l) _ (by rw [len_of S101 M101]; exact k)) ?_
  refine gs m s₁ 11 #[vR (a1), vR (x2), vR (b1), vI ((1 : Int32))] [] (fun _ k => XS.icmpYes X0.here hx rfl (pc0 := 3) (pc' := 11) rfl (hb hby q1m) rfl (feq (by decide : ¬ ((1 : Int32) = (10 : Int32)))).2 (by decide) (by decide) k) ?_
  refine gs m s₁ 12 #[vR (a1), vR (x2), vR (b1), vI ((1 : Int32))] [(.ref b1)] (fun _ k => XS.aloadN X0.here hx rfl (hb hby q1q) rfl rfl k) ?_
  refine gs m s₁ 13 #[vR (a1), vR (x2), vR (b1), vI ((1 : Int32))] [(.int (1 : Int32)), (.ref b1)] (fun _ k => XS.iloadN X0.here hx rfl (hb hby q1r) rfl  k) ?_
  refine gs m s₁ 14 #[vR (a1), vR (x2), vR (b1), vI ((1 : Int32))] [(.ref x2), (.int (1 : Int32)), (.ref b1)] (fun _ k => XS.aloadN X0.here hx rfl (hb hby q1s) rfl rfl k) ?_
  obtain ⟨cl102, Ar102, q102, S102, M102, H102, G102⟩ := id f8
  obtain ⟨T102, h102, X102, e102, W102, st102⟩ := stR X0 hx hZ e0 Ar102 (j := (1 : Int32)) (inb_of S102 (by decide)) rfl (Sto.ofV Ar102 q102 ov1 (Ins.of_exa f9 (hwi hw 185 rfl))) (g := (mkF m 14 #[vR (a1), vR (x2), vR (b1), vI ((1 : Int32))] [(.ref x2), (.int (1 : Int32)), (.ref b1)])) rfl rfl (hb hby q1t)
  have V102 : Arv Z h102 b1 k1 (.object "java/lang/Object") (10 : Int32) [(.ref x1), (.ref x2), .null, .null, .null, .null, .null, .null, .null, .null] .null := Arv.set Ar102 q102 S102 M102 H102 G102 rfl W102 1 rfl (by show 1 < 10; decide)
  have N102 := Fr.snoc X102 N0 f6
  have Z102 : n0 ≤ h102.size := Nat.le_trans Z0 (Keep.of_wr W102).1
  have K102 := K0.wr W102 (Or.inl (List.mem_of_getElem? (i := 1) rfl))
  have F103 := f0.wr W102
  have F104 := f2.other W102 (Or.inl f7)
  have F105 := f3.other W102 (Or.inl f7)
  have F106 := f4.other W102 (Or.inl f7)
  have F107 := f5.wr W102
  have F108 := f9.wr W102
  refine gs m T102 15 #[vR (a1), vR (x2), vR (b1), vI ((1 : Int32))] [] st102 ?_
  refine gs m T102 16 #[vR (a1), vR (x2), vR (b1), vI ((1 : Int32))] [(.ref a1)] (fun _ k => XS.aloadN X102.here hx rfl (hb hby q1u) rfl rfl k) ?_
  refine gs m T102 17 #[vR (a1), vR (x2), vR (b1), vI ((1 : Int32))] [(.int (1 : Int32)), (.ref a1)] (fun _ k => XS.iloadN X102.here hx rfl (hb hby q1v) rfl  k) ?_
  refine gs m T102 18 #[vR (a1), vR (x2), vR (b1), vI ((1 : Int32))] [(.int (1 : Int32)), (.int (1 : Int32)), (.ref a1)] (fun _ k => XS.iconst X102.here hx rfl (hb hby q1w) k) ?_
  refine gs m T102 19 #[vR (a1), vR (x2), vR (b1), vI ((1 : Int32))] [(.int (2 : Int32)), (.ref a1)] (fun _ k => XS.iadd X102.here hx rfl (hb hby q1x) rfl k) ?_
  obtain ⟨T109, h109, X109, e109, W109, st109⟩ := putF X102 hx hZ hown (host := "") (Or.inl (hwi hw 85 rfl)) Via.refl e102 F106 F103 (Or.inl (hwi hw 86 rfl)) (hwi hw 27 rfl) (ty := .int) (by decide) rfl rfl (g := (mkF m 19 #[vR (a1), vR (x2), vR (b1), vI ((1 : Int32))] [(.int (2 : Int32)), (.ref a1)])) rfl rfl (hb hby q1y)
  have N109 := Fr.snoc X109 N102 f1
  have Z109 : n0 ≤ h109.size := Nat.le_trans Z102 (Keep.of_wr W109).1
  have K109 := K102.wr W109 (Or.inl (List.mem_of_getElem? (i := 0) rfl))
  have F110 := F103.wr W109
  have F111 := F104.other W109 (Or.inr (slot_ne (Or.inl (hwi hw 46 rfl)) (Or.inl (hwi hw 86 rfl)) (by decide) (t := .int) (t' := .int) (by decide) (by decide)))
  have F112 := F105.other W109 (Or.inr (slot_ne (Or.inl (hwi hw 49 rfl)) (Or.inl (hwi hw 86 rfl)) (by decide) (t := (.array (.object "java/lang/Object"))) (t' := .int) (by decide) (by decide)))
  have F113 := F107.wr W109
  have F114 := F108.wr W109
  have F115 := V102.other W109 (Ne.symm f7)
  have F116 := F106.same W109
  refine gs m T109 22 #[vR (a1), vR (x2), vR (b1), vI ((1 : Int32))] [] st109 ?_
  exact Go.retV X109 hx hret hlk (hb hby q1z) (by rw [e109]; exact ⟨rfl, N109, K109, F110, F111, F112, F116, F113, F115⟩) (by decide) (by decide)
theorem own_add1 (l : Launch) (Z : State) (a0 : Array Value) (hw : ∀ d ∈ tables_1, d.before a0 Z = true) (ws : List Jvm.Cond) (a1 : Addr) (x2 : Addr) (b1 : Addr) (k1 : ClassId) (mc : Int32) (x1 : Addr) (h0 : Heap) (n0 : Nat) (Z0 : n0 ≤ h0.size) (f0 : Exa Z h0 a1 "java/util/ArrayList") (f1 : n0 ≤ a1) (f2 : Fld Z h0 a1 "java/util/AbstractList" "modCount" "I" (.int mc)) (f3 : Fld Z h0 a1 "java/util/ArrayList" "elementData" "[Ljava/lang/Object;" (.ref b1)) (f4 : Fld Z h0 a1 "java/util/ArrayList" "size" "I" (.int (1 : Int32))) (f5 : Exa Z h0 b1 "[Ljava/lang/Object;") (f6 : n0 ≤ b1) (f7 : a1 ≠ b1) (f8 : Arv Z h0 b1 k1 (.object "java/lang/Object") (10 : Int32) [(.ref x1), .null, .null, .null, .null, .null, .null, .null, .null, .null] .null) (f9 : Exa Z h0 x2 "java/time/Duration") (ov1 : Ovr Z k1 "java/lang/Object") :
    Con l Z (⟨"java/util/ArrayList", "add", "(Ljava/lang/Object;)Z"⟩ : MethodName) jdk_38_method_25_code 2 (some .boolean) ({ frames := 1, cells := 0, slots := 0, locals := 15 } : Room) ws #[(.ref a1), (.ref x2)] h0 (fun v h L => (v = some (.int (1 : Int32))) ∧ (Fr n0 L) ∧ (Keep h0 h [a1, b1]) ∧ (Exa Z h a1 "java/util/ArrayList") ∧ (Fld Z h a1 "java/util/AbstractList" "modCount" "I" (.int (mc + (1 : Int32)))) ∧ (Fld Z h a1 "java/util/ArrayList" "elementData" "[Ljava/lang/Object;" (.ref b1)) ∧ (Fld Z h a1 "java/util/ArrayList" "size" "I" (.int (2 : Int32))) ∧ (Exa Z h b1 "[Ljava/lang/Object;") ∧ (Arv Z h b1 k1 (.object "java/lang/Object") (10 : Int32) [(.ref x1), (.ref x2), .null, .null, .null, .null, .null, .null, .null, .null] .null)) 0 0 := by
  refine Con.of (plainFor_of_name own_pn_ArrayList) ?_
  intro pgm e s m below meth c s₁ X0 hx hZ hby hml hown hnm hret hlk e0 hs0
  have N0 := Fr.nil n0
  have hown : s.vm.findClass "java/util/ArrayList" = some m.cls := hown
  have hnm : meth.name = "add" := hnm
  refine Go.cast (own_ef_jdk_38_method_25_code_RR m a1 x2) ?_
  have K0 := Keep.refl h0 [a1, b1]
  refine gs m s₁ 1 #[vR (a1), vR (x2)] [(.ref a1)] (fun _ k => XS.aloadN X0.here hx rfl (hb hby q20) rfl rfl k) ?_
  refine gs m s₁ 2 #[vR (a1), vR (x2)] [(.ref a1), (.ref a1)] (fun _ k => XS.dup X0.here hx rfl (hb hby q21) rfl rfl k) ?_
  obtain ⟨T101, X101, e101, st101⟩ := getF X0 hx hZ hown (host := "") (Or.inl (hwi hw 165 rfl)) (Via.of (hwi hw 166 rfl)) e0 f2 (g := (mkF m 2 #[vR (a1), vR (x2)] [(.ref a1), (.ref a1)])) rfl rfl (hb hby q22)
  refine gs m T101 5 #[vR (a1), vR (x2)] [(.int mc), (.ref a1)] st101 ?_
  refine gs m T101 6 #[vR (a1), vR (x2)] [(.int (1 : Int32)), (.int mc), (.ref a1)] (fun _ k => XS.iconst X101.here hx rfl (hb hby q23) k) ?_
  refine gs m T101 7 #[vR (a1), vR (x2)] [(.int (mc + (1 : Int32))), (.ref a1)] (fun _ k => XS.iadd X101.here hx rfl (hb hby q24) rfl k) ?_
  obtain ⟨T102, h102, X102, e102, W102, st102⟩ := putF X101 hx hZ hown (host := "") (Or.inl (hwi hw 165 rfl)) (Via.of (hwi hw 166 rfl)) e101 f2 f0 (Or.inl (hwi hw 46 rfl)) (hwi hw 27 rfl) (ty := .int) (by decide) rfl rfl (g := (mkF m 7 #[vR (a1), vR (x2)] [(.int (mc + (1 : Int32))), (.ref a1)])) rfl rfl (hb hby q25)
  have N102 := Fr.snoc X102 N0 f1
  have Z102 : n0 ≤ h102.size := Nat.le_trans Z0 (Keep.of_wr W102).1
  have K102 := K0.wr W102 (Or.inl (List.mem_of_getElem? (i := 0) rfl))
  have F103 := f0.wr W102
  have F104 := f3.other W102 (Or.inr (slot_ne (Or.inl (hwi hw 49 rfl)) (Or.inl (hwi hw 46 rfl)) (by decide) (t := (.array (.object "java/lang/Object"))) (t' := .int) (by decide) (by decide)))
  have F105 := f4.other W102 (Or.inr (slot_ne (Or.inl (hwi hw 86 rfl)) (Or.inl (hwi hw 46 rfl)) (by decide) (t := .int) (t' := .int) (by decide) (by decide)))
  have F106 := f5.wr W102
  have F107 := f8.other W102 (Ne.symm f7)
  have F108 := f9.wr W102
  have F109 := f2.same W102
  refine gs m T102 10 #[vR (a1), vR (x2)] [] st102 ?_
  refine gs m T102 11 #[vR (a1), vR (x2)] [(.ref a1)] (fun _ k => XS.aloadN X102.here hx rfl (hb hby q26) rfl rfl k) ?_
  refine gs m T102 12 #[vR (a1), vR (x2)] [(.ref x2), (.ref a1)] (fun _ k => XS.aloadN X102.here hx rfl (hb hby q27) rfl rfl k) ?_
  refine gs m T102 13 #[vR (a1), vR (x2)] [(.ref a1), (.ref x2), (.ref a1)] (fun _ k => XS.aloadN X102.here hx rfl (hb hby q28) rfl rfl k) ?_
  obtain ⟨T110, X110, e110, st110⟩ := getF X102 hx hZ hown (host := "") (Or.inl (hwi hw 48 rfl)) Via.refl e102 F104 (g := (mkF m 13 #[vR (a1), vR (x2)] [(.ref a1), (.ref x2), (.ref a1)])) rfl rfl (hb hby q29)
  refine gs m T110 16 #[vR (a1), vR (x2)] [(.ref b1), (.ref x2), (.ref a1)] st110 ?_
  refine gs m T110 17 #[vR (a1), vR (x2)] [(.ref a1), (.ref b1), (.ref x2), (.ref a1)] (fun _ k => XS.aloadN X110.here hx rfl (hb hby q2a) rfl rfl k) ?_
  obtain ⟨T111, X111, e111, st111⟩ := getF X110 hx hZ hown (host := "") (Or.inl (hwi hw 85 rfl)) Via.refl e110 F105 (g := (mkF m 17 #[vR (a1), vR (x2)] [(.ref a1), (.ref b1), (.ref x2), (.ref a1)])) rfl rfl (hb hby q2b)
  refine gs m T111 20 #[vR (a1), vR (x2)] [(.int (1 : Int32)), (.ref b1), (.ref x2), (.ref a1)] st111 ?_
  obtain ⟨cq112, q112, q112'⟩ := F103.cell
  obtain ⟨_, _, ⟨T112, L112, k112, n112⟩, -, X112, ⟨Lc112, hQ112, l112, y112, z112⟩, st112⟩ := X111.privateBack hx (y := (⟨"java/util/ArrayList", "add", "(Ljava/lang/Object;[Ljava/lang/Object;I)V"⟩ : MethodName)) hown (mvT hZ (hwi hw 167 rfl)) (mvT hZ (hwi hw 168 rfl)) (mvT hZ (hwi hw 170 rfl)) (Cond.privateMethod_at (mvP hZ (hwi hw 169 rfl) (args := #[]))) (mvT hZ (hwi hw 171 rfl)) (by decide) (backOf (W := 0) (Q := fun v h L => (v = none) ∧ (Fr n0 L) ∧ (Keep h102 h [a1, b1]) ∧ (Exa Z h a1 "java/util/ArrayList") ∧ (Fld Z h a1 "java/util/AbstractList" "modCount" "I" (.int (mc + (1 : Int32)))) ∧ (Fld Z h a1 "java/util/ArrayList" "elementData" "[Ljava/lang/Object;" (.ref b1)) ∧ (Fld Z h a1 "java/util/ArrayList" "size" "I" (.int (2 : Int32))) ∧ (Exa Z h b1 "[Ljava/lang/Object;") ∧ (Arv Z h b1 k1 (.object "java/lang/Object") (10 : Int32) [(.ref x1), (.ref x2), .null, .null, .null, .null, .null, .null, .null, .null] .null)) (own_addh1 l Z a0 hw [] a1 x2 b1 k1 (mc + (1 : Int32)) x1 h102 n0 Z102 F103 f1 F109 F104 F105 F106 f6 f7 F107 F108 ov1) hZ (hwi hw 171 rfl) (hwi hw 28 rfl) (by decide) (by decide)) (g := (mkF m 20 #[vR (a1), vR (x2)] [(.int (1 : Int32)), (.ref b1), (.ref x2), (.ref a1)])) rfl (by rw [hml]; rfl) (Steps.refl _) (a := a1) (by rw [e111]; exact q112) q112' (argsL := [(.ref x2), (.ref b1), (.int (1 : Int32))]) (rest := []) (lenOf own_pd4 rfl) rfl (by show 2 * 0 + _ ≤ _; exact Nat.le_of_eq rfl) (hb hby q2c) (fun _ _ => ⟨rfl, e111, (by decide : 0 + 0 ≤ _), (by decide : 0 + 0 ≤ _)⟩)
  dsimp only [Pt.U, Pt.locs, Pt.cells, Pt.slots] at X112 l112 y112 z112 st112 hQ112
  subst l112 y112 z112
  obtain ⟨rfl, N112q, K112, P112_0, P112_1, P112_2, P112_3, P112_4, P112_5⟩ := hQ112
  have N112 := Fr.app N102 N112q
  have KK112 := K102.trans K112 (allS (Or.inl (List.mem_of_getElem? (i := 0) rfl)) (allS (Or.inl (List.mem_of_getElem? (i := 1) rfl)) all0))
  have Z112 : n0 ≤ T112.heap.size := Nat.le_trans Z102 K112.1
  have F113 := F103.keep K112
  have F114 := F106.keep K112
  have F115 := F108.keep K112
  refine gs m T112 23 #[vR (a1), vR (x2)] [] (fun _ k => st112.trans k) ?_
  refine gs m T112 24 #[vR (a1), vR (x2)] [(.int (1 : Int32))] (fun _ k => XS.iconst X112.here hx rfl (hb hby q2d) k) ?_
  exact Go.retN X112 hx (t := .boolean) hret hlk (by simp) (hb hby q2e) (⟨rfl, N112, KK112, P112_0, P112_1, P112_2, P112_3, P112_4, P112_5⟩) (by decide) (by decide)
theorem own_addh2 (l : Launch) (Z : State) (a0 : Array Value) (hw : ∀ d ∈ tables_1, d.before a0 Z = true) (ws : List Jvm.Cond) (a1 : Addr) (x3 : Addr) (b1 : Addr) (k1 : ClassId) (mc : Int32) (x1 : Addr) (x2 : Addr) (h0 : Heap) (n0 : Nat) (Z0 : n0 ≤ h0.size) (f0 : Exa Z h0 a1 "java/util/ArrayList") (f1 : n0 ≤ a1) (f2 : Fld Z h0 a1 "java/util/AbstractList" "modCount" "I" (.int mc)) (f3 : Fld Z h0 a1 "java/util/ArrayList" "elementData" "[Ljava/lang/Object;" (.ref b1)) (f4 : Fld Z h0 a1 "java/util/ArrayList" "size" "I" (.int (2 : Int32))) (f5 : Exa Z h0 b1 "[Ljava/lang/Object;") (f6 : n0 ≤ b1) (f7 : a1 ≠ b1) (f8 : Arv Z h0 b1 k1 (.object "java/lang/Object") (10 : Int32) [(.ref x1), (.ref x2), .null, .null, .null, .null, .null, .null, .null, .null] .null) (f9 : Exa Z h0 x3 "java/time/Duration") (ov1 : Ovr Z k1 "java/lang/Object") :
    Con l Z (⟨"java/util/ArrayList", "add", "(Ljava/lang/Object;[Ljava/lang/Object;I)V"⟩ : MethodName) jdk_38_method_24_code 4 none ({ frames := 0, cells := 0, slots := 0, locals := 0 } : Room) ws #[(.ref a1), (.ref x3), (.ref b1), (.int (2 : Int32))] h0 (fun v h L => (v = none) ∧ (Fr n0 L) ∧ (Keep h0 h [a1, b1]) ∧ (Exa Z h a1 "java/util/ArrayList") ∧ (Fld Z h a1 "java/util/AbstractList" "modCount" "I" (.int mc)) ∧ (Fld Z h a1 "java/util/ArrayList" "elementData" "[Ljava/lang/Object;" (.ref b1)) ∧ (Fld Z h a1 "java/util/ArrayList" "size" "I" (.int (3 : Int32))) ∧ (Exa Z h b1 "[Ljava/lang/Object;") ∧ (Arv Z h b1 k1 (.object "java/lang/Object") (10 : Int32) [(.ref x1), (.ref x2), (.ref x3), .null, .null, .null, .null, .null, .null, .null] .null)) 0 0 := by
  refine Con.of (plainFor_of_name own_pn_ArrayList) ?_
  intro pgm e s m below meth c s₁ X0 hx hZ hby hml hown hnm hret hlk e0 hs0
  have N0 := Fr.nil n0
  have hown : s.vm.findClass "java/util/ArrayList" = some m.cls := hown
  have hnm : meth.name = "add" := hnm
  refine Go.cast (own_ef_jdk_38_method_24_code_RRRI m a1 x3 b1 (2 : Int32)) ?_
  have K0 := Keep.refl h0 [a1, b1]
  refine gs m s₁ 1 #[vR (a1), vR (x3), vR (b1), vI ((2 : Int32))] [(.int (2 : Int32))] (fun _ k => XS.iloadN X0.here hx rfl (hb hby q1j) rfl  k) ?_
  refine gs m s₁ 2 #[vR (a1), vR (x3), vR (b1), vI ((2 : Int32))] [(.ref b1), (.int (2 : Int32))] (fun _ k => XS.aloadN X0.here hx rfl (hb hby q1k) rfl rfl k) ?_
  obtain ⟨cl101, Ar101, -, S101, M101, -, -⟩ := id f8
  refine gs m s₁ 3 #[vR (a1), vR (x3), vR (b1), vI ((2 : Int32))] [(.int (10 : Int32)), (.int (2 : Int32))] (fun _ k => X0.arraylength hx (cell := cl101) (by rw [e0]; exact Ar101.1) (State.isArrayOf_alike hZ.alike Ar101.2.1) (g := (mkF m 2 #[vR (a1), vR (x3), vR (b1), vI ((2 : Int32))] [(.ref b1), (.int (2 : Int32))])) rfl (rest := [(.int (2 : Int32))]) rfl (hb hby q1l) _ (by rw [len_of S101 M101]; exact k)) ?_
  refine gs m s₁ 11 #[vR (a1), vR (x3), vR (b1), vI ((2 : Int32))] [] (fun _ k => XS.icmpYes X0.here hx rfl (pc0 := 3) (pc' := 11) rfl (hb hby q1m) rfl (feq (by decide : ¬ ((2 : Int32) = (10 : Int32)))).2 (by decide) (by decide) k) ?_
  refine gs m s₁ 12 #[vR (a1), vR (x3), vR (b1), vI ((2 : Int32))] [(.ref b1)] (fun _ k => XS.aloadN X0.here hx rfl (hb hby q1q) rfl rfl k) ?_
  refine gs m s₁ 13 #[vR (a1), vR (x3), vR (b1), vI ((2 : Int32))] [(.int (2 : Int32)), (.ref b1)] (fun _ k => XS.iloadN X0.here hx rfl (hb hby q1r) rfl  k) ?_
  refine gs m s₁ 14 #[vR (a1), vR (x3), vR (b1), vI ((2 : Int32))] [(.ref x3), (.int (2 : Int32)), (.ref b1)] (fun _ k => XS.aloadN X0.here hx rfl (hb hby q1s) rfl rfl k) ?_
  obtain ⟨cl102, Ar102, q102, S102, M102, H102, G102⟩ := id f8
  obtain ⟨T102, h102, X102, e102, W102, st102⟩ := stR X0 hx hZ e0 Ar102 (j := (2 : Int32)) (inb_of S102 (by decide)) rfl (Sto.ofV Ar102 q102 ov1 (Ins.of_exa f9 (hwi hw 185 rfl))) (g := (mkF m 14 #[vR (a1), vR (x3), vR (b1), vI ((2 : Int32))] [(.ref x3), (.int (2 : Int32)), (.ref b1)])) rfl rfl (hb hby q1t)
  have V102 : Arv Z h102 b1 k1 (.object "java/lang/Object") (10 : Int32) [(.ref x1), (.ref x2), (.ref x3), .null, .null, .null, .null, .null, .null, .null] .null := Arv.set Ar102 q102 S102 M102 H102 G102 rfl W102 2 rfl (by show 2 < 10; decide)
  have N102 := Fr.snoc X102 N0 f6
  have Z102 : n0 ≤ h102.size := Nat.le_trans Z0 (Keep.of_wr W102).1
  have K102 := K0.wr W102 (Or.inl (List.mem_of_getElem? (i := 1) rfl))
  have F103 := f0.wr W102
  have F104 := f2.other W102 (Or.inl f7)
  have F105 := f3.other W102 (Or.inl f7)
  have F106 := f4.other W102 (Or.inl f7)
  have F107 := f5.wr W102
  have F108 := f9.wr W102
  refine gs m T102 15 #[vR (a1), vR (x3), vR (b1), vI ((2 : Int32))] [] st102 ?_
  refine gs m T102 16 #[vR (a1), vR (x3), vR (b1), vI ((2 : Int32))] [(.ref a1)] (fun _ k => XS.aloadN X102.here hx rfl (hb hby q1u) rfl rfl k) ?_
  refine gs m T102 17 #[vR (a1), vR (x3), vR (b1), vI ((2 : Int32))] [(.int (2 : Int32)), (.ref a1)] (fun _ k => XS.iloadN X102.here hx rfl (hb hby q1v) rfl  k) ?_
  refine gs m T102 18 #[vR (a1), vR (x3), vR (b1), vI ((2 : Int32))] [(.int (1 : Int32)), (.int (2 : Int32)), (.ref a1)] (fun _ k => XS.iconst X102.here hx rfl (hb hby q1w) k) ?_
  refine gs m T102 19 #[vR (a1), vR (x3), vR (b1), vI ((2 : Int32))] [(.int (3 : Int32)), (.ref a1)] (fun _ k => XS.iadd X102.here hx rfl (hb hby q1x) rfl k) ?_
  obtain ⟨T109, h109, X109, e109, W109, st109⟩ := putF X102 hx hZ hown (host := "") (Or.inl (hwi hw 85 rfl)) Via.refl e102 F106 F103 (Or.inl (hwi hw 86 rfl)) (hwi hw 27 rfl) (ty := .int) (by decide) rfl rfl (g := (mkF m 19 #[vR (a1), vR (x3), vR (b1), vI ((2 : Int32))] [(.int (3 : Int32)), (.ref a1)])) rfl rfl (hb hby q1y)
  have N109 := Fr.snoc X109 N102 f1
  have Z109 : n0 ≤ h109.size := Nat.le_trans Z102 (Keep.of_wr W109).1
  have K109 := K102.wr W109 (Or.inl (List.mem_of_getElem? (i := 0) rfl))
  have F110 := F103.wr W109
  have F111 := F104.other W109 (Or.inr (slot_ne (Or.inl (hwi hw 46 rfl)) (Or.inl (hwi hw 86 rfl)) (by decide) (t := .int) (t' := .int) (by decide) (by decide)))
  have F112 := F105.other W109 (Or.inr (slot_ne (Or.inl (hwi hw 49 rfl)) (Or.inl (hwi hw 86 rfl)) (by decide) (t := (.array (.object "java/lang/Object"))) (t' := .int) (by decide) (by decide)))
  have F113 := F107.wr W109
  have F114 := F108.wr W109
  have F115 := V102.other W109 (Ne.symm f7)
  have F116 := F106.same W109
  refine gs m T109 22 #[vR (a1), vR (x3), vR (b1), vI ((2 : Int32))] [] st109 ?_
  exact Go.retV X109 hx hret hlk (hb hby q1z) (by rw [e109]; exact ⟨rfl, N109, K109, F110, F111, F112, F116, F113, F115⟩) (by decide) (by decide)
theorem own_add2 (l : Launch) (Z : State) (a0 : Array Value) (hw : ∀ d ∈ tables_1, d.before a0 Z = true) (ws : List Jvm.Cond) (a1 : Addr) (x3 : Addr) (b1 : Addr) (k1 : ClassId) (mc : Int32) (x1 : Addr) (x2 : Addr) (h0 : Heap) (n0 : Nat) (Z0 : n0 ≤ h0.size) (f0 : Exa Z h0 a1 "java/util/ArrayList") (f1 : n0 ≤ a1) (f2 : Fld Z h0 a1 "java/util/AbstractList" "modCount" "I" (.int mc)) (f3 : Fld Z h0 a1 "java/util/ArrayList" "elementData" "[Ljava/lang/Object;" (.ref b1)) (f4 : Fld Z h0 a1 "java/util/ArrayList" "size" "I" (.int (2 : Int32))) (f5 : Exa Z h0 b1 "[Ljava/lang/Object;") (f6 : n0 ≤ b1) (f7 : a1 ≠ b1) (f8 : Arv Z h0 b1 k1 (.object "java/lang/Object") (10 : Int32) [(.ref x1), (.ref x2), .null, .null, .null, .null, .null, .null, .null, .null] .null) (f9 : Exa Z h0 x3 "java/time/Duration") (ov1 : Ovr Z k1 "java/lang/Object") :
    Con l Z (⟨"java/util/ArrayList", "add", "(Ljava/lang/Object;)Z"⟩ : MethodName) jdk_38_method_25_code 2 (some .boolean) ({ frames := 1, cells := 0, slots := 0, locals := 15 } : Room) ws #[(.ref a1), (.ref x3)] h0 (fun v h L => (v = some (.int (1 : Int32))) ∧ (Fr n0 L) ∧ (Keep h0 h [a1, b1]) ∧ (Exa Z h a1 "java/util/ArrayList") ∧ (Fld Z h a1 "java/util/AbstractList" "modCount" "I" (.int (mc + (1 : Int32)))) ∧ (Fld Z h a1 "java/util/ArrayList" "elementData" "[Ljava/lang/Object;" (.ref b1)) ∧ (Fld Z h a1 "java/util/ArrayList" "size" "I" (.int (3 : Int32))) ∧ (Exa Z h b1 "[Ljava/lang/Object;") ∧ (Arv Z h b1 k1 (.object "java/lang/Object") (10 : Int32) [(.ref x1), (.ref x2), (.ref x3), .null, .null, .null, .null, .null, .null, .null] .null)) 0 0 := by
  refine Con.of (plainFor_of_name own_pn_ArrayList) ?_
  intro pgm e s m below meth c s₁ X0 hx hZ hby hml hown hnm hret hlk e0 hs0
  have N0 := Fr.nil n0
  have hown : s.vm.findClass "java/util/ArrayList" = some m.cls := hown
  have hnm : meth.name = "add" := hnm
  refine Go.cast (own_ef_jdk_38_method_25_code_RR m a1 x3) ?_
  have K0 := Keep.refl h0 [a1, b1]
  refine gs m s₁ 1 #[vR (a1), vR (x3)] [(.ref a1)] (fun _ k => XS.aloadN X0.here hx rfl (hb hby q20) rfl rfl k) ?_
  refine gs m s₁ 2 #[vR (a1), vR (x3)] [(.ref a1), (.ref a1)] (fun _ k => XS.dup X0.here hx rfl (hb hby q21) rfl rfl k) ?_
  obtain ⟨T101, X101, e101, st101⟩ := getF X0 hx hZ hown (host := "") (Or.inl (hwi hw 165 rfl)) (Via.of (hwi hw 166 rfl)) e0 f2 (g := (mkF m 2 #[vR (a1), vR (x3)] [(.ref a1), (.ref a1)])) rfl rfl (hb hby q22)
  refine gs m T101 5 #[vR (a1), vR (x3)] [(.int mc), (.ref a1)] st101 ?_
  refine gs m T101 6 #[vR (a1), vR (x3)] [(.int (1 : Int32)), (.int mc), (.ref a1)] (fun _ k => XS.iconst X101.here hx rfl (hb hby q23) k) ?_
  refine gs m T101 7 #[vR (a1), vR (x3)] [(.int (mc + (1 : Int32))), (.ref a1)] (fun _ k => XS.iadd X101.here hx rfl (hb hby q24) rfl k) ?_
  obtain ⟨T102, h102, X102, e102, W102, st102⟩ := putF X101 hx hZ hown (host := "") (Or.inl (hwi hw 165 rfl)) (Via.of (hwi hw 166 rfl)) e101 f2 f0 (Or.inl (hwi hw 46 rfl)) (hwi hw 27 rfl) (ty := .int) (by decide) rfl rfl (g := (mkF m 7 #[vR (a1), vR (x3)] [(.int (mc + (1 : Int32))), (.ref a1)])) rfl rfl (hb hby q25)
  have N102 := Fr.snoc X102 N0 f1
  have Z102 : n0 ≤ h102.size := Nat.le_trans Z0 (Keep.of_wr W102).1
  have K102 := K0.wr W102 (Or.inl (List.mem_of_getElem? (i := 0) rfl))
  have F103 := f0.wr W102
  have F104 := f3.other W102 (Or.inr (slot_ne (Or.inl (hwi hw 49 rfl)) (Or.inl (hwi hw 46 rfl)) (by decide) (t := (.array (.object "java/lang/Object"))) (t' := .int) (by decide) (by decide)))
  have F105 := f4.other W102 (Or.inr (slot_ne (Or.inl (hwi hw 86 rfl)) (Or.inl (hwi hw 46 rfl)) (by decide) (t := .int) (t' := .int) (by decide) (by decide)))
  have F106 := f5.wr W102
  have F107 := f8.other W102 (Ne.symm f7)
  have F108 := f9.wr W102
  have F109 := f2.same W102
  refine gs m T102 10 #[vR (a1), vR (x3)] [] st102 ?_
  refine gs m T102 11 #[vR (a1), vR (x3)] [(.ref a1)] (fun _ k => XS.aloadN X102.here hx rfl (hb hby q26) rfl rfl k) ?_
  refine gs m T102 12 #[vR (a1), vR (x3)] [(.ref x3), (.ref a1)] (fun _ k => XS.aloadN X102.here hx rfl (hb hby q27) rfl rfl k) ?_
  refine gs m T102 13 #[vR (a1), vR (x3)] [(.ref a1), (.ref x3), (.ref a1)] (fun _ k => XS.aloadN X102.here hx rfl (hb hby q28) rfl rfl k) ?_
  obtain ⟨T110, X110, e110, st110⟩ := getF X102 hx hZ hown (host := "") (Or.inl (hwi hw 48 rfl)) Via.refl e102 F104 (g := (mkF m 13 #[vR (a1), vR (x3)] [(.ref a1), (.ref x3), (.ref a1)])) rfl rfl (hb hby q29)
  refine gs m T110 16 #[vR (a1), vR (x3)] [(.ref b1), (.ref x3), (.ref a1)] st110 ?_
  refine gs m T110 17 #[vR (a1), vR (x3)] [(.ref a1), (.ref b1), (.ref x3), (.ref a1)] (fun _ k => XS.aloadN X110.here hx rfl (hb hby q2a) rfl rfl k) ?_
  obtain ⟨T111, X111, e111, st111⟩ := getF X110 hx hZ hown (host := "") (Or.inl (hwi hw 85 rfl)) Via.refl e110 F105 (g := (mkF m 17 #[vR (a1), vR (x3)] [(.ref a1), (.ref b1), (.ref x3), (.ref a1)])) rfl rfl (hb hby q2b)
  refine gs m T111 20 #[vR (a1), vR (x3)] [(.int (2 : Int32)), (.ref b1), (.ref x3), (.ref a1)] st111 ?_
  obtain ⟨cq112, q112, q112'⟩ := F103.cell
  obtain ⟨_, _, ⟨T112, L112, k112, n112⟩, -, X112, ⟨Lc112, hQ112, l112, y112, z112⟩, st112⟩ := X111.privateBack hx (y := (⟨"java/util/ArrayList", "add", "(Ljava/lang/Object;[Ljava/lang/Object;I)V"⟩ : MethodName)) hown (mvT hZ (hwi hw 167 rfl)) (mvT hZ (hwi hw 168 rfl)) (mvT hZ (hwi hw 170 rfl)) (Cond.privateMethod_at (mvP hZ (hwi hw 169 rfl) (args := #[]))) (mvT hZ (hwi hw 171 rfl)) (by decide) (backOf (W := 0) (Q := fun v h L => (v = none) ∧ (Fr n0 L) ∧ (Keep h102 h [a1, b1]) ∧ (Exa Z h a1 "java/util/ArrayList") ∧ (Fld Z h a1 "java/util/AbstractList" "modCount" "I" (.int (mc + (1 : Int32)))) ∧ (Fld Z h a1 "java/util/ArrayList" "elementData" "[Ljava/lang/Object;" (.ref b1)) ∧ (Fld Z h a1 "java/util/ArrayList" "size" "I" (.int (3 : Int32))) ∧ (Exa Z h b1 "[Ljava/lang/Object;") ∧ (Arv Z h b1 k1 (.object "java/lang/Object") (10 : Int32) [(.ref x1), (.ref x2), (.ref x3), .null, .null, .null, .null, .null, .null, .null] .null)) (own_addh2 l Z a0 hw [] a1 x3 b1 k1 (mc + (1 : Int32)) x1 x2 h102 n0 Z102 F103 f1 F109 F104 F105 F106 f6 f7 F107 F108 ov1) hZ (hwi hw 171 rfl) (hwi hw 28 rfl) (by decide) (by decide)) (g := (mkF m 20 #[vR (a1), vR (x3)] [(.int (2 : Int32)), (.ref b1), (.ref x3), (.ref a1)])) rfl (by rw [hml]; rfl) (Steps.refl _) (a := a1) (by rw [e111]; exact q112) q112' (argsL := [(.ref x3), (.ref b1), (.int (2 : Int32))]) (rest := []) (lenOf own_pd4 rfl) rfl (by show 2 * 0 + _ ≤ _; exact Nat.le_of_eq rfl) (hb hby q2c) (fun _ _ => ⟨rfl, e111, (by decide : 0 + 0 ≤ _), (by decide : 0 + 0 ≤ _)⟩)
  dsimp only [Pt.U, Pt.locs, Pt.cells, Pt.slots] at X112 l112 y112 z112 st112 hQ112
  subst l112 y112 z112
  obtain ⟨rfl, N112q, K112, P112_0, P112_1, P112_2, P112_3, P112_4, P112_5⟩ := hQ112
  have N112 := Fr.app N102 N112q
  have KK112 := K102.trans K112 (allS (Or.inl (List.mem_of_getElem? (i := 0) rfl)) (allS (Or.inl (List.mem_of_getElem? (i := 1) rfl)) all0))
  have Z112 : n0 ≤ T112.heap.size := Nat.le_trans Z102 K112.1
  have F113 := F103.keep K112
  have F114 := F106.keep K112
  have F115 := F108.keep K112
  refine gs m T112 23 #[vR (a1), vR (x3)] [] (fun _ k => st112.trans k) ?_
  refine gs m T112 24 #[vR (a1), vR (x3)] [(.int (1 : Int32))] (fun _ k => XS.iconst X112.here hx rfl (hb hby q2d) k) ?_
  exact Go.retN X112 hx (t := .boolean) hret hlk (by simp) (hb hby q2e) (⟨rfl, N112, KK112, P112_0, P112_1, P112_2, P112_3, P112_4, P112_5⟩) (by decide) (by decide)
theorem own_ef_jdk_38_method_9_code_R (m : MethodId) (x0 : Addr) : entryFrame m #[(.ref x0)] 1 = mkF m 0 #[vR (x0)] [] := by first | (simp [entryFrame, mkF, argsToLocals, Value.category]; done) | rfl | (simp [entryFrame, mkF, argsToLocals, own_cI, own_cJ, own_cR, own_cN]; done)
theorem q2f : decode jdk_38_method_9_code 0 = .ok (.aload_n 0, 1) := by decide +kernel
theorem q2g : decode jdk_38_method_9_code 1 = .ok (.getfield 48, 3) := by decide +kernel
theorem q2h : decode jdk_38_method_9_code 4 = .ok (.ifCond .ne 7, 3) := by decide +kernel
theorem q2i : decode jdk_38_method_9_code 7 = .ok (.iconst 1, 1) := by decide +kernel
theorem q2j : decode jdk_38_method_9_code 8 = .ok (.goto 4, 3) := by decide +kernel
theorem q2k : decode jdk_38_method_9_code 12 = .ok (.ireturn, 1) := by decide +kernel
theorem own_ise0 (l : Launch) (Z : State) (a0 : Array Value) (hw : ∀ d ∈ tables_1, d.before a0 Z = true) (ws : List Jvm.Cond) (a1 : Addr) (h0 : Heap) (n0 : Nat) (Z0 : n0 ≤ h0.size) (f0 : Fld Z h0 a1 "java/util/ArrayList" "size" "I" (.int (0 : Int32)))  :
    Con l Z (⟨"java/util/ArrayList", "isEmpty", "()Z"⟩ : MethodName) jdk_38_method_9_code 1 (some .boolean) ({ frames := 0, cells := 0, slots := 0, locals := 0 } : Room) ws #[(.ref a1)] h0 (Qret (some (.int (1 : Int32))) h0 n0) 0 0 := by
  refine Con.of (plainFor_of_name own_pn_ArrayList) ?_
  intro pgm e s m below meth c s₁ X0 hx hZ hby hml hown hnm hret hlk e0 hs0
  have N0 := Fr.nil n0
  have hown : s.vm.findClass "java/util/ArrayList" = some m.cls := hown
  have hnm : meth.name = "isEmpty" := hnm
  refine Go.cast (own_ef_jdk_38_method_9_code_R m a1) ?_
  refine gs m s₁ 1 #[vR (a1)] [(.ref a1)] (fun _ k => XS.aloadN X0.here hx rfl (hb hby q2f) rfl rfl k) ?_
  obtain ⟨T101, X101, e101, st101⟩ := getF X0 hx hZ hown (host := "") (Or.inl (hwi hw 85 rfl)) Via.refl e0 f0 (g := (mkF m 1 #[vR (a1)] [(.ref a1)])) rfl rfl (hb hby q2g)
  refine gs m T101 4 #[vR (a1)] [(.int (0 : Int32))] st101 ?_
  refine gs m T101 7 #[vR (a1)] [] (fun _ k => XS.ifNo X101.here hx rfl (hb hby q2h) rfl ((if0 _ _).trans (teq (by decide : (0 : Int32) = (0 : Int32))).2) k) ?_
  refine gs m T101 8 #[vR (a1)] [(.int (1 : Int32))] (fun _ k => XS.iconst X101.here hx rfl (hb hby q2i) k) ?_
  refine gs m T101 12 #[vR (a1)] [(.int (1 : Int32))] (fun _ k => XS.goto X101.here hx rfl (pc0 := 8) (pc' := 12) rfl (hb hby q2j) (by decide) (by decide) k) ?_
  exact Go.retN X101 hx (t := .boolean) hret hlk (by simp) (hb hby q2k) (⟨rfl, N0, e101⟩) (by decide) (by decide)
theorem q2l : decode jdk_38_method_9_code 11 = .ok (.iconst 0, 1) := by decide +kernel
theorem own_ise1 (l : Launch) (Z : State) (a0 : Array Value) (hw : ∀ d ∈ tables_1, d.before a0 Z = true) (ws : List Jvm.Cond) (a1 : Addr) (h0 : Heap) (n0 : Nat) (Z0 : n0 ≤ h0.size) (f0 : Fld Z h0 a1 "java/util/ArrayList" "size" "I" (.int (1 : Int32)))  :
    Con l Z (⟨"java/util/ArrayList", "isEmpty", "()Z"⟩ : MethodName) jdk_38_method_9_code 1 (some .boolean) ({ frames := 0, cells := 0, slots := 0, locals := 0 } : Room) ws #[(.ref a1)] h0 (Qret (some (.int (0 : Int32))) h0 n0) 0 0 := by
  refine Con.of (plainFor_of_name own_pn_ArrayList) ?_
  intro pgm e s m below meth c s₁ X0 hx hZ hby hml hown hnm hret hlk e0 hs0
  have N0 := Fr.nil n0
  have hown : s.vm.findClass "java/util/ArrayList" = some m.cls := hown
  have hnm : meth.name = "isEmpty" := hnm
  refine Go.cast (own_ef_jdk_38_method_9_code_R m a1) ?_
  refine gs m s₁ 1 #[vR (a1)] [(.ref a1)] (fun _ k => XS.aloadN X0.here hx rfl (hb hby q2f) rfl rfl k) ?_
  obtain ⟨T101, X101, e101, st101⟩ := getF X0 hx hZ hown (host := "") (Or.inl (hwi hw 85 rfl)) Via.refl e0 f0 (g := (mkF m 1 #[vR (a1)] [(.ref a1)])) rfl rfl (hb hby q2g)
  refine gs m T101 4 #[vR (a1)] [(.int (1 : Int32))] st101 ?_
  refine gs m T101 11 #[vR (a1)] [] (fun _ k => XS.ifYes X101.here hx rfl (pc0 := 4) (pc' := 11) rfl (hb hby q2h) rfl ((if0 _ _).trans (feq (by decide : ¬ ((1 : Int32) = (0 : Int32)))).2) (by decide) (by decide) k) ?_
  refine gs m T101 12 #[vR (a1)] [(.int (0 : Int32))] (fun _ k => XS.iconst X101.here hx rfl (hb hby q2l) k) ?_
  exact Go.retN X101 hx (t := .boolean) hret hlk (by simp) (hb hby q2k) (⟨rfl, N0, e101⟩) (by decide) (by decide)
theorem own_ise2 (l : Launch) (Z : State) (a0 : Array Value) (hw : ∀ d ∈ tables_1, d.before a0 Z = true) (ws : List Jvm.Cond) (a1 : Addr) (h0 : Heap) (n0 : Nat) (Z0 : n0 ≤ h0.size) (f0 : Fld Z h0 a1 "java/util/ArrayList" "size" "I" (.int (2 : Int32)))  :
    Con l Z (⟨"java/util/ArrayList", "isEmpty", "()Z"⟩ : MethodName) jdk_38_method_9_code 1 (some .boolean) ({ frames := 0, cells := 0, slots := 0, locals := 0 } : Room) ws #[(.ref a1)] h0 (Qret (some (.int (0 : Int32))) h0 n0) 0 0 := by
  refine Con.of (plainFor_of_name own_pn_ArrayList) ?_
  intro pgm e s m below meth c s₁ X0 hx hZ hby hml hown hnm hret hlk e0 hs0
  have N0 := Fr.nil n0
  have hown : s.vm.findClass "java/util/ArrayList" = some m.cls := hown
  have hnm : meth.name = "isEmpty" := hnm
  refine Go.cast (own_ef_jdk_38_method_9_code_R m a1) ?_
  refine gs m s₁ 1 #[vR (a1)] [(.ref a1)] (fun _ k => XS.aloadN X0.here hx rfl (hb hby q2f) rfl rfl k) ?_
  obtain ⟨T101, X101, e101, st101⟩ := getF X0 hx hZ hown (host := "") (Or.inl (hwi hw 85 rfl)) Via.refl e0 f0 (g := (mkF m 1 #[vR (a1)] [(.ref a1)])) rfl rfl (hb hby q2g)
  refine gs m T101 4 #[vR (a1)] [(.int (2 : Int32))] st101 ?_
  refine gs m T101 11 #[vR (a1)] [] (fun _ k => XS.ifYes X101.here hx rfl (pc0 := 4) (pc' := 11) rfl (hb hby q2h) rfl ((if0 _ _).trans (feq (by decide : ¬ ((2 : Int32) = (0 : Int32)))).2) (by decide) (by decide) k) ?_
  refine gs m T101 12 #[vR (a1)] [(.int (0 : Int32))] (fun _ k => XS.iconst X101.here hx rfl (hb hby q2l) k) ?_
  exact Go.retN X101 hx (t := .boolean) hret hlk (by simp) (hb hby q2k) (⟨rfl, N0, e101⟩) (by decide) (by decide)
theorem own_ise3 (l : Launch) (Z : State) (a0 : Array Value) (hw : ∀ d ∈ tables_1, d.before a0 Z = true) (ws : List Jvm.Cond) (a1 : Addr) (h0 : Heap) (n0 : Nat) (Z0 : n0 ≤ h0.size) (f0 : Fld Z h0 a1 "java/util/ArrayList" "size" "I" (.int (3 : Int32)))  :
    Con l Z (⟨"java/util/ArrayList", "isEmpty", "()Z"⟩ : MethodName) jdk_38_method_9_code 1 (some .boolean) ({ frames := 0, cells := 0, slots := 0, locals := 0 } : Room) ws #[(.ref a1)] h0 (Qret (some (.int (0 : Int32))) h0 n0) 0 0 := by
  refine Con.of (plainFor_of_name own_pn_ArrayList) ?_
  intro pgm e s m below meth c s₁ X0 hx hZ hby hml hown hnm hret hlk e0 hs0
  have N0 := Fr.nil n0
  have hown : s.vm.findClass "java/util/ArrayList" = some m.cls := hown
  have hnm : meth.name = "isEmpty" := hnm
  refine Go.cast (own_ef_jdk_38_method_9_code_R m a1) ?_
  refine gs m s₁ 1 #[vR (a1)] [(.ref a1)] (fun _ k => XS.aloadN X0.here hx rfl (hb hby q2f) rfl rfl k) ?_
  obtain ⟨T101, X101, e101, st101⟩ := getF X0 hx hZ hown (host := "") (Or.inl (hwi hw 85 rfl)) Via.refl e0 f0 (g := (mkF m 1 #[vR (a1)] [(.ref a1)])) rfl rfl (hb hby q2g)
  refine gs m T101 4 #[vR (a1)] [(.int (3 : Int32))] st101 ?_
  refine gs m T101 11 #[vR (a1)] [] (fun _ k => XS.ifYes X101.here hx rfl (pc0 := 4) (pc' := 11) rfl (hb hby q2h) rfl ((if0 _ _).trans (feq (by decide : ¬ ((3 : Int32) = (0 : Int32)))).2) (by decide) (by decide) k) ?_
  refine gs m T101 12 #[vR (a1)] [(.int (0 : Int32))] (fun _ k => XS.iconst X101.here hx rfl (hb hby q2l) k) ?_
  exact Go.retN X101 hx (t := .boolean) hret hlk (by simp) (hb hby q2k) (⟨rfl, N0, e101⟩) (by decide) (by decide)
theorem own_ef_jdk_40_method_36_code_ (m : MethodId)  : entryFrame m #[] 0 = mkF m 0 #[] [] := by first | (simp [entryFrame, mkF, argsToLocals, Value.category]; done) | rfl | (simp [entryFrame, mkF, argsToLocals, own_cI, own_cJ, own_cR, own_cN]; done)
theorem own_pn_List : plainName "java/util/List" = true := by first | (simp [plainName, overriddenIn]; done) | decide +kernel
theorem q2m : decode jdk_40_method_36_code 0 = .ok (.getstatic 90, 3) := by decide +kernel
theorem q2n : decode jdk_40_method_36_code 3 = .ok (.areturn, 1) := by decide +kernel
theorem own_of0 (l : Launch) (Z : State) (a0 : Array Value) (hw : ∀ d ∈ tables_1, d.before a0 Z = true) (ws : List Jvm.Cond) (el : Addr) (h0 : Heap) (n0 : Nat) (Z0 : n0 ≤ h0.size) (f0 : Sta Z h0 "java/util/ImmutableCollections" "EMPTY_LIST" "Ljava/util/ImmutableCollections$ListN;" (.ref el))  :
    Con l Z (⟨"java/util/List", "of", "()Ljava/util/List;"⟩ : MethodName) jdk_40_method_36_code 0 (some (.object "java/util/List")) ({ frames := 0, cells := 0, slots := 0, locals := 0 } : Room) ws #[] h0 (Qret (some (.ref el)) h0 n0) 0 0 := by
  refine Con.of (plainFor_of_name own_pn_List) ?_
  intro pgm e s m below meth c s₁ X0 hx hZ hby hml hown hnm hret hlk e0 hs0
  have N0 := Fr.nil n0
  have hown : s.vm.findClass "java/util/List" = some m.cls := hown
  have hnm : meth.name = "of" := hnm
  refine Go.cast (own_ef_jdk_40_method_36_code_ m ) ?_
  obtain ⟨T101, X101, e101, st101⟩ := getS2 X0 hx hZ hown (host := "") (Or.inl (hwi hw 90 rfl)) Via.refl e0 f0 (g := (mkF m 0 #[] [])) rfl (hb hby q2m)
  refine gs m T101 3 #[] [(.ref el)] st101 ?_
  exact Go.retA X101 hx (t := (.object "java/util/List")) hret rfl hlk rfl (hb hby q2n) (⟨rfl, N0, e101⟩) (by decide) (by decide)
theorem own_ef_jdk_38_method_16_code_R (m : MethodId) (x0 : Addr) : entryFrame m #[(.ref x0)] 1 = mkF m 0 #[vR (x0)] [] := by first | (simp [entryFrame, mkF, argsToLocals, Value.category]; done) | rfl | (simp [entryFrame, mkF, argsToLocals, own_cI, own_cJ, own_cR, own_cN]; done)
theorem q2o : decode jdk_38_method_16_code 0 = .ok (.aload_n 0, 1) := by decide +kernel
theorem q2p : decode jdk_38_method_16_code 1 = .ok (.getfield 9, 3) := by decide +kernel
theorem q2q : decode jdk_38_method_16_code 4 = .ok (.aload_n 0, 1) := by decide +kernel
theorem q2r : decode jdk_38_method_16_code 5 = .ok (.getfield 48, 3) := by decide +kernel
theorem q2s : decode jdk_38_method_16_code 8 = .ok (.invokestatic 66, 3) := by decide +kernel
theorem own_pd5 : parseMethodDescriptor "([Ljava/lang/Object;I)[Ljava/lang/Object;" = some ⟨[(.array (.object "java/lang/Object")), .int], some (.array (.object "java/lang/Object"))⟩ := by decide +kernel
theorem q2t : decode jdk_38_method_16_code 11 = .ok (.areturn, 1) := by decide +kernel
theorem own_toa1 (l : Launch) (Z : State) (a0 : Array Value) (hw : ∀ d ∈ tables_1, d.before a0 Z = true) (ws : List Jvm.Cond) (a1 : Addr) (b1 : Addr) (k1 : ClassId) (x1 : Addr) (s1 : Int64) (h0 : Heap) (n0 : Nat) (Z0 : n0 ≤ h0.size) (f0 : Exa Z h0 a1 "java/util/ArrayList") (f1 : Fld Z h0 a1 "java/util/ArrayList" "elementData" "[Ljava/lang/Object;" (.ref b1)) (f2 : Fld Z h0 a1 "java/util/ArrayList" "size" "I" (.int (1 : Int32))) (f3 : Exa Z h0 b1 "[Ljava/lang/Object;") (f4 : Arv Z h0 b1 k1 (.object "java/lang/Object") (10 : Int32) [(.ref x1), .null, .null, .null, .null, .null, .null, .null, .null, .null] .null) (f5 : Exa Z h0 x1 "java/time/Duration") (f6 : Fld Z h0 x1 "java/time/Duration" "seconds" "J" (.long s1)) (ov1 : Ovr Z k1 "java/lang/Object") (MM : MirrorMade Z "[Ljava/lang/Object;") :
    Con l Z (⟨"java/util/ArrayList", "toArray", "()[Ljava/lang/Object;"⟩ : MethodName) jdk_38_method_16_code 1 (some (.array (.object "java/lang/Object"))) ({ frames := 4, cells := 1, slots := 1, locals := 77 } : Room) ws #[(.ref a1)] h0 (fun v h L => ∃ b : Addr, ∃ kb : ClassId, (v = some (.ref b)) ∧ (Fr n0 L) ∧ (Keep h0 h []) ∧ (h0.size ≤ b) ∧ (Exa Z h b "[Ljava/lang/Object;") ∧ (Arv Z h b kb (.object "java/lang/Object") (1 : Int32) [(.ref x1)] .null)) 1 1 := by
  refine Con.of (plainFor_of_name own_pn_ArrayList) ?_
  intro pgm e s m below meth c s₁ X0 hx hZ hby hml hown hnm hret hlk e0 hs0
  have N0 := Fr.nil n0
  have hown : s.vm.findClass "java/util/ArrayList" = some m.cls := hown
  have hnm : meth.name = "toArray" := hnm
  refine Go.cast (own_ef_jdk_38_method_16_code_R m a1) ?_
  have K0 := Keep.refl h0 []
  refine gs m s₁ 1 #[vR (a1)] [(.ref a1)] (fun _ k => XS.aloadN X0.here hx rfl (hb hby q2o) rfl rfl k) ?_
  obtain ⟨T101, X101, e101, st101⟩ := getF X0 hx hZ hown (host := "") (Or.inl (hwi hw 48 rfl)) Via.refl e0 f1 (g := (mkF m 1 #[vR (a1)] [(.ref a1)])) rfl rfl (hb hby q2p)
  refine gs m T101 4 #[vR (a1)] [(.ref b1)] st101 ?_
  refine gs m T101 5 #[vR (a1)] [(.ref a1), (.ref b1)] (fun _ k => XS.aloadN X101.here hx rfl (hb hby q2q) rfl rfl k) ?_
  obtain ⟨T102, X102, e102, st102⟩ := getF X101 hx hZ hown (host := "") (Or.inl (hwi hw 85 rfl)) Via.refl e101 f2 (g := (mkF m 5 #[vR (a1)] [(.ref a1), (.ref b1)])) rfl rfl (hb hby q2r)
  refine gs m T102 8 #[vR (a1)] [(.int (1 : Int32)), (.ref b1)] st102 ?_
  obtain ⟨_, _, ⟨T103, L103, k103, n103⟩, -, X103, ⟨Lc103, hQ103, l103, y103, z103⟩, st103⟩ := Jvm.LawKit.callS X102 hx (y := (⟨"java/util/Arrays", "copyOf", "([Ljava/lang/Object;I)[Ljava/lang/Object;"⟩ : MethodName)) hown (mvT hZ (hwi hw 194 rfl)) (mvT hZ (hwi hw 195 rfl)) (mvT hZ (hwi hw 196 rfl)) (mvT hZ (hwi hw 197 rfl)) (by decide) (own_cp2 (W := 0) (n := 1) (n0 := n0) (a0 := #[]) hZ (own_tabS (State.Warmed39.refl Z) hw) (own_tabS hZ hw) MM f4 f3 ov1 (fun i => match i with | 0 => Or.inr ⟨x1, rfl, Ins.of_exa f5 (hwi hw 185 rfl)⟩ | 1 => Or.inl rfl | 2 => Or.inl rfl | 3 => Or.inl rfl | 4 => Or.inl rfl | 5 => Or.inl rfl | 6 => Or.inl rfl | 7 => Or.inl rfl | 8 => Or.inl rfl | 9 => Or.inl rfl | (_ + 10) => Or.inl rfl) (by decide) (by decide) (by decide) rfl (by decide) (by decide)) (g := (mkF m 8 #[vR (a1)] [(.int (1 : Int32)), (.ref b1)])) rfl (by rw [hml]; rfl) (argsL := [(.ref b1), (.int (1 : Int32))]) (rest := []) (lenOf own_pd5 rfl) rfl (by show 2 * 0 + _ ≤ _; exact Nat.le_of_eq rfl) (hb hby q2s) (fun _ _ => ⟨rfl, e102, (by decide : 0 + 1 ≤ _), (by decide : 0 + 1 ≤ _)⟩)
  dsimp only [Pt.U, Pt.locs, Pt.cells, Pt.slots] at X103 l103 y103 z103 st103 hQ103
  subst l103 y103 z103
  obtain ⟨kc103, rfl, N103q, E103, EA103, VA103⟩ := hQ103
  have N103 := Fr.app N0 N103q
  obtain ⟨h103, eh103⟩ : ∃ z, z = T103.heap := ⟨_, rfl⟩
  rw [← eh103] at E103 EA103 VA103
  obtain ⟨b103, g103⟩ : ∃ z, z = h0.size := ⟨_, rfl⟩
  rw [← g103] at EA103 VA103 st103
  have ne104 : a1 ≠ b103 := by have q := f0.lt; intro r; rw [r, g103] at q; exact Nat.lt_irrefl _ q
  have ne105 : b1 ≠ b103 := by have q := f3.lt; intro r; rw [r, g103] at q; exact Nat.lt_irrefl _ q
  have ne106 : x1 ≠ b103 := by have q := f5.lt; intro r; rw [r, g103] at q; exact Nat.lt_irrefl _ q
  have ge103 : n0 ≤ b103 := Nat.le_trans Z0 (Nat.le_of_eq g103.symm)
  have Z103 : n0 ≤ h103.size := Nat.le_trans Z0 E103.1
  have sz103 : h0.size ≤ b103 := Nat.le_trans K0.1 (Nat.le_of_eq g103.symm)
  have K103 := K0.ext E103
  have F107 := f0.ext E103
  have F108 := f1.ext E103
  have F109 := f2.ext E103
  have F110 := f3.ext E103
  have F111 := f4.ext E103
  have F112 := f5.ext E103
  have F113 := f6.ext E103
  have V103 : Arv Z h103 b103 kc103 (.object "java/lang/Object") (1 : Int32) [(.ref x1)] .null := VA103
  refine gs m T103 11 #[vR (a1)] [(.ref b103)] (st103) ?_
  exact Go.retA X103 hx (t := (.array (.object "java/lang/Object"))) hret rfl hlk rfl (hb hby q2t) (by rw [eh103.symm]; exact ⟨b103, kc103, rfl, N103, K103, sz103, EA103, V103⟩) (by decide) (by decide)
theorem own_toa2 (l : Launch) (Z : State) (a0 : Array Value) (hw : ∀ d ∈ tables_1, d.before a0 Z = true) (ws : List Jvm.Cond) (a1 : Addr) (b1 : Addr) (k1 : ClassId) (x1 : Addr) (x2 : Addr) (s1 : Int64) (s2 : Int64) (h0 : Heap) (n0 : Nat) (Z0 : n0 ≤ h0.size) (f0 : Exa Z h0 a1 "java/util/ArrayList") (f1 : Fld Z h0 a1 "java/util/ArrayList" "elementData" "[Ljava/lang/Object;" (.ref b1)) (f2 : Fld Z h0 a1 "java/util/ArrayList" "size" "I" (.int (2 : Int32))) (f3 : Exa Z h0 b1 "[Ljava/lang/Object;") (f4 : Arv Z h0 b1 k1 (.object "java/lang/Object") (10 : Int32) [(.ref x1), (.ref x2), .null, .null, .null, .null, .null, .null, .null, .null] .null) (f5 : Exa Z h0 x1 "java/time/Duration") (f6 : Fld Z h0 x1 "java/time/Duration" "seconds" "J" (.long s1)) (f7 : Exa Z h0 x2 "java/time/Duration") (f8 : Fld Z h0 x2 "java/time/Duration" "seconds" "J" (.long s2)) (ov1 : Ovr Z k1 "java/lang/Object") (MM : MirrorMade Z "[Ljava/lang/Object;") :
    Con l Z (⟨"java/util/ArrayList", "toArray", "()[Ljava/lang/Object;"⟩ : MethodName) jdk_38_method_16_code 1 (some (.array (.object "java/lang/Object"))) ({ frames := 4, cells := 1, slots := 2, locals := 77 } : Room) ws #[(.ref a1)] h0 (fun v h L => ∃ b : Addr, ∃ kb : ClassId, (v = some (.ref b)) ∧ (Fr n0 L) ∧ (Keep h0 h []) ∧ (h0.size ≤ b) ∧ (Exa Z h b "[Ljava/lang/Object;") ∧ (Arv Z h b kb (.object "java/lang/Object") (2 : Int32) [(.ref x1), (.ref x2)] .null)) 1 2 := by
  refine Con.of (plainFor_of_name own_pn_ArrayList) ?_
  intro pgm e s m below meth c s₁ X0 hx hZ hby hml hown hnm hret hlk e0 hs0
  have N0 := Fr.nil n0
  have hown : s.vm.findClass "java/util/ArrayList" = some m.cls := hown
  have hnm : meth.name = "toArray" := hnm
  refine Go.cast (own_ef_jdk_38_method_16_code_R m a1) ?_
  have K0 := Keep.refl h0 []
  refine gs m s₁ 1 #[vR (a1)] [(.ref a1)] (fun _ k => XS.aloadN X0.here hx rfl (hb hby q2o) rfl rfl k) ?_
  obtain ⟨T101, X101, e101, st101⟩ := getF X0 hx hZ hown (host := "") (Or.inl (hwi hw 48 rfl)) Via.refl e0 f1 (g := (mkF m 1 #[vR (a1)] [(.ref a1)])) rfl rfl (hb hby q2p)
  refine gs m T101 4 #[vR (a1)] [(.ref b1)] st101 ?_
  refine gs m T101 5 #[vR (a1)] [(.ref a1), (.ref b1)] (fun _ k => XS.aloadN X101.here hx rfl (hb hby q2q) rfl rfl k) ?_
  obtain ⟨T102, X102, e102, st102⟩ := getF X101 hx hZ hown (host := "") (Or.inl (hwi hw 85 rfl)) Via.refl e101 f2 (g := (mkF m 5 #[vR (a1)] [(.ref a1), (.ref b1)])) rfl rfl (hb hby q2r)
  refine gs m T102 8 #[vR (a1)] [(.int (2 : Int32)), (.ref b1)] st102 ?_
  obtain ⟨_, _, ⟨T103, L103, k103, n103⟩, -, X103, ⟨Lc103, hQ103, l103, y103, z103⟩, st103⟩ := Jvm.LawKit.callS X102 hx (y := (⟨"java/util/Arrays", "copyOf", "([Ljava/lang/Object;I)[Ljava/lang/Object;"⟩ : MethodName)) hown (mvT hZ (hwi hw 194 rfl)) (mvT hZ (hwi hw 195 rfl)) (mvT hZ (hwi hw 196 rfl)) (mvT hZ (hwi hw 197 rfl)) (by decide) (own_cp2 (W := 0) (n := 2) (n0 := n0) (a0 := #[]) hZ (own_tabS (State.Warmed39.refl Z) hw) (own_tabS hZ hw) MM f4 f3 ov1 (fun i => match i with | 0 => Or.inr ⟨x1, rfl, Ins.of_exa f5 (hwi hw 185 rfl)⟩ | 1 => Or.inr ⟨x2, rfl, Ins.of_exa f7 (hwi hw 185 rfl)⟩ | 2 => Or.inl rfl | 3 => Or.inl rfl | 4 => Or.inl rfl | 5 => Or.inl rfl | 6 => Or.inl rfl | 7 => Or.inl rfl | 8 => Or.inl rfl | 9 => Or.inl rfl | (_ + 10) => Or.inl rfl) (by decide) (by decide) (by decide) rfl (by decide) (by decide)) (g := (mkF m 8 #[vR (a1)] [(.int (2 : Int32)), (.ref b1)])) rfl (by rw [hml]; rfl) (argsL := [(.ref b1), (.int (2 : Int32))]) (rest := []) (lenOf own_pd5 rfl) rfl (by show 2 * 0 + _ ≤ _; exact Nat.le_of_eq rfl) (hb hby q2s) (fun _ _ => ⟨rfl, e102, (by decide : 0 + 1 ≤ _), (by decide : 0 + 2 ≤ _)⟩)
  dsimp only [Pt.U, Pt.locs, Pt.cells, Pt.slots] at X103 l103 y103 z103 st103 hQ103
  subst l103 y103 z103
  obtain ⟨kc103, rfl, N103q, E103, EA103, VA103⟩ := hQ103
  have N103 := Fr.app N0 N103q
  obtain ⟨h103, eh103⟩ : ∃ z, z = T103.heap := ⟨_, rfl⟩
  rw [← eh103] at E103 EA103 VA103
  obtain ⟨b103, g103⟩ : ∃ z, z = h0.size := ⟨_, rfl⟩
  rw [← g103] at EA103 VA103 st103
  have ne104 : a1 ≠ b103 := by have q := f0.lt; intro r; rw [r, g103] at q; exact Nat.lt_irrefl _ q
  have ne105 : b1 ≠ b103 := by have q := f3.lt; intro r; rw [r, g103] at q; exact Nat.lt_irrefl _ q
  have ne106 : x1 ≠ b103 := by have q := f5.lt; intro r; rw [r, g103] at q; exact Nat.lt_irrefl _ q
  have ne107 : x2 ≠ b103 := by have q := f7.lt; intro r; rw [r, g103] at q; exact Nat.lt_irrefl _ q
  have ge103 : n0 ≤ b103 := Nat.le_trans Z0 (Nat.le_of_eq g103.symm)
  have Z103 : n0 ≤ h103.size := Nat.le_trans Z0 E103.1
  have sz103 : h0.size ≤ b103 := Nat.le_trans K0.1 (Nat.le_of_eq g103.symm)
  have K103 := K0.ext E103
  have F108 := f0.ext E103
  have F109 := f1.ext E103
  have F110 := f2.ext E103
  have F111 := f3.ext E103
  have F112 := f4.ext E103
  have F113 := f5.ext E103
  have F114 := f6.ext E103
  have F115 := f7.ext E103
  have F116 := f8.ext E103
  have V103 : Arv Z h103 b103 kc103 (.object "java/lang/Object") (2 : Int32) [(.ref x1), (.ref x2)] .null := VA103
  refine gs m T103 11 #[vR (a1)] [(.ref b103)] (st103) ?_
  exact Go.retA X103 hx (t := (.array (.object "java/lang/Object"))) hret rfl hlk rfl (hb hby q2t) (by rw [eh103.symm]; exact ⟨b103, kc103, rfl, N103, K103, sz103, EA103, V103⟩) (by decide) (by decide)
theorem own_toa3 (l : Launch) (Z : State) (a0 : Array Value) (hw : ∀ d ∈ tables_1, d.before a0 Z = true) (ws : List Jvm.Cond) (a1 : Addr) (b1 : Addr) (k1 : ClassId) (x1 : Addr) (x2 : Addr) (x3 : Addr) (s1 : Int64) (s2 : Int64) (s3 : Int64) (h0 : Heap) (n0 : Nat) (Z0 : n0 ≤ h0.size) (f0 : Exa Z h0 a1 "java/util/ArrayList") (f1 : Fld Z h0 a1 "java/util/ArrayList" "elementData" "[Ljava/lang/Object;" (.ref b1)) (f2 : Fld Z h0 a1 "java/util/ArrayList" "size" "I" (.int (3 : Int32))) (f3 : Exa Z h0 b1 "[Ljava/lang/Object;") (f4 : Arv Z h0 b1 k1 (.object "java/lang/Object") (10 : Int32) [(.ref x1), (.ref x2), (.ref x3), .null, .null, .null, .null, .null, .null, .null] .null) (f5 : Exa Z h0 x1 "java/time/Duration") (f6 : Fld Z h0 x1 "java/time/Duration" "seconds" "J" (.long s1)) (f7 : Exa Z h0 x2 "java/time/Duration") (f8 : Fld Z h0 x2 "java/time/Duration" "seconds" "J" (.long s2)) (f9 : Exa Z h0 x3 "java/time/Duration") (f10 : Fld Z h0 x3 "java/time/Duration" "seconds" "J" (.long s3)) (ov1 : Ovr Z k1 "java/lang/Object") (MM : MirrorMade Z "[Ljava/lang/Object;") :
    Con l Z (⟨"java/util/ArrayList", "toArray", "()[Ljava/lang/Object;"⟩ : MethodName) jdk_38_method_16_code 1 (some (.array (.object "java/lang/Object"))) ({ frames := 4, cells := 1, slots := 3, locals := 77 } : Room) ws #[(.ref a1)] h0 (fun v h L => ∃ b : Addr, ∃ kb : ClassId, (v = some (.ref b)) ∧ (Fr n0 L) ∧ (Keep h0 h []) ∧ (h0.size ≤ b) ∧ (Exa Z h b "[Ljava/lang/Object;") ∧ (Arv Z h b kb (.object "java/lang/Object") (3 : Int32) [(.ref x1), (.ref x2), (.ref x3)] .null)) 1 3 := by
  refine Con.of (plainFor_of_name own_pn_ArrayList) ?_
  intro pgm e s m below meth c s₁ X0 hx hZ hby hml hown hnm hret hlk e0 hs0
  have N0 := Fr.nil n0
  have hown : s.vm.findClass "java/util/ArrayList" = some m.cls := hown
  have hnm : meth.name = "toArray" := hnm
  refine Go.cast (own_ef_jdk_38_method_16_code_R m a1) ?_
  have K0 := Keep.refl h0 []
  refine gs m s₁ 1 #[vR (a1)] [(.ref a1)] (fun _ k => XS.aloadN X0.here hx rfl (hb hby q2o) rfl rfl k) ?_
  obtain ⟨T101, X101, e101, st101⟩ := getF X0 hx hZ hown (host := "") (Or.inl (hwi hw 48 rfl)) Via.refl e0 f1 (g := (mkF m 1 #[vR (a1)] [(.ref a1)])) rfl rfl (hb hby q2p)
  refine gs m T101 4 #[vR (a1)] [(.ref b1)] st101 ?_
  refine gs m T101 5 #[vR (a1)] [(.ref a1), (.ref b1)] (fun _ k => XS.aloadN X101.here hx rfl (hb hby q2q) rfl rfl k) ?_
  obtain ⟨T102, X102, e102, st102⟩ := getF X101 hx hZ hown (host := "") (Or.inl (hwi hw 85 rfl)) Via.refl e101 f2 (g := (mkF m 5 #[vR (a1)] [(.ref a1), (.ref b1)])) rfl rfl (hb hby q2r)
  refine gs m T102 8 #[vR (a1)] [(.int (3 : Int32)), (.ref b1)] st102 ?_
  obtain ⟨_, _, ⟨T103, L103, k103, n103⟩, -, X103, ⟨Lc103, hQ103, l103, y103, z103⟩, st103⟩ := Jvm.LawKit.callS X102 hx (y := (⟨"java/util/Arrays", "copyOf", "([Ljava/lang/Object;I)[Ljava/lang/Object;"⟩ : MethodName)) hown (mvT hZ (hwi hw 194 rfl)) (mvT hZ (hwi hw 195 rfl)) (mvT hZ (hwi hw 196 rfl)) (mvT hZ (hwi hw 197 rfl)) (by decide) (own_cp2 (W := 0) (n := 3) (n0 := n0) (a0 := #[]) hZ (own_tabS (State.Warmed39.refl Z) hw) (own_tabS hZ hw) MM f4 f3 ov1 (fun i => match i with | 0 => Or.inr ⟨x1, rfl, Ins.of_exa f5 (hwi hw 185 rfl)⟩ | 1 => Or.inr ⟨x2, rfl, Ins.of_exa f7 (hwi hw 185 rfl)⟩ | 2 => Or.inr ⟨x3, rfl, Ins.of_exa f9 (hwi hw 185 rfl)⟩ | 3 => Or.inl rfl | 4 => Or.inl rfl | 5 => Or.inl rfl | 6 => Or.inl rfl | 7 => Or.inl rfl | 8 => Or.inl rfl | 9 => Or.inl rfl | (_ + 10) => Or.inl rfl) (by decide) (by decide) (by decide) rfl (by decide) (by decide)) (g := (mkF m 8 #[vR (a1)] [(.int (3 : Int32)), (.ref b1)])) rfl (by rw [hml]; rfl) (argsL := [(.ref b1), (.int (3 : Int32))]) (rest := []) (lenOf own_pd5 rfl) rfl (by show 2 * 0 + _ ≤ _; exact Nat.le_of_eq rfl) (hb hby q2s) (fun _ _ => ⟨rfl, e102, (by decide : 0 + 1 ≤ _), (by decide : 0 + 3 ≤ _)⟩)
  dsimp only [Pt.U, Pt.locs, Pt.cells, Pt.slots] at X103 l103 y103 z103 st103 hQ103
  subst l103 y103 z103
  obtain ⟨kc103, rfl, N103q, E103, EA103, VA103⟩ := hQ103
  have N103 := Fr.app N0 N103q
  obtain ⟨h103, eh103⟩ : ∃ z, z = T103.heap := ⟨_, rfl⟩
  rw [← eh103] at E103 EA103 VA103
  obtain ⟨b103, g103⟩ : ∃ z, z = h0.size := ⟨_, rfl⟩
  rw [← g103] at EA103 VA103 st103
  have ne104 : a1 ≠ b103 := by have q := f0.lt; intro r; rw [r, g103] at q; exact Nat.lt_irrefl _ q
  have ne105 : b1 ≠ b103 := by have q := f3.lt; intro r; rw [r, g103] at q; exact Nat.lt_irrefl _ q
  have ne106 : x1 ≠ b103 := by have q := f5.lt; intro r; rw [r, g103] at q; exact Nat.lt_irrefl _ q
  have ne107 : x2 ≠ b103 := by have q := f7.lt; intro r; rw [r, g103] at q; exact Nat.lt_irrefl _ q
  have ne108 : x3 ≠ b103 := by have q := f9.lt; intro r; rw [r, g103] at q; exact Nat.lt_irrefl _ q
  have ge103 : n0 ≤ b103 := Nat.le_trans Z0 (Nat.le_of_eq g103.symm)
  have Z103 : n0 ≤ h103.size := Nat.le_trans Z0 E103.1
  have sz103 : h0.size ≤ b103 := Nat.le_trans K0.1 (Nat.le_of_eq g103.symm)
  have K103 := K0.ext E103
  have F109 := f0.ext E103
  have F110 := f1.ext E103
  have F111 := f2.ext E103
  have F112 := f3.ext E103
  have F113 := f4.ext E103
  have F114 := f5.ext E103
  have F115 := f6.ext E103
  have F116 := f7.ext E103
  have F117 := f8.ext E103
  have F118 := f9.ext E103
  have F119 := f10.ext E103
  have V103 : Arv Z h103 b103 kc103 (.object "java/lang/Object") (3 : Int32) [(.ref x1), (.ref x2), (.ref x3)] .null := VA103
  refine gs m T103 11 #[vR (a1)] [(.ref b103)] (st103) ?_
  exact Go.retA X103 hx (t := (.array (.object "java/lang/Object"))) hret rfl hlk rfl (hb hby q2t) (by rw [eh103.symm]; exact ⟨b103, kc103, rfl, N103, K103, sz103, EA103, V103⟩) (by decide) (by decide)
theorem own_ef_jdk_31_method_10_code_R (m : MethodId) (x0 : Addr) : entryFrame m #[(.ref x0)] 1 = mkF m 0 #[vR (x0)] [] := by first | (simp [entryFrame, mkF, argsToLocals, Value.category]; done) | rfl | (simp [entryFrame, mkF, argsToLocals, own_cI, own_cJ, own_cR, own_cN]; done)
theorem own_pn_Objects : plainName "java/util/Objects" = true := by first | (simp [plainName, overriddenIn]; done) | decide +kernel
theorem q2u : decode jdk_31_method_10_code 0 = .ok (.aload_n 0, 1) := by decide +kernel
theorem q2v : decode jdk_31_method_10_code 1 = .ok (.ifnonnull 11, 3) := by decide +kernel
theorem q2w : decode jdk_31_method_10_code 12 = .ok (.aload_n 0, 1) := by decide +kernel
theorem q2x : decode jdk_31_method_10_code 13 = .ok (.areturn, 1) := by decide +kernel
theorem own_rnn (l : Launch) (Z : State) (a0 : Array Value) (hw : ∀ d ∈ tables_1, d.before a0 Z = true) (ws : List Jvm.Cond) (y1 : Addr) (h0 : Heap) (n0 : Nat) (Z0 : n0 ≤ h0.size)   :
    Con l Z (⟨"java/util/Objects", "requireNonNull", "(Ljava/lang/Object;)Ljava/lang/Object;"⟩ : MethodName) jdk_31_method_10_code 1 (some (.object "java/lang/Object")) ({ frames := 0, cells := 0, slots := 0, locals := 0 } : Room) ws #[(.ref y1)] h0 (Qret (some (.ref y1)) h0 n0) 0 0 := by
  refine Con.of (plainFor_of_name own_pn_Objects) ?_
  intro pgm e s m below meth c s₁ X0 hx hZ hby hml hown hnm hret hlk e0 hs0
  have N0 := Fr.nil n0
  have hown : s.vm.findClass "java/util/Objects" = some m.cls := hown
  have hnm : meth.name = "requireNonNull" := hnm
  refine Go.cast (own_ef_jdk_31_method_10_code_R m y1) ?_
  refine gs m s₁ 1 #[vR (y1)] [(.ref y1)] (fun _ k => XS.aloadN X0.here hx rfl (hb hby q2u) rfl rfl k) ?_
  refine gs m s₁ 12 #[vR (y1)] [] (fun _ k => XS.ifnonnullYes X0.here hx rfl (pc0 := 1) (pc' := 12) rfl (hb hby q2v) rfl (by decide) (by decide) k) ?_
  refine gs m s₁ 13 #[vR (y1)] [(.ref y1)] (fun _ k => XS.aloadN X0.here hx rfl (hb hby q2w) rfl rfl k) ?_
  exact Go.retA X0 hx (t := (.object "java/lang/Object")) hret rfl hlk rfl (hb hby q2x) (⟨rfl, N0, e0⟩) (by decide) (by decide)
theorem own_ef_jdk_44_method_1_code_RR (m : MethodId) (x0 : Addr) (x1 : Addr) : entryFrame m #[(.ref x0), (.ref x1)] 2 = mkF m 0 #[vR (x0), vR (x1)] [] := by first | (simp [entryFrame, mkF, argsToLocals, Value.category]; done) | rfl | (simp [entryFrame, mkF, argsToLocals, own_cI, own_cJ, own_cR, own_cN]; done)
theorem own_pn_ImmutableCollections_List12 : plainName "java/util/ImmutableCollections$List12" = true := by first | (simp [plainName, overriddenIn]; done) | decide +kernel
theorem q2y : decode jdk_44_method_1_code 0 = .ok (.aload_n 0, 1) := by decide +kernel
theorem q2z : decode jdk_44_method_1_code 1 = .ok (.invokespecial 1, 3) := by decide +kernel
theorem q30 : decode jdk_44_method_1_code 4 = .ok (.aload_n 0, 1) := by decide +kernel
theorem q31 : decode jdk_44_method_1_code 5 = .ok (.aload_n 1, 1) := by decide +kernel
theorem q32 : decode jdk_44_method_1_code 6 = .ok (.invokestatic 7, 3) := by decide +kernel
theorem own_pd6 : parseMethodDescriptor "(Ljava/lang/Object;)Ljava/lang/Object;" = some ⟨[(.object "java/lang/Object")], some (.object "java/lang/Object")⟩ := by decide +kernel
theorem q33 : decode jdk_44_method_1_code 9 = .ok (.putfield 13, 3) := by decide +kernel
theorem q34 : decode jdk_44_method_1_code 12 = .ok (.aload_n 0, 1) := by decide +kernel
theorem q35 : decode jdk_44_method_1_code 13 = .ok (.getstatic 19, 3) := by decide +kernel
theorem q36 : decode jdk_44_method_1_code 16 = .ok (.putfield 24, 3) := by decide +kernel
theorem q37 : decode jdk_44_method_1_code 19 = .ok (.return_, 1) := by decide +kernel
theorem own_l1i (l : Launch) (Z : State) (a0 : Array Value) (hw : ∀ d ∈ tables_1, d.before a0 Z = true) (ws : List Jvm.Cond) (a1 : Addr) (y1 : Addr) (u0 : Value) (u1 : Value) (em : Addr) (h0 : Heap) (n0 : Nat) (Z0 : n0 ≤ h0.size) (f0 : Exa Z h0 a1 "java/util/ImmutableCollections$List12") (f1 : n0 ≤ a1) (f2 : Fld Z h0 a1 "java/util/ImmutableCollections$List12" "e0" "Ljava/lang/Object;" u0) (f3 : Fld Z h0 a1 "java/util/ImmutableCollections$List12" "e1" "Ljava/lang/Object;" u1) (f4 : Sta Z h0 "java/util/ImmutableCollections" "EMPTY" "Ljava/lang/Object;" (.ref em))  :
    Con l Z (⟨"java/util/ImmutableCollections$List12", "<init>", "(Ljava/lang/Object;)V"⟩ : MethodName) jdk_44_method_1_code 2 none ({ frames := 4, cells := 0, slots := 0, locals := 48 } : Room) ws #[(.ref a1), (.ref y1)] h0 (fun v h L => (v = none) ∧ (Fr n0 L) ∧ (Keep h0 h [a1]) ∧ (Exa Z h a1 "java/util/ImmutableCollections$List12") ∧ (Fld Z h a1 "java/util/ImmutableCollections$List12" "e0" "Ljava/lang/Object;" (.ref y1)) ∧ (Fld Z h a1 "java/util/ImmutableCollections$List12" "e1" "Ljava/lang/Object;" (.ref em))) 0 0 := by
  refine Con.of (plainFor_of_name own_pn_ImmutableCollections_List12) ?_
  intro pgm e s m below meth c s₁ X0 hx hZ hby hml hown hnm hret hlk e0 hs0
  have N0 := Fr.nil n0
  have hown : s.vm.findClass "java/util/ImmutableCollections$List12" = some m.cls := hown
  have hnm : meth.name = "<init>" := hnm
  refine Go.cast (own_ef_jdk_44_method_1_code_RR m a1 y1) ?_
  have K0 := Keep.refl h0 [a1]
  refine gs m s₁ 1 #[vR (a1), vR (y1)] [(.ref a1)] (fun _ k => XS.aloadN X0.here hx rfl (hb hby q2y) rfl rfl k) ?_
  obtain ⟨_, _, ⟨T101, L101, k101, n101⟩, -, X101, ⟨Lc101, hQ101, l101, y101, z101⟩, st101⟩ := X0.specialBack hx (y := (⟨"java/util/ImmutableCollections$AbstractImmutableList", "<init>", "()V"⟩ : MethodName)) rfl hown (mvT hZ (hwi hw 276 rfl)) (mvT hZ (hwi hw 233 rfl)) (mvT hZ (hwi hw 236 rfl)) (by decide) (backOf (W := 0) (Q := Qret (none) h0 n0) (own_ail l Z a0 hw [] a1 h0 n0 Z0 ) hZ (hwi hw 236 rfl) (hwi hw 99 rfl) (by decide) (by decide)) (g := (mkF m 1 #[vR (a1), vR (y1)] [(.ref a1)])) rfl (by rw [hml]; rfl) (Steps.refl _) (a := a1) (argsL := []) (rest := []) (lenOf own_pd0 rfl) rfl (by show 2 * 0 + _ ≤ _; exact Nat.le_of_eq rfl) (hb hby q2z) (fun _ _ => ⟨rfl, e0, (by decide : 0 + 0 ≤ _), (by decide : 0 + 0 ≤ _)⟩)
  dsimp only [Pt.U, Pt.locs, Pt.cells, Pt.slots] at X101 l101 y101 z101 st101 hQ101
  subst l101 y101 z101
  obtain ⟨rfl, N101q, eh101⟩ := hQ101
  have N101 := Fr.app N0 N101q
  refine gs m T101 4 #[vR (a1), vR (y1)] [] (fun _ k => st101.trans k) ?_
  refine gs m T101 5 #[vR (a1), vR (y1)] [(.ref a1)] (fun _ k => XS.aloadN X101.here hx rfl (hb hby q30) rfl rfl k) ?_
  refine gs m T101 6 #[vR (a1), vR (y1)] [(.ref y1), (.ref a1)] (fun _ k => XS.aloadN X101.here hx rfl (hb hby q31) rfl rfl k) ?_
  obtain ⟨_, _, ⟨T102, L102, k102, n102⟩, -, X102, ⟨Lc102, hQ102, l102, y102, z102⟩, st102⟩ := Jvm.LawKit.callS X101 hx (y := (⟨"java/util/Objects", "requireNonNull", "(Ljava/lang/Object;)Ljava/lang/Object;"⟩ : MethodName)) hown (mvT hZ (hwi hw 280 rfl)) (mvT hZ (hwi hw 224 rfl)) (mvT hZ (hwi hw 225 rfl)) (mvT hZ (hwi hw 226 rfl)) (by decide) (backOf (W := 1) (Q := Qret (some (.ref y1)) h0 n0) (own_rnn l Z a0 hw [] y1 h0 n0 Z0 ) hZ (hwi hw 226 rfl) (hwi hw 225 rfl) (by decide) (by decide)) (g := (mkF m 6 #[vR (a1), vR (y1)] [(.ref y1), (.ref a1)])) rfl (by rw [hml]; rfl) (argsL := [(.ref y1)]) (rest := [(.ref a1)]) (lenOf own_pd6 rfl) rfl (by show 2 * 0 + _ ≤ _; exact Nat.le_of_eq rfl) (hb hby q32) (fun _ _ => ⟨rfl, eh101, (by decide : 0 + 0 ≤ _), (by decide : 0 + 0 ≤ _)⟩)
  dsimp only [Pt.U, Pt.locs, Pt.cells, Pt.slots] at X102 l102 y102 z102 st102 hQ102
  subst l102 y102 z102
  obtain ⟨rfl, N102q, eh102⟩ := hQ102
  have N102 := Fr.app N101 N102q
  refine gs m T102 9 #[vR (a1), vR (y1)] [(.ref y1), (.ref a1)] (st102) ?_
  obtain ⟨T103, h103, X103, e103, W103, st103⟩ := putF X102 hx hZ hown (host := "") (Or.inl (hwi hw 281 rfl)) Via.refl eh102 f2 f0 (Or.inr ⟨(hwi hw 282 rfl), rfl, hnm⟩) (hwi hw 270 rfl) (ty := (.object "java/lang/Object")) (by decide) rfl rfl (g := (mkF m 9 #[vR (a1), vR (y1)] [(.ref y1), (.ref a1)])) rfl rfl (hb hby q33)
  have N103 := Fr.snoc X103 N102 f1
  have Z103 : n0 ≤ h103.size := Nat.le_trans Z0 (Keep.of_wr W103).1
  have K103 := K0.wr W103 (Or.inl (List.mem_of_getElem? (i := 0) rfl))
  have F104 := f0.wr W103
  have F105 := f3.other W103 (Or.inr (slot_ne (Or.inr (hwi hw 285 rfl)) (Or.inr (hwi hw 282 rfl)) (by decide) (t := (.object "java/lang/Object")) (t' := (.object "java/lang/Object")) (by decide) (by decide)))
  have F106 := f4.wr W103
  have F107 := f2.same W103
  refine gs m T103 12 #[vR (a1), vR (y1)] [] st103 ?_
  refine gs m T103 13 #[vR (a1), vR (y1)] [(.ref a1)] (fun _ k => XS.aloadN X103.here hx rfl (hb hby q34) rfl rfl k) ?_
  obtain ⟨T108, X108, e108, st108⟩ := getS2 X103 hx hZ hown (Or.inr (hwi hw 283 rfl)) Via.refl e103 F106 (g := (mkF m 13 #[vR (a1), vR (y1)] [(.ref a1)])) rfl (hb hby q35)
  refine gs m T108 16 #[vR (a1), vR (y1)] [(.ref em), (.ref a1)] st108 ?_
  obtain ⟨T109, h109, X109, e109, W109, st109⟩ := putF X108 hx hZ hown (host := "") (Or.inl (hwi hw 284 rfl)) Via.refl e108 F105 F104 (Or.inr ⟨(hwi hw 285 rfl), rfl, hnm⟩) (hwi hw 270 rfl) (ty := (.object "java/lang/Object")) (by decide) rfl rfl (g := (mkF m 16 #[vR (a1), vR (y1)] [(.ref em), (.ref a1)])) rfl rfl (hb hby q36)
  have N109 := Fr.snoc X109 N103 f1
  have Z109 : n0 ≤ h109.size := Nat.le_trans Z103 (Keep.of_wr W109).1
  have K109 := K103.wr W109 (Or.inl (List.mem_of_getElem? (i := 0) rfl))
  have F110 := F104.wr W109
  have F111 := F106.wr W109
  have F112 := F107.other W109 (Or.inr (slot_ne (Or.inr (hwi hw 282 rfl)) (Or.inr (hwi hw 285 rfl)) (by decide) (t := (.object "java/lang/Object")) (t' := (.object "java/lang/Object")) (by decide) (by decide)))
  have F113 := F105.same W109
  refine gs m T109 19 #[vR (a1), vR (y1)] [] st109 ?_
  exact Go.retV X109 hx hret hlk (hb hby q37) (by rw [e109]; exact ⟨rfl, N109, K109, F110, F112, F113⟩) (by decide) (by decide)
theorem own_ef_jdk_44_method_2_code_RRR (m : MethodId) (x0 : Addr) (x1 : Addr) (x2 : Addr) : entryFrame m #[(.ref x0), (.ref x1), (.ref x2)] 3 = mkF m 0 #[vR (x0), vR (x1), vR (x2)] [] := by first | (simp [entryFrame, mkF, argsToLocals, Value.category]; done) | rfl | (simp [entryFrame, mkF, argsToLocals, own_cI, own_cJ, own_cR, own_cN]; done)
theorem q38 : decode jdk_44_method_2_code 0 = .ok (.aload_n 0, 1) := by decide +kernel
theorem q39 : decode jdk_44_method_2_code 1 = .ok (.invokespecial 1, 3) := by decide +kernel
theorem q3a : decode jdk_44_method_2_code 4 = .ok (.aload_n 0, 1) := by decide +kernel
theorem q3b : decode jdk_44_method_2_code 5 = .ok (.aload_n 1, 1) := by decide +kernel
theorem q3c : decode jdk_44_method_2_code 6 = .ok (.invokestatic 7, 3) := by decide +kernel
theorem q3d : decode jdk_44_method_2_code 9 = .ok (.putfield 13, 3) := by decide +kernel
theorem q3e : decode jdk_44_method_2_code 12 = .ok (.aload_n 0, 1) := by decide +kernel
theorem q3f : decode jdk_44_method_2_code 13 = .ok (.aload_n 2, 1) := by decide +kernel
theorem q3g : decode jdk_44_method_2_code 14 = .ok (.invokestatic 7, 3) := by decide +kernel
theorem q3h : decode jdk_44_method_2_code 17 = .ok (.putfield 24, 3) := by decide +kernel
theorem q3i : decode jdk_44_method_2_code 20 = .ok (.return_, 1) := by decide +kernel
theorem own_l2i (l : Launch) (Z : State) (a0 : Array Value) (hw : ∀ d ∈ tables_1, d.before a0 Z = true) (ws : List Jvm.Cond) (a1 : Addr) (y1 : Addr) (y2 : Addr) (u0 : Value) (u1 : Value) (h0 : Heap) (n0 : Nat) (Z0 : n0 ≤ h0.size) (f0 : Exa Z h0 a1 "java/util/ImmutableCollections$List12") (f1 : n0 ≤ a1) (f2 : Fld Z h0 a1 "java/util/ImmutableCollections$List12" "e0" "Ljava/lang/Object;" u0) (f3 : Fld Z h0 a1 "java/util/ImmutableCollections$List12" "e1" "Ljava/lang/Object;" u1)  :
    Con l Z (⟨"java/util/ImmutableCollections$List12", "<init>", "(Ljava/lang/Object;Ljava/lang/Object;)V"⟩ : MethodName) jdk_44_method_2_code 3 none ({ frames := 4, cells := 0, slots := 0, locals := 48 } : Room) ws #[(.ref a1), (.ref y1), (.ref y2)] h0 (fun v h L => (v = none) ∧ (Fr n0 L) ∧ (Keep h0 h [a1]) ∧ (Exa Z h a1 "java/util/ImmutableCollections$List12") ∧ (Fld Z h a1 "java/util/ImmutableCollections$List12" "e0" "Ljava/lang/Object;" (.ref y1)) ∧ (Fld Z h a1 "java/util/ImmutableCollections$List12" "e1" "Ljava/lang/Object;" (.ref y2))) 0 0 := by
  refine Con.of (plainFor_of_name own_pn_ImmutableCollections_List12) ?_
  intro pgm e s m below meth c s₁ X0 hx hZ hby hml hown hnm hret hlk e0 hs0
  have N0 := Fr.nil n0
  have hown : s.vm.findClass "java/util/ImmutableCollections$List12" = some m.cls := hown
  have hnm : meth.name = "<init>" := hnm
  refine Go.cast (own_ef_jdk_44_method_2_code_RRR m a1 y1 y2) ?_
  have K0 := Keep.refl h0 [a1]
  refine gs m s₁ 1 #[vR (a1), vR (y1), vR (y2)] [(.ref a1)] (fun _ k => XS.aloadN X0.here hx rfl (hb hby q38) rfl rfl k) ?_
  obtain ⟨_, _, ⟨T101, L101, k101, n101⟩, -, X101, ⟨Lc101, hQ101, l101, y101, z101⟩, st101⟩ := X0.specialBack hx (y := (⟨"java/util/ImmutableCollections$AbstractImmutableList", "<init>", "()V"⟩ : MethodName)) rfl hown (mvT hZ (hwi hw 276 rfl)) (mvT hZ (hwi hw 233 rfl)) (mvT hZ (hwi hw 236 rfl)) (by decide) (backOf (W := 0) (Q := Qret (none) h0 n0) (own_ail l Z a0 hw [] a1 h0 n0 Z0 ) hZ (hwi hw 236 rfl) (hwi hw 99 rfl) (by decide) (by decide)) (g := (mkF m 1 #[vR (a1), vR (y1), vR (y2)] [(.ref a1)])) rfl (by rw [hml]; rfl) (Steps.refl _) (a := a1) (argsL := []) (rest := []) (lenOf own_pd0 rfl) rfl (by show 2 * 0 + _ ≤ _; exact Nat.le_of_eq rfl) (hb hby q39) (fun _ _ => ⟨rfl, e0, (by decide : 0 + 0 ≤ _), (by decide : 0 + 0 ≤ _)⟩)
  dsimp only [Pt.U, Pt.locs, Pt.cells, Pt.slots] at X101 l101 y101 z101 st101 hQ101
  subst l101 y101 z101
  obtain ⟨rfl, N101q, eh101⟩ := hQ101
  have N101 := Fr.app N0 N101q
  refine gs m T101 4 #[vR (a1), vR (y1), vR (y2)] [] (fun _ k => st101.trans k) ?_
  refine gs m T101 5 #[vR (a1), vR (y1), vR (y2)] [(.ref a1)] (fun _ k => XS.aloadN X101.here hx rfl (hb hby q3a) rfl rfl k) ?_
  refine gs m T101 6 #[vR (a1), vR (y1), vR (y2)] [(.ref y1), (.ref a1)] (fun _ k => XS.aloadN X101.here hx rfl (hb hby q3b) rfl rfl k) ?_
  obtain ⟨_, _, ⟨T102, L102, k102, n102⟩, -, X102, ⟨Lc102, hQ102, l102, y102, z102⟩, st102⟩ := Jvm.LawKit.callS X101 hx (y := (⟨"java/util/Objects", "requireNonNull", "(Ljava/lang/Object;)Ljava/lang/Object;"⟩ : MethodName)) hown (mvT hZ (hwi hw 280 rfl)) (mvT hZ (hwi hw 224 rfl)) (mvT hZ (hwi hw 225 rfl)) (mvT hZ (hwi hw 226 rfl)) (by decide) (backOf (W := 1) (Q := Qret (some (.ref y1)) h0 n0) (own_rnn l Z a0 hw [] y1 h0 n0 Z0 ) hZ (hwi hw 226 rfl) (hwi hw 225 rfl) (by decide) (by decide)) (g := (mkF m 6 #[vR (a1), vR (y1), vR (y2)] [(.ref y1), (.ref a1)])) rfl (by rw [hml]; rfl) (argsL := [(.ref y1)]) (rest := [(.ref a1)]) (lenOf own_pd6 rfl) rfl (by show 2 * 0 + _ ≤ _; exact Nat.le_of_eq rfl) (hb hby q3c) (fun _ _ => ⟨rfl, eh101, (by decide : 0 + 0 ≤ _), (by decide : 0 + 0 ≤ _)⟩)
  dsimp only [Pt.U, Pt.locs, Pt.cells, Pt.slots] at X102 l102 y102 z102 st102 hQ102
  subst l102 y102 z102
  obtain ⟨rfl, N102q, eh102⟩ := hQ102
  have N102 := Fr.app N101 N102q
  refine gs m T102 9 #[vR (a1), vR (y1), vR (y2)] [(.ref y1), (.ref a1)] (st102) ?_
  obtain ⟨T103, h103, X103, e103, W103, st103⟩ := putF X102 hx hZ hown (host := "") (Or.inl (hwi hw 281 rfl)) Via.refl eh102 f2 f0 (Or.inr ⟨(hwi hw 282 rfl), rfl, hnm⟩) (hwi hw 270 rfl) (ty := (.object "java/lang/Object")) (by decide) rfl rfl (g := (mkF m 9 #[vR (a1), vR (y1), vR (y2)] [(.ref y1), (.ref a1)])) rfl rfl (hb hby q3d)
  have N103 := Fr.snoc X103 N102 f1
  have Z103 : n0 ≤ h103.size := Nat.le_trans Z0 (Keep.of_wr W103).1
  have K103 := K0.wr W103 (Or.inl (List.mem_of_getElem? (i := 0) rfl))
  have F104 := f0.wr W103
  have F105 := f3.other W103 (Or.inr (slot_ne (Or.inr (hwi hw 285 rfl)) (Or.inr (hwi hw 282 rfl)) (by decide) (t := (.object "java/lang/Object")) (t' := (.object "java/lang/Object")) (by decide) (by decide)))
  have F106 := f2.same W103
  refine gs m T103 12 #[vR (a1), vR (y1), vR (y2)] [] st103 ?_
  refine gs m T103 13 #[vR (a1), vR (y1), vR (y2)] [(.ref a1)] (fun _ k => XS.aloadN X103.here hx rfl (hb hby q3e) rfl rfl k) ?_
  refine gs m T103 14 #[vR (a1), vR (y1), vR (y2)] [(.ref y2), (.ref a1)] (fun _ k => XS.aloadN X103.here hx rfl (hb hby q3f) rfl rfl k) ?_
  obtain ⟨_, _, ⟨T107, L107, k107, n107⟩, -, X107, ⟨Lc107, hQ107, l107, y107, z107⟩, st107⟩ := Jvm.LawKit.callS X103 hx (y := (⟨"java/util/Objects", "requireNonNull", "(Ljava/lang/Object;)Ljava/lang/Object;"⟩ : MethodName)) hown (mvT hZ (hwi hw 280 rfl)) (mvT hZ (hwi hw 224 rfl)) (mvT hZ (hwi hw 225 rfl)) (mvT hZ (hwi hw 226 rfl)) (by decide) (backOf (W := 1) (Q := Qret (some (.ref y2)) h103 n0) (own_rnn l Z a0 hw [] y2 h103 n0 Z103 ) hZ (hwi hw 226 rfl) (hwi hw 225 rfl) (by decide) (by decide)) (g := (mkF m 14 #[vR (a1), vR (y1), vR (y2)] [(.ref y2), (.ref a1)])) rfl (by rw [hml]; rfl) (argsL := [(.ref y2)]) (rest := [(.ref a1)]) (lenOf own_pd6 rfl) rfl (by show 2 * 0 + _ ≤ _; exact Nat.le_of_eq rfl) (hb hby q3g) (fun _ _ => ⟨rfl, e103, (by decide : 0 + 0 ≤ _), (by decide : 0 + 0 ≤ _)⟩)
  dsimp only [Pt.U, Pt.locs, Pt.cells, Pt.slots] at X107 l107 y107 z107 st107 hQ107
  subst l107 y107 z107
  obtain ⟨rfl, N107q, eh107⟩ := hQ107
  have N107 := Fr.app N103 N107q
  refine gs m T107 17 #[vR (a1), vR (y1), vR (y2)] [(.ref y2), (.ref a1)] (st107) ?_
  obtain ⟨T108, h108, X108, e108, W108, st108⟩ := putF X107 hx hZ hown (host := "") (Or.inl (hwi hw 284 rfl)) Via.refl eh107 F105 F104 (Or.inr ⟨(hwi hw 285 rfl), rfl, hnm⟩) (hwi hw 270 rfl) (ty := (.object "java/lang/Object")) (by decide) rfl rfl (g := (mkF m 17 #[vR (a1), vR (y1), vR (y2)] [(.ref y2), (.ref a1)])) rfl rfl (hb hby q3h)
  have N108 := Fr.snoc X108 N107 f1
  have Z108 : n0 ≤ h108.size := Nat.le_trans Z103 (Keep.of_wr W108).1
  have K108 := K103.wr W108 (Or.inl (List.mem_of_getElem? (i := 0) rfl))
  have F109 := F104.wr W108
  have F110 := F106.other W108 (Or.inr (slot_ne (Or.inr (hwi hw 282 rfl)) (Or.inr (hwi hw 285 rfl)) (by decide) (t := (.object "java/lang/Object")) (t' := (.object "java/lang/Object")) (by decide) (by decide)))
  have F111 := F105.same W108
  refine gs m T108 20 #[vR (a1), vR (y1), vR (y2)] [] st108 ?_
  exact Go.retV X108 hx hret hlk (hb hby q3i) (by rw [e108]; exact ⟨rfl, N108, K108, F109, F110, F111⟩) (by decide) (by decide)
theorem own_ef_jdk_45_method_1_code_RRI (m : MethodId) (x0 : Addr) (x1 : Addr) (x2 : Int32) : entryFrame m #[(.ref x0), (.ref x1), (.int x2)] 3 = mkF m 0 #[vR (x0), vR (x1), vI (x2)] [] := by first | (simp [entryFrame, mkF, argsToLocals, Value.category]; done) | rfl | (simp [entryFrame, mkF, argsToLocals, own_cI, own_cJ, own_cR, own_cN]; done)
theorem own_pn_ImmutableCollections_ListN : plainName "java/util/ImmutableCollections$ListN" = true := by first | (simp [plainName, overriddenIn]; done) | decide +kernel
theorem q3j : decode jdk_45_method_1_code 0 = .ok (.aload_n 0, 1) := by decide +kernel
theorem q3k : decode jdk_45_method_1_code 1 = .ok (.invokespecial 1, 3) := by decide +kernel
theorem q3l : decode jdk_45_method_1_code 4 = .ok (.aload_n 0, 1) := by decide +kernel
theorem q3m : decode jdk_45_method_1_code 5 = .ok (.aload_n 1, 1) := by decide +kernel
theorem q3n : decode jdk_45_method_1_code 6 = .ok (.putfield 7, 3) := by decide +kernel
theorem q3o : decode jdk_45_method_1_code 9 = .ok (.aload_n 0, 1) := by decide +kernel
theorem q3p : decode jdk_45_method_1_code 10 = .ok (.iload_n 2, 1) := by decide +kernel
theorem q3q : decode jdk_45_method_1_code 11 = .ok (.putfield 13, 3) := by decide +kernel
theorem q3r : decode jdk_45_method_1_code 14 = .ok (.return_, 1) := by decide +kernel
theorem own_lni (l : Launch) (Z : State) (a0 : Array Value) (hw : ∀ d ∈ tables_1, d.before a0 Z = true) (ws : List Jvm.Cond) (a1 : Addr) (b1 : Addr) (u0 : Value) (u1 : Value) (h0 : Heap) (n0 : Nat) (Z0 : n0 ≤ h0.size) (f0 : Exa Z h0 a1 "java/util/ImmutableCollections$ListN") (f1 : n0 ≤ a1) (f2 : Fld Z h0 a1 "java/util/ImmutableCollections$ListN" "elements" "[Ljava/lang/Object;" u0) (f3 : Fld Z h0 a1 "java/util/ImmutableCollections$ListN" "allowNulls" "Z" u1)  :
    Con l Z (⟨"java/util/ImmutableCollections$ListN", "<init>", "([Ljava/lang/Object;Z)V"⟩ : MethodName) jdk_45_method_1_code 3 none ({ frames := 4, cells := 0, slots := 0, locals := 48 } : Room) ws #[(.ref a1), (.ref b1), (.int (0 : Int32))] h0 (fun v h L => (v = none) ∧ (Fr n0 L) ∧ (Keep h0 h [a1]) ∧ (Exa Z h a1 "java/util/ImmutableCollections$ListN") ∧ (Fld Z h a1 "java/util/ImmutableCollections$ListN" "elements" "[Ljava/lang/Object;" (.ref b1))) 0 0 := by
  refine Con.of (plainFor_of_name own_pn_ImmutableCollections_ListN) ?_
  intro pgm e s m below meth c s₁ X0 hx hZ hby hml hown hnm hret hlk e0 hs0
  have N0 := Fr.nil n0
  have hown : s.vm.findClass "java/util/ImmutableCollections$ListN" = some m.cls := hown
  have hnm : meth.name = "<init>" := hnm
  refine Go.cast (own_ef_jdk_45_method_1_code_RRI m a1 b1 (0 : Int32)) ?_
  have K0 := Keep.refl h0 [a1]
  refine gs m s₁ 1 #[vR (a1), vR (b1), vI ((0 : Int32))] [(.ref a1)] (fun _ k => XS.aloadN X0.here hx rfl (hb hby q3j) rfl rfl k) ?_
  obtain ⟨_, _, ⟨T101, L101, k101, n101⟩, -, X101, ⟨Lc101, hQ101, l101, y101, z101⟩, st101⟩ := X0.specialBack hx (y := (⟨"java/util/ImmutableCollections$AbstractImmutableList", "<init>", "()V"⟩ : MethodName)) rfl hown (mvT hZ (hwi hw 232 rfl)) (mvT hZ (hwi hw 233 rfl)) (mvT hZ (hwi hw 236 rfl)) (by decide) (backOf (W := 0) (Q := Qret (none) h0 n0) (own_ail l Z a0 hw [] a1 h0 n0 Z0 ) hZ (hwi hw 236 rfl) (hwi hw 99 rfl) (by decide) (by decide)) (g := (mkF m 1 #[vR (a1), vR (b1), vI ((0 : Int32))] [(.ref a1)])) rfl (by rw [hml]; rfl) (Steps.refl _) (a := a1) (argsL := []) (rest := []) (lenOf own_pd0 rfl) rfl (by show 2 * 0 + _ ≤ _; exact Nat.le_of_eq rfl) (hb hby q3k) (fun _ _ => ⟨rfl, e0, (by decide : 0 + 0 ≤ _), (by decide : 0 + 0 ≤ _)⟩)
  dsimp only [Pt.U, Pt.locs, Pt.cells, Pt.slots] at X101 l101 y101 z101 st101 hQ101
  subst l101 y101 z101
  obtain ⟨rfl, N101q, eh101⟩ := hQ101
  have N101 := Fr.app N0 N101q
  refine gs m T101 4 #[vR (a1), vR (b1), vI ((0 : Int32))] [] (fun _ k => st101.trans k) ?_
  refine gs m T101 5 #[vR (a1), vR (b1), vI ((0 : Int32))] [(.ref a1)] (fun _ k => XS.aloadN X101.here hx rfl (hb hby q3l) rfl rfl k) ?_
  refine gs m T101 6 #[vR (a1), vR (b1), vI ((0 : Int32))] [(.ref b1), (.ref a1)] (fun _ k => XS.aloadN X101.here hx rfl (hb hby q3m) rfl rfl k) ?_
  obtain ⟨T102, h102, X102, e102, W102, st102⟩ := putF X101 hx hZ hown (host := "") (Or.inl (hwi hw 111 rfl)) Via.refl eh101 f2 f0 (Or.inr ⟨(hwi hw 112 rfl), rfl, hnm⟩) (hwi hw 227 rfl) (ty := (.array (.object "java/lang/Object"))) (by decide) rfl rfl (g := (mkF m 6 #[vR (a1), vR (b1), vI ((0 : Int32))] [(.ref b1), (.ref a1)])) rfl rfl (hb hby q3n)
  have N102 := Fr.snoc X102 N101 f1
  have Z102 : n0 ≤ h102.size := Nat.le_trans Z0 (Keep.of_wr W102).1
  have K102 := K0.wr W102 (Or.inl (List.mem_of_getElem? (i := 0) rfl))
  have F103 := f0.wr W102
  have F104 := f3.other W102 (Or.inr (slot_ne (Or.inr (hwi hw 246 rfl)) (Or.inr (hwi hw 112 rfl)) (by decide) (t := .boolean) (t' := (.array (.object "java/lang/Object"))) (by decide) (by decide)))
  have F105 := f2.same W102
  refine gs m T102 9 #[vR (a1), vR (b1), vI ((0 : Int32))] [] st102 ?_
  refine gs m T102 10 #[vR (a1), vR (b1), vI ((0 : Int32))] [(.ref a1)] (fun _ k => XS.aloadN X102.here hx rfl (hb hby q3o) rfl rfl k) ?_
  refine gs m T102 11 #[vR (a1), vR (b1), vI ((0 : Int32))] [(.int (0 : Int32)), (.ref a1)] (fun _ k => XS.iloadN X102.here hx rfl (hb hby q3p) rfl  k) ?_
  obtain ⟨T106, h106, X106, e106, W106, st106⟩ := putFN X102 hx hZ hown (hwi hw 245 rfl) Via.refl e102 F104 F103 (Or.inr ⟨(hwi hw 246 rfl), rfl, hnm⟩) (hwi hw 227 rfl) (ty := .boolean) (v' := (.int (0 : Int32))) (by decide) (rfl) (by decide) (g := (mkF m 11 #[vR (a1), vR (b1), vI ((0 : Int32))] [(.int (0 : Int32)), (.ref a1)])) rfl rfl (hb hby q3q)
  have N106 := Fr.snoc X106 N102 f1
  have Z106 : n0 ≤ h106.size := Nat.le_trans Z102 (Keep.of_wr W106).1
  have K106 := K102.wr W106 (Or.inl (List.mem_of_getElem? (i := 0) rfl))
  have F107 := F103.wr W106
  have F108 := F105.other W106 (Or.inr (slot_ne (Or.inr (hwi hw 112 rfl)) (Or.inr (hwi hw 246 rfl)) (by decide) (t := (.array (.object "java/lang/Object"))) (t' := .boolean) (by decide) (by decide)))
  have F109 := F104.same W106
  refine gs m T106 14 #[vR (a1), vR (b1), vI ((0 : Int32))] [] st106 ?_
  exact Go.retV X106 hx hret hlk (hb hby q3r) (by rw [e106]; exact ⟨rfl, N106, K106, F107, F108⟩) (by decide) (by decide)
theorem own_ef_jdk_40_method_47_code_R (m : MethodId) (x0 : Addr) : entryFrame m #[(.ref x0)] 2 = mkF m 0 #[vR (x0), sU] [] := by first | (simp [entryFrame, mkF, argsToLocals, Value.category]; done) | rfl | (simp [entryFrame, mkF, argsToLocals, own_cI, own_cJ, own_cR, own_cN]; done)
theorem q3s : decode jdk_40_method_47_code 0 = .ok (.aload_n 0, 1) := by decide +kernel
theorem q3t : decode jdk_40_method_47_code 1 = .ok (.arraylength, 1) := by decide +kernel
theorem q3u : decode jdk_40_method_47_code 2 = .ok (.tableswitch 57 0 2 #[26, 32, 43], 26) := by decide +kernel
theorem q3v : decode jdk_40_method_47_code 34 = .ok (.new 96, 3) := by decide +kernel
theorem q3w : decode jdk_40_method_47_code 37 = .ok (.dup, 1) := by decide +kernel
theorem q3x : decode jdk_40_method_47_code 38 = .ok (.aload_n 0, 1) := by decide +kernel
theorem q3y : decode jdk_40_method_47_code 39 = .ok (.iconst 0, 1) := by decide +kernel
theorem q3z : decode jdk_40_method_47_code 40 = .ok (.aaload, 1) := by decide +kernel
theorem q40 : decode jdk_40_method_47_code 41 = .ok (.invokespecial 98, 3) := by decide +kernel
theorem own_pd7 : parseMethodDescriptor "(Ljava/lang/Object;)V" = some ⟨[(.object "java/lang/Object")], none⟩ := by decide +kernel
theorem q41 : decode jdk_40_method_47_code 44 = .ok (.areturn, 1) := by decide +kernel
theorem own_ofa1 (l : Launch) (Z : State) (a0 : Array Value) (hw : ∀ d ∈ tables_1, d.before a0 Z = true) (ws : List Jvm.Cond) (b1 : Addr) (k1 : ClassId) (x1 : Addr) (s1 : Int64) (em : Addr) (h0 : Heap) (n0 : Nat) (Z0 : n0 ≤ h0.size) (f0 : Exa Z h0 b1 "[Ljava/lang/Object;") (f1 : Arv Z h0 b1 k1 (.object "java/lang/Object") (1 : Int32) [(.ref x1)] .null) (f2 : Exa Z h0 x1 "java/time/Duration") (f3 : Fld Z h0 x1 "java/time/Duration" "seconds" "J" (.long s1)) (f4 : Sta Z h0 "java/util/ImmutableCollections" "EMPTY" "Ljava/lang/Object;" (.ref em))  :
    Con l Z (⟨"java/util/List", "of", "([Ljava/lang/Object;)Ljava/util/List;"⟩ : MethodName) jdk_40_method_47_code 2 (some (.object "java/util/List")) ({ frames := 5, cells := 1, slots := 2, locals := 62 } : Room) ws #[(.ref b1)] h0 (fun v h L => ∃ lst : Addr, (v = some (.ref lst)) ∧ (Fr n0 L) ∧ (Keep h0 h []) ∧ (h0.size ≤ lst) ∧ (Exa Z h lst "java/util/ImmutableCollections$List12") ∧ (Fld Z h lst "java/util/ImmutableCollections$List12" "e0" "Ljava/lang/Object;" (.ref x1)) ∧ (Fld Z h lst "java/util/ImmutableCollections$List12" "e1" "Ljava/lang/Object;" (.ref em))) 1 2 := by
  refine Con.of (plainFor_of_name own_pn_List) ?_
  intro pgm e s m below meth c s₁ X0 hx hZ hby hml hown hnm hret hlk e0 hs0
  have N0 := Fr.nil n0
  have hown : s.vm.findClass "java/util/List" = some m.cls := hown
  have hnm : meth.name = "of" := hnm
  refine Go.cast (own_ef_jdk_40_method_47_code_R m b1) ?_
  have K0 := Keep.refl h0 []
  refine gs m s₁ 1 #[vR (b1), sU] [(.ref b1)] (fun _ k => XS.aloadN X0.here hx rfl (hb hby q3s) rfl rfl k) ?_
  obtain ⟨cl101, Ar101, -, S101, M101, -, -⟩ := id f1
  refine gs m s₁ 2 #[vR (b1), sU] [(.int (1 : Int32))] (fun _ k => X0.arraylength hx (cell := cl101) (by rw [e0]; exact Ar101.1) (State.isArrayOf_alike hZ.alike Ar101.2.1) (g := (mkF m 1 #[vR (b1), sU] [(.ref b1)])) rfl (rest := []) rfl (hb hby q3t) _ (by rw [len_of S101 M101]; exact k)) ?_
  refine gs m s₁ 34 #[vR (b1), sU] [] (fun _ k => XS.tswIn X0.here hx rfl (pc0 := 2) (pc' := 34) rfl (hb hby q3u) rfl (by decide) (o := 32) (by decide) (by decide) (by decide) k) ?_
  obtain ⟨T102, h102, X102, e102, E102, A102, D102, -, st102⟩ := newO X0 hx hZ hown (hwi hw 269 rfl) (hwi hw 270 rfl) (hwi hw 271 rfl) e0 (g := (mkF m 34 #[vR (b1), sU] [])) rfl (hb hby q3v) (by decide) (by decide)
  obtain ⟨b102, g102⟩ : ∃ z, z = h0.size := ⟨_, rfl⟩
  rw [← g102] at A102 D102 st102
  have ne103 : b1 ≠ b102 := by have q := f0.lt; intro r; rw [r, g102] at q; exact Nat.lt_irrefl _ q
  have ne104 : x1 ≠ b102 := by have q := f2.lt; intro r; rw [r, g102] at q; exact Nat.lt_irrefl _ q
  have ge102 : n0 ≤ b102 := Nat.le_trans Z0 (Nat.le_of_eq g102.symm)
  have Z102 : n0 ≤ h102.size := Nat.le_trans Z0 E102.1
  have sz102 : h0.size ≤ b102 := Nat.le_trans K0.1 (Nat.le_of_eq g102.symm)
  have K102 := K0.ext E102
  have F105 := f0.ext E102
  have F106 := f1.ext E102
  have F107 := f2.ext E102
  have F108 := f3.ext E102
  have F109 := f4.ext E102
  have F110 : Fld Z h102 b102 "java/util/ImmutableCollections$List12" "e0" "Ljava/lang/Object;" .null := D102 (Or.inr (hwi hw 282 rfl)) (ty := (.object "java/lang/Object")) (by decide)
  have F111 : Fld Z h102 b102 "java/util/ImmutableCollections$List12" "e1" "Ljava/lang/Object;" .null := D102 (Or.inr (hwi hw 285 rfl)) (ty := (.object "java/lang/Object")) (by decide)
  refine gs m T102 37 #[vR (b1), sU] [(.ref b102)] st102 ?_
  refine gs m T102 38 #[vR (b1), sU] [(.ref b102), (.ref b102)] (fun _ k => XS.dup X102.here hx rfl (hb hby q3w) rfl rfl k) ?_
  refine gs m T102 39 #[vR (b1), sU] [(.ref b1), (.ref b102), (.ref b102)] (fun _ k => XS.aloadN X102.here hx rfl (hb hby q3x) rfl rfl k) ?_
  refine gs m T102 40 #[vR (b1), sU] [(.int (0 : Int32)), (.ref b1), (.ref b102), (.ref b102)] (fun _ k => XS.iconst X102.here hx rfl (hb hby q3y) k) ?_
  obtain ⟨cl112, Ar112, q112, S112, M112, H112, G112⟩ := id F106
  have I112 := inb_of (j := (0 : Int32)) S112 (by decide)
  refine gs m T102 41 #[vR (b1), sU] [(.ref x1), (.ref b102), (.ref b102)] (fun _ k => X102.aaload hx (j := (0 : Int32)) (v := (.ref x1)) (by rw [e102]; exact Ar112.1) (State.isArrayOf_alike hZ.alike Ar112.2.1) rfl Ar112.2.2 I112 (Has.at H112 I112 rfl) (g := (mkF m 40 #[vR (b1), sU] [(.int (0 : Int32)), (.ref b1), (.ref b102), (.ref b102)])) rfl rfl (hb hby q3z) _ k) ?_
  obtain ⟨_, _, ⟨T113, L113, k113, n113⟩, -, X113, ⟨Lc113, hQ113, l113, y113, z113⟩, st113⟩ := X102.specialBack hx (y := (⟨"java/util/ImmutableCollections$List12", "<init>", "(Ljava/lang/Object;)V"⟩ : MethodName)) rfl hown (mvT hZ (hwi hw 272 rfl)) (mvT hZ (hwi hw 273 rfl)) (mvT hZ (hwi hw 275 rfl)) (by decide) (backOf (W := 1) (Q := fun v h L => (v = none) ∧ (Fr n0 L) ∧ (Keep h102 h [b102]) ∧ (Exa Z h b102 "java/util/ImmutableCollections$List12") ∧ (Fld Z h b102 "java/util/ImmutableCollections$List12" "e0" "Ljava/lang/Object;" (.ref x1)) ∧ (Fld Z h b102 "java/util/ImmutableCollections$List12" "e1" "Ljava/lang/Object;" (.ref em))) (own_l1i l Z a0 hw [] b102 x1 .null .null em h102 n0 Z102 A102 ge102 F110 F111 F109) hZ (hwi hw 275 rfl) (hwi hw 271 rfl) (by decide) (by decide)) (g := (mkF m 41 #[vR (b1), sU] [(.ref x1), (.ref b102), (.ref b102)])) rfl (by rw [hml]; rfl) (Steps.refl _) (a := b102) (argsL := [(.ref x1)]) (rest := [(.ref b102)]) (lenOf own_pd7 rfl) rfl (by show 2 * 0 + _ ≤ _; exact Nat.le_of_eq rfl) (hb hby q40) (fun _ _ => ⟨rfl, e102, (by decide : 1 + 0 ≤ _), (by decide : 2 + 0 ≤ _)⟩)
  dsimp only [Pt.U, Pt.locs, Pt.cells, Pt.slots] at X113 l113 y113 z113 st113 hQ113
  subst l113 y113 z113
  obtain ⟨rfl, N113q, K113, P113_0, P113_1, P113_2⟩ := hQ113
  have N113 := Fr.app N0 N113q
  have KK113 := K102.trans K113 (allS (Or.inr sz102) all0)
  have Z113 : n0 ≤ T113.heap.size := Nat.le_trans Z102 K113.1
  have F114 := F105.keep K113
  have F115 := F106.keep K113 (ninS ne103 nin0)
  have F116 := F107.keep K113
  have F117 := F108.keep K113 (ninS ne104 nin0)
  have F118 := own_sta_keep F109 K113 (allS (own_plain A102) all0)
  have F119 := A102.keep K113
  refine gs m T113 44 #[vR (b1), sU] [(.ref b102)] (fun _ k => st113.trans k) ?_
  exact Go.retA X113 hx (t := (.object "java/util/List")) hret rfl hlk rfl (hb hby q41) (⟨b102, rfl, N113, KK113, sz102, P113_0, P113_1, P113_2⟩) (by decide) (by decide)
theorem q42 : decode jdk_40_method_47_code 45 = .ok (.new 96, 3) := by decide +kernel
theorem q43 : decode jdk_40_method_47_code 48 = .ok (.dup, 1) := by decide +kernel
theorem q44 : decode jdk_40_method_47_code 49 = .ok (.aload_n 0, 1) := by decide +kernel
theorem q45 : decode jdk_40_method_47_code 50 = .ok (.iconst 0, 1) := by decide +kernel
theorem q46 : decode jdk_40_method_47_code 51 = .ok (.aaload, 1) := by decide +kernel
theorem q47 : decode jdk_40_method_47_code 52 = .ok (.aload_n 0, 1) := by decide +kernel
theorem q48 : decode jdk_40_method_47_code 53 = .ok (.iconst 1, 1) := by decide +kernel
theorem q49 : decode jdk_40_method_47_code 54 = .ok (.aaload, 1) := by decide +kernel
theorem q4a : decode jdk_40_method_47_code 55 = .ok (.invokespecial 100, 3) := by decide +kernel
theorem own_pd8 : parseMethodDescriptor "(Ljava/lang/Object;Ljava/lang/Object;)V" = some ⟨[(.object "java/lang/Object"), (.object "java/lang/Object")], none⟩ := by decide +kernel
theorem q4b : decode jdk_40_method_47_code 58 = .ok (.areturn, 1) := by decide +kernel
theorem own_ofa2 (l : Launch) (Z : State) (a0 : Array Value) (hw : ∀ d ∈ tables_1, d.before a0 Z = true) (ws : List Jvm.Cond) (b1 : Addr) (k1 : ClassId) (x1 : Addr) (x2 : Addr) (s1 : Int64) (s2 : Int64) (h0 : Heap) (n0 : Nat) (Z0 : n0 ≤ h0.size) (f0 : Exa Z h0 b1 "[Ljava/lang/Object;") (f1 : Arv Z h0 b1 k1 (.object "java/lang/Object") (2 : Int32) [(.ref x1), (.ref x2)] .null) (f2 : Exa Z h0 x1 "java/time/Duration") (f3 : Fld Z h0 x1 "java/time/Duration" "seconds" "J" (.long s1)) (f4 : Exa Z h0 x2 "java/time/Duration") (f5 : Fld Z h0 x2 "java/time/Duration" "seconds" "J" (.long s2))  :
    Con l Z (⟨"java/util/List", "of", "([Ljava/lang/Object;)Ljava/util/List;"⟩ : MethodName) jdk_40_method_47_code 2 (some (.object "java/util/List")) ({ frames := 5, cells := 1, slots := 2, locals := 63 } : Room) ws #[(.ref b1)] h0 (fun v h L => ∃ lst : Addr, (v = some (.ref lst)) ∧ (Fr n0 L) ∧ (Keep h0 h []) ∧ (h0.size ≤ lst) ∧ (Exa Z h lst "java/util/ImmutableCollections$List12") ∧ (Fld Z h lst "java/util/ImmutableCollections$List12" "e0" "Ljava/lang/Object;" (.ref x1)) ∧ (Fld Z h lst "java/util/ImmutableCollections$List12" "e1" "Ljava/lang/Object;" (.ref x2))) 1 2 := by
  refine Con.of (plainFor_of_name own_pn_List) ?_
  intro pgm e s m below meth c s₁ X0 hx hZ hby hml hown hnm hret hlk e0 hs0
  have N0 := Fr.nil n0
  have hown : s.vm.findClass "java/util/List" = some m.cls := hown
  have hnm : meth.name = "of" := hnm
  refine Go.cast (own_ef_jdk_40_method_47_code_R m b1) ?_
  have K0 := Keep.refl h0 []
  refine gs m s₁ 1 #[vR (b1), sU] [(.ref b1)] (fun _ k => XS.aloadN X0.here hx rfl (hb hby q3s) rfl rfl k) ?_
  obtain ⟨cl101, Ar101, -, S101, M101, -, -⟩ := id f1
  refine gs m s₁ 2 #[vR (b1), sU] [(.int (2 : Int32))] (fun _ k => X0.arraylength hx (cell := cl101) (by rw [e0]; exact Ar101.1) (State.isArrayOf_alike hZ.alike Ar101.2.1) (g := (mkF m 1 #[vR (b1), sU] [(.ref b1)])) rfl (rest := []) rfl (hb hby q3t) _ (by rw [len_of S101 M101]; exact k)) ?_
  refine gs m s₁ 45 #[vR (b1), sU] [] (fun _ k => XS.tswIn X0.here hx rfl (pc0 := 2) (pc' := 45) rfl (hb hby q3u) rfl (by decide) (o := 43) (by decide) (by decide) (by decide) k) ?_
  obtain ⟨T102, h102, X102, e102, E102, A102, D102, -, st102⟩ := newO X0 hx hZ hown (hwi hw 269 rfl) (hwi hw 270 rfl) (hwi hw 271 rfl) e0 (g := (mkF m 45 #[vR (b1), sU] [])) rfl (hb hby q42) (by decide) (by decide)
  obtain ⟨b102, g102⟩ : ∃ z, z = h0.size := ⟨_, rfl⟩
  rw [← g102] at A102 D102 st102
  have ne103 : b1 ≠ b102 := by have q := f0.lt; intro r; rw [r, g102] at q; exact Nat.lt_irrefl _ q
  have ne104 : x1 ≠ b102 := by have q := f2.lt; intro r; rw [r, g102] at q; exact Nat.lt_irrefl _ q
  have ne105 : x2 ≠ b102 := by have q := f4.lt; intro r; rw [r, g102] at q; exact Nat.lt_irrefl _ q
  have ge102 : n0 ≤ b102 := Nat.le_trans Z0 (Nat.le_of_eq g102.symm)
  have Z102 : n0 ≤ h102.size := Nat.le_trans Z0 E102.1
  have sz102 : h0.size ≤ b102 := Nat.le_trans K0.1 (Nat.le_of_eq g102.symm)
  have K102 := K0.ext E102
  have F106 := f0.ext E102
  have F107 := f1.ext E102
  have F108 := f2.ext E102
  have F109 := f3.ext E102
  have F110 := f4.ext E102
  have F111 := f5.ext E102
  have F112 : Fld Z h102 b102 "java/util/ImmutableCollections$List12" "e0" "Ljava/lang/Object;" .null := D102 (Or.inr (hwi hw 282 rfl)) (ty := (.object "java/lang/Object")) (by decide)
  have F113 : Fld Z h102 b102 "java/util/ImmutableCollections$List12" "e1" "Ljava/lang/Object;" .null := D102 (Or.inr (hwi hw 285 rfl)) (ty := (.object "java/lang/Object")) (by decide)
  refine gs m T102 48 #[vR (b1), sU] [(.ref b102)] st102 ?_
  refine gs m T102 49 #[vR (b1), sU] [(.ref b102), (.ref b102)] (fun _ k => XS.dup X102.here hx rfl (hb hby q43) rfl rfl k) ?_
  refine gs m T102 50 #[vR (b1), sU] [(.ref b1), (.ref b102), (.ref b102)] (fun _ k => XS.aloadN X102.here hx rfl (hb hby q44) rfl rfl k) ?_
  refine gs m T102 51 #[vR (b1), sU] [(.int (0 : Int32)), (.ref b1), (.ref b102), (.ref b102)] (fun _ k => XS.iconst X102.here hx rfl (hb hby q45) k) ?_
  obtain ⟨cl114, Ar114, q114, S114, M114, H114, G114⟩ := id F107
  have I114 := inb_of (j := (0 : Int32)) S114 (by decide)
  refine gs m T102 52 #[vR (b1), sU] [(.ref x1), (.ref b102), (.ref b102)] (fun _ k => X102.aaload hx (j := (0 : Int32)) (v := (.ref x1)) (by rw [e102]; exact Ar114.1) (State.isArrayOf_alike hZ.alike Ar114.2.1) rfl Ar114.2.2 I114 (Has.at H114 I114 rfl) (g := (mkF m 51 #[vR (b1), sU] [(.int (0 : Int32)), (.ref b1), (.ref b102), (.ref b102)])) rfl rfl (hb hby q46) _ k) ?_
  refine gs m T102 53 #[vR (b1), sU] [(.ref b1), (.ref x1), (.ref b102), (.ref b102)] (fun _ k => XS.aloadN X102.here hx rfl (hb hby q47) rfl rfl k) ?_
  refine gs m T102 54 #[vR (b1), sU] [(.int (1 : Int32)), (.ref b1), (.ref x1), (.ref b102), (.ref b102)] (fun _ k => XS.iconst X102.here hx rfl (hb hby q48) k) ?_
  obtain ⟨cl115, Ar115, q115, S115, M115, H115, G115⟩ := id F107
  have I115 := inb_of (j := (1 : Int32)) S115 (by decide)
  refine gs m T102 55 #[vR (b1), sU] [(.ref x2), (.ref x1), (.ref b102), (.ref b102)] (fun _ k => X102.aaload hx (j := (1 : Int32)) (v := (.ref x2)) (by rw [e102]; exact Ar115.1) (State.isArrayOf_alike hZ.alike Ar115.2.1) rfl Ar115.2.2 I115 (Has.at H115 I115 rfl) (g := (mkF m 54 #[vR (b1), sU] [(.int (1 : Int32)), (.ref b1), (.ref x1), (.ref b102), (.ref b102)])) rfl rfl (hb hby q49) _ k) ?_
  obtain ⟨_, _, ⟨T116, L116, k116, n116⟩, -, X116, ⟨Lc116, hQ116, l116, y116, z116⟩, st116⟩ := X102.specialBack hx (y := (⟨"java/util/ImmutableCollections$List12", "<init>", "(Ljava/lang/Object;Ljava/lang/Object;)V"⟩ : MethodName)) rfl hown (mvT hZ (hwi hw 300 rfl)) (mvT hZ (hwi hw 301 rfl)) (mvT hZ (hwi hw 302 rfl)) (by decide) (backOf (W := 1) (Q := fun v h L => (v = none) ∧ (Fr n0 L) ∧ (Keep h102 h [b102]) ∧ (Exa Z h b102 "java/util/ImmutableCollections$List12") ∧ (Fld Z h b102 "java/util/ImmutableCollections$List12" "e0" "Ljava/lang/Object;" (.ref x1)) ∧ (Fld Z h b102 "java/util/ImmutableCollections$List12" "e1" "Ljava/lang/Object;" (.ref x2))) (own_l2i l Z a0 hw [] b102 x1 x2 .null .null h102 n0 Z102 A102 ge102 F112 F113) hZ (hwi hw 302 rfl) (hwi hw 271 rfl) (by decide) (by decide)) (g := (mkF m 55 #[vR (b1), sU] [(.ref x2), (.ref x1), (.ref b102), (.ref b102)])) rfl (by rw [hml]; rfl) (Steps.refl _) (a := b102) (argsL := [(.ref x1), (.ref x2)]) (rest := [(.ref b102)]) (lenOf own_pd8 rfl) rfl (by show 2 * 0 + _ ≤ _; exact Nat.le_of_eq rfl) (hb hby q4a) (fun _ _ => ⟨rfl, e102, (by decide : 1 + 0 ≤ _), (by decide : 2 + 0 ≤ _)⟩)
  dsimp only [Pt.U, Pt.locs, Pt.cells, Pt.slots] at X116 l116 y116 z116 st116 hQ116
  subst l116 y116 z116
  obtain ⟨rfl, N116q, K116, P116_0, P116_1, P116_2⟩ := hQ116
  have N116 := Fr.app N0 N116q
  have KK116 := K102.trans K116 (allS (Or.inr sz102) all0)
  have Z116 : n0 ≤ T116.heap.size := Nat.le_trans Z102 K116.1
  have F117 := F106.keep K116
  have F118 := F107.keep K116 (ninS ne103 nin0)
  have F119 := F108.keep K116
  have F120 := F109.keep K116 (ninS ne104 nin0)
  have F121 := F110.keep K116
  have F122 := F111.keep K116 (ninS ne105 nin0)
  have F123 := A102.keep K116
  refine gs m T116 58 #[vR (b1), sU] [(.ref b102)] (fun _ k => st116.trans k) ?_
  exact Go.retA X116 hx (t := (.object "java/util/List")) hret rfl hlk rfl (hb hby q4b) (⟨b102, rfl, N116, KK116, sz102, P116_0, P116_1, P116_2⟩) (by decide) (by decide)
theorem own_ef_jdk_56_method_4_code_R (m : MethodId) (x0 : Addr) : entryFrame m #[(.ref x0)] 3 = mkF m 0 #[vR (x0), sU, sU] [] := by first | (simp [entryFrame, mkF, argsToLocals, Value.category]; done) | rfl | (simp [entryFrame, mkF, argsToLocals, own_cI, own_cJ, own_cR, own_cN]; done)
theorem own_pn_ImmutableCollections : plainName "java/util/ImmutableCollections" = true := by first | (simp [plainName, overriddenIn]; done) | decide +kernel
theorem q4c : decode jdk_56_method_4_code 0 = .ok (.aload_n 0, 1) := by decide +kernel
theorem q4d : decode jdk_56_method_4_code 1 = .ok (.arraylength, 1) := by decide +kernel
theorem q4e : decode jdk_56_method_4_code 2 = .ok (.anewarray 2, 3) := by decide +kernel
theorem q4f : decode jdk_56_method_4_code 5 = .ok (.astore_n 1, 1) := by decide +kernel
theorem q4g : decode jdk_56_method_4_code 6 = .ok (.iconst 0, 1) := by decide +kernel
theorem q4h : decode jdk_56_method_4_code 7 = .ok (.istore_n 2, 1) := by decide +kernel
theorem q4i : decode jdk_56_method_4_code 8 = .ok (.iload_n 2, 1) := by decide +kernel
theorem q4j : decode jdk_56_method_4_code 9 = .ok (.aload_n 0, 1) := by decide +kernel
theorem q4k : decode jdk_56_method_4_code 10 = .ok (.arraylength, 1) := by decide +kernel
theorem q4l : decode jdk_56_method_4_code 11 = .ok (.if_icmp .ge 18, 3) := by decide +kernel
theorem q4m : decode jdk_56_method_4_code 14 = .ok (.aload_n 1, 1) := by decide +kernel
theorem q4n : decode jdk_56_method_4_code 15 = .ok (.iload_n 2, 1) := by decide +kernel
theorem q4o : decode jdk_56_method_4_code 16 = .ok (.aload_n 0, 1) := by decide +kernel
theorem q4p : decode jdk_56_method_4_code 17 = .ok (.iload_n 2, 1) := by decide +kernel
theorem q4q : decode jdk_56_method_4_code 18 = .ok (.aaload, 1) := by decide +kernel
theorem q4r : decode jdk_56_method_4_code 19 = .ok (.invokestatic 37, 3) := by decide +kernel
theorem q4s : decode jdk_56_method_4_code 22 = .ok (.aastore, 1) := by decide +kernel
theorem q4t : decode jdk_56_method_4_code 23 = .ok (.iinc 2 1, 3) := by decide +kernel
theorem q4u : decode jdk_56_method_4_code 26 = .ok (.goto (-18), 3) := by decide +kernel
theorem q4v : decode jdk_56_method_4_code 29 = .ok (.new 12, 3) := by decide +kernel
theorem q4w : decode jdk_56_method_4_code 32 = .ok (.dup, 1) := by decide +kernel
theorem q4x : decode jdk_56_method_4_code 33 = .ok (.aload_n 1, 1) := by decide +kernel
theorem q4y : decode jdk_56_method_4_code 34 = .ok (.iconst 0, 1) := by decide +kernel
theorem q4z : decode jdk_56_method_4_code 35 = .ok (.invokespecial 43, 3) := by decide +kernel
theorem own_pd9 : parseMethodDescriptor "([Ljava/lang/Object;Z)V" = some ⟨[(.array (.object "java/lang/Object")), .boolean], none⟩ := by decide +kernel
theorem q50 : decode jdk_56_method_4_code 38 = .ok (.areturn, 1) := by decide +kernel
theorem own_lfa3 (l : Launch) (Z : State) (a0 : Array Value) (hw : ∀ d ∈ tables_1, d.before a0 Z = true) (ws : List Jvm.Cond) (b1 : Addr) (k1 : ClassId) (x1 : Addr) (x2 : Addr) (x3 : Addr) (s1 : Int64) (s2 : Int64) (s3 : Int64) (h0 : Heap) (n0 : Nat) (Z0 : n0 ≤ h0.size) (f0 : Exa Z h0 b1 "[Ljava/lang/Object;") (f1 : Arv Z h0 b1 k1 (.object "java/lang/Object") (3 : Int32) [(.ref x1), (.ref x2), (.ref x3)] .null) (f2 : Exa Z h0 x1 "java/time/Duration") (f3 : Fld Z h0 x1 "java/time/Duration" "seconds" "J" (.long s1)) (f4 : Exa Z h0 x2 "java/time/Duration") (f5 : Fld Z h0 x2 "java/time/Duration" "seconds" "J" (.long s2)) (f6 : Exa Z h0 x3 "java/time/Duration") (f7 : Fld Z h0 x3 "java/time/Duration" "seconds" "J" (.long s3))  :
    Con l Z (⟨"java/util/ImmutableCollections", "listFromArray", "([Ljava/lang/Object;)Ljava/util/List;"⟩ : MethodName) jdk_56_method_4_code 3 (some (.object "java/util/List")) ({ frames := 5, cells := 2, slots := 5, locals := 63 } : Room) ws #[(.ref b1)] h0 (fun v h L => ∃ lst : Addr, ∃ b2 : Addr, ∃ k2 : ClassId, (v = some (.ref lst)) ∧ (Fr n0 L) ∧ (Keep h0 h []) ∧ (h0.size ≤ lst) ∧ (h0.size ≤ b2) ∧ (Exa Z h lst "java/util/ImmutableCollections$ListN") ∧ (Fld Z h lst "java/util/ImmutableCollections$ListN" "elements" "[Ljava/lang/Object;" (.ref b2)) ∧ (Arv Z h b2 k2 (.object "java/lang/Object") (3 : Int32) [(.ref x1), (.ref x2), (.ref x3)] .null)) 2 5 := by
  refine Con.of (plainFor_of_name own_pn_ImmutableCollections) ?_
  intro pgm e s m below meth c s₁ X0 hx hZ hby hml hown hnm hret hlk e0 hs0
  have N0 := Fr.nil n0
  have hown : s.vm.findClass "java/util/ImmutableCollections" = some m.cls := hown
  have hnm : meth.name = "listFromArray" := hnm
  refine Go.cast (own_ef_jdk_56_method_4_code_R m b1) ?_
  have K0 := Keep.refl h0 []
  refine gs m s₁ 1 #[vR (b1), sU, sU] [(.ref b1)] (fun _ k => XS.aloadN X0.here hx rfl (hb hby q4c) rfl rfl k) ?_
  obtain ⟨cl101, Ar101, -, S101, M101, -, -⟩ := id f1
  refine gs m s₁ 2 #[vR (b1), sU, sU] [(.int (3 : Int32))] (fun _ k => X0.arraylength hx (cell := cl101) (by rw [e0]; exact Ar101.1) (State.isArrayOf_alike hZ.alike Ar101.2.1) (g := (mkF m 1 #[vR (b1), sU, sU] [(.ref b1)])) rfl (rest := []) rfl (hb hby q4d) _ (by rw [len_of S101 M101]; exact k)) ?_
  obtain ⟨T102, h102, k102, X102, e102, E102, A102, EA102, OV102, st102⟩ := newRE X0 hx hZ hown (hwi hw 222 rfl) (hwi hw 184 rfl) e0 (g := (mkF m 2 #[vR (b1), sU, sU] [(.int (3 : Int32))])) rfl (hb hby q4e) rfl (by decide) (cap := 3) (by decide) (by decide) (by decide) (by decide) (ad := "[Ljava/lang/Object;") (by decide)
  obtain ⟨b102, g102⟩ : ∃ z, z = h0.size := ⟨_, rfl⟩
  rw [← g102] at A102 EA102 st102
  have ne103 : b1 ≠ b102 := by have q := f0.lt; intro r; rw [r, g102] at q; exact Nat.lt_irrefl _ q
  have ne104 : x1 ≠ b102 := by have q := f2.lt; intro r; rw [r, g102] at q; exact Nat.lt_irrefl _ q
  have ne105 : x2 ≠ b102 := by have q := f4.lt; intro r; rw [r, g102] at q; exact Nat.lt_irrefl _ q
  have ne106 : x3 ≠ b102 := by have q := f6.lt; intro r; rw [r, g102] at q; exact Nat.lt_irrefl _ q
  have ge102 : n0 ≤ b102 := Nat.le_trans Z0 (Nat.le_of_eq g102.symm)
  have Z102 : n0 ≤ h102.size := Nat.le_trans Z0 E102.1
  have sz102 : h0.size ≤ b102 := Nat.le_trans K0.1 (Nat.le_of_eq g102.symm)
  have K102 := K0.ext E102
  have F107 := f0.ext E102
  have F108 := f1.ext E102
  have F109 := f2.ext E102
  have F110 := f3.ext E102
  have F111 := f4.ext E102
  have F112 := f5.ext E102
  have F113 := f6.ext E102
  have F114 := f7.ext E102
  have V102 : Arv Z h102 b102 k102 (.object "java/lang/Object") (3 : Int32) [.null, .null, .null] .null := (Arv.new A102 (by decide)).pad (pad_rep [] .null 3)
  refine gs m T102 5 #[vR (b1), sU, sU] [(.ref b102)] st102 ?_
  refine gs m T102 6 #[vR (b1), vR (b102), sU] [] (fun _ k => XS.astoreN X102.here hx rfl (hb hby q4f) rfl rfl (l' := #[vR (b1), vR (b102), sU]) rfl k) ?_
  refine gs m T102 7 #[vR (b1), vR (b102), sU] [(.int (0 : Int32))] (fun _ k => XS.iconst X102.here hx rfl (hb hby q4g) k) ?_
  refine gs m T102 8 #[vR (b1), vR (b102), vI ((0 : Int32))] [] (fun _ k => XS.istoreN X102.here hx rfl (hb hby q4h) rfl (l' := #[vR (b1), vR (b102), vI ((0 : Int32))]) rfl k) ?_
  refine gs m T102 9 #[vR (b1), vR (b102), vI ((0 : Int32))] [(.int (0 : Int32))] (fun _ k => XS.iloadN X102.here hx rfl (hb hby q4i) rfl  k) ?_
  refine gs m T102 10 #[vR (b1), vR (b102), vI ((0 : Int32))] [(.ref b1), (.int (0 : Int32))] (fun _ k => XS.aloadN X102.here hx rfl (hb hby q4j) rfl rfl k) ?_
  obtain ⟨cl115, Ar115, -, S115, M115, -, -⟩ := id F108
  refine gs m T102 11 #[vR (b1), vR (b102), vI ((0 : Int32))] [(.int (3 : Int32)), (.int (0 : Int32))] (fun _ k => X102.arraylength hx (cell := cl115) (by rw [e102]; exact Ar115.1) (State.isArrayOf_alike hZ.alike Ar115.2.1) (g := (mkF m 10 #[vR (b1), vR (b102), vI ((0 : Int32))] [(.ref b1), (.int (0 : Int32))])) rfl (rest := [(.int (0 : Int32))]) rfl (hb hby q4k) _ (by rw [len_of S115 M115]; exact k)) ?_
  refine gs m T102 14 #[vR (b1), vR (b102), vI ((0 : Int32))] [] (fun _ k => XS.icmpNo X102.here hx rfl (hb hby q4l) rfl (tlt (by decide : (0 : Int32) < (3 : Int32))).2.1 k) ?_
  refine gs m T102 15 #[vR (b1), vR (b102), vI ((0 : Int32))] [(.ref b102)] (fun _ k => XS.aloadN X102.here hx rfl (hb hby q4m) rfl rfl k) ?_
  refine gs m T102 16 #[vR (b1), vR (b102), vI ((0 : Int32))] [(.int (0 : Int32)), (.ref b102)] (fun _ k => XS.iloadN X102.here hx rfl (hb hby q4n) rfl  k) ?_
  refine gs m T102 17 #[vR (b1), vR (b102), vI ((0 : Int32))] [(.ref b1), (.int (0 : Int32)), (.ref b102)] (fun _ k => XS.aloadN X102.here hx rfl (hb hby q4o) rfl rfl k) ?_
  refine gs m T102 18 #[vR (b1), vR (b102), vI ((0 : Int32))] [(.int (0 : Int32)), (.ref b1), (.int (0 : Int32)), (.ref b102)] (fun _ k => XS.iloadN X102.here hx rfl (hb hby q4p) rfl  k) ?_
  obtain ⟨cl116, Ar116, q116, S116, M116, H116, G116⟩ := id F108
  have I116 := inb_of (j := (0 : Int32)) S116 (by decide)
  refine gs m T102 19 #[vR (b1), vR (b102), vI ((0 : Int32))] [(.ref x1), (.int (0 : Int32)), (.ref b102)] (fun _ k => X102.aaload hx (j := (0 : Int32)) (v := (.ref x1)) (by rw [e102]; exact Ar116.1) (State.isArrayOf_alike hZ.alike Ar116.2.1) rfl Ar116.2.2 I116 (Has.at H116 I116 rfl) (g := (mkF m 18 #[vR (b1), vR (b102), vI ((0 : Int32))] [(.int (0 : Int32)), (.ref b1), (.int (0 : Int32)), (.ref b102)])) rfl rfl (hb hby q4q) _ k) ?_
  obtain ⟨_, _, ⟨T117, L117, k117, n117⟩, -, X117, ⟨Lc117, hQ117, l117, y117, z117⟩, st117⟩ := Jvm.LawKit.callS X102 hx (y := (⟨"java/util/Objects", "requireNonNull", "(Ljava/lang/Object;)Ljava/lang/Object;"⟩ : MethodName)) hown (mvT hZ (hwi hw 223 rfl)) (mvT hZ (hwi hw 224 rfl)) (mvT hZ (hwi hw 225 rfl)) (mvT hZ (hwi hw 226 rfl)) (by decide) (backOf (W := 2) (Q := Qret (some (.ref x1)) h102 n0) (own_rnn l Z a0 hw [] x1 h102 n0 Z102 ) hZ (hwi hw 226 rfl) (hwi hw 225 rfl) (by decide) (by decide)) (g := (mkF m 19 #[vR (b1), vR (b102), vI ((0 : Int32))] [(.ref x1), (.int (0 : Int32)), (.ref b102)])) rfl (by rw [hml]; rfl) (argsL := [(.ref x1)]) (rest := [(.int (0 : Int32)), (.ref b102)]) (lenOf own_pd6 rfl) rfl (by show 2 * 0 + _ ≤ _; exact Nat.le_of_eq rfl) (hb hby q4r) (fun _ _ => ⟨rfl, e102, (by decide : 1 + 0 ≤ _), (by decide : 3 + 0 ≤ _)⟩)
  dsimp only [Pt.U, Pt.locs, Pt.cells, Pt.slots] at X117 l117 y117 z117 st117 hQ117
  subst l117 y117 z117
  obtain ⟨rfl, N117q, eh117⟩ := hQ117
  have N117 := Fr.app N0 N117q
  refine gs m T117 22 #[vR (b1), vR (b102), vI ((0 : Int32))] [(.ref x1), (.int (0 : Int32)), (.ref b102)] (st117) ?_
  obtain ⟨cl118, Ar118, q118, S118, M118, H118, G118⟩ := id V102
  obtain ⟨T118, h118, X118, e118, W118, st118⟩ := stR X117 hx hZ eh117 Ar118 (j := (0 : Int32)) (inb_of S118 (by decide)) rfl (Sto.ofV Ar118 q118 OV102 (Ins.of_exa F109 (hwi hw 185 rfl))) (g := (mkF m 22 #[vR (b1), vR (b102), vI ((0 : Int32))] [(.ref x1), (.int (0 : Int32)), (.ref b102)])) rfl rfl (hb hby q4s)
  have V118 : Arv Z h118 b102 k102 (.object "java/lang/Object") (3 : Int32) [(.ref x1), .null, .null] .null := Arv.set Ar118 q118 S118 M118 H118 G118 rfl W118 0 rfl (by show 0 < 3; decide)
  have N118 := Fr.snoc X118 N117 ge102
  have Z118 : n0 ≤ h118.size := Nat.le_trans Z102 (Keep.of_wr W118).1
  have K118 := K102.wr W118 (Or.inr sz102)
  have F119 := F107.wr W118
  have F120 := F108.other W118 ne103
  have F121 := F109.wr W118
  have F122 := F110.other W118 (Or.inl ne104)
  have F123 := F111.wr W118
  have F124 := F112.other W118 (Or.inl ne105)
  have F125 := F113.wr W118
  have F126 := F114.other W118 (Or.inl ne106)
  have F127 := EA102.wr W118
  refine gs m T118 23 #[vR (b1), vR (b102), vI ((0 : Int32))] [] st118 ?_
  refine gs m T118 26 #[vR (b1), vR (b102), vI ((1 : Int32))] [] (fun _ k => XS.iinc X118.here hx rfl (hb hby q4t) rfl (l' := #[vR (b1), vR (b102), vI ((1 : Int32))]) rfl k) ?_
  refine gs m T118 8 #[vR (b1), vR (b102), vI ((1 : Int32))] [] (fun _ k => XS.goto X118.here hx rfl (pc0 := 26) (pc' := 8) rfl (hb hby q4u) (by decide) (by decide) k) ?_
  refine gs m T118 9 #[vR (b1), vR (b102), vI ((1 : Int32))] [(.int (1 : Int32))] (fun _ k => XS.iloadN X118.here hx rfl (hb hby q4i) rfl  k) ?_
  refine gs m T118 10 #[vR (b1), vR (b102), vI ((1 : Int32))] [(.ref b1), (.int (1 : Int32))] (fun _ k => XS.aloadN X118.here hx rfl (hb hby q4j) rfl rfl k) ?_
  obtain ⟨cl128, Ar128, -, S128, M128, -, -⟩ := id F120
  refine gs m T118 11 #[vR (b1), vR (b102), vI ((1 : Int32))] [(.int (3 : Int32)), (.int (1 : Int32))] (fun _ k => X118.arraylength hx (cell := cl128) (by rw [e118]; exact Ar128.1) (State.isArrayOf_alike hZ.alike Ar128.2.1) (g := (mkF m 10 #[vR (b1), vR (b102), vI ((1 : Int32))] [(.ref b1), (.int (1 : Int32))])) rfl (rest := [(.int (1 : Int32))]) rfl (hb hby q4k) _ (by rw [len_of S128 M128]; exact k)) ?_
  refine gs m T118 14 #[vR (b1), vR (b102), vI ((1 : Int32))] [] (fun _ k => XS.icmpNo X118.here hx rfl (hb hby q4l) rfl (tlt (by decide : (1 : Int32) < (3 : Int32))).2.1 k) ?_
  refine gs m T118 15 #[vR (b1), vR (b102), vI ((1 : Int32))] [(.ref b102)] (fun _ k => XS.aloadN X118.here hx rfl (hb hby q4m) rfl rfl k) ?_
  refine gs m T118 16 #[vR (b1), vR (b102), vI ((1 : Int32))] [(.int (1 : Int32)), (.ref b102)] (fun _ k => XS.iloadN X118.here hx rfl (hb hby q4n) rfl  k) ?_
  refine gs m T118 17 #[vR (b1), vR (b102), vI ((1 : Int32))] [(.ref b1), (.int (1 : Int32)), (.ref b102)] (fun _ k => XS.aloadN X118.here hx rfl (hb hby q4o) rfl rfl k) ?_
  refine gs m T118 18 #[vR (b1), vR (b102), vI ((1 : Int32))] [(.int (1 : Int32)), (.ref b1), (.int (1 : Int32)), (.ref b102)] (fun _ k => XS.iloadN X118.here hx rfl (hb hby q4p) rfl  k) ?_
  obtain ⟨cl129, Ar129, q129, S129, M129, H129, G129⟩ := id F120
  have I129 := inb_of (j := (1 : Int32)) S129 (by decide)
  refine gs m T118 19 #[vR (b1), vR (b102), vI ((1 : Int32))] [(.ref x2), (.int (1 : Int32)), (.ref b102)] (fun _ k => X118.aaload hx (j := (1 : Int32)) (v := (.ref x2)) (by rw [e118]; exact Ar129.1) (State.isArrayOf_alike hZ.alike Ar129.2.1) rfl Ar129.2.2 I129 (Has.at H129 I129 rfl) (g := (mkF m 18 #[vR (b1), vR (b102), vI ((1 : Int32))] [(.int (1 : Int32)), (.ref b1), (.int (1 : Int32)), (.ref b102)])) rfl rfl (hb hby q4q) _ k) ?_
  obtain ⟨_, _, ⟨T130, L130, k130, n130⟩, -, X130, ⟨Lc130, hQ130, l130, y130, z130⟩, st130⟩ := Jvm.LawKit.callS X118 hx (y := (⟨"java/util/Objects", "requireNonNull", "(Ljava/lang/Object;)Ljava/lang/Object;"⟩ : MethodName)) hown (mvT hZ (hwi hw 223 rfl)) (mvT hZ (hwi hw 224 rfl)) (mvT hZ (hwi hw 225 rfl)) (mvT hZ (hwi hw 226 rfl)) (by decide) (backOf (W := 2) (Q := Qret (some (.ref x2)) h118 n0) (own_rnn l Z a0 hw [] x2 h118 n0 Z118 ) hZ (hwi hw 226 rfl) (hwi hw 225 rfl) (by decide) (by decide)) (g := (mkF m 19 #[vR (b1), vR (b102), vI ((1 : Int32))] [(.ref x2), (.int (1 : Int32)), (.ref b102)])) rfl (by rw [hml]; rfl) (argsL := [(.ref x2)]) (rest := [(.int (1 : Int32)), (.ref b102)]) (lenOf own_pd6 rfl) rfl (by show 2 * 0 + _ ≤ _; exact Nat.le_of_eq rfl) (hb hby q4r) (fun _ _ => ⟨rfl, e118, (by decide : 1 + 0 ≤ _), (by decide : 3 + 0 ≤ _)⟩)
  dsimp only [Pt.U, Pt.locs, Pt.cells, Pt.slots] at X130 l130 y130 z130 st130 hQ130
  subst l130 y130 z130
  obtain ⟨rfl, N130q, eh130⟩ := hQ130
  have N130 := Fr.app N118 N130q
  refine gs m T130 22 #[vR (b1), vR (b102), vI ((1 : Int32))] [(.ref x2), (.int (1 : Int32)), (.ref b102)] (st130) ?_
  obtain ⟨cl131, Ar131, q131, S131, M131, H131, G131⟩ := id V118
  obtain ⟨T131, h131, X131, e131, W131, st131⟩ := stR X130 hx hZ eh130 Ar131 (j := (1 : Int32)) (inb_of S131 (by decide)) rfl (Sto.ofV Ar131 q131 OV102 (Ins.of_exa F123 (hwi hw 185 rfl))) (g := (mkF m 22 #[vR (b1), vR (b102), vI ((1 : Int32))] [(.ref x2), (.int (1 : Int32)), (.ref b102)])) rfl rfl (hb hby q4s)
  have V131 : Arv Z h131 b102 k102 (.object "java/lang/Object") (3 : Int32) [(.ref x1), (.ref x2), .null] .null := Arv.set Ar131 q131 S131 M131 H131 G131 rfl W131 1 rfl (by show 1 < 3; decide)
  have N131 := Fr.snoc X131 N130 ge102
  have Z131 : n0 ≤ h131.size := Nat.le_trans Z118 (Keep.of_wr W131).1
  have K131 := K118.wr W131 (Or.inr sz102)
  have F132 := F119.wr W131
  have F133 := F120.other W131 ne103
  have F134 := F121.wr W131
  have F135 := F122.other W131 (Or.inl ne104)
  have F136 := F123.wr W131
  have F137 := F124.other W131 (Or.inl ne105)
  have F138 := F125.wr W131
  have F139 := F126.other W131 (Or.inl ne106)
  have F140 := F127.wr W131
  refine gs m T131 23 #[vR (b1), vR (b102), vI ((1 : Int32))] [] st131 ?_
  refine gs m T131 26 #[vR (b1), vR (b102), vI ((2 : Int32))] [] (fun _ k => XS.iinc X131.here hx rfl (hb hby q4t) rfl (l' := #[vR (b1), vR (b102), vI ((2 : Int32))]) rfl k) ?_
  refine gs m T131 8 #[vR (b1), vR (b102), vI ((2 : Int32))] [] (fun _ k => XS.goto X131.here hx rfl (pc0 := 26) (pc' := 8) rfl (hb hby q4u) (by decide) (by decide) k) ?_
  refine gs m T131 9 #[vR (b1), vR (b102), vI ((2 : Int32))] [(.int (2 : Int32))] (fun _ k => XS.iloadN X131.here hx rfl (hb hby q4i) rfl  k) ?_
  refine gs m T131 10 #[vR (b1), vR (b102), vI ((2 : Int32))] [(.ref b1), (.int (2 : Int32))] (fun _ k => XS.aloadN X131.here hx rfl (hb hby q4j) rfl rfl k) ?_
  obtain ⟨cl141, Ar141, -, S141, M141, -, -⟩ := id F133
  refine gs m T131 11 #[vR (b1), vR (b102), vI ((2 : Int32))] [(.int (3 : Int32)), (.int (2 : Int32))] (fun _ k => X131.arraylength hx (cell := cl141) (by rw [e131]; exact Ar141.1) (State.isArrayOf_alike hZ.alike Ar141.2.1) (g := (mkF m 10 #[vR (b1), vR (b102), vI ((2 : Int32))] [(.ref b1), (.int (2 : Int32))])) rfl (rest := [(.int (2 : Int32))]) rfl (hb hby q4k) _ (by rw [len_of S141 M141]; exact k)) ?_
  refine gs m T131 14 #[vR (b1), vR (b102), vI ((2 : Int32))] [] (fun _ k => XS.icmpNo X131.here hx rfl (hb hby q4l) rfl (tlt (by decide : (2 : Int32) < (3 : Int32))).2.1 k) ?_
  refine gs m T131 15 #[vR (b1), vR (b102), vI ((2 : Int32))] [(.ref b102)] (fun _ k => XS.aloadN X131.here hx rfl (hb hby q4m) rfl rfl k) ?_
  refine gs m T131 16 #[vR (b1), vR (b102), vI ((2 : Int32))] [(.int (2 : Int32)), (.ref b102)] (fun _ k => XS.iloadN X131.here hx rfl (hb hby q4n) rfl  k) ?_
  refine gs m T131 17 #[vR (b1), vR (b102), vI ((2 : Int32))] [(.ref b1), (.int (2 : Int32)), (.ref b102)] (fun _ k => XS.aloadN X131.here hx rfl (hb hby q4o) rfl rfl k) ?_
  refine gs m T131 18 #[vR (b1), vR (b102), vI ((2 : Int32))] [(.int (2 : Int32)), (.ref b1), (.int (2 : Int32)), (.ref b102)] (fun _ k => XS.iloadN X131.here hx rfl (hb hby q4p) rfl  k) ?_
  obtain ⟨cl142, Ar142, q142, S142, M142, H142, G142⟩ := id F133
  have I142 := inb_of (j := (2 : Int32)) S142 (by decide)
  refine gs m T131 19 #[vR (b1), vR (b102), vI ((2 : Int32))] [(.ref x3), (.int (2 : Int32)), (.ref b102)] (fun _ k => X131.aaload hx (j := (2 : Int32)) (v := (.ref x3)) (by rw [e131]; exact Ar142.1) (State.isArrayOf_alike hZ.alike Ar142.2.1) rfl Ar142.2.2 I142 (Has.at H142 I142 rfl) (g := (mkF m 18 #[vR (b1), vR (b102), vI ((2 : Int32))] [(.int (2 : Int32)), (.ref b1), (.int (2 : Int32)), (.ref b102)])) rfl rfl (hb hby q4q) _ k) ?_
  obtain ⟨_, _, ⟨T143, L143, k143, n143⟩, -, X143, ⟨Lc143, hQ143, l143, y143, z143⟩, st143⟩ := Jvm.LawKit.callS X131 hx (y := (⟨"java/util/Objects", "requireNonNull", "(Ljava/lang/Object;)Ljava/lang/Object;"⟩ : MethodName)) hown (mvT hZ (hwi hw 223 rfl)) (mvT hZ (hwi hw 224 rfl)) (mvT hZ (hwi hw 225 rfl)) (mvT hZ (hwi hw 226 rfl)) (by decide) (backOf (W := 2) (Q := Qret (some (.ref x3)) h131 n0) (own_rnn l Z a0 hw [] x3 h131 n0 Z131 ) hZ (hwi hw 226 rfl) (hwi hw 225 rfl) (by decide) (by decide)) (g := (mkF m 19 #[vR (b1), vR (b102), vI ((2 : Int32))] [(.ref x3), (.int (2 : Int32)), (.ref b102)])) rfl (by rw [hml]; rfl) (argsL := [(.ref x3)]) (rest := [(.int (2 : Int32)), (.ref b102)]) (lenOf own_pd6 rfl) rfl (by show 2 * 0 + _ ≤ _; exact Nat.le_of_eq rfl) (hb hby q4r) (fun _ _ => ⟨rfl, e131, (by decide : 1 + 0 ≤ _), (by decide : 3 + 0 ≤ _)⟩)
  dsimp only [Pt.U, Pt.locs, Pt.cells, Pt.slots] at X143 l143 y143 z143 st143 hQ143
  subst l143 y143 z143
  obtain ⟨rfl, N143q, eh143⟩ := hQ143
  have N143 := Fr.app N131 N143q
  refine gs m T143 22 #[vR (b1), vR (b102), vI ((2 : Int32))] [(.ref x3), (.int (2 : Int32)), (.ref b102)] (st143) ?_
  obtain ⟨cl144, Ar144, q144, S144, M144, H144, G144⟩ := id V131
  obtain ⟨T144, h144, X144, e144, W144, st144⟩ := stR X143 hx hZ eh143 Ar144 (j := (2 : Int32)) (inb_of S144 (by decide)) rfl (Sto.ofV Ar144 q144 OV102 (Ins.of_exa F138 (hwi hw 185 rfl))) (g := (mkF m 22 #[vR (b1), vR (b102), vI ((2 : Int32))] [(.ref x3), (.int (2 : Int32)), (.ref b102)])) rfl rfl (hb hby q4s)
  have V144 : Arv Z h144 b102 k102 (.object "java/lang/Object") (3 : Int32) [(.ref x1), (.ref x2), (.ref x3)] .null := Arv.set Ar144 q144 S144 M144 H144 G144 rfl W144 2 rfl (by show 2 < 3; decide)
  have N144 := Fr.snoc X144 N143 ge102
  have Z144 : n0 ≤ h144.size := Nat.le_trans Z131 (Keep.of_wr W144).1
  have K144 := K131.wr W144 (Or.inr sz102)
  have F145 := F132.wr W144
  have F146 := F133.other W144 ne103
  have F147 := F134.wr W144
  have F148 := F135.other W144 (Or.inl ne104)
  have F149 := F136.wr W144
  have F150 := F137.other W144 (Or.inl ne105)
  have F151 := F138.wr W144
  have F152 := F139.other W144 (Or.inl ne106)
  have F153 := F140.wr W144
  refine gs m T144 23 #[vR (b1), vR (b102), vI ((2 : Int32))] [] st144 ?_
  refine gs m T144 26 #[vR (b1), vR (b102), vI ((3 : Int32))] [] (fun _ k => XS.iinc X144.here hx rfl (hb hby q4t) rfl (l' := #[vR (b1), vR (b102), vI ((3 : Int32))]) rfl k) ?_
  refine gs m T144 8 #[vR (b1), vR (b102), vI ((3 : Int32))] [] (fun _ k => XS.goto X144.here hx rfl (pc0 := 26) (pc' := 8) rfl (hb hby q4u) (by decide) (by decide) k) ?_
  refine gs m T144 9 #[vR (b1), vR (b102), vI ((3 : Int32))] [(.int (3 : Int32))] (fun _ k => XS.iloadN X144.here hx rfl (hb hby q4i) rfl  k) ?_
  refine gs m T144 10 #[vR (b1), vR (b102), vI ((3 : Int32))] [(.ref b1), (.int (3 : Int32))] (fun _ k => XS.aloadN X144.here hx rfl (hb hby q4j) rfl rfl k) ?_
  obtain ⟨cl154, Ar154, -, S154, M154, -, -⟩ := id F146
  refine gs m T144 11 #[vR (b1), vR (b102), vI ((3 : Int32))] [(.int (3 : Int32)), (.int (3 : Int32))] (fun _ k => X144.arraylength hx (cell := cl154) (by rw [e144]; exact Ar154.1) (State.isArrayOf_alike hZ.alike Ar154.2.1) (g := (mkF m 10 #[vR (b1), vR (b102), vI ((3 : Int32))] [(.ref b1), (.int (3 : Int32))])) rfl (rest := [(.int (3 : Int32))]) rfl (hb hby q4k) _ (by rw [len_of S154 M154]; exact k)) ?_
  refine gs m T144 29 #[vR (b1), vR (b102), vI ((3 : Int32))] [] (fun _ k => XS.icmpYes X144.here hx rfl (pc0 := 11) (pc' := 29) rfl (hb hby q4l) rfl (flt (by decide : ¬ ((3 : Int32) < (3 : Int32)))).2.1 (by decide) (by decide) k) ?_
  obtain ⟨T155, h155, X155, e155, E155, A155, D155, -, st155⟩ := newO X144 hx hZ hown (hwi hw 75 rfl) (hwi hw 227 rfl) (hwi hw 109 rfl) e144 (g := (mkF m 29 #[vR (b1), vR (b102), vI ((3 : Int32))] [])) rfl (hb hby q4v) (by decide) (by decide)
  obtain ⟨b155, g155⟩ : ∃ z, z = h144.size := ⟨_, rfl⟩
  rw [← g155] at A155 D155 st155
  have ne156 : b1 ≠ b155 := by have q := F145.lt; intro r; rw [r, g155] at q; exact Nat.lt_irrefl _ q
  have ne157 : x1 ≠ b155 := by have q := F147.lt; intro r; rw [r, g155] at q; exact Nat.lt_irrefl _ q
  have ne158 : x2 ≠ b155 := by have q := F149.lt; intro r; rw [r, g155] at q; exact Nat.lt_irrefl _ q
  have ne159 : x3 ≠ b155 := by have q := F151.lt; intro r; rw [r, g155] at q; exact Nat.lt_irrefl _ q
  have ne160 : b102 ≠ b155 := by have q := F153.lt; intro r; rw [r, g155] at q; exact Nat.lt_irrefl _ q
  have ge155 : n0 ≤ b155 := Nat.le_trans Z144 (Nat.le_of_eq g155.symm)
  have Z155 : n0 ≤ h155.size := Nat.le_trans Z144 E155.1
  have sz155 : h0.size ≤ b155 := Nat.le_trans K144.1 (Nat.le_of_eq g155.symm)
  have K155 := K144.ext E155
  have F161 := F145.ext E155
  have F162 := F146.ext E155
  have F163 := F147.ext E155
  have F164 := F148.ext E155
  have F165 := F149.ext E155
  have F166 := F150.ext E155
  have F167 := F151.ext E155
  have F168 := F152.ext E155
  have F169 := F153.ext E155
  have F170 := V144.ext E155
  have F171 : Fld Z h155 b155 "java/util/ImmutableCollections$ListN" "elements" "[Ljava/lang/Object;" .null := D155 (Or.inr (hwi hw 112 rfl)) (ty := (.array (.object "java/lang/Object"))) (by decide)
  have F172 : Fld Z h155 b155 "java/util/ImmutableCollections$ListN" "allowNulls" "Z" (.int (0 : Int32)) := D155 (Or.inr (hwi hw 246 rfl)) (ty := .boolean) (by decide)
  refine gs m T155 32 #[vR (b1), vR (b102), vI ((3 : Int32))] [(.ref b155)] st155 ?_
  refine gs m T155 33 #[vR (b1), vR (b102), vI ((3 : Int32))] [(.ref b155), (.ref b155)] (fun _ k => XS.dup X155.here hx rfl (hb hby q4w) rfl rfl k) ?_
  refine gs m T155 34 #[vR (b1), vR (b102), vI ((3 : Int32))] [(.ref b102), (.ref b155), (.ref b155)] (fun _ k => XS.aloadN X155.here hx rfl (hb hby q4x) rfl rfl k) ?_
  refine gs m T155 35 #[vR (b1), vR (b102), vI ((3 : Int32))] [(.int (0 : Int32)), (.ref b102), (.ref b155), (.ref b155)] (fun _ k => XS.iconst X155.here hx rfl (hb hby q4y) k) ?_
  obtain ⟨_, _, ⟨T173, L173, k173, n173⟩, -, X173, ⟨Lc173, hQ173, l173, y173, z173⟩, st173⟩ := X155.specialBackNest hx (y := (⟨"java/util/ImmutableCollections$ListN", "<init>", "([Ljava/lang/Object;Z)V"⟩ : MethodName)) rfl hown (own_mvN hZ (hwi hw 228 rfl)) (mvT hZ (hwi hw 229 rfl)) (mvT hZ (hwi hw 231 rfl)) (by decide) (backOf (W := 1) (Q := fun v h L => (v = none) ∧ (Fr n0 L) ∧ (Keep h155 h [b155]) ∧ (Exa Z h b155 "java/util/ImmutableCollections$ListN") ∧ (Fld Z h b155 "java/util/ImmutableCollections$ListN" "elements" "[Ljava/lang/Object;" (.ref b102))) (own_lni l Z a0 hw [] b155 b102 .null (.int (0 : Int32)) h155 n0 Z155 A155 ge155 F171 F172) hZ (hwi hw 231 rfl) (hwi hw 109 rfl) (by decide) (by decide)) (g := (mkF m 35 #[vR (b1), vR (b102), vI ((3 : Int32))] [(.int (0 : Int32)), (.ref b102), (.ref b155), (.ref b155)])) rfl (by rw [hml]; rfl) (Steps.refl _) (a := b155) (argsL := [(.ref b102), (.int (0 : Int32))]) (rest := [(.ref b155)]) (lenOf own_pd9 rfl) rfl (by show 2 * 0 + _ ≤ _; exact Nat.le_of_eq rfl) (hb hby q4z) (fun _ _ => ⟨rfl, e155, (by decide : 2 + 0 ≤ _), (by decide : 5 + 0 ≤ _)⟩)
  dsimp only [Pt.U, Pt.locs, Pt.cells, Pt.slots] at X173 l173 y173 z173 st173 hQ173
  subst l173 y173 z173
  obtain ⟨rfl, N173q, K173, P173_0, P173_1⟩ := hQ173
  have N173 := Fr.app N144 N173q
  have KK173 := K155.trans K173 (allS (Or.inr sz155) all0)
  have Z173 : n0 ≤ T173.heap.size := Nat.le_trans Z155 K173.1
  have F174 := F161.keep K173
  have F175 := F162.keep K173 (ninS ne156 nin0)
  have F176 := F163.keep K173
  have F177 := F164.keep K173 (ninS ne157 nin0)
  have F178 := F165.keep K173
  have F179 := F166.keep K173 (ninS ne158 nin0)
  have F180 := F167.keep K173
  have F181 := F168.keep K173 (ninS ne159 nin0)
  have F182 := F169.keep K173
  have F183 := F170.keep K173 (ninS ne160 nin0)
  have F184 := A155.keep K173
  refine gs m T173 38 #[vR (b1), vR (b102), vI ((3 : Int32))] [(.ref b155)] (fun _ k => st173.trans k) ?_
  exact Go.retA X173 hx (t := (.object "java/util/List")) hret rfl hlk rfl (hb hby q50) (⟨b155, b102, k102, rfl, N173, KK173, sz155, sz102, P173_0, P173_1, F183⟩) (by decide) (by decide)
theorem q51 : decode jdk_40_method_47_code 59 = .ok (.aload_n 0, 1) := by decide +kernel
theorem q52 : decode jdk_40_method_47_code 60 = .ok (.invokestatic 109, 3) := by decide +kernel
theorem own_pd10 : parseMethodDescriptor "([Ljava/lang/Object;)Ljava/util/List;" = some ⟨[(.array (.object "java/lang/Object"))], some (.object "java/util/List")⟩ := by decide +kernel
theorem q53 : decode jdk_40_method_47_code 63 = .ok (.areturn, 1) := by decide +kernel
theorem own_ofa3 (l : Launch) (Z : State) (a0 : Array Value) (hw : ∀ d ∈ tables_1, d.before a0 Z = true) (ws : List Jvm.Cond) (b1 : Addr) (k1 : ClassId) (x1 : Addr) (x2 : Addr) (x3 : Addr) (s1 : Int64) (s2 : Int64) (s3 : Int64) (h0 : Heap) (n0 : Nat) (Z0 : n0 ≤ h0.size) (f0 : Exa Z h0 b1 "[Ljava/lang/Object;") (f1 : Arv Z h0 b1 k1 (.object "java/lang/Object") (3 : Int32) [(.ref x1), (.ref x2), (.ref x3)] .null) (f2 : Exa Z h0 x1 "java/time/Duration") (f3 : Fld Z h0 x1 "java/time/Duration" "seconds" "J" (.long s1)) (f4 : Exa Z h0 x2 "java/time/Duration") (f5 : Fld Z h0 x2 "java/time/Duration" "seconds" "J" (.long s2)) (f6 : Exa Z h0 x3 "java/time/Duration") (f7 : Fld Z h0 x3 "java/time/Duration" "seconds" "J" (.long s3))  :
    Con l Z (⟨"java/util/List", "of", "([Ljava/lang/Object;)Ljava/util/List;"⟩ : MethodName) jdk_40_method_47_code 2 (some (.object "java/util/List")) ({ frames := 6, cells := 2, slots := 5, locals := 77 } : Room) ws #[(.ref b1)] h0 (fun v h L => ∃ lst : Addr, ∃ b2 : Addr, ∃ k2 : ClassId, (v = some (.ref lst)) ∧ (Fr n0 L) ∧ (Keep h0 h []) ∧ (h0.size ≤ lst) ∧ (h0.size ≤ b2) ∧ (Exa Z h lst "java/util/ImmutableCollections$ListN") ∧ (Fld Z h lst "java/util/ImmutableCollections$ListN" "elements" "[Ljava/lang/Object;" (.ref b2)) ∧ (Arv Z h b2 k2 (.object "java/lang/Object") (3 : Int32) [(.ref x1), (.ref x2), (.ref x3)] .null)) 2 5 := by
  refine Con.of (plainFor_of_name own_pn_List) ?_
  intro pgm e s m below meth c s₁ X0 hx hZ hby hml hown hnm hret hlk e0 hs0
  have N0 := Fr.nil n0
  have hown : s.vm.findClass "java/util/List" = some m.cls := hown
  have hnm : meth.name = "of" := hnm
  refine Go.cast (own_ef_jdk_40_method_47_code_R m b1) ?_
  have K0 := Keep.refl h0 []
  refine gs m s₁ 1 #[vR (b1), sU] [(.ref b1)] (fun _ k => XS.aloadN X0.here hx rfl (hb hby q3s) rfl rfl k) ?_
  obtain ⟨cl101, Ar101, -, S101, M101, -, -⟩ := id f1
  refine gs m s₁ 2 #[vR (b1), sU] [(.int (3 : Int32))] (fun _ k => X0.arraylength hx (cell := cl101) (by rw [e0]; exact Ar101.1) (State.isArrayOf_alike hZ.alike Ar101.2.1) (g := (mkF m 1 #[vR (b1), sU] [(.ref b1)])) rfl (rest := []) rfl (hb hby q3t) _ (by rw [len_of S101 M101]; exact k)) ?_
  refine gs m s₁ 59 #[vR (b1), sU] [] (fun _ k => XS.tswOut X0.here hx rfl (pc0 := 2) (pc' := 59) rfl (hb hby q3u) rfl (by decide) (by decide) (by decide) k) ?_
  refine gs m s₁ 60 #[vR (b1), sU] [(.ref b1)] (fun _ k => XS.aloadN X0.here hx rfl (hb hby q51) rfl rfl k) ?_
  obtain ⟨_, _, ⟨T102, L102, k102, n102⟩, -, X102, ⟨Lc102, hQ102, l102, y102, z102⟩, st102⟩ := Jvm.LawKit.callS X0 hx (y := (⟨"java/util/ImmutableCollections", "listFromArray", "([Ljava/lang/Object;)Ljava/util/List;"⟩ : MethodName)) hown (mvT hZ (hwi hw 219 rfl)) (mvT hZ (hwi hw 220 rfl)) (mvT hZ (hwi hw 68 rfl)) (mvT hZ (hwi hw 221 rfl)) (by decide) (backOf (W := 0) (Q := fun v h L => ∃ lst : Addr, ∃ b2 : Addr, ∃ k2 : ClassId, (v = some (.ref lst)) ∧ (Fr n0 L) ∧ (Keep h0 h []) ∧ (h0.size ≤ lst) ∧ (h0.size ≤ b2) ∧ (Exa Z h lst "java/util/ImmutableCollections$ListN") ∧ (Fld Z h lst "java/util/ImmutableCollections$ListN" "elements" "[Ljava/lang/Object;" (.ref b2)) ∧ (Arv Z h b2 k2 (.object "java/lang/Object") (3 : Int32) [(.ref x1), (.ref x2), (.ref x3)] .null)) (own_lfa3 l Z a0 hw [] b1 k1 x1 x2 x3 s1 s2 s3 h0 n0 Z0 f0 f1 f2 f3 f4 f5 f6 f7) hZ (hwi hw 221 rfl) (hwi hw 68 rfl) (by decide) (by decide)) (g := (mkF m 60 #[vR (b1), sU] [(.ref b1)])) rfl (by rw [hml]; rfl) (argsL := [(.ref b1)]) (rest := []) (lenOf own_pd10 rfl) rfl (by show 2 * 0 + _ ≤ _; exact Nat.le_of_eq rfl) (hb hby q52) (fun _ _ => ⟨rfl, e0, (by decide : 0 + 2 ≤ _), (by decide : 0 + 5 ≤ _)⟩)
  dsimp only [Pt.U, Pt.locs, Pt.cells, Pt.slots] at X102 l102 y102 z102 st102 hQ102
  subst l102 y102 z102
  obtain ⟨lst_102, b2_102, k2_102, rfl, N102q, K102, lt102_0, lt102_1, P102_0, P102_1, P102_2⟩ := hQ102
  have N102 := Fr.app N0 N102q
  have ne103 : b1 ≠ lst_102 := Nat.ne_of_lt (Nat.lt_of_lt_of_le f0.lt lt102_0)
  have ne104 : x1 ≠ lst_102 := Nat.ne_of_lt (Nat.lt_of_lt_of_le f2.lt lt102_0)
  have ne105 : x2 ≠ lst_102 := Nat.ne_of_lt (Nat.lt_of_lt_of_le f4.lt lt102_0)
  have ne106 : x3 ≠ lst_102 := Nat.ne_of_lt (Nat.lt_of_lt_of_le f6.lt lt102_0)
  have ge107 : n0 ≤ lst_102 := Nat.le_trans Z0 lt102_0
  have sz108 : h0.size ≤ lst_102 := Nat.le_trans K0.1 lt102_0
  have ne109 : b1 ≠ b2_102 := Nat.ne_of_lt (Nat.lt_of_lt_of_le f0.lt lt102_1)
  have ne110 : x1 ≠ b2_102 := Nat.ne_of_lt (Nat.lt_of_lt_of_le f2.lt lt102_1)
  have ne111 : x2 ≠ b2_102 := Nat.ne_of_lt (Nat.lt_of_lt_of_le f4.lt lt102_1)
  have ne112 : x3 ≠ b2_102 := Nat.ne_of_lt (Nat.lt_of_lt_of_le f6.lt lt102_1)
  have ge113 : n0 ≤ b2_102 := Nat.le_trans Z0 lt102_1
  have sz114 : h0.size ≤ b2_102 := Nat.le_trans K0.1 lt102_1
  have KK102 := K0.trans K102 all0
  have Z102 : n0 ≤ T102.heap.size := Nat.le_trans Z0 K102.1
  have F115 := f0.keep K102
  have F116 := f1.keep K102 nin0
  have F117 := f2.keep K102
  have F118 := f3.keep K102 nin0
  have F119 := f4.keep K102
  have F120 := f5.keep K102 nin0
  have F121 := f6.keep K102
  have F122 := f7.keep K102 nin0
  refine gs m T102 63 #[vR (b1), sU] [(.ref lst_102)] (st102) ?_
  exact Go.retA X102 hx (t := (.object "java/util/List")) hret rfl hlk rfl (hb hby q53) (⟨lst_102, b2_102, k2_102, rfl, N102, KK102, sz108, sz114, P102_0, P102_1, P102_2⟩) (by decide) (by decide)
theorem own_ef_jdk_56_method_3_code_R (m : MethodId) (x0 : Addr) : entryFrame m #[(.ref x0)] 2 = mkF m 0 #[vR (x0), sU] [] := by first | (simp [entryFrame, mkF, argsToLocals, Value.category]; done) | rfl | (simp [entryFrame, mkF, argsToLocals, own_cI, own_cJ, own_cR, own_cN]; done)
theorem q54 : decode jdk_56_method_3_code 0 = .ok (.aload_n 0, 1) := by decide +kernel
theorem q55 : decode jdk_56_method_3_code 1 = .ok (.instanceof 10, 3) := by decide +kernel
theorem q56 : decode jdk_56_method_3_code 4 = .ok (.ifCond .ne 22, 3) := by decide +kernel
theorem q57 : decode jdk_56_method_3_code 7 = .ok (.aload_n 0, 1) := by decide +kernel
theorem q58 : decode jdk_56_method_3_code 8 = .ok (.instanceof 12, 3) := by decide +kernel
theorem q59 : decode jdk_56_method_3_code 11 = .ok (.ifCond .eq 20, 3) := by decide +kernel
theorem q5a : decode jdk_56_method_3_code 31 = .ok (.aload_n 0, 1) := by decide +kernel
theorem q5b : decode jdk_56_method_3_code 32 = .ok (.invokeinterface 20 1, 5) := by decide +kernel
theorem own_pd11 : parseMethodDescriptor "()Z" = some ⟨[], some .boolean⟩ := by decide +kernel
theorem q5c : decode jdk_56_method_3_code 37 = .ok (.ifCond .eq 7, 3) := by decide +kernel
theorem q5d : decode jdk_56_method_3_code 40 = .ok (.invokestatic 26, 3) := by decide +kernel
theorem own_pd12 : parseMethodDescriptor "()Ljava/util/List;" = some ⟨[], some (.object "java/util/List")⟩ := by decide +kernel
theorem q5e : decode jdk_56_method_3_code 43 = .ok (.areturn, 1) := by decide +kernel
theorem own_lcp0 (l : Launch) (Z : State) (a0 : Array Value) (hw : ∀ d ∈ tables_1, d.before a0 Z = true) (ws : List Jvm.Cond) (a1 : Addr) (el : Addr) (h0 : Heap) (n0 : Nat) (Z0 : n0 ≤ h0.size) (f0 : Exa Z h0 a1 "java/util/ArrayList") (f1 : Fld Z h0 a1 "java/util/ArrayList" "size" "I" (.int (0 : Int32))) (f2 : Sta Z h0 "java/util/ImmutableCollections" "EMPTY_LIST" "Ljava/util/ImmutableCollections$ListN;" (.ref el))  :
    Con l Z (⟨"java/util/ImmutableCollections", "listCopy", "(Ljava/util/Collection;)Ljava/util/List;"⟩ : MethodName) jdk_56_method_3_code 2 (some (.object "java/util/List")) ({ frames := 1, cells := 0, slots := 0, locals := 12 } : Room) ws #[(.ref a1)] h0 (Qret (some (.ref el)) h0 n0) 0 0 := by
  refine Con.of (plainFor_of_name own_pn_ImmutableCollections) ?_
  intro pgm e s m below meth c s₁ X0 hx hZ hby hml hown hnm hret hlk e0 hs0
  have N0 := Fr.nil n0
  have hown : s.vm.findClass "java/util/ImmutableCollections" = some m.cls := hown
  have hnm : meth.name = "listCopy" := hnm
  refine Go.cast (own_ef_jdk_56_method_3_code_R m a1) ?_
  refine gs m s₁ 1 #[vR (a1), sU] [(.ref a1)] (fun _ k => XS.aloadN X0.here hx rfl (hb hby q54) rfl rfl k) ?_
  obtain ⟨T101, X101, e101, st101⟩ := instNo X0 hx hZ hown (hwi hw 70 rfl) e0 f0 (own_noas f0 (t := ["java/util/AbstractList", "java/util/AbstractCollection", "java/lang/Object"]) (fun w hm => by simp only [Cond.chainWords, List.mem_cons, List.not_mem_nil, or_false] at hm; rcases hm with rfl | rfl | rfl | rfl <;> first | exact (hwi hw 71 rfl) | exact (hwi hw 72 rfl) | exact (hwi hw 73 rfl) | exact (hwi hw 74 rfl)) (hwi hw 270 rfl) (by decide)) (g := (mkF m 1 #[vR (a1), sU] [(.ref a1)])) rfl rfl (hb hby q55)
  refine gs m T101 4 #[vR (a1), sU] [(.int (0 : Int32))] st101 ?_
  refine gs m T101 7 #[vR (a1), sU] [] (fun _ k => XS.ifNo X101.here hx rfl (hb hby q56) rfl ((if0 _ _).trans (teq (by decide : (0 : Int32) = (0 : Int32))).2) k) ?_
  refine gs m T101 8 #[vR (a1), sU] [(.ref a1)] (fun _ k => XS.aloadN X101.here hx rfl (hb hby q57) rfl rfl k) ?_
  obtain ⟨T102, X102, e102, st102⟩ := instNo X101 hx hZ hown (hwi hw 75 rfl) e101 f0 (own_noas f0 (t := ["java/util/AbstractList", "java/util/AbstractCollection", "java/lang/Object"]) (fun w hm => by simp only [Cond.chainWords, List.mem_cons, List.not_mem_nil, or_false] at hm; rcases hm with rfl | rfl | rfl | rfl <;> first | exact (hwi hw 71 rfl) | exact (hwi hw 72 rfl) | exact (hwi hw 73 rfl) | exact (hwi hw 74 rfl)) (hwi hw 227 rfl) (by decide)) (g := (mkF m 8 #[vR (a1), sU] [(.ref a1)])) rfl rfl (hb hby q58)
  refine gs m T102 11 #[vR (a1), sU] [(.int (0 : Int32))] st102 ?_
  refine gs m T102 31 #[vR (a1), sU] [] (fun _ k => XS.ifYes X102.here hx rfl (pc0 := 11) (pc' := 31) rfl (hb hby q59) rfl ((if0 _ _).trans (teq (by decide : (0 : Int32) = (0 : Int32))).1) (by decide) (by decide) k) ?_
  refine gs m T102 32 #[vR (a1), sU] [(.ref a1)] (fun _ k => XS.aloadN X102.here hx rfl (hb hby q5a) rfl rfl k) ?_
  obtain ⟨cq103, kq103, q103a, q103b, q103c⟩ := isOf hZ e102 f0
  obtain ⟨_, _, ⟨T103, L103, k103, n103⟩, -, X103, ⟨Lc103, hQ103, l103, y103, z103⟩, st103⟩ := X102.interfaceBack hx (xi := (⟨"java/util/Collection", "isEmpty", "()Z"⟩ : MethodName)) (y := (⟨"java/util/ArrayList", "isEmpty", "()Z"⟩ : MethodName)) hown (mvT hZ (hwi hw 76 rfl)) (mvT hZ (hwi hw 77 rfl)) (mvT hZ (hwi hw 78 rfl)) (mvT hZ (hwi hw 79 rfl)) (mvT hZ (hwi hw 80 rfl)) (mvT hZ (hwi hw 81 rfl)) (mvT hZ (hwi hw 82 rfl)) (mvT hZ (hwi hw 83 rfl)) (by decide) (backOf (W := 0) (Q := Qret (some (.int (1 : Int32))) h0 n0) (own_ise0 l Z a0 hw [] a1 h0 n0 Z0 f1) hZ (hwi hw 84 rfl) (hwi hw 28 rfl) (by decide) (by decide)) q103a q103b q103c (g := (mkF m 32 #[vR (a1), sU] [(.ref a1)])) rfl (by rw [hml]; rfl) (Steps.refl _) (argsL := []) (rest := []) (lenOf own_pd11 rfl) rfl (by show 2 * 0 + _ ≤ _; exact Nat.le_of_eq rfl) (hb hby q5b) (fun _ _ => ⟨rfl, e102, (by decide : 0 + 0 ≤ _), (by decide : 0 + 0 ≤ _)⟩)
  dsimp only [Pt.U, Pt.locs, Pt.cells, Pt.slots] at X103 l103 y103 z103 st103 hQ103
  subst l103 y103 z103
  obtain ⟨rfl, N103q, eh103⟩ := hQ103
  have N103 := Fr.app N0 N103q
  refine gs m T103 37 #[vR (a1), sU] [(.int (1 : Int32))] (fun _ k => st103.trans k) ?_
  refine gs m T103 40 #[vR (a1), sU] [] (fun _ k => XS.ifNo X103.here hx rfl (hb hby q5c) rfl ((if0 _ _).trans (feq (by decide : ¬ ((1 : Int32) = (0 : Int32)))).1) k) ?_
  obtain ⟨_, _, ⟨T104, L104, k104, n104⟩, -, X104, ⟨Lc104, hQ104, l104, y104, z104⟩, st104⟩ := Jvm.LawKit.callS X103 hx (y := (⟨"java/util/List", "of", "()Ljava/util/List;"⟩ : MethodName)) hown (mvT hZ (hwi hw 87 rfl)) (mvT hZ (hwi hw 88 rfl)) (mvT hZ (hwi hw 64 rfl)) (mvT hZ (hwi hw 89 rfl)) (by decide) (backOf (W := 0) (Q := Qret (some (.ref el)) h0 n0) (own_of0 l Z a0 hw [] el h0 n0 Z0 f2) hZ (hwi hw 89 rfl) (hwi hw 64 rfl) (by decide) (by decide)) (g := (mkF m 40 #[vR (a1), sU] [])) rfl (by rw [hml]; rfl) (argsL := []) (rest := []) (lenOf own_pd12 rfl) rfl (by show 2 * 0 + _ ≤ _; exact Nat.le_of_eq rfl) (hb hby q5d) (fun _ _ => ⟨rfl, eh103, (by decide : 0 + 0 ≤ _), (by decide : 0 + 0 ≤ _)⟩)
  dsimp only [Pt.U, Pt.locs, Pt.cells, Pt.slots] at X104 l104 y104 z104 st104 hQ104
  subst l104 y104 z104
  obtain ⟨rfl, N104q, eh104⟩ := hQ104
  have N104 := Fr.app N103 N104q
  refine gs m T104 43 #[vR (a1), sU] [(.ref el)] (st104) ?_
  exact Go.retA X104 hx (t := (.object "java/util/List")) hret rfl hlk rfl (hb hby q5e) (⟨rfl, N104, eh104⟩) (by decide) (by decide)
theorem own_ef_jdk_40_method_48_code_R (m : MethodId) (x0 : Addr) : entryFrame m #[(.ref x0)] 1 = mkF m 0 #[vR (x0)] [] := by first | (simp [entryFrame, mkF, argsToLocals, Value.category]; done) | rfl | (simp [entryFrame, mkF, argsToLocals, own_cI, own_cJ, own_cR, own_cN]; done)
theorem q5f : decode jdk_40_method_48_code 0 = .ok (.aload_n 0, 1) := by decide +kernel
theorem q5g : decode jdk_40_method_48_code 1 = .ok (.invokestatic 112, 3) := by decide +kernel
theorem own_pd13 : parseMethodDescriptor "(Ljava/util/Collection;)Ljava/util/List;" = some ⟨[(.object "java/util/Collection")], some (.object "java/util/List")⟩ := by decide +kernel
theorem q5h : decode jdk_40_method_48_code 4 = .ok (.areturn, 1) := by decide +kernel
theorem own_cof0 (l : Launch) (Z : State) (a0 : Array Value) (hw : ∀ d ∈ tables_1, d.before a0 Z = true) (ws : List Jvm.Cond) (a1 : Addr) (el : Addr) (h0 : Heap) (n0 : Nat) (Z0 : n0 ≤ h0.size) (f0 : Exa Z h0 a1 "java/util/ArrayList") (f1 : Fld Z h0 a1 "java/util/ArrayList" "size" "I" (.int (0 : Int32))) (f2 : Sta Z h0 "java/util/ImmutableCollections" "EMPTY_LIST" "Ljava/util/ImmutableCollections$ListN;" (.ref el))  :
    Con l Z (⟨"java/util/List", "copyOf", "(Ljava/util/Collection;)Ljava/util/List;"⟩ : MethodName) jdk_40_method_48_code 1 (some (.object "java/util/List")) ({ frames := 2, cells := 0, slots := 0, locals := 25 } : Room) ws #[(.ref a1)] h0 (Qret (some (.ref el)) h0 n0) 0 0 := by
  refine Con.of (plainFor_of_name own_pn_List) ?_
  intro pgm e s m below meth c s₁ X0 hx hZ hby hml hown hnm hret hlk e0 hs0
  have N0 := Fr.nil n0
  have hown : s.vm.findClass "java/util/List" = some m.cls := hown
  have hnm : meth.name = "copyOf" := hnm
  refine Go.cast (own_ef_jdk_40_method_48_code_R m a1) ?_
  refine gs m s₁ 1 #[vR (a1)] [(.ref a1)] (fun _ k => XS.aloadN X0.here hx rfl (hb hby q5f) rfl rfl k) ?_
  obtain ⟨_, _, ⟨T101, L101, k101, n101⟩, -, X101, ⟨Lc101, hQ101, l101, y101, z101⟩, st101⟩ := Jvm.LawKit.callS X0 hx (y := (⟨"java/util/ImmutableCollections", "listCopy", "(Ljava/util/Collection;)Ljava/util/List;"⟩ : MethodName)) hown (mvT hZ (hwi hw 66 rfl)) (mvT hZ (hwi hw 67 rfl)) (mvT hZ (hwi hw 68 rfl)) (mvT hZ (hwi hw 69 rfl)) (by decide) (backOf (W := 0) (Q := Qret (some (.ref el)) h0 n0) (own_lcp0 l Z a0 hw [] a1 el h0 n0 Z0 f0 f1 f2) hZ (hwi hw 69 rfl) (hwi hw 68 rfl) (by decide) (by decide)) (g := (mkF m 1 #[vR (a1)] [(.ref a1)])) rfl (by rw [hml]; rfl) (argsL := [(.ref a1)]) (rest := []) (lenOf own_pd13 rfl) rfl (by show 2 * 0 + _ ≤ _; exact Nat.le_of_eq rfl) (hb hby q5g) (fun _ _ => ⟨rfl, e0, (by decide : 0 + 0 ≤ _), (by decide : 0 + 0 ≤ _)⟩)
  dsimp only [Pt.U, Pt.locs, Pt.cells, Pt.slots] at X101 l101 y101 z101 st101 hQ101
  subst l101 y101 z101
  obtain ⟨rfl, N101q, eh101⟩ := hQ101
  have N101 := Fr.app N0 N101q
  refine gs m T101 4 #[vR (a1)] [(.ref el)] (st101) ?_
  exact Go.retA X101 hx (t := (.object "java/util/List")) hret rfl hlk rfl (hb hby q5h) (⟨rfl, N101, eh101⟩) (by decide) (by decide)
theorem q5i : decode jdk_56_method_3_code 44 = .ok (.aload_n 0, 1) := by decide +kernel
theorem q5j : decode jdk_56_method_3_code 45 = .ok (.invokeinterface 30 1, 5) := by decide +kernel
theorem q5k : decode jdk_56_method_3_code 50 = .ok (.invokestatic 34, 3) := by decide +kernel
theorem q5l : decode jdk_56_method_3_code 53 = .ok (.areturn, 1) := by decide +kernel
theorem own_lcp1 (l : Launch) (Z : State) (a0 : Array Value) (hw : ∀ d ∈ tables_1, d.before a0 Z = true) (ws : List Jvm.Cond) (a1 : Addr) (b1 : Addr) (k1 : ClassId) (x1 : Addr) (s1 : Int64) (em : Addr) (h0 : Heap) (n0 : Nat) (Z0 : n0 ≤ h0.size) (f0 : Exa Z h0 a1 "java/util/ArrayList") (f1 : Fld Z h0 a1 "java/util/ArrayList" "elementData" "[Ljava/lang/Object;" (.ref b1)) (f2 : Fld Z h0 a1 "java/util/ArrayList" "size" "I" (.int (1 : Int32))) (f3 : Exa Z h0 b1 "[Ljava/lang/Object;") (f4 : Arv Z h0 b1 k1 (.object "java/lang/Object") (10 : Int32) [(.ref x1), .null, .null, .null, .null, .null, .null, .null, .null, .null] .null) (f5 : Exa Z h0 x1 "java/time/Duration") (f6 : Fld Z h0 x1 "java/time/Duration" "seconds" "J" (.long s1)) (f7 : Sta Z h0 "java/util/ImmutableCollections" "EMPTY" "Ljava/lang/Object;" (.ref em)) (ov1 : Ovr Z k1 "java/lang/Object") (MM : MirrorMade Z "[Ljava/lang/Object;") :
    Con l Z (⟨"java/util/ImmutableCollections", "listCopy", "(Ljava/util/Collection;)Ljava/util/List;"⟩ : MethodName) jdk_56_method_3_code 2 (some (.object "java/util/List")) ({ frames := 6, cells := 2, slots := 3, locals := 89 } : Room) ws #[(.ref a1)] h0 (fun v h L => ∃ lst : Addr, (v = some (.ref lst)) ∧ (Fr n0 L) ∧ (Keep h0 h []) ∧ (h0.size ≤ lst) ∧ (Exa Z h lst "java/util/ImmutableCollections$List12") ∧ (Fld Z h lst "java/util/ImmutableCollections$List12" "e0" "Ljava/lang/Object;" (.ref x1)) ∧ (Fld Z h lst "java/util/ImmutableCollections$List12" "e1" "Ljava/lang/Object;" (.ref em))) 2 3 := by
  refine Con.of (plainFor_of_name own_pn_ImmutableCollections) ?_
  intro pgm e s m below meth c s₁ X0 hx hZ hby hml hown hnm hret hlk e0 hs0
  have N0 := Fr.nil n0
  have hown : s.vm.findClass "java/util/ImmutableCollections" = some m.cls := hown
  have hnm : meth.name = "listCopy" := hnm
  refine Go.cast (own_ef_jdk_56_method_3_code_R m a1) ?_
  have K0 := Keep.refl h0 []
  refine gs m s₁ 1 #[vR (a1), sU] [(.ref a1)] (fun _ k => XS.aloadN X0.here hx rfl (hb hby q54) rfl rfl k) ?_
  obtain ⟨T101, X101, e101, st101⟩ := instNo X0 hx hZ hown (hwi hw 70 rfl) e0 f0 (own_noas f0 (t := ["java/util/AbstractList", "java/util/AbstractCollection", "java/lang/Object"]) (fun w hm => by simp only [Cond.chainWords, List.mem_cons, List.not_mem_nil, or_false] at hm; rcases hm with rfl | rfl | rfl | rfl <;> first | exact (hwi hw 71 rfl) | exact (hwi hw 72 rfl) | exact (hwi hw 73 rfl) | exact (hwi hw 74 rfl)) (hwi hw 270 rfl) (by decide)) (g := (mkF m 1 #[vR (a1), sU] [(.ref a1)])) rfl rfl (hb hby q55)
  refine gs m T101 4 #[vR (a1), sU] [(.int (0 : Int32))] st101 ?_
  refine gs m T101 7 #[vR (a1), sU] [] (fun _ k => XS.ifNo X101.here hx rfl (hb hby q56) rfl ((if0 _ _).trans (teq (by decide : (0 : Int32) = (0 : Int32))).2) k) ?_
  refine gs m T101 8 #[vR (a1), sU] [(.ref a1)] (fun _ k => XS.aloadN X101.here hx rfl (hb hby q57) rfl rfl k) ?_
  obtain ⟨T102, X102, e102, st102⟩ := instNo X101 hx hZ hown (hwi hw 75 rfl) e101 f0 (own_noas f0 (t := ["java/util/AbstractList", "java/util/AbstractCollection", "java/lang/Object"]) (fun w hm => by simp only [Cond.chainWords, List.mem_cons, List.not_mem_nil, or_false] at hm; rcases hm with rfl | rfl | rfl | rfl <;> first | exact (hwi hw 71 rfl) | exact (hwi hw 72 rfl) | exact (hwi hw 73 rfl) | exact (hwi hw 74 rfl)) (hwi hw 227 rfl) (by decide)) (g := (mkF m 8 #[vR (a1), sU] [(.ref a1)])) rfl rfl (hb hby q58)
  refine gs m T102 11 #[vR (a1), sU] [(.int (0 : Int32))] st102 ?_
  refine gs m T102 31 #[vR (a1), sU] [] (fun _ k => XS.ifYes X102.here hx rfl (pc0 := 11) (pc' := 31) rfl (hb hby q59) rfl ((if0 _ _).trans (teq (by decide : (0 : Int32) = (0 : Int32))).1) (by decide) (by decide) k) ?_
  refine gs m T102 32 #[vR (a1), sU] [(.ref a1)] (fun _ k => XS.aloadN X102.here hx rfl (hb hby q5a) rfl rfl k) ?_
  obtain ⟨cq103, kq103, q103a, q103b, q103c⟩ := isOf hZ e102 f0
  obtain ⟨_, _, ⟨T103, L103, k103, n103⟩, -, X103, ⟨Lc103, hQ103, l103, y103, z103⟩, st103⟩ := X102.interfaceBack hx (xi := (⟨"java/util/Collection", "isEmpty", "()Z"⟩ : MethodName)) (y := (⟨"java/util/ArrayList", "isEmpty", "()Z"⟩ : MethodName)) hown (mvT hZ (hwi hw 76 rfl)) (mvT hZ (hwi hw 77 rfl)) (mvT hZ (hwi hw 78 rfl)) (mvT hZ (hwi hw 79 rfl)) (mvT hZ (hwi hw 80 rfl)) (mvT hZ (hwi hw 81 rfl)) (mvT hZ (hwi hw 82 rfl)) (mvT hZ (hwi hw 83 rfl)) (by decide) (backOf (W := 0) (Q := Qret (some (.int (0 : Int32))) h0 n0) (own_ise1 l Z a0 hw [] a1 h0 n0 Z0 f2) hZ (hwi hw 84 rfl) (hwi hw 28 rfl) (by decide) (by decide)) q103a q103b q103c (g := (mkF m 32 #[vR (a1), sU] [(.ref a1)])) rfl (by rw [hml]; rfl) (Steps.refl _) (argsL := []) (rest := []) (lenOf own_pd11 rfl) rfl (by show 2 * 0 + _ ≤ _; exact Nat.le_of_eq rfl) (hb hby q5b) (fun _ _ => ⟨rfl, e102, (by decide : 0 + 0 ≤ _), (by decide : 0 + 0 ≤ _)⟩)
  dsimp only [Pt.U, Pt.locs, Pt.cells, Pt.slots] at X103 l103 y103 z103 st103 hQ103
  subst l103 y103 z103
  obtain ⟨rfl, N103q, eh103⟩ := hQ103
  have N103 := Fr.app N0 N103q
  refine gs m T103 37 #[vR (a1), sU] [(.int (0 : Int32))] (fun _ k => st103.trans k) ?_
  refine gs m T103 44 #[vR (a1), sU] [] (fun _ k => XS.ifYes X103.here hx rfl (pc0 := 37) (pc' := 44) rfl (hb hby q5c) rfl ((if0 _ _).trans (teq (by decide : (0 : Int32) = (0 : Int32))).1) (by decide) (by decide) k) ?_
  refine gs m T103 45 #[vR (a1), sU] [(.ref a1)] (fun _ k => XS.aloadN X103.here hx rfl (hb hby q5i) rfl rfl k) ?_
  obtain ⟨cq104, kq104, q104a, q104b, q104c⟩ := isOf hZ eh103 f0
  obtain ⟨_, _, ⟨T104, L104, k104, n104⟩, -, X104, ⟨Lc104, hQ104, l104, y104, z104⟩, st104⟩ := X103.interfaceBack hx (xi := (⟨"java/util/Collection", "toArray", "()[Ljava/lang/Object;"⟩ : MethodName)) (y := (⟨"java/util/ArrayList", "toArray", "()[Ljava/lang/Object;"⟩ : MethodName)) hown (mvT hZ (hwi hw 186 rfl)) (mvT hZ (hwi hw 187 rfl)) (mvT hZ (hwi hw 188 rfl)) (mvT hZ (hwi hw 189 rfl)) (mvT hZ (hwi hw 190 rfl)) (mvT hZ (hwi hw 191 rfl)) (mvT hZ (hwi hw 192 rfl)) (mvT hZ (hwi hw 83 rfl)) (by decide) (backOf (W := 0) (Q := fun v h L => ∃ b : Addr, ∃ kb : ClassId, (v = some (.ref b)) ∧ (Fr n0 L) ∧ (Keep h0 h []) ∧ (h0.size ≤ b) ∧ (Exa Z h b "[Ljava/lang/Object;") ∧ (Arv Z h b kb (.object "java/lang/Object") (1 : Int32) [(.ref x1)] .null)) (own_toa1 l Z a0 hw [] a1 b1 k1 x1 s1 h0 n0 Z0 f0 f1 f2 f3 f4 f5 f6 ov1 MM) hZ (hwi hw 193 rfl) (hwi hw 28 rfl) (by decide) (by decide)) q104a q104b q104c (g := (mkF m 45 #[vR (a1), sU] [(.ref a1)])) rfl (by rw [hml]; rfl) (Steps.refl _) (argsL := []) (rest := []) (lenOf own_pd3 rfl) rfl (by show 2 * 0 + _ ≤ _; exact Nat.le_of_eq rfl) (hb hby q5j) (fun _ _ => ⟨rfl, eh103, (by decide : 0 + 1 ≤ _), (by decide : 0 + 1 ≤ _)⟩)
  dsimp only [Pt.U, Pt.locs, Pt.cells, Pt.slots] at X104 l104 y104 z104 st104 hQ104
  subst l104 y104 z104
  obtain ⟨b_104, kb_104, rfl, N104q, K104, lt104_0, P104_0, P104_1⟩ := hQ104
  have N104 := Fr.app N103 N104q
  have ne105 : a1 ≠ b_104 := Nat.ne_of_lt (Nat.lt_of_lt_of_le f0.lt lt104_0)
  have ne106 : b1 ≠ b_104 := Nat.ne_of_lt (Nat.lt_of_lt_of_le f3.lt lt104_0)
  have ne107 : x1 ≠ b_104 := Nat.ne_of_lt (Nat.lt_of_lt_of_le f5.lt lt104_0)
  have ge108 : n0 ≤ b_104 := Nat.le_trans Z0 lt104_0
  have sz109 : h0.size ≤ b_104 := Nat.le_trans K0.1 lt104_0
  have KK104 := K0.trans K104 all0
  have Z104 : n0 ≤ T104.heap.size := Nat.le_trans Z0 K104.1
  have F110 := f0.keep K104
  have F111 := f1.keep K104 nin0
  have F112 := f2.keep K104 nin0
  have F113 := f3.keep K104
  have F114 := f4.keep K104 nin0
  have F115 := f5.keep K104
  have F116 := f6.keep K104 nin0
  have F117 := own_sta_keep f7 K104 all0
  refine gs m T104 50 #[vR (a1), sU] [(.ref b_104)] (fun _ k => st104.trans k) ?_
  obtain ⟨_, _, ⟨T118, L118, k118, n118⟩, -, X118, ⟨Lc118, hQ118, l118, y118, z118⟩, st118⟩ := Jvm.LawKit.callS X104 hx (y := (⟨"java/util/List", "of", "([Ljava/lang/Object;)Ljava/util/List;"⟩ : MethodName)) hown (mvT hZ (hwi hw 216 rfl)) (mvT hZ (hwi hw 217 rfl)) (mvT hZ (hwi hw 64 rfl)) (mvT hZ (hwi hw 218 rfl)) (by decide) (backOf (W := 0) (Q := fun v h L => ∃ lst : Addr, (v = some (.ref lst)) ∧ (Fr n0 L) ∧ (Keep T104.heap h []) ∧ (T104.heap.size ≤ lst) ∧ (Exa Z h lst "java/util/ImmutableCollections$List12") ∧ (Fld Z h lst "java/util/ImmutableCollections$List12" "e0" "Ljava/lang/Object;" (.ref x1)) ∧ (Fld Z h lst "java/util/ImmutableCollections$List12" "e1" "Ljava/lang/Object;" (.ref em))) (own_ofa1 l Z a0 hw [] b_104 kb_104 x1 s1 em T104.heap n0 Z104 P104_0 P104_1 F115 F116 F117) hZ (hwi hw 218 rfl) (hwi hw 64 rfl) (by decide) (by decide)) (g := (mkF m 50 #[vR (a1), sU] [(.ref b_104)])) rfl (by rw [hml]; rfl) (argsL := [(.ref b_104)]) (rest := []) (lenOf own_pd10 rfl) rfl (by show 2 * 0 + _ ≤ _; exact Nat.le_of_eq rfl) (hb hby q5k) (fun _ _ => ⟨rfl, rfl, (by decide : 1 + 1 ≤ _), (by decide : 1 + 2 ≤ _)⟩)
  dsimp only [Pt.U, Pt.locs, Pt.cells, Pt.slots] at X118 l118 y118 z118 st118 hQ118
  subst l118 y118 z118
  obtain ⟨lst_118, rfl, N118q, K118, lt118_0, P118_0, P118_1, P118_2⟩ := hQ118
  have N118 := Fr.app N104 N118q
  have ne119 : a1 ≠ lst_118 := Nat.ne_of_lt (Nat.lt_of_lt_of_le F110.lt lt118_0)
  have ne120 : b1 ≠ lst_118 := Nat.ne_of_lt (Nat.lt_of_lt_of_le F113.lt lt118_0)
  have ne121 : x1 ≠ lst_118 := Nat.ne_of_lt (Nat.lt_of_lt_of_le F115.lt lt118_0)
  have ne122 : b_104 ≠ lst_118 := Nat.ne_of_lt (Nat.lt_of_lt_of_le P104_0.lt lt118_0)
  have ge123 : n0 ≤ lst_118 := Nat.le_trans Z104 lt118_0
  have sz124 : h0.size ≤ lst_118 := Nat.le_trans KK104.1 lt118_0
  have KK118 := KK104.trans K118 all0
  have Z118 : n0 ≤ T118.heap.size := Nat.le_trans Z104 K118.1
  have F125 := F110.keep K118
  have F126 := F111.keep K118 nin0
  have F127 := F112.keep K118 nin0
  have F128 := F113.keep K118
  have F129 := F114.keep K118 nin0
  have F130 := F115.keep K118
  have F131 := F116.keep K118 nin0
  have F132 := own_sta_keep F117 K118 all0
  have F133 := P104_0.keep K118
  have F134 := P104_1.keep K118 nin0
  refine gs m T118 53 #[vR (a1), sU] [(.ref lst_118)] (st118) ?_
  exact Go.retA X118 hx (t := (.object "java/util/List")) hret rfl hlk rfl (hb hby q5l) (⟨lst_118, rfl, N118, KK118, sz124, P118_0, P118_1, P118_2⟩) (by decide) (by decide)
theorem own_cof1 (l : Launch) (Z : State) (a0 : Array Value) (hw : ∀ d ∈ tables_1, d.before a0 Z = true) (ws : List Jvm.Cond) (a1 : Addr) (b1 : Addr) (k1 : ClassId) (x1 : Addr) (s1 : Int64) (em : Addr) (h0 : Heap) (n0 : Nat) (Z0 : n0 ≤ h0.size) (f0 : Exa Z h0 a1 "java/util/ArrayList") (f1 : Fld Z h0 a1 "java/util/ArrayList" "elementData" "[Ljava/lang/Object;" (.ref b1)) (f2 : Fld Z h0 a1 "java/util/ArrayList" "size" "I" (.int (1 : Int32))) (f3 : Exa Z h0 b1 "[Ljava/lang/Object;") (f4 : Arv Z h0 b1 k1 (.object "java/lang/Object") (10 : Int32) [(.ref x1), .null, .null, .null, .null, .null, .null, .null, .null, .null] .null) (f5 : Exa Z h0 x1 "java/time/Duration") (f6 : Fld Z h0 x1 "java/time/Duration" "seconds" "J" (.long s1)) (f7 : Sta Z h0 "java/util/ImmutableCollections" "EMPTY" "Ljava/lang/Object;" (.ref em)) (ov1 : Ovr Z k1 "java/lang/Object") (MM : MirrorMade Z "[Ljava/lang/Object;") :
    Con l Z (⟨"java/util/List", "copyOf", "(Ljava/util/Collection;)Ljava/util/List;"⟩ : MethodName) jdk_40_method_48_code 1 (some (.object "java/util/List")) ({ frames := 7, cells := 2, slots := 3, locals := 102 } : Room) ws #[(.ref a1)] h0 (fun v h L => ∃ lst : Addr, (v = some (.ref lst)) ∧ (Fr n0 L) ∧ (Keep h0 h []) ∧ (h0.size ≤ lst) ∧ (Exa Z h lst "java/util/ImmutableCollections$List12") ∧ (Fld Z h lst "java/util/ImmutableCollections$List12" "e0" "Ljava/lang/Object;" (.ref x1)) ∧ (Fld Z h lst "java/util/ImmutableCollections$List12" "e1" "Ljava/lang/Object;" (.ref em))) 2 3 := by
  refine Con.of (plainFor_of_name own_pn_List) ?_
  intro pgm e s m below meth c s₁ X0 hx hZ hby hml hown hnm hret hlk e0 hs0
  have N0 := Fr.nil n0
  have hown : s.vm.findClass "java/util/List" = some m.cls := hown
  have hnm : meth.name = "copyOf" := hnm
  refine Go.cast (own_ef_jdk_40_method_48_code_R m a1) ?_
  have K0 := Keep.refl h0 []
  refine gs m s₁ 1 #[vR (a1)] [(.ref a1)] (fun _ k => XS.aloadN X0.here hx rfl (hb hby q5f) rfl rfl k) ?_
  obtain ⟨_, _, ⟨T101, L101, k101, n101⟩, -, X101, ⟨Lc101, hQ101, l101, y101, z101⟩, st101⟩ := Jvm.LawKit.callS X0 hx (y := (⟨"java/util/ImmutableCollections", "listCopy", "(Ljava/util/Collection;)Ljava/util/List;"⟩ : MethodName)) hown (mvT hZ (hwi hw 66 rfl)) (mvT hZ (hwi hw 67 rfl)) (mvT hZ (hwi hw 68 rfl)) (mvT hZ (hwi hw 69 rfl)) (by decide) (backOf (W := 0) (Q := fun v h L => ∃ lst : Addr, (v = some (.ref lst)) ∧ (Fr n0 L) ∧ (Keep h0 h []) ∧ (h0.size ≤ lst) ∧ (Exa Z h lst "java/util/ImmutableCollections$List12") ∧ (Fld Z h lst "java/util/ImmutableCollections$List12" "e0" "Ljava/lang/Object;" (.ref x1)) ∧ (Fld Z h lst "java/util/ImmutableCollections$List12" "e1" "Ljava/lang/Object;" (.ref em))) (own_lcp1 l Z a0 hw [] a1 b1 k1 x1 s1 em h0 n0 Z0 f0 f1 f2 f3 f4 f5 f6 f7 ov1 MM) hZ (hwi hw 69 rfl) (hwi hw 68 rfl) (by decide) (by decide)) (g := (mkF m 1 #[vR (a1)] [(.ref a1)])) rfl (by rw [hml]; rfl) (argsL := [(.ref a1)]) (rest := []) (lenOf own_pd13 rfl) rfl (by show 2 * 0 + _ ≤ _; exact Nat.le_of_eq rfl) (hb hby q5g) (fun _ _ => ⟨rfl, e0, (by decide : 0 + 2 ≤ _), (by decide : 0 + 3 ≤ _)⟩)
  dsimp only [Pt.U, Pt.locs, Pt.cells, Pt.slots] at X101 l101 y101 z101 st101 hQ101
  subst l101 y101 z101
  obtain ⟨lst_101, rfl, N101q, K101, lt101_0, P101_0, P101_1, P101_2⟩ := hQ101
  have N101 := Fr.app N0 N101q
  have ne102 : a1 ≠ lst_101 := Nat.ne_of_lt (Nat.lt_of_lt_of_le f0.lt lt101_0)
  have ne103 : b1 ≠ lst_101 := Nat.ne_of_lt (Nat.lt_of_lt_of_le f3.lt lt101_0)
  have ne104 : x1 ≠ lst_101 := Nat.ne_of_lt (Nat.lt_of_lt_of_le f5.lt lt101_0)
  have ge105 : n0 ≤ lst_101 := Nat.le_trans Z0 lt101_0
  have sz106 : h0.size ≤ lst_101 := Nat.le_trans K0.1 lt101_0
  have KK101 := K0.trans K101 all0
  have Z101 : n0 ≤ T101.heap.size := Nat.le_trans Z0 K101.1
  have F107 := f0.keep K101
  have F108 := f1.keep K101 nin0
  have F109 := f2.keep K101 nin0
  have F110 := f3.keep K101
  have F111 := f4.keep K101 nin0
  have F112 := f5.keep K101
  have F113 := f6.keep K101 nin0
  have F114 := own_sta_keep f7 K101 all0
  refine gs m T101 4 #[vR (a1)] [(.ref lst_101)] (st101) ?_
  exact Go.retA X101 hx (t := (.object "java/util/List")) hret rfl hlk rfl (hb hby q5h) (⟨lst_101, rfl, N101, KK101, sz106, P101_0, P101_1, P101_2⟩) (by decide) (by decide)
theorem own_lcp2 (l : Launch) (Z : State) (a0 : Array Value) (hw : ∀ d ∈ tables_1, d.before a0 Z = true) (ws : List Jvm.Cond) (a1 : Addr) (b1 : Addr) (k1 : ClassId) (x1 : Addr) (x2 : Addr) (s1 : Int64) (s2 : Int64) (h0 : Heap) (n0 : Nat) (Z0 : n0 ≤ h0.size) (f0 : Exa Z h0 a1 "java/util/ArrayList") (f1 : Fld Z h0 a1 "java/util/ArrayList" "elementData" "[Ljava/lang/Object;" (.ref b1)) (f2 : Fld Z h0 a1 "java/util/ArrayList" "size" "I" (.int (2 : Int32))) (f3 : Exa Z h0 b1 "[Ljava/lang/Object;") (f4 : Arv Z h0 b1 k1 (.object "java/lang/Object") (10 : Int32) [(.ref x1), (.ref x2), .null, .null, .null, .null, .null, .null, .null, .null] .null) (f5 : Exa Z h0 x1 "java/time/Duration") (f6 : Fld Z h0 x1 "java/time/Duration" "seconds" "J" (.long s1)) (f7 : Exa Z h0 x2 "java/time/Duration") (f8 : Fld Z h0 x2 "java/time/Duration" "seconds" "J" (.long s2)) (ov1 : Ovr Z k1 "java/lang/Object") (MM : MirrorMade Z "[Ljava/lang/Object;") :
    Con l Z (⟨"java/util/ImmutableCollections", "listCopy", "(Ljava/util/Collection;)Ljava/util/List;"⟩ : MethodName) jdk_56_method_3_code 2 (some (.object "java/util/List")) ({ frames := 6, cells := 2, slots := 4, locals := 89 } : Room) ws #[(.ref a1)] h0 (fun v h L => ∃ lst : Addr, (v = some (.ref lst)) ∧ (Fr n0 L) ∧ (Keep h0 h []) ∧ (h0.size ≤ lst) ∧ (Exa Z h lst "java/util/ImmutableCollections$List12") ∧ (Fld Z h lst "java/util/ImmutableCollections$List12" "e0" "Ljava/lang/Object;" (.ref x1)) ∧ (Fld Z h lst "java/util/ImmutableCollections$List12" "e1" "Ljava/lang/Object;" (.ref x2))) 2 4 := by
  refine Con.of (plainFor_of_name own_pn_ImmutableCollections) ?_
  intro pgm e s m below meth c s₁ X0 hx hZ hby hml hown hnm hret hlk e0 hs0
  have N0 := Fr.nil n0
  have hown : s.vm.findClass "java/util/ImmutableCollections" = some m.cls := hown
  have hnm : meth.name = "listCopy" := hnm
  refine Go.cast (own_ef_jdk_56_method_3_code_R m a1) ?_
  have K0 := Keep.refl h0 []
  refine gs m s₁ 1 #[vR (a1), sU] [(.ref a1)] (fun _ k => XS.aloadN X0.here hx rfl (hb hby q54) rfl rfl k) ?_
  obtain ⟨T101, X101, e101, st101⟩ := instNo X0 hx hZ hown (hwi hw 70 rfl) e0 f0 (own_noas f0 (t := ["java/util/AbstractList", "java/util/AbstractCollection", "java/lang/Object"]) (fun w hm => by simp only [Cond.chainWords, List.mem_cons, List.not_mem_nil, or_false] at hm; rcases hm with rfl | rfl | rfl | rfl <;> first | exact (hwi hw 71 rfl) | exact (hwi hw 72 rfl) | exact (hwi hw 73 rfl) | exact (hwi hw 74 rfl)) (hwi hw 270 rfl) (by decide)) (g := (mkF m 1 #[vR (a1), sU] [(.ref a1)])) rfl rfl (hb hby q55)
  refine gs m T101 4 #[vR (a1), sU] [(.int (0 : Int32))] st101 ?_
  refine gs m T101 7 #[vR (a1), sU] [] (fun _ k => XS.ifNo X101.here hx rfl (hb hby q56) rfl ((if0 _ _).trans (teq (by decide : (0 : Int32) = (0 : Int32))).2) k) ?_
  refine gs m T101 8 #[vR (a1), sU] [(.ref a1)] (fun _ k => XS.aloadN X101.here hx rfl (hb hby q57) rfl rfl k) ?_
  obtain ⟨T102, X102, e102, st102⟩ := instNo X101 hx hZ hown (hwi hw 75 rfl) e101 f0 (own_noas f0 (t := ["java/util/AbstractList", "java/util/AbstractCollection", "java/lang/Object"]) (fun w hm => by simp only [Cond.chainWords, List.mem_cons, List.not_mem_nil, or_false] at hm; rcases hm with rfl | rfl | rfl | rfl <;> first | exact (hwi hw 71 rfl) | exact (hwi hw 72 rfl) | exact (hwi hw 73 rfl) | exact (hwi hw 74 rfl)) (hwi hw 227 rfl) (by decide)) (g := (mkF m 8 #[vR (a1), sU] [(.ref a1)])) rfl rfl (hb hby q58)
  refine gs m T102 11 #[vR (a1), sU] [(.int (0 : Int32))] st102 ?_
  refine gs m T102 31 #[vR (a1), sU] [] (fun _ k => XS.ifYes X102.here hx rfl (pc0 := 11) (pc' := 31) rfl (hb hby q59) rfl ((if0 _ _).trans (teq (by decide : (0 : Int32) = (0 : Int32))).1) (by decide) (by decide) k) ?_
  refine gs m T102 32 #[vR (a1), sU] [(.ref a1)] (fun _ k => XS.aloadN X102.here hx rfl (hb hby q5a) rfl rfl k) ?_
  obtain ⟨cq103, kq103, q103a, q103b, q103c⟩ := isOf hZ e102 f0
  obtain ⟨_, _, ⟨T103, L103, k103, n103⟩, -, X103, ⟨Lc103, hQ103, l103, y103, z103⟩, st103⟩ := X102.interfaceBack hx (xi := (⟨"java/util/Collection", "isEmpty", "()Z"⟩ : MethodName)) (y := (⟨"java/util/ArrayList", "isEmpty", "()Z"⟩ : MethodName)) hown (mvT hZ (hwi hw 76 rfl)) (mvT hZ (hwi hw 77 rfl)) (mvT hZ (hwi hw 78 rfl)) (mvT hZ (hwi hw 79 rfl)) (mvT hZ (hwi hw 80 rfl)) (mvT hZ (hwi hw 81 rfl)) (mvT hZ (hwi hw 82 rfl)) (mvT hZ (hwi hw 83 rfl)) (by decide) (backOf (W := 0) (Q := Qret (some (.int (0 : Int32))) h0 n0) (own_ise2 l Z a0 hw [] a1 h0 n0 Z0 f2) hZ (hwi hw 84 rfl) (hwi hw 28 rfl) (by decide) (by decide)) q103a q103b q103c (g := (mkF m 32 #[vR (a1), sU] [(.ref a1)])) rfl (by rw [hml]; rfl) (Steps.refl _) (argsL := []) (rest := []) (lenOf own_pd11 rfl) rfl (by show 2 * 0 + _ ≤ _; exact Nat.le_of_eq rfl) (hb hby q5b) (fun _ _ => ⟨rfl, e102, (by decide : 0 + 0 ≤ _), (by decide : 0 + 0 ≤ _)⟩)
  dsimp only [Pt.U, Pt.locs, Pt.cells, Pt.slots] at X103 l103 y103 z103 st103 hQ103
  subst l103 y103 z103
  obtain ⟨rfl, N103q, eh103⟩ := hQ103
  have N103 := Fr.app N0 N103q
  refine gs m T103 37 #[vR (a1), sU] [(.int (0 : Int32))] (fun _ k => st103.trans k) ?_
  refine gs m T103 44 #[vR (a1), sU] [] (fun _ k => XS.ifYes X103.here hx rfl (pc0 := 37) (pc' := 44) rfl (hb hby q5c) rfl ((if0 _ _).trans (teq (by decide : (0 : Int32) = (0 : Int32))).1) (by decide) (by decide) k) ?_
  refine gs m T103 45 #[vR (a1), sU] [(.ref a1)] (fun _ k => XS.aloadN X103.here hx rfl (hb hby q5i) rfl rfl k) ?_
  obtain ⟨cq104, kq104, q104a, q104b, q104c⟩ := isOf hZ eh103 f0
  obtain ⟨_, _, ⟨T104, L104, k104, n104⟩, -, X104, ⟨Lc104, hQ104, l104, y104, z104⟩, st104⟩ := X103.interfaceBack hx (xi := (⟨"java/util/Collection", "toArray", "()[Ljava/lang/Object;"⟩ : MethodName)) (y := (⟨"java/util/ArrayList", "toArray", "()[Ljava/lang/Object;"⟩ : MethodName)) hown (mvT hZ (hwi hw 186 rfl)) (mvT hZ (hwi hw 187 rfl)) (mvT hZ (hwi hw 188 rfl)) (mvT hZ (hwi hw 189 rfl)) (mvT hZ (hwi hw 190 rfl)) (mvT hZ (hwi hw 191 rfl)) (mvT hZ (hwi hw 192 rfl)) (mvT hZ (hwi hw 83 rfl)) (by decide) (backOf (W := 0) (Q := fun v h L => ∃ b : Addr, ∃ kb : ClassId, (v = some (.ref b)) ∧ (Fr n0 L) ∧ (Keep h0 h []) ∧ (h0.size ≤ b) ∧ (Exa Z h b "[Ljava/lang/Object;") ∧ (Arv Z h b kb (.object "java/lang/Object") (2 : Int32) [(.ref x1), (.ref x2)] .null)) (own_toa2 l Z a0 hw [] a1 b1 k1 x1 x2 s1 s2 h0 n0 Z0 f0 f1 f2 f3 f4 f5 f6 f7 f8 ov1 MM) hZ (hwi hw 193 rfl) (hwi hw 28 rfl) (by decide) (by decide)) q104a q104b q104c (g := (mkF m 45 #[vR (a1), sU] [(.ref a1)])) rfl (by rw [hml]; rfl) (Steps.refl _) (argsL := []) (rest := []) (lenOf own_pd3 rfl) rfl (by show 2 * 0 + _ ≤ _; exact Nat.le_of_eq rfl) (hb hby q5j) (fun _ _ => ⟨rfl, eh103, (by decide : 0 + 1 ≤ _), (by decide : 0 + 2 ≤ _)⟩)
  dsimp only [Pt.U, Pt.locs, Pt.cells, Pt.slots] at X104 l104 y104 z104 st104 hQ104
  subst l104 y104 z104
  obtain ⟨b_104, kb_104, rfl, N104q, K104, lt104_0, P104_0, P104_1⟩ := hQ104
  have N104 := Fr.app N103 N104q
  have ne105 : a1 ≠ b_104 := Nat.ne_of_lt (Nat.lt_of_lt_of_le f0.lt lt104_0)
  have ne106 : b1 ≠ b_104 := Nat.ne_of_lt (Nat.lt_of_lt_of_le f3.lt lt104_0)
  have ne107 : x1 ≠ b_104 := Nat.ne_of_lt (Nat.lt_of_lt_of_le f5.lt lt104_0)
  have ne108 : x2 ≠ b_104 := Nat.ne_of_lt (Nat.lt_of_lt_of_le f7.lt lt104_0)
  have ge109 : n0 ≤ b_104 := Nat.le_trans Z0 lt104_0
  have sz110 : h0.size ≤ b_104 := Nat.le_trans K0.1 lt104_0
  have KK104 := K0.trans K104 all0
  have Z104 : n0 ≤ T104.heap.size := Nat.le_trans Z0 K104.1
  have F111 := f0.keep K104
  have F112 := f1.keep K104 nin0
  have F113 := f2.keep K104 nin0
  have F114 := f3.keep K104
  have F115 := f4.keep K104 nin0
  have F116 := f5.keep K104
  have F117 := f6.keep K104 nin0
  have F118 := f7.keep K104
  have F119 := f8.keep K104 nin0
  refine gs m T104 50 #[vR (a1), sU] [(.ref b_104)] (fun _ k => st104.trans k) ?_
  obtain ⟨_, _, ⟨T120, L120, k120, n120⟩, -, X120, ⟨Lc120, hQ120, l120, y120, z120⟩, st120⟩ := Jvm.LawKit.callS X104 hx (y := (⟨"java/util/List", "of", "([Ljava/lang/Object;)Ljava/util/List;"⟩ : MethodName)) hown (mvT hZ (hwi hw 216 rfl)) (mvT hZ (hwi hw 217 rfl)) (mvT hZ (hwi hw 64 rfl)) (mvT hZ (hwi hw 218 rfl)) (by decide) (backOf (W := 0) (Q := fun v h L => ∃ lst : Addr, (v = some (.ref lst)) ∧ (Fr n0 L) ∧ (Keep T104.heap h []) ∧ (T104.heap.size ≤ lst) ∧ (Exa Z h lst "java/util/ImmutableCollections$List12") ∧ (Fld Z h lst "java/util/ImmutableCollections$List12" "e0" "Ljava/lang/Object;" (.ref x1)) ∧ (Fld Z h lst "java/util/ImmutableCollections$List12" "e1" "Ljava/lang/Object;" (.ref x2))) (own_ofa2 l Z a0 hw [] b_104 kb_104 x1 x2 s1 s2 T104.heap n0 Z104 P104_0 P104_1 F116 F117 F118 F119) hZ (hwi hw 218 rfl) (hwi hw 64 rfl) (by decide) (by decide)) (g := (mkF m 50 #[vR (a1), sU] [(.ref b_104)])) rfl (by rw [hml]; rfl) (argsL := [(.ref b_104)]) (rest := []) (lenOf own_pd10 rfl) rfl (by show 2 * 0 + _ ≤ _; exact Nat.le_of_eq rfl) (hb hby q5k) (fun _ _ => ⟨rfl, rfl, (by decide : 1 + 1 ≤ _), (by decide : 2 + 2 ≤ _)⟩)
  dsimp only [Pt.U, Pt.locs, Pt.cells, Pt.slots] at X120 l120 y120 z120 st120 hQ120
  subst l120 y120 z120
  obtain ⟨lst_120, rfl, N120q, K120, lt120_0, P120_0, P120_1, P120_2⟩ := hQ120
  have N120 := Fr.app N104 N120q
  have ne121 : a1 ≠ lst_120 := Nat.ne_of_lt (Nat.lt_of_lt_of_le F111.lt lt120_0)
  have ne122 : b1 ≠ lst_120 := Nat.ne_of_lt (Nat.lt_of_lt_of_le F114.lt lt120_0)
  have ne123 : x1 ≠ lst_120 := Nat.ne_of_lt (Nat.lt_of_lt_of_le F116.lt lt120_0)
  have ne124 : x2 ≠ lst_120 := Nat.ne_of_lt (Nat.lt_of_lt_of_le F118.lt lt120_0)
  have ne125 : b_104 ≠ lst_120 := Nat.ne_of_lt (Nat.lt_of_lt_of_le P104_0.lt lt120_0)
  have ge126 : n0 ≤ lst_120 := Nat.le_trans Z104 lt120_0
  have sz127 : h0.size ≤ lst_120 := Nat.le_trans KK104.1 lt120_0
  have KK120 := KK104.trans K120 all0
  have Z120 : n0 ≤ T120.heap.size := Nat.le_trans Z104 K120.1
  have F128 := F111.keep K120
  have F129 := F112.keep K120 nin0
  have F130 := F113.keep K120 nin0
  have F131 := F114.keep K120
  have F132 := F115.keep K120 nin0
  have F133 := F116.keep K120
  have F134 := F117.keep K120 nin0
  have F135 := F118.keep K120
  have F136 := F119.keep K120 nin0
  have F137 := P104_0.keep K120
  have F138 := P104_1.keep K120 nin0
  refine gs m T120 53 #[vR (a1), sU] [(.ref lst_120)] (st120) ?_
  exact Go.retA X120 hx (t := (.object "java/util/List")) hret rfl hlk rfl (hb hby q5l) (⟨lst_120, rfl, N120, KK120, sz127, P120_0, P120_1, P120_2⟩) (by decide) (by decide)
theorem own_cof2 (l : Launch) (Z : State) (a0 : Array Value) (hw : ∀ d ∈ tables_1, d.before a0 Z = true) (ws : List Jvm.Cond) (a1 : Addr) (b1 : Addr) (k1 : ClassId) (x1 : Addr) (x2 : Addr) (s1 : Int64) (s2 : Int64) (h0 : Heap) (n0 : Nat) (Z0 : n0 ≤ h0.size) (f0 : Exa Z h0 a1 "java/util/ArrayList") (f1 : Fld Z h0 a1 "java/util/ArrayList" "elementData" "[Ljava/lang/Object;" (.ref b1)) (f2 : Fld Z h0 a1 "java/util/ArrayList" "size" "I" (.int (2 : Int32))) (f3 : Exa Z h0 b1 "[Ljava/lang/Object;") (f4 : Arv Z h0 b1 k1 (.object "java/lang/Object") (10 : Int32) [(.ref x1), (.ref x2), .null, .null, .null, .null, .null, .null, .null, .null] .null) (f5 : Exa Z h0 x1 "java/time/Duration") (f6 : Fld Z h0 x1 "java/time/Duration" "seconds" "J" (.long s1)) (f7 : Exa Z h0 x2 "java/time/Duration") (f8 : Fld Z h0 x2 "java/time/Duration" "seconds" "J" (.long s2)) (ov1 : Ovr Z k1 "java/lang/Object") (MM : MirrorMade Z "[Ljava/lang/Object;") :
    Con l Z (⟨"java/util/List", "copyOf", "(Ljava/util/Collection;)Ljava/util/List;"⟩ : MethodName) jdk_40_method_48_code 1 (some (.object "java/util/List")) ({ frames := 7, cells := 2, slots := 4, locals := 102 } : Room) ws #[(.ref a1)] h0 (fun v h L => ∃ lst : Addr, (v = some (.ref lst)) ∧ (Fr n0 L) ∧ (Keep h0 h []) ∧ (h0.size ≤ lst) ∧ (Exa Z h lst "java/util/ImmutableCollections$List12") ∧ (Fld Z h lst "java/util/ImmutableCollections$List12" "e0" "Ljava/lang/Object;" (.ref x1)) ∧ (Fld Z h lst "java/util/ImmutableCollections$List12" "e1" "Ljava/lang/Object;" (.ref x2))) 2 4 := by
  refine Con.of (plainFor_of_name own_pn_List) ?_
  intro pgm e s m below meth c s₁ X0 hx hZ hby hml hown hnm hret hlk e0 hs0
  have N0 := Fr.nil n0
  have hown : s.vm.findClass "java/util/List" = some m.cls := hown
  have hnm : meth.name = "copyOf" := hnm
  refine Go.cast (own_ef_jdk_40_method_48_code_R m a1) ?_
  have K0 := Keep.refl h0 []
  refine gs m s₁ 1 #[vR (a1)] [(.ref a1)] (fun _ k => XS.aloadN X0.here hx rfl (hb hby q5f) rfl rfl k) ?_
  obtain ⟨_, _, ⟨T101, L101, k101, n101⟩, -, X101, ⟨Lc101, hQ101, l101, y101, z101⟩, st101⟩ := Jvm.LawKit.callS X0 hx (y := (⟨"java/util/ImmutableCollections", "listCopy", "(Ljava/util/Collection;)Ljava/util/List;"⟩ : MethodName)) hown (mvT hZ (hwi hw 66 rfl)) (mvT hZ (hwi hw 67 rfl)) (mvT hZ (hwi hw 68 rfl)) (mvT hZ (hwi hw 69 rfl)) (by decide) (backOf (W := 0) (Q := fun v h L => ∃ lst : Addr, (v = some (.ref lst)) ∧ (Fr n0 L) ∧ (Keep h0 h []) ∧ (h0.size ≤ lst) ∧ (Exa Z h lst "java/util/ImmutableCollections$List12") ∧ (Fld Z h lst "java/util/ImmutableCollections$List12" "e0" "Ljava/lang/Object;" (.ref x1)) ∧ (Fld Z h lst "java/util/ImmutableCollections$List12" "e1" "Ljava/lang/Object;" (.ref x2))) (own_lcp2 l Z a0 hw [] a1 b1 k1 x1 x2 s1 s2 h0 n0 Z0 f0 f1 f2 f3 f4 f5 f6 f7 f8 ov1 MM) hZ (hwi hw 69 rfl) (hwi hw 68 rfl) (by decide) (by decide)) (g := (mkF m 1 #[vR (a1)] [(.ref a1)])) rfl (by rw [hml]; rfl) (argsL := [(.ref a1)]) (rest := []) (lenOf own_pd13 rfl) rfl (by show 2 * 0 + _ ≤ _; exact Nat.le_of_eq rfl) (hb hby q5g) (fun _ _ => ⟨rfl, e0, (by decide : 0 + 2 ≤ _), (by decide : 0 + 4 ≤ _)⟩)
  dsimp only [Pt.U, Pt.locs, Pt.cells, Pt.slots] at X101 l101 y101 z101 st101 hQ101
  subst l101 y101 z101
  obtain ⟨lst_101, rfl, N101q, K101, lt101_0, P101_0, P101_1, P101_2⟩ := hQ101
  have N101 := Fr.app N0 N101q
  have ne102 : a1 ≠ lst_101 := Nat.ne_of_lt (Nat.lt_of_lt_of_le f0.lt lt101_0)
  have ne103 : b1 ≠ lst_101 := Nat.ne_of_lt (Nat.lt_of_lt_of_le f3.lt lt101_0)
  have ne104 : x1 ≠ lst_101 := Nat.ne_of_lt (Nat.lt_of_lt_of_le f5.lt lt101_0)
  have ne105 : x2 ≠ lst_101 := Nat.ne_of_lt (Nat.lt_of_lt_of_le f7.lt lt101_0)
  have ge106 : n0 ≤ lst_101 := Nat.le_trans Z0 lt101_0
  have sz107 : h0.size ≤ lst_101 := Nat.le_trans K0.1 lt101_0
  have KK101 := K0.trans K101 all0
  have Z101 : n0 ≤ T101.heap.size := Nat.le_trans Z0 K101.1
  have F108 := f0.keep K101
  have F109 := f1.keep K101 nin0
  have F110 := f2.keep K101 nin0
  have F111 := f3.keep K101
  have F112 := f4.keep K101 nin0
  have F113 := f5.keep K101
  have F114 := f6.keep K101 nin0
  have F115 := f7.keep K101
  have F116 := f8.keep K101 nin0
  refine gs m T101 4 #[vR (a1)] [(.ref lst_101)] (st101) ?_
  exact Go.retA X101 hx (t := (.object "java/util/List")) hret rfl hlk rfl (hb hby q5h) (⟨lst_101, rfl, N101, KK101, sz107, P101_0, P101_1, P101_2⟩) (by decide) (by decide)
theorem own_lcp3 (l : Launch) (Z : State) (a0 : Array Value) (hw : ∀ d ∈ tables_1, d.before a0 Z = true) (ws : List Jvm.Cond) (a1 : Addr) (b1 : Addr) (k1 : ClassId) (x1 : Addr) (x2 : Addr) (x3 : Addr) (s1 : Int64) (s2 : Int64) (s3 : Int64) (h0 : Heap) (n0 : Nat) (Z0 : n0 ≤ h0.size) (f0 : Exa Z h0 a1 "java/util/ArrayList") (f1 : Fld Z h0 a1 "java/util/ArrayList" "elementData" "[Ljava/lang/Object;" (.ref b1)) (f2 : Fld Z h0 a1 "java/util/ArrayList" "size" "I" (.int (3 : Int32))) (f3 : Exa Z h0 b1 "[Ljava/lang/Object;") (f4 : Arv Z h0 b1 k1 (.object "java/lang/Object") (10 : Int32) [(.ref x1), (.ref x2), (.ref x3), .null, .null, .null, .null, .null, .null, .null] .null) (f5 : Exa Z h0 x1 "java/time/Duration") (f6 : Fld Z h0 x1 "java/time/Duration" "seconds" "J" (.long s1)) (f7 : Exa Z h0 x2 "java/time/Duration") (f8 : Fld Z h0 x2 "java/time/Duration" "seconds" "J" (.long s2)) (f9 : Exa Z h0 x3 "java/time/Duration") (f10 : Fld Z h0 x3 "java/time/Duration" "seconds" "J" (.long s3)) (ov1 : Ovr Z k1 "java/lang/Object") (MM : MirrorMade Z "[Ljava/lang/Object;") :
    Con l Z (⟨"java/util/ImmutableCollections", "listCopy", "(Ljava/util/Collection;)Ljava/util/List;"⟩ : MethodName) jdk_56_method_3_code 2 (some (.object "java/util/List")) ({ frames := 7, cells := 3, slots := 8, locals := 90 } : Room) ws #[(.ref a1)] h0 (fun v h L => ∃ lst : Addr, ∃ b2 : Addr, ∃ k2 : ClassId, (v = some (.ref lst)) ∧ (Fr n0 L) ∧ (Keep h0 h []) ∧ (h0.size ≤ lst) ∧ (h0.size ≤ b2) ∧ (Exa Z h lst "java/util/ImmutableCollections$ListN") ∧ (Fld Z h lst "java/util/ImmutableCollections$ListN" "elements" "[Ljava/lang/Object;" (.ref b2)) ∧ (Arv Z h b2 k2 (.object "java/lang/Object") (3 : Int32) [(.ref x1), (.ref x2), (.ref x3)] .null)) 3 8 := by
  refine Con.of (plainFor_of_name own_pn_ImmutableCollections) ?_
  intro pgm e s m below meth c s₁ X0 hx hZ hby hml hown hnm hret hlk e0 hs0
  have N0 := Fr.nil n0
  have hown : s.vm.findClass "java/util/ImmutableCollections" = some m.cls := hown
  have hnm : meth.name = "listCopy" := hnm
  refine Go.cast (own_ef_jdk_56_method_3_code_R m a1) ?_
  have K0 := Keep.refl h0 []
  refine gs m s₁ 1 #[vR (a1), sU] [(.ref a1)] (fun _ k => XS.aloadN X0.here hx rfl (hb hby q54) rfl rfl k) ?_
  obtain ⟨T101, X101, e101, st101⟩ := instNo X0 hx hZ hown (hwi hw 70 rfl) e0 f0 (own_noas f0 (t := ["java/util/AbstractList", "java/util/AbstractCollection", "java/lang/Object"]) (fun w hm => by simp only [Cond.chainWords, List.mem_cons, List.not_mem_nil, or_false] at hm; rcases hm with rfl | rfl | rfl | rfl <;> first | exact (hwi hw 71 rfl) | exact (hwi hw 72 rfl) | exact (hwi hw 73 rfl) | exact (hwi hw 74 rfl)) (hwi hw 270 rfl) (by decide)) (g := (mkF m 1 #[vR (a1), sU] [(.ref a1)])) rfl rfl (hb hby q55)
  refine gs m T101 4 #[vR (a1), sU] [(.int (0 : Int32))] st101 ?_
  refine gs m T101 7 #[vR (a1), sU] [] (fun _ k => XS.ifNo X101.here hx rfl (hb hby q56) rfl ((if0 _ _).trans (teq (by decide : (0 : Int32) = (0 : Int32))).2) k) ?_
  refine gs m T101 8 #[vR (a1), sU] [(.ref a1)] (fun _ k => XS.aloadN X101.here hx rfl (hb hby q57) rfl rfl k) ?_
  obtain ⟨T102, X102, e102, st102⟩ := instNo X101 hx hZ hown (hwi hw 75 rfl) e101 f0 (own_noas f0 (t := ["java/util/AbstractList", "java/util/AbstractCollection", "java/lang/Object"]) (fun w hm => by simp only [Cond.chainWords, List.mem_cons, List.not_mem_nil, or_false] at hm; rcases hm with rfl | rfl | rfl | rfl <;> first | exact (hwi hw 71 rfl) | exact (hwi hw 72 rfl) | exact (hwi hw 73 rfl) | exact (hwi hw 74 rfl)) (hwi hw 227 rfl) (by decide)) (g := (mkF m 8 #[vR (a1), sU] [(.ref a1)])) rfl rfl (hb hby q58)
  refine gs m T102 11 #[vR (a1), sU] [(.int (0 : Int32))] st102 ?_
  refine gs m T102 31 #[vR (a1), sU] [] (fun _ k => XS.ifYes X102.here hx rfl (pc0 := 11) (pc' := 31) rfl (hb hby q59) rfl ((if0 _ _).trans (teq (by decide : (0 : Int32) = (0 : Int32))).1) (by decide) (by decide) k) ?_
  refine gs m T102 32 #[vR (a1), sU] [(.ref a1)] (fun _ k => XS.aloadN X102.here hx rfl (hb hby q5a) rfl rfl k) ?_
  obtain ⟨cq103, kq103, q103a, q103b, q103c⟩ := isOf hZ e102 f0
  obtain ⟨_, _, ⟨T103, L103, k103, n103⟩, -, X103, ⟨Lc103, hQ103, l103, y103, z103⟩, st103⟩ := X102.interfaceBack hx (xi := (⟨"java/util/Collection", "isEmpty", "()Z"⟩ : MethodName)) (y := (⟨"java/util/ArrayList", "isEmpty", "()Z"⟩ : MethodName)) hown (mvT hZ (hwi hw 76 rfl)) (mvT hZ (hwi hw 77 rfl)) (mvT hZ (hwi hw 78 rfl)) (mvT hZ (hwi hw 79 rfl)) (mvT hZ (hwi hw 80 rfl)) (mvT hZ (hwi hw 81 rfl)) (mvT hZ (hwi hw 82 rfl)) (mvT hZ (hwi hw 83 rfl)) (by decide) (backOf (W := 0) (Q := Qret (some (.int (0 : Int32))) h0 n0) (own_ise3 l Z a0 hw [] a1 h0 n0 Z0 f2) hZ (hwi hw 84 rfl) (hwi hw 28 rfl) (by decide) (by decide)) q103a q103b q103c (g := (mkF m 32 #[vR (a1), sU] [(.ref a1)])) rfl (by rw [hml]; rfl) (Steps.refl _) (argsL := []) (rest := []) (lenOf own_pd11 rfl) rfl (by show 2 * 0 + _ ≤ _; exact Nat.le_of_eq rfl) (hb hby q5b) (fun _ _ => ⟨rfl, e102, (by decide : 0 + 0 ≤ _), (by decide : 0 + 0 ≤ _)⟩)
  dsimp only [Pt.U, Pt.locs, Pt.cells, Pt.slots] at X103 l103 y103 z103 st103 hQ103
  subst l103 y103 z103
  obtain ⟨rfl, N103q, eh103⟩ := hQ103
  have N103 := Fr.app N0 N103q
  refine gs m T103 37 #[vR (a1), sU] [(.int (0 : Int32))] (fun _ k => st103.trans k) ?_
  refine gs m T103 44 #[vR (a1), sU] [] (fun _ k => XS.ifYes X103.here hx rfl (pc0 := 37) (pc' := 44) rfl (hb hby q5c) rfl ((if0 _ _).trans (teq (by decide : (0 : Int32) = (0 : Int32))).1) (by decide) (by decide) k) ?_
  refine gs m T103 45 #[vR (a1), sU] [(.ref a1)] (fun _ k => XS.aloadN X103.here hx rfl (hb hby q5i) rfl rfl k) ?_
  obtain ⟨cq104, kq104, q104a, q104b, q104c⟩ := isOf hZ eh103 f0
  obtain ⟨_, _, ⟨T104, L104, k104, n104⟩, -, X104, ⟨Lc104, hQ104, l104, y104, z104⟩, st104⟩ := X103.interfaceBack hx (xi := (⟨"java/util/Collection", "toArray", "()[Ljava/lang/Object;"⟩ : MethodName)) (y := (⟨"java/util/ArrayList", "toArray", "()[Ljava/lang/Object;"⟩ : MethodName)) hown (mvT hZ (hwi hw 186 rfl)) (mvT hZ (hwi hw 187 rfl)) (mvT hZ (hwi hw 188 rfl)) (mvT hZ (hwi hw 189 rfl)) (mvT hZ (hwi hw 190 rfl)) (mvT hZ (hwi hw 191 rfl)) (mvT hZ (hwi hw 192 rfl)) (mvT hZ (hwi hw 83 rfl)) (by decide) (backOf (W := 0) (Q := fun v h L => ∃ b : Addr, ∃ kb : ClassId, (v = some (.ref b)) ∧ (Fr n0 L) ∧ (Keep h0 h []) ∧ (h0.size ≤ b) ∧ (Exa Z h b "[Ljava/lang/Object;") ∧ (Arv Z h b kb (.object "java/lang/Object") (3 : Int32) [(.ref x1), (.ref x2), (.ref x3)] .null)) (own_toa3 l Z a0 hw [] a1 b1 k1 x1 x2 x3 s1 s2 s3 h0 n0 Z0 f0 f1 f2 f3 f4 f5 f6 f7 f8 f9 f10 ov1 MM) hZ (hwi hw 193 rfl) (hwi hw 28 rfl) (by decide) (by decide)) q104a q104b q104c (g := (mkF m 45 #[vR (a1), sU] [(.ref a1)])) rfl (by rw [hml]; rfl) (Steps.refl _) (argsL := []) (rest := []) (lenOf own_pd3 rfl) rfl (by show 2 * 0 + _ ≤ _; exact Nat.le_of_eq rfl) (hb hby q5j) (fun _ _ => ⟨rfl, eh103, (by decide : 0 + 1 ≤ _), (by decide : 0 + 3 ≤ _)⟩)
  dsimp only [Pt.U, Pt.locs, Pt.cells, Pt.slots] at X104 l104 y104 z104 st104 hQ104
  subst l104 y104 z104
  obtain ⟨b_104, kb_104, rfl, N104q, K104, lt104_0, P104_0, P104_1⟩ := hQ104
  have N104 := Fr.app N103 N104q
  have ne105 : a1 ≠ b_104 := Nat.ne_of_lt (Nat.lt_of_lt_of_le f0.lt lt104_0)
  have ne106 : b1 ≠ b_104 := Nat.ne_of_lt (Nat.lt_of_lt_of_le f3.lt lt104_0)
  have ne107 : x1 ≠ b_104 := Nat.ne_of_lt (Nat.lt_of_lt_of_le f5.lt lt104_0)
  have ne108 : x2 ≠ b_104 := Nat.ne_of_lt (Nat.lt_of_lt_of_le f7.lt lt104_0)
  have ne109 : x3 ≠ b_104 := Nat.ne_of_lt (Nat.lt_of_lt_of_le f9.lt lt104_0)
  have ge110 : n0 ≤ b_104 := Nat.le_trans Z0 lt104_0
  have sz111 : h0.size ≤ b_104 := Nat.le_trans K0.1 lt104_0
  have KK104 := K0.trans K104 all0
  have Z104 : n0 ≤ T104.heap.size := Nat.le_trans Z0 K104.1
  have F112 := f0.keep K104
  have F113 := f1.keep K104 nin0
  have F114 := f2.keep K104 nin0
  have F115 := f3.keep K104
  have F116 := f4.keep K104 nin0
  have F117 := f5.keep K104
  have F118 := f6.keep K104 nin0
  have F119 := f7.keep K104
  have F120 := f8.keep K104 nin0
  have F121 := f9.keep K104
  have F122 := f10.keep K104 nin0
  refine gs m T104 50 #[vR (a1), sU] [(.ref b_104)] (fun _ k => st104.trans k) ?_
  obtain ⟨_, _, ⟨T123, L123, k123, n123⟩, -, X123, ⟨Lc123, hQ123, l123, y123, z123⟩, st123⟩ := Jvm.LawKit.callS X104 hx (y := (⟨"java/util/List", "of", "([Ljava/lang/Object;)Ljava/util/List;"⟩ : MethodName)) hown (mvT hZ (hwi hw 216 rfl)) (mvT hZ (hwi hw 217 rfl)) (mvT hZ (hwi hw 64 rfl)) (mvT hZ (hwi hw 218 rfl)) (by decide) (backOf (W := 0) (Q := fun v h L => ∃ lst : Addr, ∃ b2 : Addr, ∃ k2 : ClassId, (v = some (.ref lst)) ∧ (Fr n0 L) ∧ (Keep T104.heap h []) ∧ (T104.heap.size ≤ lst) ∧ (T104.heap.size ≤ b2) ∧ (Exa Z h lst "java/util/ImmutableCollections$ListN") ∧ (Fld Z h lst "java/util/ImmutableCollections$ListN" "elements" "[Ljava/lang/Object;" (.ref b2)) ∧ (Arv Z h b2 k2 (.object "java/lang/Object") (3 : Int32) [(.ref x1), (.ref x2), (.ref x3)] .null)) (own_ofa3 l Z a0 hw [] b_104 kb_104 x1 x2 x3 s1 s2 s3 T104.heap n0 Z104 P104_0 P104_1 F117 F118 F119 F120 F121 F122) hZ (hwi hw 218 rfl) (hwi hw 64 rfl) (by decide) (by decide)) (g := (mkF m 50 #[vR (a1), sU] [(.ref b_104)])) rfl (by rw [hml]; rfl) (argsL := [(.ref b_104)]) (rest := []) (lenOf own_pd10 rfl) rfl (by show 2 * 0 + _ ≤ _; exact Nat.le_of_eq rfl) (hb hby q5k) (fun _ _ => ⟨rfl, rfl, (by decide : 1 + 2 ≤ _), (by decide : 3 + 5 ≤ _)⟩)
  dsimp only [Pt.U, Pt.locs, Pt.cells, Pt.slots] at X123 l123 y123 z123 st123 hQ123
  subst l123 y123 z123
  obtain ⟨lst_123, b2_123, k2_123, rfl, N123q, K123, lt123_0, lt123_1, P123_0, P123_1, P123_2⟩ := hQ123
  have N123 := Fr.app N104 N123q
  have ne124 : a1 ≠ lst_123 := Nat.ne_of_lt (Nat.lt_of_lt_of_le F112.lt lt123_0)
  have ne125 : b1 ≠ lst_123 := Nat.ne_of_lt (Nat.lt_of_lt_of_le F115.lt lt123_0)
  have ne126 : x1 ≠ lst_123 := Nat.ne_of_lt (Nat.lt_of_lt_of_le F117.lt lt123_0)
  have ne127 : x2 ≠ lst_123 := Nat.ne_of_lt (Nat.lt_of_lt_of_le F119.lt lt123_0)
  have ne128 : x3 ≠ lst_123 := Nat.ne_of_lt (Nat.lt_of_lt_of_le F121.lt lt123_0)
  have ne129 : b_104 ≠ lst_123 := Nat.ne_of_lt (Nat.lt_of_lt_of_le P104_0.lt lt123_0)
  have ge130 : n0 ≤ lst_123 := Nat.le_trans Z104 lt123_0
  have sz131 : h0.size ≤ lst_123 := Nat.le_trans KK104.1 lt123_0
  have ne132 : a1 ≠ b2_123 := Nat.ne_of_lt (Nat.lt_of_lt_of_le F112.lt lt123_1)
  have ne133 : b1 ≠ b2_123 := Nat.ne_of_lt (Nat.lt_of_lt_of_le F115.lt lt123_1)
  have ne134 : x1 ≠ b2_123 := Nat.ne_of_lt (Nat.lt_of_lt_of_le F117.lt lt123_1)
  have ne135 : x2 ≠ b2_123 := Nat.ne_of_lt (Nat.lt_of_lt_of_le F119.lt lt123_1)
  have ne136 : x3 ≠ b2_123 := Nat.ne_of_lt (Nat.lt_of_lt_of_le F121.lt lt123_1)
  have ne137 : b_104 ≠ b2_123 := Nat.ne_of_lt (Nat.lt_of_lt_of_le P104_0.lt lt123_1)
  have ge138 : n0 ≤ b2_123 := Nat.le_trans Z104 lt123_1
  have sz139 : h0.size ≤ b2_123 := Nat.le_trans KK104.1 lt123_1
  have KK123 := KK104.trans K123 all0
  have Z123 : n0 ≤ T123.heap.size := Nat.le_trans Z104 K123.1
  have F140 := F112.keep K123
  have F141 := F113.keep K123 nin0
  have F142 := F114.keep K123 nin0
  have F143 := F115.keep K123
  have F144 := F116.keep K123 nin0
  have F145 := F117.keep K123
  have F146 := F118.keep K123 nin0
  have F147 := F119.keep K123
  have F148 := F120.keep K123 nin0
  have F149 := F121.keep K123
  have F150 := F122.keep K123 nin0
  have F151 := P104_0.keep K123
  have F152 := P104_1.keep K123 nin0
  refine gs m T123 53 #[vR (a1), sU] [(.ref lst_123)] (st123) ?_
  exact Go.retA X123 hx (t := (.object "java/util/List")) hret rfl hlk rfl (hb hby q5l) (⟨lst_123, b2_123, k2_123, rfl, N123, KK123, sz131, sz139, P123_0, P123_1, P123_2⟩) (by decide) (by decide)
theorem own_cof3 (l : Launch) (Z : State) (a0 : Array Value) (hw : ∀ d ∈ tables_1, d.before a0 Z = true) (ws : List Jvm.Cond) (a1 : Addr) (b1 : Addr) (k1 : ClassId) (x1 : Addr) (x2 : Addr) (x3 : Addr) (s1 : Int64) (s2 : Int64) (s3 : Int64) (h0 : Heap) (n0 : Nat) (Z0 : n0 ≤ h0.size) (f0 : Exa Z h0 a1 "java/util/ArrayList") (f1 : Fld Z h0 a1 "java/util/ArrayList" "elementData" "[Ljava/lang/Object;" (.ref b1)) (f2 : Fld Z h0 a1 "java/util/ArrayList" "size" "I" (.int (3 : Int32))) (f3 : Exa Z h0 b1 "[Ljava/lang/Object;") (f4 : Arv Z h0 b1 k1 (.object "java/lang/Object") (10 : Int32) [(.ref x1), (.ref x2), (.ref x3), .null, .null, .null, .null, .null, .null, .null] .null) (f5 : Exa Z h0 x1 "java/time/Duration") (f6 : Fld Z h0 x1 "java/time/Duration" "seconds" "J" (.long s1)) (f7 : Exa Z h0 x2 "java/time/Duration") (f8 : Fld Z h0 x2 "java/time/Duration" "seconds" "J" (.long s2)) (f9 : Exa Z h0 x3 "java/time/Duration") (f10 : Fld Z h0 x3 "java/time/Duration" "seconds" "J" (.long s3)) (ov1 : Ovr Z k1 "java/lang/Object") (MM : MirrorMade Z "[Ljava/lang/Object;") :
    Con l Z (⟨"java/util/List", "copyOf", "(Ljava/util/Collection;)Ljava/util/List;"⟩ : MethodName) jdk_40_method_48_code 1 (some (.object "java/util/List")) ({ frames := 8, cells := 3, slots := 8, locals := 103 } : Room) ws #[(.ref a1)] h0 (fun v h L => ∃ lst : Addr, ∃ b2 : Addr, ∃ k2 : ClassId, (v = some (.ref lst)) ∧ (Fr n0 L) ∧ (Keep h0 h []) ∧ (h0.size ≤ lst) ∧ (h0.size ≤ b2) ∧ (Exa Z h lst "java/util/ImmutableCollections$ListN") ∧ (Fld Z h lst "java/util/ImmutableCollections$ListN" "elements" "[Ljava/lang/Object;" (.ref b2)) ∧ (Arv Z h b2 k2 (.object "java/lang/Object") (3 : Int32) [(.ref x1), (.ref x2), (.ref x3)] .null)) 3 8 := by
  refine Con.of (plainFor_of_name own_pn_List) ?_
  intro pgm e s m below meth c s₁ X0 hx hZ hby hml hown hnm hret hlk e0 hs0
  have N0 := Fr.nil n0
  have hown : s.vm.findClass "java/util/List" = some m.cls := hown
  have hnm : meth.name = "copyOf" := hnm
  refine Go.cast (own_ef_jdk_40_method_48_code_R m a1) ?_
  have K0 := Keep.refl h0 []
  refine gs m s₁ 1 #[vR (a1)] [(.ref a1)] (fun _ k => XS.aloadN X0.here hx rfl (hb hby q5f) rfl rfl k) ?_
  obtain ⟨_, _, ⟨T101, L101, k101, n101⟩, -, X101, ⟨Lc101, hQ101, l101, y101, z101⟩, st101⟩ := Jvm.LawKit.callS X0 hx (y := (⟨"java/util/ImmutableCollections", "listCopy", "(Ljava/util/Collection;)Ljava/util/List;"⟩ : MethodName)) hown (mvT hZ (hwi hw 66 rfl)) (mvT hZ (hwi hw 67 rfl)) (mvT hZ (hwi hw 68 rfl)) (mvT hZ (hwi hw 69 rfl)) (by decide) (backOf (W := 0) (Q := fun v h L => ∃ lst : Addr, ∃ b2 : Addr, ∃ k2 : ClassId, (v = some (.ref lst)) ∧ (Fr n0 L) ∧ (Keep h0 h []) ∧ (h0.size ≤ lst) ∧ (h0.size ≤ b2) ∧ (Exa Z h lst "java/util/ImmutableCollections$ListN") ∧ (Fld Z h lst "java/util/ImmutableCollections$ListN" "elements" "[Ljava/lang/Object;" (.ref b2)) ∧ (Arv Z h b2 k2 (.object "java/lang/Object") (3 : Int32) [(.ref x1), (.ref x2), (.ref x3)] .null)) (own_lcp3 l Z a0 hw [] a1 b1 k1 x1 x2 x3 s1 s2 s3 h0 n0 Z0 f0 f1 f2 f3 f4 f5 f6 f7 f8 f9 f10 ov1 MM) hZ (hwi hw 69 rfl) (hwi hw 68 rfl) (by decide) (by decide)) (g := (mkF m 1 #[vR (a1)] [(.ref a1)])) rfl (by rw [hml]; rfl) (argsL := [(.ref a1)]) (rest := []) (lenOf own_pd13 rfl) rfl (by show 2 * 0 + _ ≤ _; exact Nat.le_of_eq rfl) (hb hby q5g) (fun _ _ => ⟨rfl, e0, (by decide : 0 + 3 ≤ _), (by decide : 0 + 8 ≤ _)⟩)
  dsimp only [Pt.U, Pt.locs, Pt.cells, Pt.slots] at X101 l101 y101 z101 st101 hQ101
  subst l101 y101 z101
  obtain ⟨lst_101, b2_101, k2_101, rfl, N101q, K101, lt101_0, lt101_1, P101_0, P101_1, P101_2⟩ := hQ101
  have N101 := Fr.app N0 N101q
  have ne102 : a1 ≠ lst_101 := Nat.ne_of_lt (Nat.lt_of_lt_of_le f0.lt lt101_0)
  have ne103 : b1 ≠ lst_101 := Nat.ne_of_lt (Nat.lt_of_lt_of_le f3.lt lt101_0)
  have ne104 : x1 ≠ lst_101 := Nat.ne_of_lt (Nat.lt_of_lt_of_le f5.lt lt101_0)
  have ne105 : x2 ≠ lst_101 := Nat.ne_of_lt (Nat.lt_of_lt_of_le f7.lt lt101_0)
  have ne106 : x3 ≠ lst_101 := Nat.ne_of_lt (Nat.lt_of_lt_of_le f9.lt lt101_0)
  have ge107 : n0 ≤ lst_101 := Nat.le_trans Z0 lt101_0
  have sz108 : h0.size ≤ lst_101 := Nat.le_trans K0.1 lt101_0
  have ne109 : a1 ≠ b2_101 := Nat.ne_of_lt (Nat.lt_of_lt_of_le f0.lt lt101_1)
  have ne110 : b1 ≠ b2_101 := Nat.ne_of_lt (Nat.lt_of_lt_of_le f3.lt lt101_1)
  have ne111 : x1 ≠ b2_101 := Nat.ne_of_lt (Nat.lt_of_lt_of_le f5.lt lt101_1)
  have ne112 : x2 ≠ b2_101 := Nat.ne_of_lt (Nat.lt_of_lt_of_le f7.lt lt101_1)
  have ne113 : x3 ≠ b2_101 := Nat.ne_of_lt (Nat.lt_of_lt_of_le f9.lt lt101_1)
  have ge114 : n0 ≤ b2_101 := Nat.le_trans Z0 lt101_1
  have sz115 : h0.size ≤ b2_101 := Nat.le_trans K0.1 lt101_1
  have KK101 := K0.trans K101 all0
  have Z101 : n0 ≤ T101.heap.size := Nat.le_trans Z0 K101.1
  have F116 := f0.keep K101
  have F117 := f1.keep K101 nin0
  have F118 := f2.keep K101 nin0
  have F119 := f3.keep K101
  have F120 := f4.keep K101 nin0
  have F121 := f5.keep K101
  have F122 := f6.keep K101 nin0
  have F123 := f7.keep K101
  have F124 := f8.keep K101 nin0
  have F125 := f9.keep K101
  have F126 := f10.keep K101 nin0
  refine gs m T101 4 #[vR (a1)] [(.ref lst_101)] (st101) ?_
  exact Go.retA X101 hx (t := (.object "java/util/List")) hret rfl hlk rfl (hb hby q5h) (⟨lst_101, b2_101, k2_101, rfl, N101, KK101, sz108, sz115, P101_0, P101_1, P101_2⟩) (by decide) (by decide)
theorem own_ef_jdk_45_method_3_code_R (m : MethodId) (x0 : Addr) : entryFrame m #[(.ref x0)] 1 = mkF m 0 #[vR (x0)] [] := by first | (simp [entryFrame, mkF, argsToLocals, Value.category]; done) | rfl | (simp [entryFrame, mkF, argsToLocals, own_cI, own_cJ, own_cR, own_cN]; done)
theorem q5m : decode jdk_45_method_3_code 0 = .ok (.aload_n 0, 1) := by decide +kernel
theorem q5n : decode jdk_45_method_3_code 1 = .ok (.getfield 7, 3) := by decide +kernel
theorem q5o : decode jdk_45_method_3_code 4 = .ok (.arraylength, 1) := by decide +kernel
theorem q5p : decode jdk_45_method_3_code 5 = .ok (.ireturn, 1) := by decide +kernel
theorem own_siz0 (l : Launch) (Z : State) (a0 : Array Value) (hw : ∀ d ∈ tables_1, d.before a0 Z = true) (ws : List Jvm.Cond) (a1 : Addr) (b2 : Addr) (k2 : ClassId) (h0 : Heap) (n0 : Nat) (Z0 : n0 ≤ h0.size) (f0 : Exa Z h0 a1 "java/util/ImmutableCollections$ListN") (f1 : Fld Z h0 a1 "java/util/ImmutableCollections$ListN" "elements" "[Ljava/lang/Object;" (.ref b2)) (f2 : Arv Z h0 b2 k2 (.object "java/lang/Object") (0 : Int32) [] .null)  :
    Con l Z (⟨"java/util/ImmutableCollections$ListN", "size", "()I"⟩ : MethodName) jdk_45_method_3_code 1 (some .int) ({ frames := 0, cells := 0, slots := 0, locals := 0 } : Room) ws #[(.ref a1)] h0 (Qret (some (.int (0 : Int32))) h0 n0) 0 0 := by
  refine Con.of (plainFor_of_name own_pn_ImmutableCollections_ListN) ?_
  intro pgm e s m below meth c s₁ X0 hx hZ hby hml hown hnm hret hlk e0 hs0
  have N0 := Fr.nil n0
  have hown : s.vm.findClass "java/util/ImmutableCollections$ListN" = some m.cls := hown
  have hnm : meth.name = "size" := hnm
  refine Go.cast (own_ef_jdk_45_method_3_code_R m a1) ?_
  refine gs m s₁ 1 #[vR (a1)] [(.ref a1)] (fun _ k => XS.aloadN X0.here hx rfl (hb hby q5m) rfl rfl k) ?_
  obtain ⟨T101, X101, e101, st101⟩ := getF X0 hx hZ hown (host := "") (Or.inl (hwi hw 111 rfl)) Via.refl e0 f1 (g := (mkF m 1 #[vR (a1)] [(.ref a1)])) rfl rfl (hb hby q5n)
  refine gs m T101 4 #[vR (a1)] [(.ref b2)] st101 ?_
  obtain ⟨cl102, Ar102, -, S102, M102, -, -⟩ := id f2
  refine gs m T101 5 #[vR (a1)] [(.int (0 : Int32))] (fun _ k => X101.arraylength hx (cell := cl102) (by rw [e101]; exact Ar102.1) (State.isArrayOf_alike hZ.alike Ar102.2.1) (g := (mkF m 4 #[vR (a1)] [(.ref b2)])) rfl (rest := []) rfl (hb hby q5o) _ (by rw [len_of S102 M102]; exact k)) ?_
  exact Go.retI X101 hx hret hlk (hb hby q5p) (⟨rfl, N0, e101⟩) (by decide) (by decide)
theorem own_ef_jdk_44_method_3_code_R (m : MethodId) (x0 : Addr) : entryFrame m #[(.ref x0)] 1 = mkF m 0 #[vR (x0)] [] := by first | (simp [entryFrame, mkF, argsToLocals, Value.category]; done) | rfl | (simp [entryFrame, mkF, argsToLocals, own_cI, own_cJ, own_cR, own_cN]; done)
theorem q5q : decode jdk_44_method_3_code 0 = .ok (.aload_n 0, 1) := by decide +kernel
theorem q5r : decode jdk_44_method_3_code 1 = .ok (.getfield 24, 3) := by decide +kernel
theorem q5s : decode jdk_44_method_3_code 4 = .ok (.getstatic 19, 3) := by decide +kernel
theorem q5t : decode jdk_44_method_3_code 7 = .ok (.if_acmp .eq 7, 3) := by decide +kernel
theorem q5u : decode jdk_44_method_3_code 14 = .ok (.iconst 1, 1) := by decide +kernel
theorem q5v : decode jdk_44_method_3_code 15 = .ok (.ireturn, 1) := by decide +kernel
theorem own_siz1 (l : Launch) (Z : State) (a0 : Array Value) (hw : ∀ d ∈ tables_1, d.before a0 Z = true) (ws : List Jvm.Cond) (a1 : Addr) (x1 : Addr) (em : Addr) (h0 : Heap) (n0 : Nat) (Z0 : n0 ≤ h0.size) (f0 : Exa Z h0 a1 "java/util/ImmutableCollections$List12") (f1 : Fld Z h0 a1 "java/util/ImmutableCollections$List12" "e0" "Ljava/lang/Object;" (.ref x1)) (f2 : Fld Z h0 a1 "java/util/ImmutableCollections$List12" "e1" "Ljava/lang/Object;" (.ref em)) (f3 : Sta Z h0 "java/util/ImmutableCollections" "EMPTY" "Ljava/lang/Object;" (.ref em))  :
    Con l Z (⟨"java/util/ImmutableCollections$List12", "size", "()I"⟩ : MethodName) jdk_44_method_3_code 1 (some .int) ({ frames := 0, cells := 0, slots := 0, locals := 0 } : Room) ws #[(.ref a1)] h0 (Qret (some (.int (1 : Int32))) h0 n0) 0 0 := by
  refine Con.of (plainFor_of_name own_pn_ImmutableCollections_List12) ?_
  intro pgm e s m below meth c s₁ X0 hx hZ hby hml hown hnm hret hlk e0 hs0
  have N0 := Fr.nil n0
  have hown : s.vm.findClass "java/util/ImmutableCollections$List12" = some m.cls := hown
  have hnm : meth.name = "size" := hnm
  refine Go.cast (own_ef_jdk_44_method_3_code_R m a1) ?_
  refine gs m s₁ 1 #[vR (a1)] [(.ref a1)] (fun _ k => XS.aloadN X0.here hx rfl (hb hby q5q) rfl rfl k) ?_
  obtain ⟨T101, X101, e101, st101⟩ := getF X0 hx hZ hown (host := "") (Or.inl (hwi hw 284 rfl)) Via.refl e0 f2 (g := (mkF m 1 #[vR (a1)] [(.ref a1)])) rfl rfl (hb hby q5r)
  refine gs m T101 4 #[vR (a1)] [(.ref em)] st101 ?_
  obtain ⟨T102, X102, e102, st102⟩ := getS2 X101 hx hZ hown (Or.inr (hwi hw 283 rfl)) Via.refl e101 f3 (g := (mkF m 4 #[vR (a1)] [(.ref em)])) rfl (hb hby q5s)
  refine gs m T102 7 #[vR (a1)] [(.ref em), (.ref em)] st102 ?_
  refine gs m T102 14 #[vR (a1)] [] (fun _ k => Jvm.RoadKit.acmp (g := (mkF m 7 #[vR (a1)] [(.ref em), (.ref em)])) X102 hx rfl rfl rfl (pc0 := 7) (pc' := 14) (same := true) rfl (hb hby q5t) rfl (decide_eq_true rfl) (by decide) (by decide) k) ?_
  refine gs m T102 15 #[vR (a1)] [(.int (1 : Int32))] (fun _ k => XS.iconst X102.here hx rfl (hb hby q5u) k) ?_
  exact Go.retI X102 hx hret hlk (hb hby q5v) (⟨rfl, N0, e102⟩) (by decide) (by decide)
theorem own_ef_jdk_44_method_5_code_RI (m : MethodId) (x0 : Addr) (x1 : Int32) : entryFrame m #[(.ref x0), (.int x1)] 2 = mkF m 0 #[vR (x0), vI (x1)] [] := by first | (simp [entryFrame, mkF, argsToLocals, Value.category]; done) | rfl | (simp [entryFrame, mkF, argsToLocals, own_cI, own_cJ, own_cR, own_cN]; done)
theorem q5w : decode jdk_44_method_5_code 0 = .ok (.iload_n 1, 1) := by decide +kernel
theorem q5x : decode jdk_44_method_5_code 1 = .ok (.ifCond .ne 8, 3) := by decide +kernel
theorem q5y : decode jdk_44_method_5_code 4 = .ok (.aload_n 0, 1) := by decide +kernel
theorem q5z : decode jdk_44_method_5_code 5 = .ok (.getfield 13, 3) := by decide +kernel
theorem q60 : decode jdk_44_method_5_code 8 = .ok (.areturn, 1) := by decide +kernel
theorem own_get1_0 (l : Launch) (Z : State) (a0 : Array Value) (hw : ∀ d ∈ tables_1, d.before a0 Z = true) (ws : List Jvm.Cond) (a1 : Addr) (x1 : Addr) (em : Addr) (h0 : Heap) (n0 : Nat) (Z0 : n0 ≤ h0.size) (f0 : Exa Z h0 a1 "java/util/ImmutableCollections$List12") (f1 : Fld Z h0 a1 "java/util/ImmutableCollections$List12" "e0" "Ljava/lang/Object;" (.ref x1)) (f2 : Fld Z h0 a1 "java/util/ImmutableCollections$List12" "e1" "Ljava/lang/Object;" (.ref em)) (f3 : Sta Z h0 "java/util/ImmutableCollections" "EMPTY" "Ljava/lang/Object;" (.ref em))  :
    Con l Z (⟨"java/util/ImmutableCollections$List12", "get", "(I)Ljava/lang/Object;"⟩ : MethodName) jdk_44_method_5_code 2 (some (.object "java/lang/Object")) ({ frames := 0, cells := 0, slots := 0, locals := 0 } : Room) ws #[(.ref a1), (.int (0 : Int32))] h0 (Qret (some (.ref x1)) h0 n0) 0 0 := by
  refine Con.of (plainFor_of_name own_pn_ImmutableCollections_List12) ?_
  intro pgm e s m below meth c s₁ X0 hx hZ hby hml hown hnm hret hlk e0 hs0
  have N0 := Fr.nil n0
  have hown : s.vm.findClass "java/util/ImmutableCollections$List12" = some m.cls := hown
  have hnm : meth.name = "get" := hnm
  refine Go.cast (own_ef_jdk_44_method_5_code_RI m a1 (0 : Int32)) ?_
  refine gs m s₁ 1 #[vR (a1), vI ((0 : Int32))] [(.int (0 : Int32))] (fun _ k => XS.iloadN X0.here hx rfl (hb hby q5w) rfl  k) ?_
  refine gs m s₁ 4 #[vR (a1), vI ((0 : Int32))] [] (fun _ k => XS.ifNo X0.here hx rfl (hb hby q5x) rfl ((if0 _ _).trans (teq (by decide : (0 : Int32) = (0 : Int32))).2) k) ?_
  refine gs m s₁ 5 #[vR (a1), vI ((0 : Int32))] [(.ref a1)] (fun _ k => XS.aloadN X0.here hx rfl (hb hby q5y) rfl rfl k) ?_
  obtain ⟨T101, X101, e101, st101⟩ := getF X0 hx hZ hown (host := "") (Or.inl (hwi hw 281 rfl)) Via.refl e0 f1 (g := (mkF m 5 #[vR (a1), vI ((0 : Int32))] [(.ref a1)])) rfl rfl (hb hby q5z)
  refine gs m T101 8 #[vR (a1), vI ((0 : Int32))] [(.ref x1)] st101 ?_
  exact Go.retA X101 hx (t := (.object "java/lang/Object")) hret rfl hlk rfl (hb hby q60) (⟨rfl, N0, e101⟩) (by decide) (by decide)
theorem q61 : decode jdk_44_method_3_code 10 = .ok (.iconst 2, 1) := by decide +kernel
theorem q62 : decode jdk_44_method_3_code 11 = .ok (.goto 4, 3) := by decide +kernel
theorem own_siz2 (l : Launch) (Z : State) (a0 : Array Value) (hw : ∀ d ∈ tables_1, d.before a0 Z = true) (ws : List Jvm.Cond) (a1 : Addr) (x1 : Addr) (x2 : Addr) (em : Addr) (h0 : Heap) (n0 : Nat) (Z0 : n0 ≤ h0.size) (f0 : Exa Z h0 a1 "java/util/ImmutableCollections$List12") (f1 : Fld Z h0 a1 "java/util/ImmutableCollections$List12" "e0" "Ljava/lang/Object;" (.ref x1)) (f2 : Fld Z h0 a1 "java/util/ImmutableCollections$List12" "e1" "Ljava/lang/Object;" (.ref x2)) (f3 : Sta Z h0 "java/util/ImmutableCollections" "EMPTY" "Ljava/lang/Object;" (.ref em)) (f4 : x2 ≠ em)  :
    Con l Z (⟨"java/util/ImmutableCollections$List12", "size", "()I"⟩ : MethodName) jdk_44_method_3_code 1 (some .int) ({ frames := 0, cells := 0, slots := 0, locals := 0 } : Room) ws #[(.ref a1)] h0 (Qret (some (.int (2 : Int32))) h0 n0) 0 0 := by
  refine Con.of (plainFor_of_name own_pn_ImmutableCollections_List12) ?_
  intro pgm e s m below meth c s₁ X0 hx hZ hby hml hown hnm hret hlk e0 hs0
  have N0 := Fr.nil n0
  have hown : s.vm.findClass "java/util/ImmutableCollections$List12" = some m.cls := hown
  have hnm : meth.name = "size" := hnm
  refine Go.cast (own_ef_jdk_44_method_3_code_R m a1) ?_
  refine gs m s₁ 1 #[vR (a1)] [(.ref a1)] (fun _ k => XS.aloadN X0.here hx rfl (hb hby q5q) rfl rfl k) ?_
  obtain ⟨T101, X101, e101, st101⟩ := getF X0 hx hZ hown (host := "") (Or.inl (hwi hw 284 rfl)) Via.refl e0 f2 (g := (mkF m 1 #[vR (a1)] [(.ref a1)])) rfl rfl (hb hby q5r)
  refine gs m T101 4 #[vR (a1)] [(.ref x2)] st101 ?_
  obtain ⟨T102, X102, e102, st102⟩ := getS2 X101 hx hZ hown (Or.inr (hwi hw 283 rfl)) Via.refl e101 f3 (g := (mkF m 4 #[vR (a1)] [(.ref x2)])) rfl (hb hby q5s)
  refine gs m T102 7 #[vR (a1)] [(.ref em), (.ref x2)] st102 ?_
  refine gs m T102 10 #[vR (a1)] [] (fun _ k => Jvm.RoadKit.acmp (g := (mkF m 7 #[vR (a1)] [(.ref em), (.ref x2)])) X102 hx rfl rfl rfl (pc0 := 7) (pc' := 10) (same := false) rfl (hb hby q5t) rfl (decide_eq_false fun q => f4 (Value.ref.inj q)) (by decide) (by decide) k) ?_
  refine gs m T102 11 #[vR (a1)] [(.int (2 : Int32))] (fun _ k => XS.iconst X102.here hx rfl (hb hby q61) k) ?_
  refine gs m T102 15 #[vR (a1)] [(.int (2 : Int32))] (fun _ k => XS.goto X102.here hx rfl (pc0 := 11) (pc' := 15) rfl (hb hby q62) (by decide) (by decide) k) ?_
  exact Go.retI X102 hx hret hlk (hb hby q5v) (⟨rfl, N0, e102⟩) (by decide) (by decide)
theorem own_get2_0 (l : Launch) (Z : State) (a0 : Array Value) (hw : ∀ d ∈ tables_1, d.before a0 Z = true) (ws : List Jvm.Cond) (a1 : Addr) (x1 : Addr) (x2 : Addr) (em : Addr) (h0 : Heap) (n0 : Nat) (Z0 : n0 ≤ h0.size) (f0 : Exa Z h0 a1 "java/util/ImmutableCollections$List12") (f1 : Fld Z h0 a1 "java/util/ImmutableCollections$List12" "e0" "Ljava/lang/Object;" (.ref x1)) (f2 : Fld Z h0 a1 "java/util/ImmutableCollections$List12" "e1" "Ljava/lang/Object;" (.ref x2)) (f3 : Sta Z h0 "java/util/ImmutableCollections" "EMPTY" "Ljava/lang/Object;" (.ref em)) (f4 : x2 ≠ em)  :
    Con l Z (⟨"java/util/ImmutableCollections$List12", "get", "(I)Ljava/lang/Object;"⟩ : MethodName) jdk_44_method_5_code 2 (some (.object "java/lang/Object")) ({ frames := 0, cells := 0, slots := 0, locals := 0 } : Room) ws #[(.ref a1), (.int (0 : Int32))] h0 (Qret (some (.ref x1)) h0 n0) 0 0 := by
  refine Con.of (plainFor_of_name own_pn_ImmutableCollections_List12) ?_
  intro pgm e s m below meth c s₁ X0 hx hZ hby hml hown hnm hret hlk e0 hs0
  have N0 := Fr.nil n0
  have hown : s.vm.findClass "java/util/ImmutableCollections$List12" = some m.cls := hown
  have hnm : meth.name = "get" := hnm
  refine Go.cast (own_ef_jdk_44_method_5_code_RI m a1 (0 : Int32)) ?_
  refine gs m s₁ 1 #[vR (a1), vI ((0 : Int32))] [(.int (0 : Int32))] (fun _ k => XS.iloadN X0.here hx rfl (hb hby q5w) rfl  k) ?_
  refine gs m s₁ 4 #[vR (a1), vI ((0 : Int32))] [] (fun _ k => XS.ifNo X0.here hx rfl (hb hby q5x) rfl ((if0 _ _).trans (teq (by decide : (0 : Int32) = (0 : Int32))).2) k) ?_
  refine gs m s₁ 5 #[vR (a1), vI ((0 : Int32))] [(.ref a1)] (fun _ k => XS.aloadN X0.here hx rfl (hb hby q5y) rfl rfl k) ?_
  obtain ⟨T101, X101, e101, st101⟩ := getF X0 hx hZ hown (host := "") (Or.inl (hwi hw 281 rfl)) Via.refl e0 f1 (g := (mkF m 5 #[vR (a1), vI ((0 : Int32))] [(.ref a1)])) rfl rfl (hb hby q5z)
  refine gs m T101 8 #[vR (a1), vI ((0 : Int32))] [(.ref x1)] st101 ?_
  exact Go.retA X101 hx (t := (.object "java/lang/Object")) hret rfl hlk rfl (hb hby q60) (⟨rfl, N0, e101⟩) (by decide) (by decide)
theorem q63 : decode jdk_44_method_5_code 9 = .ok (.iload_n 1, 1) := by decide +kernel
theorem q64 : decode jdk_44_method_5_code 10 = .ok (.iconst 1, 1) := by decide +kernel
theorem q65 : decode jdk_44_method_5_code 11 = .ok (.if_icmp .ne 18, 3) := by decide +kernel
theorem q66 : decode jdk_44_method_5_code 14 = .ok (.aload_n 0, 1) := by decide +kernel
theorem q67 : decode jdk_44_method_5_code 15 = .ok (.getfield 24, 3) := by decide +kernel
theorem q68 : decode jdk_44_method_5_code 18 = .ok (.getstatic 19, 3) := by decide +kernel
theorem q69 : decode jdk_44_method_5_code 21 = .ok (.if_acmp .eq 8, 3) := by decide +kernel
theorem q6a : decode jdk_44_method_5_code 24 = .ok (.aload_n 0, 1) := by decide +kernel
theorem q6b : decode jdk_44_method_5_code 25 = .ok (.getfield 24, 3) := by decide +kernel
theorem q6c : decode jdk_44_method_5_code 28 = .ok (.areturn, 1) := by decide +kernel
theorem own_get2_1 (l : Launch) (Z : State) (a0 : Array Value) (hw : ∀ d ∈ tables_1, d.before a0 Z = true) (ws : List Jvm.Cond) (a1 : Addr) (x1 : Addr) (x2 : Addr) (em : Addr) (h0 : Heap) (n0 : Nat) (Z0 : n0 ≤ h0.size) (f0 : Exa Z h0 a1 "java/util/ImmutableCollections$List12") (f1 : Fld Z h0 a1 "java/util/ImmutableCollections$List12" "e0" "Ljava/lang/Object;" (.ref x1)) (f2 : Fld Z h0 a1 "java/util/ImmutableCollections$List12" "e1" "Ljava/lang/Object;" (.ref x2)) (f3 : Sta Z h0 "java/util/ImmutableCollections" "EMPTY" "Ljava/lang/Object;" (.ref em)) (f4 : x2 ≠ em)  :
    Con l Z (⟨"java/util/ImmutableCollections$List12", "get", "(I)Ljava/lang/Object;"⟩ : MethodName) jdk_44_method_5_code 2 (some (.object "java/lang/Object")) ({ frames := 0, cells := 0, slots := 0, locals := 0 } : Room) ws #[(.ref a1), (.int (1 : Int32))] h0 (Qret (some (.ref x2)) h0 n0) 0 0 := by
  refine Con.of (plainFor_of_name own_pn_ImmutableCollections_List12) ?_
  intro pgm e s m below meth c s₁ X0 hx hZ hby hml hown hnm hret hlk e0 hs0
  have N0 := Fr.nil n0
  have hown : s.vm.findClass "java/util/ImmutableCollections$List12" = some m.cls := hown
  have hnm : meth.name = "get" := hnm
  refine Go.cast (own_ef_jdk_44_method_5_code_RI m a1 (1 : Int32)) ?_
  refine gs m s₁ 1 #[vR (a1), vI ((1 : Int32))] [(.int (1 : Int32))] (fun _ k => XS.iloadN X0.here hx rfl (hb hby q5w) rfl  k) ?_
  refine gs m s₁ 9 #[vR (a1), vI ((1 : Int32))] [] (fun _ k => XS.ifYes X0.here hx rfl (pc0 := 1) (pc' := 9) rfl (hb hby q5x) rfl ((if0 _ _).trans (feq (by decide : ¬ ((1 : Int32) = (0 : Int32)))).2) (by decide) (by decide) k) ?_
  refine gs m s₁ 10 #[vR (a1), vI ((1 : Int32))] [(.int (1 : Int32))] (fun _ k => XS.iloadN X0.here hx rfl (hb hby q63) rfl  k) ?_
  refine gs m s₁ 11 #[vR (a1), vI ((1 : Int32))] [(.int (1 : Int32)), (.int (1 : Int32))] (fun _ k => XS.iconst X0.here hx rfl (hb hby q64) k) ?_
  refine gs m s₁ 14 #[vR (a1), vI ((1 : Int32))] [] (fun _ k => XS.icmpNo X0.here hx rfl (hb hby q65) rfl (teq (by decide : (1 : Int32) = (1 : Int32))).2 k) ?_
  refine gs m s₁ 15 #[vR (a1), vI ((1 : Int32))] [(.ref a1)] (fun _ k => XS.aloadN X0.here hx rfl (hb hby q66) rfl rfl k) ?_
  obtain ⟨T101, X101, e101, st101⟩ := getF X0 hx hZ hown (host := "") (Or.inl (hwi hw 284 rfl)) Via.refl e0 f2 (g := (mkF m 15 #[vR (a1), vI ((1 : Int32))] [(.ref a1)])) rfl rfl (hb hby q67)
  refine gs m T101 18 #[vR (a1), vI ((1 : Int32))] [(.ref x2)] st101 ?_
  obtain ⟨T102, X102, e102, st102⟩ := getS2 X101 hx hZ hown (Or.inr (hwi hw 283 rfl)) Via.refl e101 f3 (g := (mkF m 18 #[vR (a1), vI ((1 : Int32))] [(.ref x2)])) rfl (hb hby q68)
  refine gs m T102 21 #[vR (a1), vI ((1 : Int32))] [(.ref em), (.ref x2)] st102 ?_
  refine gs m T102 24 #[vR (a1), vI ((1 : Int32))] [] (fun _ k => Jvm.RoadKit.acmp (g := (mkF m 21 #[vR (a1), vI ((1 : Int32))] [(.ref em), (.ref x2)])) X102 hx rfl rfl rfl (pc0 := 21) (pc' := 24) (same := false) rfl (hb hby q69) rfl (decide_eq_false fun q => f4 (Value.ref.inj q)) (by decide) (by decide) k) ?_
  refine gs m T102 25 #[vR (a1), vI ((1 : Int32))] [(.ref a1)] (fun _ k => XS.aloadN X102.here hx rfl (hb hby q6a) rfl rfl k) ?_
  obtain ⟨T103, X103, e103, st103⟩ := getF X102 hx hZ hown (host := "") (Or.inl (hwi hw 284 rfl)) Via.refl e102 f2 (g := (mkF m 25 #[vR (a1), vI ((1 : Int32))] [(.ref a1)])) rfl rfl (hb hby q6b)
  refine gs m T103 28 #[vR (a1), vI ((1 : Int32))] [(.ref x2)] st103 ?_
  exact Go.retA X103 hx (t := (.object "java/lang/Object")) hret rfl hlk rfl (hb hby q6c) (⟨rfl, N0, e103⟩) (by decide) (by decide)
theorem own_siz3 (l : Launch) (Z : State) (a0 : Array Value) (hw : ∀ d ∈ tables_1, d.before a0 Z = true) (ws : List Jvm.Cond) (a1 : Addr) (b2 : Addr) (k2 : ClassId) (x1 : Addr) (x2 : Addr) (x3 : Addr) (h0 : Heap) (n0 : Nat) (Z0 : n0 ≤ h0.size) (f0 : Exa Z h0 a1 "java/util/ImmutableCollections$ListN") (f1 : Fld Z h0 a1 "java/util/ImmutableCollections$ListN" "elements" "[Ljava/lang/Object;" (.ref b2)) (f2 : Arv Z h0 b2 k2 (.object "java/lang/Object") (3 : Int32) [(.ref x1), (.ref x2), (.ref x3)] .null)  :
    Con l Z (⟨"java/util/ImmutableCollections$ListN", "size", "()I"⟩ : MethodName) jdk_45_method_3_code 1 (some .int) ({ frames := 0, cells := 0, slots := 0, locals := 0 } : Room) ws #[(.ref a1)] h0 (Qret (some (.int (3 : Int32))) h0 n0) 0 0 := by
  refine Con.of (plainFor_of_name own_pn_ImmutableCollections_ListN) ?_
  intro pgm e s m below meth c s₁ X0 hx hZ hby hml hown hnm hret hlk e0 hs0
  have N0 := Fr.nil n0
  have hown : s.vm.findClass "java/util/ImmutableCollections$ListN" = some m.cls := hown
  have hnm : meth.name = "size" := hnm
  refine Go.cast (own_ef_jdk_45_method_3_code_R m a1) ?_
  refine gs m s₁ 1 #[vR (a1)] [(.ref a1)] (fun _ k => XS.aloadN X0.here hx rfl (hb hby q5m) rfl rfl k) ?_
  obtain ⟨T101, X101, e101, st101⟩ := getF X0 hx hZ hown (host := "") (Or.inl (hwi hw 111 rfl)) Via.refl e0 f1 (g := (mkF m 1 #[vR (a1)] [(.ref a1)])) rfl rfl (hb hby q5n)
  refine gs m T101 4 #[vR (a1)] [(.ref b2)] st101 ?_
  obtain ⟨cl102, Ar102, -, S102, M102, -, -⟩ := id f2
  refine gs m T101 5 #[vR (a1)] [(.int (3 : Int32))] (fun _ k => X101.arraylength hx (cell := cl102) (by rw [e101]; exact Ar102.1) (State.isArrayOf_alike hZ.alike Ar102.2.1) (g := (mkF m 4 #[vR (a1)] [(.ref b2)])) rfl (rest := []) rfl (hb hby q5o) _ (by rw [len_of S102 M102]; exact k)) ?_
  exact Go.retI X101 hx hret hlk (hb hby q5p) (⟨rfl, N0, e101⟩) (by decide) (by decide)
theorem own_ef_jdk_45_method_4_code_RI (m : MethodId) (x0 : Addr) (x1 : Int32) : entryFrame m #[(.ref x0), (.int x1)] 2 = mkF m 0 #[vR (x0), vI (x1)] [] := by first | (simp [entryFrame, mkF, argsToLocals, Value.category]; done) | rfl | (simp [entryFrame, mkF, argsToLocals, own_cI, own_cJ, own_cR, own_cN]; done)
theorem q6d : decode jdk_45_method_4_code 0 = .ok (.aload_n 0, 1) := by decide +kernel
theorem q6e : decode jdk_45_method_4_code 1 = .ok (.getfield 7, 3) := by decide +kernel
theorem q6f : decode jdk_45_method_4_code 4 = .ok (.iload_n 1, 1) := by decide +kernel
theorem q6g : decode jdk_45_method_4_code 5 = .ok (.aaload, 1) := by decide +kernel
theorem q6h : decode jdk_45_method_4_code 6 = .ok (.areturn, 1) := by decide +kernel
theorem own_get3_0 (l : Launch) (Z : State) (a0 : Array Value) (hw : ∀ d ∈ tables_1, d.before a0 Z = true) (ws : List Jvm.Cond) (a1 : Addr) (b2 : Addr) (k2 : ClassId) (x1 : Addr) (x2 : Addr) (x3 : Addr) (h0 : Heap) (n0 : Nat) (Z0 : n0 ≤ h0.size) (f0 : Exa Z h0 a1 "java/util/ImmutableCollections$ListN") (f1 : Fld Z h0 a1 "java/util/ImmutableCollections$ListN" "elements" "[Ljava/lang/Object;" (.ref b2)) (f2 : Arv Z h0 b2 k2 (.object "java/lang/Object") (3 : Int32) [(.ref x1), (.ref x2), (.ref x3)] .null)  :
    Con l Z (⟨"java/util/ImmutableCollections$ListN", "get", "(I)Ljava/lang/Object;"⟩ : MethodName) jdk_45_method_4_code 2 (some (.object "java/lang/Object")) ({ frames := 0, cells := 0, slots := 0, locals := 0 } : Room) ws #[(.ref a1), (.int (0 : Int32))] h0 (Qret (some (.ref x1)) h0 n0) 0 0 := by
  refine Con.of (plainFor_of_name own_pn_ImmutableCollections_ListN) ?_
  intro pgm e s m below meth c s₁ X0 hx hZ hby hml hown hnm hret hlk e0 hs0
  have N0 := Fr.nil n0
  have hown : s.vm.findClass "java/util/ImmutableCollections$ListN" = some m.cls := hown
  have hnm : meth.name = "get" := hnm
  refine Go.cast (own_ef_jdk_45_method_4_code_RI m a1 (0 : Int32)) ?_
  refine gs m s₁ 1 #[vR (a1), vI ((0 : Int32))] [(.ref a1)] (fun _ k => XS.aloadN X0.here hx rfl (hb hby q6d) rfl rfl k) ?_
  obtain ⟨T101, X101, e101, st101⟩ := getF X0 hx hZ hown (host := "") (Or.inl (hwi hw 111 rfl)) Via.refl e0 f1 (g := (mkF m 1 #[vR (a1), vI ((0 : Int32))] [(.ref a1)])) rfl rfl (hb hby q6e)
  refine gs m T101 4 #[vR (a1), vI ((0 : Int32))] [(.ref b2)] st101 ?_
  refine gs m T101 5 #[vR (a1), vI ((0 : Int32))] [(.int (0 : Int32)), (.ref b2)] (fun _ k => XS.iloadN X101.here hx rfl (hb hby q6f) rfl  k) ?_
  obtain ⟨cl102, Ar102, q102, S102, M102, H102, G102⟩ := id f2
  have I102 := inb_of (j := (0 : Int32)) S102 (by decide)
  refine gs m T101 6 #[vR (a1), vI ((0 : Int32))] [(.ref x1)] (fun _ k => X101.aaload hx (j := (0 : Int32)) (v := (.ref x1)) (by rw [e101]; exact Ar102.1) (State.isArrayOf_alike hZ.alike Ar102.2.1) rfl Ar102.2.2 I102 (Has.at H102 I102 rfl) (g := (mkF m 5 #[vR (a1), vI ((0 : Int32))] [(.int (0 : Int32)), (.ref b2)])) rfl rfl (hb hby q6g) _ k) ?_
  exact Go.retA X101 hx (t := (.object "java/lang/Object")) hret rfl hlk rfl (hb hby q6h) (⟨rfl, N0, e101⟩) (by decide) (by decide)
theorem own_get3_1 (l : Launch) (Z : State) (a0 : Array Value) (hw : ∀ d ∈ tables_1, d.before a0 Z = true) (ws : List Jvm.Cond) (a1 : Addr) (b2 : Addr) (k2 : ClassId) (x1 : Addr) (x2 : Addr) (x3 : Addr) (h0 : Heap) (n0 : Nat) (Z0 : n0 ≤ h0.size) (f0 : Exa Z h0 a1 "java/util/ImmutableCollections$ListN") (f1 : Fld Z h0 a1 "java/util/ImmutableCollections$ListN" "elements" "[Ljava/lang/Object;" (.ref b2)) (f2 : Arv Z h0 b2 k2 (.object "java/lang/Object") (3 : Int32) [(.ref x1), (.ref x2), (.ref x3)] .null)  :
    Con l Z (⟨"java/util/ImmutableCollections$ListN", "get", "(I)Ljava/lang/Object;"⟩ : MethodName) jdk_45_method_4_code 2 (some (.object "java/lang/Object")) ({ frames := 0, cells := 0, slots := 0, locals := 0 } : Room) ws #[(.ref a1), (.int (1 : Int32))] h0 (Qret (some (.ref x2)) h0 n0) 0 0 := by
  refine Con.of (plainFor_of_name own_pn_ImmutableCollections_ListN) ?_
  intro pgm e s m below meth c s₁ X0 hx hZ hby hml hown hnm hret hlk e0 hs0
  have N0 := Fr.nil n0
  have hown : s.vm.findClass "java/util/ImmutableCollections$ListN" = some m.cls := hown
  have hnm : meth.name = "get" := hnm
  refine Go.cast (own_ef_jdk_45_method_4_code_RI m a1 (1 : Int32)) ?_
  refine gs m s₁ 1 #[vR (a1), vI ((1 : Int32))] [(.ref a1)] (fun _ k => XS.aloadN X0.here hx rfl (hb hby q6d) rfl rfl k) ?_
  obtain ⟨T101, X101, e101, st101⟩ := getF X0 hx hZ hown (host := "") (Or.inl (hwi hw 111 rfl)) Via.refl e0 f1 (g := (mkF m 1 #[vR (a1), vI ((1 : Int32))] [(.ref a1)])) rfl rfl (hb hby q6e)
  refine gs m T101 4 #[vR (a1), vI ((1 : Int32))] [(.ref b2)] st101 ?_
  refine gs m T101 5 #[vR (a1), vI ((1 : Int32))] [(.int (1 : Int32)), (.ref b2)] (fun _ k => XS.iloadN X101.here hx rfl (hb hby q6f) rfl  k) ?_
  obtain ⟨cl102, Ar102, q102, S102, M102, H102, G102⟩ := id f2
  have I102 := inb_of (j := (1 : Int32)) S102 (by decide)
  refine gs m T101 6 #[vR (a1), vI ((1 : Int32))] [(.ref x2)] (fun _ k => X101.aaload hx (j := (1 : Int32)) (v := (.ref x2)) (by rw [e101]; exact Ar102.1) (State.isArrayOf_alike hZ.alike Ar102.2.1) rfl Ar102.2.2 I102 (Has.at H102 I102 rfl) (g := (mkF m 5 #[vR (a1), vI ((1 : Int32))] [(.int (1 : Int32)), (.ref b2)])) rfl rfl (hb hby q6g) _ k) ?_
  exact Go.retA X101 hx (t := (.object "java/lang/Object")) hret rfl hlk rfl (hb hby q6h) (⟨rfl, N0, e101⟩) (by decide) (by decide)
theorem own_get3_2 (l : Launch) (Z : State) (a0 : Array Value) (hw : ∀ d ∈ tables_1, d.before a0 Z = true) (ws : List Jvm.Cond) (a1 : Addr) (b2 : Addr) (k2 : ClassId) (x1 : Addr) (x2 : Addr) (x3 : Addr) (h0 : Heap) (n0 : Nat) (Z0 : n0 ≤ h0.size) (f0 : Exa Z h0 a1 "java/util/ImmutableCollections$ListN") (f1 : Fld Z h0 a1 "java/util/ImmutableCollections$ListN" "elements" "[Ljava/lang/Object;" (.ref b2)) (f2 : Arv Z h0 b2 k2 (.object "java/lang/Object") (3 : Int32) [(.ref x1), (.ref x2), (.ref x3)] .null)  :
    Con l Z (⟨"java/util/ImmutableCollections$ListN", "get", "(I)Ljava/lang/Object;"⟩ : MethodName) jdk_45_method_4_code 2 (some (.object "java/lang/Object")) ({ frames := 0, cells := 0, slots := 0, locals := 0 } : Room) ws #[(.ref a1), (.int (2 : Int32))] h0 (Qret (some (.ref x3)) h0 n0) 0 0 := by
  refine Con.of (plainFor_of_name own_pn_ImmutableCollections_ListN) ?_
  intro pgm e s m below meth c s₁ X0 hx hZ hby hml hown hnm hret hlk e0 hs0
  have N0 := Fr.nil n0
  have hown : s.vm.findClass "java/util/ImmutableCollections$ListN" = some m.cls := hown
  have hnm : meth.name = "get" := hnm
  refine Go.cast (own_ef_jdk_45_method_4_code_RI m a1 (2 : Int32)) ?_
  refine gs m s₁ 1 #[vR (a1), vI ((2 : Int32))] [(.ref a1)] (fun _ k => XS.aloadN X0.here hx rfl (hb hby q6d) rfl rfl k) ?_
  obtain ⟨T101, X101, e101, st101⟩ := getF X0 hx hZ hown (host := "") (Or.inl (hwi hw 111 rfl)) Via.refl e0 f1 (g := (mkF m 1 #[vR (a1), vI ((2 : Int32))] [(.ref a1)])) rfl rfl (hb hby q6e)
  refine gs m T101 4 #[vR (a1), vI ((2 : Int32))] [(.ref b2)] st101 ?_
  refine gs m T101 5 #[vR (a1), vI ((2 : Int32))] [(.int (2 : Int32)), (.ref b2)] (fun _ k => XS.iloadN X101.here hx rfl (hb hby q6f) rfl  k) ?_
  obtain ⟨cl102, Ar102, q102, S102, M102, H102, G102⟩ := id f2
  have I102 := inb_of (j := (2 : Int32)) S102 (by decide)
  refine gs m T101 6 #[vR (a1), vI ((2 : Int32))] [(.ref x3)] (fun _ k => X101.aaload hx (j := (2 : Int32)) (v := (.ref x3)) (by rw [e101]; exact Ar102.1) (State.isArrayOf_alike hZ.alike Ar102.2.1) rfl Ar102.2.2 I102 (Has.at H102 I102 rfl) (g := (mkF m 5 #[vR (a1), vI ((2 : Int32))] [(.int (2 : Int32)), (.ref b2)])) rfl rfl (hb hby q6g) _ k) ?_
  exact Go.retA X101 hx (t := (.object "java/lang/Object")) hret rfl hlk rfl (hb hby q6h) (⟨rfl, N0, e101⟩) (by decide) (by decide)
theorem own_ef_jdk_53_method_1_code_RRI (m : MethodId) (x0 : Addr) (x1 : Addr) (x2 : Int32) : entryFrame m #[(.ref x0), (.ref x1), (.int x2)] 3 = mkF m 0 #[vR (x0), vR (x1), vI (x2)] [] := by first | (simp [entryFrame, mkF, argsToLocals, Value.category]; done) | rfl | (simp [entryFrame, mkF, argsToLocals, own_cI, own_cJ, own_cR, own_cN]; done)
theorem own_pn_ImmutableCollections_ListItr : plainName "java/util/ImmutableCollections$ListItr" = true := by first | (simp [plainName, overriddenIn]; done) | decide +kernel
theorem q6i : decode jdk_53_method_1_code 0 = .ok (.aload_n 0, 1) := by decide +kernel
theorem q6j : decode jdk_53_method_1_code 1 = .ok (.invokespecial 1, 3) := by decide +kernel
theorem q6k : decode jdk_53_method_1_code 4 = .ok (.aload_n 0, 1) := by decide +kernel
theorem q6l : decode jdk_53_method_1_code 5 = .ok (.aload_n 1, 1) := by decide +kernel
theorem q6m : decode jdk_53_method_1_code 6 = .ok (.putfield 7, 3) := by decide +kernel
theorem q6n : decode jdk_53_method_1_code 9 = .ok (.aload_n 0, 1) := by decide +kernel
theorem q6o : decode jdk_53_method_1_code 10 = .ok (.iload_n 2, 1) := by decide +kernel
theorem q6p : decode jdk_53_method_1_code 11 = .ok (.putfield 13, 3) := by decide +kernel
theorem q6q : decode jdk_53_method_1_code 14 = .ok (.aload_n 0, 1) := by decide +kernel
theorem q6r : decode jdk_53_method_1_code 15 = .ok (.iconst 0, 1) := by decide +kernel
theorem q6s : decode jdk_53_method_1_code 16 = .ok (.putfield 17, 3) := by decide +kernel
theorem q6t : decode jdk_53_method_1_code 19 = .ok (.aload_n 0, 1) := by decide +kernel
theorem q6u : decode jdk_53_method_1_code 20 = .ok (.iconst 0, 1) := by decide +kernel
theorem q6v : decode jdk_53_method_1_code 21 = .ok (.putfield 20, 3) := by decide +kernel
theorem q6w : decode jdk_53_method_1_code 24 = .ok (.return_, 1) := by decide +kernel
theorem own_lii (l : Launch) (Z : State) (a0 : Array Value) (hw : ∀ d ∈ tables_1, d.before a0 Z = true) (ws : List Jvm.Cond) (a1 : Addr) (l1 : Addr) (nn : Int32) (u0 : Value) (u1 : Value) (u2 : Value) (u3 : Value) (h0 : Heap) (n0 : Nat) (Z0 : n0 ≤ h0.size) (f0 : Exa Z h0 a1 "java/util/ImmutableCollections$ListItr") (f1 : n0 ≤ a1) (f2 : Fld Z h0 a1 "java/util/ImmutableCollections$ListItr" "list" "Ljava/util/List;" u0) (f3 : Fld Z h0 a1 "java/util/ImmutableCollections$ListItr" "size" "I" u1) (f4 : Fld Z h0 a1 "java/util/ImmutableCollections$ListItr" "cursor" "I" u2) (f5 : Fld Z h0 a1 "java/util/ImmutableCollections$ListItr" "isListIterator" "Z" u3)  :
    Con l Z (⟨"java/util/ImmutableCollections$ListItr", "<init>", "(Ljava/util/List;I)V"⟩ : MethodName) jdk_53_method_1_code 3 none ({ frames := 1, cells := 0, slots := 0, locals := 12 } : Room) ws #[(.ref a1), (.ref l1), (.int nn)] h0 (fun v h L => (v = none) ∧ (Fr n0 L) ∧ (Keep h0 h [a1]) ∧ (Exa Z h a1 "java/util/ImmutableCollections$ListItr") ∧ (Fld Z h a1 "java/util/ImmutableCollections$ListItr" "list" "Ljava/util/List;" (.ref l1)) ∧ (Fld Z h a1 "java/util/ImmutableCollections$ListItr" "size" "I" (.int nn)) ∧ (Fld Z h a1 "java/util/ImmutableCollections$ListItr" "cursor" "I" (.int (0 : Int32)))) 0 0 := by
  refine Con.of (plainFor_of_name own_pn_ImmutableCollections_ListItr) ?_
  intro pgm e s m below meth c s₁ X0 hx hZ hby hml hown hnm hret hlk e0 hs0
  have N0 := Fr.nil n0
  have hown : s.vm.findClass "java/util/ImmutableCollections$ListItr" = some m.cls := hown
  have hnm : meth.name = "<init>" := hnm
  refine Go.cast (own_ef_jdk_53_method_1_code_RRI m a1 l1 nn) ?_
  have K0 := Keep.refl h0 [a1]
  refine gs m s₁ 1 #[vR (a1), vR (l1), vI (nn)] [(.ref a1)] (fun _ k => XS.aloadN X0.here hx rfl (hb hby q6i) rfl rfl k) ?_
  obtain ⟨T101, X101, e101, st101⟩ := initO X0 hx hZ hown (hwi hw 117 rfl) (hwi hw 20 rfl) (hwi hw 21 rfl) e0 (g := (mkF m 1 #[vR (a1), vR (l1), vI (nn)] [(.ref a1)])) rfl (by rw [hml]; rfl) rfl (hb hby q6j) (by decide) (W := 0) (by show 2 * 0 + _ ≤ _; exact Nat.le_of_eq rfl) (by decide)
  refine gs m T101 4 #[vR (a1), vR (l1), vI (nn)] [] st101 ?_
  refine gs m T101 5 #[vR (a1), vR (l1), vI (nn)] [(.ref a1)] (fun _ k => XS.aloadN X101.here hx rfl (hb hby q6k) rfl rfl k) ?_
  refine gs m T101 6 #[vR (a1), vR (l1), vI (nn)] [(.ref l1), (.ref a1)] (fun _ k => XS.aloadN X101.here hx rfl (hb hby q6l) rfl rfl k) ?_
  obtain ⟨T102, h102, X102, e102, W102, st102⟩ := putF X101 hx hZ hown (host := "") (Or.inl (hwi hw 118 rfl)) Via.refl e101 f2 f0 (Or.inr ⟨(hwi hw 119 rfl), rfl, hnm⟩) (hwi hw 102 rfl) (ty := (.object "java/util/List")) (by decide) rfl rfl (g := (mkF m 6 #[vR (a1), vR (l1), vI (nn)] [(.ref l1), (.ref a1)])) rfl rfl (hb hby q6m)
  have N102 := Fr.snoc X102 N0 f1
  have Z102 : n0 ≤ h102.size := Nat.le_trans Z0 (Keep.of_wr W102).1
  have K102 := K0.wr W102 (Or.inl (List.mem_of_getElem? (i := 0) rfl))
  have F103 := f0.wr W102
  have F104 := f3.other W102 (Or.inr (slot_ne (Or.inr (hwi hw 121 rfl)) (Or.inr (hwi hw 119 rfl)) (by decide) (t := .int) (t' := (.object "java/util/List")) (by decide) (by decide)))
  have F105 := f4.other W102 (Or.inr (slot_ne (Or.inl (hwi hw 123 rfl)) (Or.inr (hwi hw 119 rfl)) (by decide) (t := .int) (t' := (.object "java/util/List")) (by decide) (by decide)))
  have F106 := f5.other W102 (Or.inr (slot_ne (Or.inr (hwi hw 125 rfl)) (Or.inr (hwi hw 119 rfl)) (by decide) (t := .boolean) (t' := (.object "java/util/List")) (by decide) (by decide)))
  have F107 := f2.same W102
  refine gs m T102 9 #[vR (a1), vR (l1), vI (nn)] [] st102 ?_
  refine gs m T102 10 #[vR (a1), vR (l1), vI (nn)] [(.ref a1)] (fun _ k => XS.aloadN X102.here hx rfl (hb hby q6n) rfl rfl k) ?_
  refine gs m T102 11 #[vR (a1), vR (l1), vI (nn)] [(.int nn), (.ref a1)] (fun _ k => XS.iloadN X102.here hx rfl (hb hby q6o) rfl  k) ?_
  obtain ⟨T108, h108, X108, e108, W108, st108⟩ := putF X102 hx hZ hown (host := "") (Or.inl (hwi hw 120 rfl)) Via.refl e102 F104 F103 (Or.inr ⟨(hwi hw 121 rfl), rfl, hnm⟩) (hwi hw 102 rfl) (ty := .int) (by decide) rfl rfl (g := (mkF m 11 #[vR (a1), vR (l1), vI (nn)] [(.int nn), (.ref a1)])) rfl rfl (hb hby q6p)
  have N108 := Fr.snoc X108 N102 f1
  have Z108 : n0 ≤ h108.size := Nat.le_trans Z102 (Keep.of_wr W108).1
  have K108 := K102.wr W108 (Or.inl (List.mem_of_getElem? (i := 0) rfl))
  have F109 := F103.wr W108
  have F110 := F105.other W108 (Or.inr (slot_ne (Or.inl (hwi hw 123 rfl)) (Or.inr (hwi hw 121 rfl)) (by decide) (t := .int) (t' := .int) (by decide) (by decide)))
  have F111 := F106.other W108 (Or.inr (slot_ne (Or.inr (hwi hw 125 rfl)) (Or.inr (hwi hw 121 rfl)) (by decide) (t := .boolean) (t' := .int) (by decide) (by decide)))
  have F112 := F107.other W108 (Or.inr (slot_ne (Or.inr (hwi hw 119 rfl)) (Or.inr (hwi hw 121 rfl)) (by decide) (t := (.object "java/util/List")) (t' := .int) (by decide) (by decide)))
  have F113 := F104.same W108
  refine gs m T108 14 #[vR (a1), vR (l1), vI (nn)] [] st108 ?_
  refine gs m T108 15 #[vR (a1), vR (l1), vI (nn)] [(.ref a1)] (fun _ k => XS.aloadN X108.here hx rfl (hb hby q6q) rfl rfl k) ?_
  refine gs m T108 16 #[vR (a1), vR (l1), vI (nn)] [(.int (0 : Int32)), (.ref a1)] (fun _ k => XS.iconst X108.here hx rfl (hb hby q6r) k) ?_
  obtain ⟨T114, h114, X114, e114, W114, st114⟩ := putF X108 hx hZ hown (host := "") (Or.inl (hwi hw 122 rfl)) Via.refl e108 F110 F109 (Or.inl (hwi hw 123 rfl)) (hwi hw 102 rfl) (ty := .int) (by decide) rfl rfl (g := (mkF m 16 #[vR (a1), vR (l1), vI (nn)] [(.int (0 : Int32)), (.ref a1)])) rfl rfl (hb hby q6s)
  have N114 := Fr.snoc X114 N108 f1
  have Z114 : n0 ≤ h114.size := Nat.le_trans Z108 (Keep.of_wr W114).1
  have K114 := K108.wr W114 (Or.inl (List.mem_of_getElem? (i := 0) rfl))
  have F115 := F109.wr W114
  have F116 := F111.other W114 (Or.inr (slot_ne (Or.inr (hwi hw 125 rfl)) (Or.inl (hwi hw 123 rfl)) (by decide) (t := .boolean) (t' := .int) (by decide) (by decide)))
  have F117 := F112.other W114 (Or.inr (slot_ne (Or.inr (hwi hw 119 rfl)) (Or.inl (hwi hw 123 rfl)) (by decide) (t := (.object "java/util/List")) (t' := .int) (by decide) (by decide)))
  have F118 := F113.other W114 (Or.inr (slot_ne (Or.inr (hwi hw 121 rfl)) (Or.inl (hwi hw 123 rfl)) (by decide) (t := .int) (t' := .int) (by decide) (by decide)))
  have F119 := F110.same W114
  refine gs m T114 19 #[vR (a1), vR (l1), vI (nn)] [] st114 ?_
  refine gs m T114 20 #[vR (a1), vR (l1), vI (nn)] [(.ref a1)] (fun _ k => XS.aloadN X114.here hx rfl (hb hby q6t) rfl rfl k) ?_
  refine gs m T114 21 #[vR (a1), vR (l1), vI (nn)] [(.int (0 : Int32)), (.ref a1)] (fun _ k => XS.iconst X114.here hx rfl (hb hby q6u) k) ?_
  obtain ⟨T120, h120, X120, e120, W120, st120⟩ := putFN X114 hx hZ hown (hwi hw 124 rfl) Via.refl e114 F116 F115 (Or.inr ⟨(hwi hw 125 rfl), rfl, hnm⟩) (hwi hw 102 rfl) (ty := .boolean) (v' := (.int (0 : Int32))) (by decide) (rfl) (by decide) (g := (mkF m 21 #[vR (a1), vR (l1), vI (nn)] [(.int (0 : Int32)), (.ref a1)])) rfl rfl (hb hby q6v)
  have N120 := Fr.snoc X120 N114 f1
  have Z120 : n0 ≤ h120.size := Nat.le_trans Z114 (Keep.of_wr W120).1
  have K120 := K114.wr W120 (Or.inl (List.mem_of_getElem? (i := 0) rfl))
  have F121 := F115.wr W120
  have F122 := F117.other W120 (Or.inr (slot_ne (Or.inr (hwi hw 119 rfl)) (Or.inr (hwi hw 125 rfl)) (by decide) (t := (.object "java/util/List")) (t' := .boolean) (by decide) (by decide)))
  have F123 := F118.other W120 (Or.inr (slot_ne (Or.inr (hwi hw 121 rfl)) (Or.inr (hwi hw 125 rfl)) (by decide) (t := .int) (t' := .boolean) (by decide) (by decide)))
  have F124 := F119.other W120 (Or.inr (slot_ne (Or.inl (hwi hw 123 rfl)) (Or.inr (hwi hw 125 rfl)) (by decide) (t := .int) (t' := .boolean) (by decide) (by decide)))
  have F125 := F116.same W120
  refine gs m T120 24 #[vR (a1), vR (l1), vI (nn)] [] st120 ?_
  exact Go.retV X120 hx hret hlk (hb hby q6w) (by rw [e120]; exact ⟨rfl, N120, K120, F121, F122, F123, F124⟩) (by decide) (by decide)
theorem own_ef_jdk_46_method_10_code_R (m : MethodId) (x0 : Addr) : entryFrame m #[(.ref x0)] 1 = mkF m 0 #[vR (x0)] [] := by first | (simp [entryFrame, mkF, argsToLocals, Value.category]; done) | rfl | (simp [entryFrame, mkF, argsToLocals, own_cI, own_cJ, own_cR, own_cN]; done)
theorem q6x : decode jdk_46_method_10_code 0 = .ok (.new 61, 3) := by decide +kernel
theorem q6y : decode jdk_46_method_10_code 3 = .ok (.dup, 1) := by decide +kernel
theorem q6z : decode jdk_46_method_10_code 4 = .ok (.aload_n 0, 1) := by decide +kernel
theorem q70 : decode jdk_46_method_10_code 5 = .ok (.aload_n 0, 1) := by decide +kernel
theorem q71 : decode jdk_46_method_10_code 6 = .ok (.invokevirtual 13, 3) := by decide +kernel
theorem own_pd14 : parseMethodDescriptor "()I" = some ⟨[], some .int⟩ := by decide +kernel
theorem q72 : decode jdk_46_method_10_code 9 = .ok (.invokespecial 63, 3) := by decide +kernel
theorem own_pd15 : parseMethodDescriptor "(Ljava/util/List;I)V" = some ⟨[(.object "java/util/List"), .int], none⟩ := by decide +kernel
theorem q73 : decode jdk_46_method_10_code 12 = .ok (.areturn, 1) := by decide +kernel
theorem own_itr0 (l : Launch) (Z : State) (a0 : Array Value) (hw : ∀ d ∈ tables_1, d.before a0 Z = true) (ws : List Jvm.Cond) (a1 : Addr) (b2 : Addr) (k2 : ClassId) (h0 : Heap) (n0 : Nat) (Z0 : n0 ≤ h0.size) (f0 : Exa Z h0 a1 "java/util/ImmutableCollections$ListN") (f1 : Fld Z h0 a1 "java/util/ImmutableCollections$ListN" "elements" "[Ljava/lang/Object;" (.ref b2)) (f2 : Arv Z h0 b2 k2 (.object "java/lang/Object") (0 : Int32) [] .null)  :
    Con l Z (⟨"java/util/ImmutableCollections$AbstractImmutableList", "iterator", "()Ljava/util/Iterator;"⟩ : MethodName) jdk_46_method_10_code 1 (some (.object "java/util/Iterator")) ({ frames := 2, cells := 1, slots := 4, locals := 27 } : Room) ws #[(.ref a1)] h0 (fun v h L => ∃ it : Addr, (v = some (.ref it)) ∧ (Fr n0 L) ∧ (Keep h0 h []) ∧ (h0.size ≤ it) ∧ (Exa Z h it "java/util/ImmutableCollections$ListItr") ∧ (Fld Z h it "java/util/ImmutableCollections$ListItr" "list" "Ljava/util/List;" (.ref a1)) ∧ (Fld Z h it "java/util/ImmutableCollections$ListItr" "size" "I" (.int (0 : Int32))) ∧ (Fld Z h it "java/util/ImmutableCollections$ListItr" "cursor" "I" (.int (0 : Int32)))) 1 4 := by
  refine Con.of (plainFor_of_name own_pn_ImmutableCollections_AbstractImmutableList) ?_
  intro pgm e s m below meth c s₁ X0 hx hZ hby hml hown hnm hret hlk e0 hs0
  have N0 := Fr.nil n0
  have hown : s.vm.findClass "java/util/ImmutableCollections$AbstractImmutableList" = some m.cls := hown
  have hnm : meth.name = "iterator" := hnm
  refine Go.cast (own_ef_jdk_46_method_10_code_R m a1) ?_
  have K0 := Keep.refl h0 []
  obtain ⟨T101, h101, X101, e101, E101, A101, D101, -, st101⟩ := newO X0 hx hZ hown (hwi hw 101 rfl) (hwi hw 102 rfl) (hwi hw 103 rfl) e0 (g := (mkF m 0 #[vR (a1)] [])) rfl (hb hby q6x) (by decide) (by decide)
  obtain ⟨b101, g101⟩ : ∃ z, z = h0.size := ⟨_, rfl⟩
  rw [← g101] at A101 D101 st101
  have ne102 : a1 ≠ b101 := by have q := f0.lt; intro r; rw [r, g101] at q; exact Nat.lt_irrefl _ q
  have ne103 : b2 ≠ b101 := by have q := f2.lt; intro r; rw [r, g101] at q; exact Nat.lt_irrefl _ q
  have ge101 : n0 ≤ b101 := Nat.le_trans Z0 (Nat.le_of_eq g101.symm)
  have Z101 : n0 ≤ h101.size := Nat.le_trans Z0 E101.1
  have sz101 : h0.size ≤ b101 := Nat.le_trans K0.1 (Nat.le_of_eq g101.symm)
  have K101 := K0.ext E101
  have F104 := f0.ext E101
  have F105 := f1.ext E101
  have F106 := f2.ext E101
  have F107 : Fld Z h101 b101 "java/util/ImmutableCollections$ListItr" "list" "Ljava/util/List;" .null := D101 (Or.inr (hwi hw 119 rfl)) (ty := (.object "java/util/List")) (by decide)
  have F108 : Fld Z h101 b101 "java/util/ImmutableCollections$ListItr" "size" "I" (.int (0 : Int32)) := D101 (Or.inr (hwi hw 121 rfl)) (ty := .int) (by decide)
  have F109 : Fld Z h101 b101 "java/util/ImmutableCollections$ListItr" "cursor" "I" (.int (0 : Int32)) := D101 (Or.inl (hwi hw 123 rfl)) (ty := .int) (by decide)
  have F110 : Fld Z h101 b101 "java/util/ImmutableCollections$ListItr" "isListIterator" "Z" (.int (0 : Int32)) := D101 (Or.inr (hwi hw 125 rfl)) (ty := .boolean) (by decide)
  refine gs m T101 3 #[vR (a1)] [(.ref b101)] st101 ?_
  refine gs m T101 4 #[vR (a1)] [(.ref b101), (.ref b101)] (fun _ k => XS.dup X101.here hx rfl (hb hby q6y) rfl rfl k) ?_
  refine gs m T101 5 #[vR (a1)] [(.ref a1), (.ref b101), (.ref b101)] (fun _ k => XS.aloadN X101.here hx rfl (hb hby q6z) rfl rfl k) ?_
  refine gs m T101 6 #[vR (a1)] [(.ref a1), (.ref a1), (.ref b101), (.ref b101)] (fun _ k => XS.aloadN X101.here hx rfl (hb hby q70) rfl rfl k) ?_
  obtain ⟨cq111, kq111, q111a, q111b, q111c⟩ := isOf hZ e101 F104
  obtain ⟨_, _, ⟨T111, L111, k111, n111⟩, -, X111, ⟨Lc111, hQ111, l111, y111, z111⟩, st111⟩ := X101.virtualBackUp hx (owner := "java/util/AbstractCollection") (x := (⟨"java/util/ImmutableCollections$AbstractImmutableList", "size", "()I"⟩ : MethodName)) (y := (⟨"java/util/ImmutableCollections$ListN", "size", "()I"⟩ : MethodName)) hown (mvT hZ (hwi hw 104 rfl)) (mvT hZ (hwi hw 105 rfl)) (mvT hZ (hwi hw 106 rfl)) (by decide) (mvT hZ (hwi hw 107 rfl)) (mvT hZ (hwi hw 108 rfl)) (backOf (W := 3) (Q := Qret (some (.int (0 : Int32))) h101 n0) (own_siz0 l Z a0 hw [] a1 b2 k2 h101 n0 Z101 F104 F105 F106) hZ (hwi hw 110 rfl) (hwi hw 109 rfl) (by decide) (by decide)) q111a q111c (g := (mkF m 6 #[vR (a1)] [(.ref a1), (.ref a1), (.ref b101), (.ref b101)])) rfl (by rw [hml]; rfl) (Steps.refl _) (argsL := []) (rest := [(.ref a1), (.ref b101), (.ref b101)]) (lenOf own_pd14 rfl) rfl (by show 2 * 0 + _ ≤ _; exact Nat.le_of_eq rfl) (hb hby q71) (fun _ _ => ⟨rfl, e101, (by decide : 1 + 0 ≤ _), (by decide : 4 + 0 ≤ _)⟩)
  dsimp only [Pt.U, Pt.locs, Pt.cells, Pt.slots] at X111 l111 y111 z111 st111 hQ111
  subst l111 y111 z111
  obtain ⟨rfl, N111q, eh111⟩ := hQ111
  have N111 := Fr.app N0 N111q
  refine gs m T111 9 #[vR (a1)] [(.int (0 : Int32)), (.ref a1), (.ref b101), (.ref b101)] (fun _ k => st111.trans k) ?_
  obtain ⟨_, _, ⟨T112, L112, k112, n112⟩, -, X112, ⟨Lc112, hQ112, l112, y112, z112⟩, st112⟩ := X111.specialBack hx (y := (⟨"java/util/ImmutableCollections$ListItr", "<init>", "(Ljava/util/List;I)V"⟩ : MethodName)) rfl hown (mvT hZ (hwi hw 113 rfl)) (mvT hZ (hwi hw 114 rfl)) (mvT hZ (hwi hw 116 rfl)) (by decide) (backOf (W := 1) (Q := fun v h L => (v = none) ∧ (Fr n0 L) ∧ (Keep h101 h [b101]) ∧ (Exa Z h b101 "java/util/ImmutableCollections$ListItr") ∧ (Fld Z h b101 "java/util/ImmutableCollections$ListItr" "list" "Ljava/util/List;" (.ref a1)) ∧ (Fld Z h b101 "java/util/ImmutableCollections$ListItr" "size" "I" (.int (0 : Int32))) ∧ (Fld Z h b101 "java/util/ImmutableCollections$ListItr" "cursor" "I" (.int (0 : Int32)))) (own_lii l Z a0 hw [] b101 a1 (0 : Int32) .null (.int (0 : Int32)) (.int (0 : Int32)) (.int (0 : Int32)) h101 n0 Z101 A101 ge101 F107 F108 F109 F110) hZ (hwi hw 116 rfl) (hwi hw 103 rfl) (by decide) (by decide)) (g := (mkF m 9 #[vR (a1)] [(.int (0 : Int32)), (.ref a1), (.ref b101), (.ref b101)])) rfl (by rw [hml]; rfl) (Steps.refl _) (a := b101) (argsL := [(.ref a1), (.int (0 : Int32))]) (rest := [(.ref b101)]) (lenOf own_pd15 rfl) rfl (by show 2 * 0 + _ ≤ _; exact Nat.le_of_eq rfl) (hb hby q72) (fun _ _ => ⟨rfl, eh111, (by decide : 1 + 0 ≤ _), (by decide : 4 + 0 ≤ _)⟩)
  dsimp only [Pt.U, Pt.locs, Pt.cells, Pt.slots] at X112 l112 y112 z112 st112 hQ112
  subst l112 y112 z112
  obtain ⟨rfl, N112q, K112, P112_0, P112_1, P112_2, P112_3⟩ := hQ112
  have N112 := Fr.app N111 N112q
  have KK112 := K101.trans K112 (allS (Or.inr sz101) all0)
  have Z112 : n0 ≤ T112.heap.size := Nat.le_trans Z101 K112.1
  have F113 := F104.keep K112
  have F114 := F105.keep K112 (ninS ne102 nin0)
  have F115 := F106.keep K112 (ninS ne103 nin0)
  have F116 := A101.keep K112
  refine gs m T112 12 #[vR (a1)] [(.ref b101)] (fun _ k => st112.trans k) ?_
  exact Go.retA X112 hx (t := (.object "java/util/Iterator")) hret rfl hlk rfl (hb hby q73) (⟨b101, rfl, N112, KK112, sz101, P112_0, P112_1, P112_2, P112_3⟩) (by decide) (by decide)
theorem own_ef_jdk_53_method_3_code_R (m : MethodId) (x0 : Addr) : entryFrame m #[(.ref x0)] 1 = mkF m 0 #[vR (x0)] [] := by first | (simp [entryFrame, mkF, argsToLocals, Value.category]; done) | rfl | (simp [entryFrame, mkF, argsToLocals, own_cI, own_cJ, own_cR, own_cN]; done)
theorem q74 : decode jdk_53_method_3_code 0 = .ok (.aload_n 0, 1) := by decide +kernel
theorem q75 : decode jdk_53_method_3_code 1 = .ok (.getfield 17, 3) := by decide +kernel
theorem q76 : decode jdk_53_method_3_code 4 = .ok (.aload_n 0, 1) := by decide +kernel
theorem q77 : decode jdk_53_method_3_code 5 = .ok (.getfield 13, 3) := by decide +kernel
theorem q78 : decode jdk_53_method_3_code 8 = .ok (.if_icmp .eq 7, 3) := by decide +kernel
theorem q79 : decode jdk_53_method_3_code 15 = .ok (.iconst 0, 1) := by decide +kernel
theorem q7a : decode jdk_53_method_3_code 16 = .ok (.ireturn, 1) := by decide +kernel
theorem own_hn0_0 (l : Launch) (Z : State) (a0 : Array Value) (hw : ∀ d ∈ tables_1, d.before a0 Z = true) (ws : List Jvm.Cond) (it : Addr) (a1 : Addr) (h0 : Heap) (n0 : Nat) (Z0 : n0 ≤ h0.size) (f0 : Exa Z h0 it "java/util/ImmutableCollections$ListItr") (f1 : Fld Z h0 it "java/util/ImmutableCollections$ListItr" "list" "Ljava/util/List;" (.ref a1)) (f2 : Fld Z h0 it "java/util/ImmutableCollections$ListItr" "size" "I" (.int (0 : Int32))) (f3 : Fld Z h0 it "java/util/ImmutableCollections$ListItr" "cursor" "I" (.int (0 : Int32)))  :
    Con l Z (⟨"java/util/ImmutableCollections$ListItr", "hasNext", "()Z"⟩ : MethodName) jdk_53_method_3_code 1 (some .boolean) ({ frames := 0, cells := 0, slots := 0, locals := 0 } : Room) ws #[(.ref it)] h0 (Qret (some (.int (0 : Int32))) h0 n0) 0 0 := by
  refine Con.of (plainFor_of_name own_pn_ImmutableCollections_ListItr) ?_
  intro pgm e s m below meth c s₁ X0 hx hZ hby hml hown hnm hret hlk e0 hs0
  have N0 := Fr.nil n0
  have hown : s.vm.findClass "java/util/ImmutableCollections$ListItr" = some m.cls := hown
  have hnm : meth.name = "hasNext" := hnm
  refine Go.cast (own_ef_jdk_53_method_3_code_R m it) ?_
  refine gs m s₁ 1 #[vR (it)] [(.ref it)] (fun _ k => XS.aloadN X0.here hx rfl (hb hby q74) rfl rfl k) ?_
  obtain ⟨T101, X101, e101, st101⟩ := getF X0 hx hZ hown (host := "") (Or.inl (hwi hw 122 rfl)) Via.refl e0 f3 (g := (mkF m 1 #[vR (it)] [(.ref it)])) rfl rfl (hb hby q75)
  refine gs m T101 4 #[vR (it)] [(.int (0 : Int32))] st101 ?_
  refine gs m T101 5 #[vR (it)] [(.ref it), (.int (0 : Int32))] (fun _ k => XS.aloadN X101.here hx rfl (hb hby q76) rfl rfl k) ?_
  obtain ⟨T102, X102, e102, st102⟩ := getF X101 hx hZ hown (host := "") (Or.inl (hwi hw 120 rfl)) Via.refl e101 f2 (g := (mkF m 5 #[vR (it)] [(.ref it), (.int (0 : Int32))])) rfl rfl (hb hby q77)
  refine gs m T102 8 #[vR (it)] [(.int (0 : Int32)), (.int (0 : Int32))] st102 ?_
  refine gs m T102 15 #[vR (it)] [] (fun _ k => XS.icmpYes X102.here hx rfl (pc0 := 8) (pc' := 15) rfl (hb hby q78) rfl (teq (by decide : (0 : Int32) = (0 : Int32))).1 (by decide) (by decide) k) ?_
  refine gs m T102 16 #[vR (it)] [(.int (0 : Int32))] (fun _ k => XS.iconst X102.here hx rfl (hb hby q79) k) ?_
  exact Go.retN X102 hx (t := .boolean) hret hlk (by simp) (hb hby q7a) (⟨rfl, N0, e102⟩) (by decide) (by decide)
theorem own_itr1 (l : Launch) (Z : State) (a0 : Array Value) (hw : ∀ d ∈ tables_1, d.before a0 Z = true) (ws : List Jvm.Cond) (a1 : Addr) (x1 : Addr) (em : Addr) (h0 : Heap) (n0 : Nat) (Z0 : n0 ≤ h0.size) (f0 : Exa Z h0 a1 "java/util/ImmutableCollections$List12") (f1 : Fld Z h0 a1 "java/util/ImmutableCollections$List12" "e0" "Ljava/lang/Object;" (.ref x1)) (f2 : Fld Z h0 a1 "java/util/ImmutableCollections$List12" "e1" "Ljava/lang/Object;" (.ref em)) (f3 : Sta Z h0 "java/util/ImmutableCollections" "EMPTY" "Ljava/lang/Object;" (.ref em))  :
    Con l Z (⟨"java/util/ImmutableCollections$AbstractImmutableList", "iterator", "()Ljava/util/Iterator;"⟩ : MethodName) jdk_46_method_10_code 1 (some (.object "java/util/Iterator")) ({ frames := 2, cells := 1, slots := 4, locals := 27 } : Room) ws #[(.ref a1)] h0 (fun v h L => ∃ it : Addr, (v = some (.ref it)) ∧ (Fr n0 L) ∧ (Keep h0 h []) ∧ (h0.size ≤ it) ∧ (Exa Z h it "java/util/ImmutableCollections$ListItr") ∧ (Fld Z h it "java/util/ImmutableCollections$ListItr" "list" "Ljava/util/List;" (.ref a1)) ∧ (Fld Z h it "java/util/ImmutableCollections$ListItr" "size" "I" (.int (1 : Int32))) ∧ (Fld Z h it "java/util/ImmutableCollections$ListItr" "cursor" "I" (.int (0 : Int32)))) 1 4 := by
  refine Con.of (plainFor_of_name own_pn_ImmutableCollections_AbstractImmutableList) ?_
  intro pgm e s m below meth c s₁ X0 hx hZ hby hml hown hnm hret hlk e0 hs0
  have N0 := Fr.nil n0
  have hown : s.vm.findClass "java/util/ImmutableCollections$AbstractImmutableList" = some m.cls := hown
  have hnm : meth.name = "iterator" := hnm
  refine Go.cast (own_ef_jdk_46_method_10_code_R m a1) ?_
  have K0 := Keep.refl h0 []
  obtain ⟨T101, h101, X101, e101, E101, A101, D101, -, st101⟩ := newO X0 hx hZ hown (hwi hw 101 rfl) (hwi hw 102 rfl) (hwi hw 103 rfl) e0 (g := (mkF m 0 #[vR (a1)] [])) rfl (hb hby q6x) (by decide) (by decide)
  obtain ⟨b101, g101⟩ : ∃ z, z = h0.size := ⟨_, rfl⟩
  rw [← g101] at A101 D101 st101
  have ne102 : a1 ≠ b101 := by have q := f0.lt; intro r; rw [r, g101] at q; exact Nat.lt_irrefl _ q
  have ge101 : n0 ≤ b101 := Nat.le_trans Z0 (Nat.le_of_eq g101.symm)
  have Z101 : n0 ≤ h101.size := Nat.le_trans Z0 E101.1
  have sz101 : h0.size ≤ b101 := Nat.le_trans K0.1 (Nat.le_of_eq g101.symm)
  have K101 := K0.ext E101
  have F103 := f0.ext E101
  have F104 := f1.ext E101
  have F105 := f2.ext E101
  have F106 := f3.ext E101
  have F107 : Fld Z h101 b101 "java/util/ImmutableCollections$ListItr" "list" "Ljava/util/List;" .null := D101 (Or.inr (hwi hw 119 rfl)) (ty := (.object "java/util/List")) (by decide)
  have F108 : Fld Z h101 b101 "java/util/ImmutableCollections$ListItr" "size" "I" (.int (0 : Int32)) := D101 (Or.inr (hwi hw 121 rfl)) (ty := .int) (by decide)
  have F109 : Fld Z h101 b101 "java/util/ImmutableCollections$ListItr" "cursor" "I" (.int (0 : Int32)) := D101 (Or.inl (hwi hw 123 rfl)) (ty := .int) (by decide)
  have F110 : Fld Z h101 b101 "java/util/ImmutableCollections$ListItr" "isListIterator" "Z" (.int (0 : Int32)) := D101 (Or.inr (hwi hw 125 rfl)) (ty := .boolean) (by decide)
  refine gs m T101 3 #[vR (a1)] [(.ref b101)] st101 ?_
  refine gs m T101 4 #[vR (a1)] [(.ref b101), (.ref b101)] (fun _ k => XS.dup X101.here hx rfl (hb hby q6y) rfl rfl k) ?_
  refine gs m T101 5 #[vR (a1)] [(.ref a1), (.ref b101), (.ref b101)] (fun _ k => XS.aloadN X101.here hx rfl (hb hby q6z) rfl rfl k) ?_
  refine gs m T101 6 #[vR (a1)] [(.ref a1), (.ref a1), (.ref b101), (.ref b101)] (fun _ k => XS.aloadN X101.here hx rfl (hb hby q70) rfl rfl k) ?_
  obtain ⟨cq111, kq111, q111a, q111b, q111c⟩ := isOf hZ e101 F103
  obtain ⟨_, _, ⟨T111, L111, k111, n111⟩, -, X111, ⟨Lc111, hQ111, l111, y111, z111⟩, st111⟩ := X101.virtualBackUp hx (owner := "java/util/AbstractCollection") (x := (⟨"java/util/ImmutableCollections$AbstractImmutableList", "size", "()I"⟩ : MethodName)) (y := (⟨"java/util/ImmutableCollections$List12", "size", "()I"⟩ : MethodName)) hown (mvT hZ (hwi hw 104 rfl)) (mvT hZ (hwi hw 105 rfl)) (mvT hZ (hwi hw 106 rfl)) (by decide) (mvT hZ (hwi hw 289 rfl)) (mvT hZ (hwi hw 290 rfl)) (backOf (W := 3) (Q := Qret (some (.int (1 : Int32))) h101 n0) (own_siz1 l Z a0 hw [] a1 x1 em h101 n0 Z101 F103 F104 F105 F106) hZ (hwi hw 291 rfl) (hwi hw 271 rfl) (by decide) (by decide)) q111a q111c (g := (mkF m 6 #[vR (a1)] [(.ref a1), (.ref a1), (.ref b101), (.ref b101)])) rfl (by rw [hml]; rfl) (Steps.refl _) (argsL := []) (rest := [(.ref a1), (.ref b101), (.ref b101)]) (lenOf own_pd14 rfl) rfl (by show 2 * 0 + _ ≤ _; exact Nat.le_of_eq rfl) (hb hby q71) (fun _ _ => ⟨rfl, e101, (by decide : 1 + 0 ≤ _), (by decide : 4 + 0 ≤ _)⟩)
  dsimp only [Pt.U, Pt.locs, Pt.cells, Pt.slots] at X111 l111 y111 z111 st111 hQ111
  subst l111 y111 z111
  obtain ⟨rfl, N111q, eh111⟩ := hQ111
  have N111 := Fr.app N0 N111q
  refine gs m T111 9 #[vR (a1)] [(.int (1 : Int32)), (.ref a1), (.ref b101), (.ref b101)] (fun _ k => st111.trans k) ?_
  obtain ⟨_, _, ⟨T112, L112, k112, n112⟩, -, X112, ⟨Lc112, hQ112, l112, y112, z112⟩, st112⟩ := X111.specialBack hx (y := (⟨"java/util/ImmutableCollections$ListItr", "<init>", "(Ljava/util/List;I)V"⟩ : MethodName)) rfl hown (mvT hZ (hwi hw 113 rfl)) (mvT hZ (hwi hw 114 rfl)) (mvT hZ (hwi hw 116 rfl)) (by decide) (backOf (W := 1) (Q := fun v h L => (v = none) ∧ (Fr n0 L) ∧ (Keep h101 h [b101]) ∧ (Exa Z h b101 "java/util/ImmutableCollections$ListItr") ∧ (Fld Z h b101 "java/util/ImmutableCollections$ListItr" "list" "Ljava/util/List;" (.ref a1)) ∧ (Fld Z h b101 "java/util/ImmutableCollections$ListItr" "size" "I" (.int (1 : Int32))) ∧ (Fld Z h b101 "java/util/ImmutableCollections$ListItr" "cursor" "I" (.int (0 : Int32)))) (own_lii l Z a0 hw [] b101 a1 (1 : Int32) .null (.int (0 : Int32)) (.int (0 : Int32)) (.int (0 : Int32)) h101 n0 Z101 A101 ge101 F107 F108 F109 F110) hZ (hwi hw 116 rfl) (hwi hw 103 rfl) (by decide) (by decide)) (g := (mkF m 9 #[vR (a1)] [(.int (1 : Int32)), (.ref a1), (.ref b101), (.ref b101)])) rfl (by rw [hml]; rfl) (Steps.refl _) (a := b101) (argsL := [(.ref a1), (.int (1 : Int32))]) (rest := [(.ref b101)]) (lenOf own_pd15 rfl) rfl (by show 2 * 0 + _ ≤ _; exact Nat.le_of_eq rfl) (hb hby q72) (fun _ _ => ⟨rfl, eh111, (by decide : 1 + 0 ≤ _), (by decide : 4 + 0 ≤ _)⟩)
  dsimp only [Pt.U, Pt.locs, Pt.cells, Pt.slots] at X112 l112 y112 z112 st112 hQ112
  subst l112 y112 z112
  obtain ⟨rfl, N112q, K112, P112_0, P112_1, P112_2, P112_3⟩ := hQ112
  have N112 := Fr.app N111 N112q
  have KK112 := K101.trans K112 (allS (Or.inr sz101) all0)
  have Z112 : n0 ≤ T112.heap.size := Nat.le_trans Z101 K112.1
  have F113 := F103.keep K112
  have F114 := F104.keep K112 (ninS ne102 nin0)
  have F115 := F105.keep K112 (ninS ne102 nin0)
  have F116 := own_sta_keep F106 K112 (allS (own_plain A101) all0)
  have F117 := A101.keep K112
  refine gs m T112 12 #[vR (a1)] [(.ref b101)] (fun _ k => st112.trans k) ?_
  exact Go.retA X112 hx (t := (.object "java/util/Iterator")) hret rfl hlk rfl (hb hby q73) (⟨b101, rfl, N112, KK112, sz101, P112_0, P112_1, P112_2, P112_3⟩) (by decide) (by decide)
theorem q7b : decode jdk_53_method_3_code 11 = .ok (.iconst 1, 1) := by decide +kernel
theorem q7c : decode jdk_53_method_3_code 12 = .ok (.goto 4, 3) := by decide +kernel
theorem own_hn1_0 (l : Launch) (Z : State) (a0 : Array Value) (hw : ∀ d ∈ tables_1, d.before a0 Z = true) (ws : List Jvm.Cond) (it : Addr) (a1 : Addr) (h0 : Heap) (n0 : Nat) (Z0 : n0 ≤ h0.size) (f0 : Exa Z h0 it "java/util/ImmutableCollections$ListItr") (f1 : Fld Z h0 it "java/util/ImmutableCollections$ListItr" "list" "Ljava/util/List;" (.ref a1)) (f2 : Fld Z h0 it "java/util/ImmutableCollections$ListItr" "size" "I" (.int (1 : Int32))) (f3 : Fld Z h0 it "java/util/ImmutableCollections$ListItr" "cursor" "I" (.int (0 : Int32)))  :
    Con l Z (⟨"java/util/ImmutableCollections$ListItr", "hasNext", "()Z"⟩ : MethodName) jdk_53_method_3_code 1 (some .boolean) ({ frames := 0, cells := 0, slots := 0, locals := 0 } : Room) ws #[(.ref it)] h0 (Qret (some (.int (1 : Int32))) h0 n0) 0 0 := by
  refine Con.of (plainFor_of_name own_pn_ImmutableCollections_ListItr) ?_
  intro pgm e s m below meth c s₁ X0 hx hZ hby hml hown hnm hret hlk e0 hs0
  have N0 := Fr.nil n0
  have hown : s.vm.findClass "java/util/ImmutableCollections$ListItr" = some m.cls := hown
  have hnm : meth.name = "hasNext" := hnm
  refine Go.cast (own_ef_jdk_53_method_3_code_R m it) ?_
  refine gs m s₁ 1 #[vR (it)] [(.ref it)] (fun _ k => XS.aloadN X0.here hx rfl (hb hby q74) rfl rfl k) ?_
  obtain ⟨T101, X101, e101, st101⟩ := getF X0 hx hZ hown (host := "") (Or.inl (hwi hw 122 rfl)) Via.refl e0 f3 (g := (mkF m 1 #[vR (it)] [(.ref it)])) rfl rfl (hb hby q75)
  refine gs m T101 4 #[vR (it)] [(.int (0 : Int32))] st101 ?_
  refine gs m T101 5 #[vR (it)] [(.ref it), (.int (0 : Int32))] (fun _ k => XS.aloadN X101.here hx rfl (hb hby q76) rfl rfl k) ?_
  obtain ⟨T102, X102, e102, st102⟩ := getF X101 hx hZ hown (host := "") (Or.inl (hwi hw 120 rfl)) Via.refl e101 f2 (g := (mkF m 5 #[vR (it)] [(.ref it), (.int (0 : Int32))])) rfl rfl (hb hby q77)
  refine gs m T102 8 #[vR (it)] [(.int (1 : Int32)), (.int (0 : Int32))] st102 ?_
  refine gs m T102 11 #[vR (it)] [] (fun _ k => XS.icmpNo X102.here hx rfl (hb hby q78) rfl (feq (by decide : ¬ ((0 : Int32) = (1 : Int32)))).1 k) ?_
  refine gs m T102 12 #[vR (it)] [(.int (1 : Int32))] (fun _ k => XS.iconst X102.here hx rfl (hb hby q7b) k) ?_
  refine gs m T102 16 #[vR (it)] [(.int (1 : Int32))] (fun _ k => XS.goto X102.here hx rfl (pc0 := 12) (pc' := 16) rfl (hb hby q7c) (by decide) (by decide) k) ?_
  exact Go.retN X102 hx (t := .boolean) hret hlk (by simp) (hb hby q7a) (⟨rfl, N0, e102⟩) (by decide) (by decide)
theorem own_ef_jdk_53_method_4_code_R (m : MethodId) (x0 : Addr) : entryFrame m #[(.ref x0)] 3 = mkF m 0 #[vR (x0), sU, sU] [] := by first | (simp [entryFrame, mkF, argsToLocals, Value.category]; done) | rfl | (simp [entryFrame, mkF, argsToLocals, own_cI, own_cJ, own_cR, own_cN]; done)
theorem q7d : decode jdk_53_method_4_code 0 = .ok (.aload_n 0, 1) := by decide +kernel
theorem q7e : decode jdk_53_method_4_code 1 = .ok (.getfield 17, 3) := by decide +kernel
theorem q7f : decode jdk_53_method_4_code 4 = .ok (.istore_n 1, 1) := by decide +kernel
theorem q7g : decode jdk_53_method_4_code 5 = .ok (.aload_n 0, 1) := by decide +kernel
theorem q7h : decode jdk_53_method_4_code 6 = .ok (.getfield 7, 3) := by decide +kernel
theorem q7i : decode jdk_53_method_4_code 9 = .ok (.iload_n 1, 1) := by decide +kernel
theorem q7j : decode jdk_53_method_4_code 10 = .ok (.invokeinterface 24 2, 5) := by decide +kernel
theorem own_pd16 : parseMethodDescriptor "(I)Ljava/lang/Object;" = some ⟨[.int], some (.object "java/lang/Object")⟩ := by decide +kernel
theorem q7k : decode jdk_53_method_4_code 15 = .ok (.astore_n 2, 1) := by decide +kernel
theorem q7l : decode jdk_53_method_4_code 16 = .ok (.aload_n 0, 1) := by decide +kernel
theorem q7m : decode jdk_53_method_4_code 17 = .ok (.iload_n 1, 1) := by decide +kernel
theorem q7n : decode jdk_53_method_4_code 18 = .ok (.iconst 1, 1) := by decide +kernel
theorem q7o : decode jdk_53_method_4_code 19 = .ok (.iadd, 1) := by decide +kernel
theorem q7p : decode jdk_53_method_4_code 20 = .ok (.putfield 17, 3) := by decide +kernel
theorem q7q : decode jdk_53_method_4_code 23 = .ok (.aload_n 2, 1) := by decide +kernel
theorem q7r : decode jdk_53_method_4_code 24 = .ok (.areturn, 1) := by decide +kernel
theorem own_nx1_0 (l : Launch) (Z : State) (a0 : Array Value) (hw : ∀ d ∈ tables_1, d.before a0 Z = true) (ws : List Jvm.Cond) (it : Addr) (a1 : Addr) (x1 : Addr) (em : Addr) (h0 : Heap) (n0 : Nat) (Z0 : n0 ≤ h0.size) (f0 : Exa Z h0 it "java/util/ImmutableCollections$ListItr") (f1 : Fld Z h0 it "java/util/ImmutableCollections$ListItr" "list" "Ljava/util/List;" (.ref a1)) (f2 : Fld Z h0 it "java/util/ImmutableCollections$ListItr" "size" "I" (.int (1 : Int32))) (f3 : Fld Z h0 it "java/util/ImmutableCollections$ListItr" "cursor" "I" (.int (0 : Int32))) (f4 : n0 ≤ it) (f5 : Exa Z h0 a1 "java/util/ImmutableCollections$List12") (f6 : Fld Z h0 a1 "java/util/ImmutableCollections$List12" "e0" "Ljava/lang/Object;" (.ref x1)) (f7 : Fld Z h0 a1 "java/util/ImmutableCollections$List12" "e1" "Ljava/lang/Object;" (.ref em)) (f8 : Sta Z h0 "java/util/ImmutableCollections" "EMPTY" "Ljava/lang/Object;" (.ref em)) (f9 : a1 ≠ it)  :
    ConH [((0 : Nat), (24 : Nat), (25 : Nat), (30 : Nat))] l Z (⟨"java/util/ImmutableCollections$ListItr", "next", "()Ljava/lang/Object;"⟩ : MethodName) jdk_53_method_4_code 3 (some (.object "java/lang/Object")) ({ frames := 1, cells := 0, slots := 0, locals := 13 } : Room) ws #[(.ref it)] h0 (fun v h L => (v = some (.ref x1)) ∧ (Fr n0 L) ∧ (Keep h0 h [it]) ∧ (Exa Z h it "java/util/ImmutableCollections$ListItr") ∧ (Fld Z h it "java/util/ImmutableCollections$ListItr" "list" "Ljava/util/List;" (.ref a1)) ∧ (Fld Z h it "java/util/ImmutableCollections$ListItr" "size" "I" (.int (1 : Int32))) ∧ (Fld Z h it "java/util/ImmutableCollections$ListItr" "cursor" "I" (.int (1 : Int32)))) 0 0 := by
  refine ConH.of (plainFor_of_name own_pn_ImmutableCollections_ListItr) ?_
  intro pgm e s m below meth c s₁ X0 hx hZ hby hml hown hnm hret hlk e0 hs0
  have N0 := Fr.nil n0
  have hown : s.vm.findClass "java/util/ImmutableCollections$ListItr" = some m.cls := hown
  have hnm : meth.name = "next" := hnm
  refine Go.cast (own_ef_jdk_53_method_4_code_R m it) ?_
  have K0 := Keep.refl h0 [it]
  refine gs m s₁ 1 #[vR (it), sU, sU] [(.ref it)] (fun _ k => XS.aloadN X0.here hx rfl (hb hby q7d) rfl rfl k) ?_
  obtain ⟨T101, X101, e101, st101⟩ := getF X0 hx hZ hown (host := "") (Or.inl (hwi hw 122 rfl)) Via.refl e0 f3 (g := (mkF m 1 #[vR (it), sU, sU] [(.ref it)])) rfl rfl (hb hby q7e)
  refine gs m T101 4 #[vR (it), sU, sU] [(.int (0 : Int32))] st101 ?_
  refine gs m T101 5 #[vR (it), vI ((0 : Int32)), sU] [] (fun _ k => XS.istoreN X101.here hx rfl (hb hby q7f) rfl (l' := #[vR (it), vI ((0 : Int32)), sU]) rfl k) ?_
  refine gs m T101 6 #[vR (it), vI ((0 : Int32)), sU] [(.ref it)] (fun _ k => XS.aloadN X101.here hx rfl (hb hby q7g) rfl rfl k) ?_
  obtain ⟨T102, X102, e102, st102⟩ := getF X101 hx hZ hown (host := "") (Or.inl (hwi hw 118 rfl)) Via.refl e101 f1 (g := (mkF m 6 #[vR (it), vI ((0 : Int32)), sU] [(.ref it)])) rfl rfl (hb hby q7h)
  refine gs m T102 9 #[vR (it), vI ((0 : Int32)), sU] [(.ref a1)] st102 ?_
  refine gs m T102 10 #[vR (it), vI ((0 : Int32)), sU] [(.int (0 : Int32)), (.ref a1)] (fun _ k => XS.iloadN X102.here hx rfl (hb hby q7i) rfl  k) ?_
  obtain ⟨cq103, kq103, q103a, q103b, q103c⟩ := isOf hZ e102 f5
  obtain ⟨_, _, ⟨T103, L103, k103, n103⟩, -, X103, ⟨Lc103, hQ103, l103, y103, z103⟩, st103⟩ := X102.interfaceBack hx (xi := (⟨"java/util/List", "get", "(I)Ljava/lang/Object;"⟩ : MethodName)) (y := (⟨"java/util/ImmutableCollections$List12", "get", "(I)Ljava/lang/Object;"⟩ : MethodName)) hown (mvT hZ (hwi hw 255 rfl)) (mvT hZ (hwi hw 256 rfl)) (mvT hZ (hwi hw 257 rfl)) (mvT hZ (hwi hw 292 rfl)) (mvT hZ (hwi hw 293 rfl)) (mvT hZ (hwi hw 294 rfl)) (mvT hZ (hwi hw 295 rfl)) (mvT hZ (hwi hw 288 rfl)) (by decide) (backOf (W := 0) (Q := Qret (some (.ref x1)) h0 n0) (own_get1_0 l Z a0 hw [] a1 x1 em h0 n0 Z0 f5 f6 f7 f8) hZ (hwi hw 296 rfl) (hwi hw 271 rfl) (by decide) (by decide)) q103a q103b q103c (g := (mkF m 10 #[vR (it), vI ((0 : Int32)), sU] [(.int (0 : Int32)), (.ref a1)])) rfl (by rw [hml]; rfl) (Steps.refl _) (argsL := [(.int (0 : Int32))]) (rest := []) (lenOf own_pd16 rfl) rfl (by show 2 * 0 + _ ≤ _; exact Nat.le_of_eq rfl) (hb hby q7j) (fun _ _ => ⟨rfl, e102, (by decide : 0 + 0 ≤ _), (by decide : 0 + 0 ≤ _)⟩)
  dsimp only [Pt.U, Pt.locs, Pt.cells, Pt.slots] at X103 l103 y103 z103 st103 hQ103
  subst l103 y103 z103
  obtain ⟨rfl, N103q, eh103⟩ := hQ103
  have N103 := Fr.app N0 N103q
  refine gs m T103 15 #[vR (it), vI ((0 : Int32)), sU] [(.ref x1)] (fun _ k => st103.trans k) ?_
  refine gs m T103 16 #[vR (it), vI ((0 : Int32)), vR (x1)] [] (fun _ k => XS.astoreN X103.here hx rfl (hb hby q7k) rfl rfl (l' := #[vR (it), vI ((0 : Int32)), vR (x1)]) rfl k) ?_
  refine gs m T103 17 #[vR (it), vI ((0 : Int32)), vR (x1)] [(.ref it)] (fun _ k => XS.aloadN X103.here hx rfl (hb hby q7l) rfl rfl k) ?_
  refine gs m T103 18 #[vR (it), vI ((0 : Int32)), vR (x1)] [(.int (0 : Int32)), (.ref it)] (fun _ k => XS.iloadN X103.here hx rfl (hb hby q7m) rfl  k) ?_
  refine gs m T103 19 #[vR (it), vI ((0 : Int32)), vR (x1)] [(.int (1 : Int32)), (.int (0 : Int32)), (.ref it)] (fun _ k => XS.iconst X103.here hx rfl (hb hby q7n) k) ?_
  refine gs m T103 20 #[vR (it), vI ((0 : Int32)), vR (x1)] [(.int (1 : Int32)), (.ref it)] (fun _ k => XS.iadd X103.here hx rfl (hb hby q7o) rfl k) ?_
  obtain ⟨T104, h104, X104, e104, W104, st104⟩ := putF X103 hx hZ hown (host := "") (Or.inl (hwi hw 122 rfl)) Via.refl eh103 f3 f0 (Or.inl (hwi hw 123 rfl)) (hwi hw 102 rfl) (ty := .int) (by decide) rfl rfl (g := (mkF m 20 #[vR (it), vI ((0 : Int32)), vR (x1)] [(.int (1 : Int32)), (.ref it)])) rfl rfl (hb hby q7p)
  have N104 := Fr.snoc X104 N103 f4
  have Z104 : n0 ≤ h104.size := Nat.le_trans Z0 (Keep.of_wr W104).1
  have K104 := K0.wr W104 (Or.inl (List.mem_of_getElem? (i := 0) rfl))
  have F105 := f0.wr W104
  have F106 := f1.other W104 (Or.inr (slot_ne (Or.inr (hwi hw 119 rfl)) (Or.inl (hwi hw 123 rfl)) (by decide) (t := (.object "java/util/List")) (t' := .int) (by decide) (by decide)))
  have F107 := f2.other W104 (Or.inr (slot_ne (Or.inr (hwi hw 121 rfl)) (Or.inl (hwi hw 123 rfl)) (by decide) (t := .int) (t' := .int) (by decide) (by decide)))
  have F108 := f5.wr W104
  have F109 := f6.other W104 (Or.inl f9)
  have F110 := f7.other W104 (Or.inl f9)
  have F111 := f8.wr W104
  have F112 := f3.same W104
  refine gs m T104 23 #[vR (it), vI ((0 : Int32)), vR (x1)] [] st104 ?_
  refine gs m T104 24 #[vR (it), vI ((0 : Int32)), vR (x1)] [(.ref x1)] (fun _ k => XS.aloadN X104.here hx rfl (hb hby q7q) rfl rfl k) ?_
  exact Go.retA X104 hx (t := (.object "java/lang/Object")) hret rfl hlk rfl (hb hby q7r) (by rw [e104]; exact ⟨rfl, N104, K104, F105, F106, F107, F112⟩) (by decide) (by decide)
theorem own_hn1_1 (l : Launch) (Z : State) (a0 : Array Value) (hw : ∀ d ∈ tables_1, d.before a0 Z = true) (ws : List Jvm.Cond) (it : Addr) (a1 : Addr) (h0 : Heap) (n0 : Nat) (Z0 : n0 ≤ h0.size) (f0 : Exa Z h0 it "java/util/ImmutableCollections$ListItr") (f1 : Fld Z h0 it "java/util/ImmutableCollections$ListItr" "list" "Ljava/util/List;" (.ref a1)) (f2 : Fld Z h0 it "java/util/ImmutableCollections$ListItr" "size" "I" (.int (1 : Int32))) (f3 : Fld Z h0 it "java/util/ImmutableCollections$ListItr" "cursor" "I" (.int (1 : Int32)))  :
    Con l Z (⟨"java/util/ImmutableCollections$ListItr", "hasNext", "()Z"⟩ : MethodName) jdk_53_method_3_code 1 (some .boolean) ({ frames := 0, cells := 0, slots := 0, locals := 0 } : Room) ws #[(.ref it)] h0 (Qret (some (.int (0 : Int32))) h0 n0) 0 0 := by
  refine Con.of (plainFor_of_name own_pn_ImmutableCollections_ListItr) ?_
  intro pgm e s m below meth c s₁ X0 hx hZ hby hml hown hnm hret hlk e0 hs0
  have N0 := Fr.nil n0
  have hown : s.vm.findClass "java/util/ImmutableCollections$ListItr" = some m.cls := hown
  have hnm : meth.name = "hasNext" := hnm
  refine Go.cast (own_ef_jdk_53_method_3_code_R m it) ?_
  refine gs m s₁ 1 #[vR (it)] [(.ref it)] (fun _ k => XS.aloadN X0.here hx rfl (hb hby q74) rfl rfl k) ?_
  obtain ⟨T101, X101, e101, st101⟩ := getF X0 hx hZ hown (host := "") (Or.inl (hwi hw 122 rfl)) Via.refl e0 f3 (g := (mkF m 1 #[vR (it)] [(.ref it)])) rfl rfl (hb hby q75)
  refine gs m T101 4 #[vR (it)] [(.int (1 : Int32))] st101 ?_
  refine gs m T101 5 #[vR (it)] [(.ref it), (.int (1 : Int32))] (fun _ k => XS.aloadN X101.here hx rfl (hb hby q76) rfl rfl k) ?_
  obtain ⟨T102, X102, e102, st102⟩ := getF X101 hx hZ hown (host := "") (Or.inl (hwi hw 120 rfl)) Via.refl e101 f2 (g := (mkF m 5 #[vR (it)] [(.ref it), (.int (1 : Int32))])) rfl rfl (hb hby q77)
  refine gs m T102 8 #[vR (it)] [(.int (1 : Int32)), (.int (1 : Int32))] st102 ?_
  refine gs m T102 15 #[vR (it)] [] (fun _ k => XS.icmpYes X102.here hx rfl (pc0 := 8) (pc' := 15) rfl (hb hby q78) rfl (teq (by decide : (1 : Int32) = (1 : Int32))).1 (by decide) (by decide) k) ?_
  refine gs m T102 16 #[vR (it)] [(.int (0 : Int32))] (fun _ k => XS.iconst X102.here hx rfl (hb hby q79) k) ?_
  exact Go.retN X102 hx (t := .boolean) hret hlk (by simp) (hb hby q7a) (⟨rfl, N0, e102⟩) (by decide) (by decide)
theorem own_itr2 (l : Launch) (Z : State) (a0 : Array Value) (hw : ∀ d ∈ tables_1, d.before a0 Z = true) (ws : List Jvm.Cond) (a1 : Addr) (x1 : Addr) (x2 : Addr) (em : Addr) (h0 : Heap) (n0 : Nat) (Z0 : n0 ≤ h0.size) (f0 : Exa Z h0 a1 "java/util/ImmutableCollections$List12") (f1 : Fld Z h0 a1 "java/util/ImmutableCollections$List12" "e0" "Ljava/lang/Object;" (.ref x1)) (f2 : Fld Z h0 a1 "java/util/ImmutableCollections$List12" "e1" "Ljava/lang/Object;" (.ref x2)) (f3 : Sta Z h0 "java/util/ImmutableCollections" "EMPTY" "Ljava/lang/Object;" (.ref em)) (f4 : x2 ≠ em)  :
    Con l Z (⟨"java/util/ImmutableCollections$AbstractImmutableList", "iterator", "()Ljava/util/Iterator;"⟩ : MethodName) jdk_46_method_10_code 1 (some (.object "java/util/Iterator")) ({ frames := 2, cells := 1, slots := 4, locals := 27 } : Room) ws #[(.ref a1)] h0 (fun v h L => ∃ it : Addr, (v = some (.ref it)) ∧ (Fr n0 L) ∧ (Keep h0 h []) ∧ (h0.size ≤ it) ∧ (Exa Z h it "java/util/ImmutableCollections$ListItr") ∧ (Fld Z h it "java/util/ImmutableCollections$ListItr" "list" "Ljava/util/List;" (.ref a1)) ∧ (Fld Z h it "java/util/ImmutableCollections$ListItr" "size" "I" (.int (2 : Int32))) ∧ (Fld Z h it "java/util/ImmutableCollections$ListItr" "cursor" "I" (.int (0 : Int32)))) 1 4 := by
  refine Con.of (plainFor_of_name own_pn_ImmutableCollections_AbstractImmutableList) ?_
  intro pgm e s m below meth c s₁ X0 hx hZ hby hml hown hnm hret hlk e0 hs0
  have N0 := Fr.nil n0
  have hown : s.vm.findClass "java/util/ImmutableCollections$AbstractImmutableList" = some m.cls := hown
  have hnm : meth.name = "iterator" := hnm
  refine Go.cast (own_ef_jdk_46_method_10_code_R m a1) ?_
  have K0 := Keep.refl h0 []
  obtain ⟨T101, h101, X101, e101, E101, A101, D101, -, st101⟩ := newO X0 hx hZ hown (hwi hw 101 rfl) (hwi hw 102 rfl) (hwi hw 103 rfl) e0 (g := (mkF m 0 #[vR (a1)] [])) rfl (hb hby q6x) (by decide) (by decide)
  obtain ⟨b101, g101⟩ : ∃ z, z = h0.size := ⟨_, rfl⟩
  rw [← g101] at A101 D101 st101
  have ne102 : a1 ≠ b101 := by have q := f0.lt; intro r; rw [r, g101] at q; exact Nat.lt_irrefl _ q
  have ge101 : n0 ≤ b101 := Nat.le_trans Z0 (Nat.le_of_eq g101.symm)
  have Z101 : n0 ≤ h101.size := Nat.le_trans Z0 E101.1
  have sz101 : h0.size ≤ b101 := Nat.le_trans K0.1 (Nat.le_of_eq g101.symm)
  have K101 := K0.ext E101
  have F103 := f0.ext E101
  have F104 := f1.ext E101
  have F105 := f2.ext E101
  have F106 := f3.ext E101
  have F107 : Fld Z h101 b101 "java/util/ImmutableCollections$ListItr" "list" "Ljava/util/List;" .null := D101 (Or.inr (hwi hw 119 rfl)) (ty := (.object "java/util/List")) (by decide)
  have F108 : Fld Z h101 b101 "java/util/ImmutableCollections$ListItr" "size" "I" (.int (0 : Int32)) := D101 (Or.inr (hwi hw 121 rfl)) (ty := .int) (by decide)
  have F109 : Fld Z h101 b101 "java/util/ImmutableCollections$ListItr" "cursor" "I" (.int (0 : Int32)) := D101 (Or.inl (hwi hw 123 rfl)) (ty := .int) (by decide)
  have F110 : Fld Z h101 b101 "java/util/ImmutableCollections$ListItr" "isListIterator" "Z" (.int (0 : Int32)) := D101 (Or.inr (hwi hw 125 rfl)) (ty := .boolean) (by decide)
  refine gs m T101 3 #[vR (a1)] [(.ref b101)] st101 ?_
  refine gs m T101 4 #[vR (a1)] [(.ref b101), (.ref b101)] (fun _ k => XS.dup X101.here hx rfl (hb hby q6y) rfl rfl k) ?_
  refine gs m T101 5 #[vR (a1)] [(.ref a1), (.ref b101), (.ref b101)] (fun _ k => XS.aloadN X101.here hx rfl (hb hby q6z) rfl rfl k) ?_
  refine gs m T101 6 #[vR (a1)] [(.ref a1), (.ref a1), (.ref b101), (.ref b101)] (fun _ k => XS.aloadN X101.here hx rfl (hb hby q70) rfl rfl k) ?_
  obtain ⟨cq111, kq111, q111a, q111b, q111c⟩ := isOf hZ e101 F103
  obtain ⟨_, _, ⟨T111, L111, k111, n111⟩, -, X111, ⟨Lc111, hQ111, l111, y111, z111⟩, st111⟩ := X101.virtualBackUp hx (owner := "java/util/AbstractCollection") (x := (⟨"java/util/ImmutableCollections$AbstractImmutableList", "size", "()I"⟩ : MethodName)) (y := (⟨"java/util/ImmutableCollections$List12", "size", "()I"⟩ : MethodName)) hown (mvT hZ (hwi hw 104 rfl)) (mvT hZ (hwi hw 105 rfl)) (mvT hZ (hwi hw 106 rfl)) (by decide) (mvT hZ (hwi hw 289 rfl)) (mvT hZ (hwi hw 290 rfl)) (backOf (W := 3) (Q := Qret (some (.int (2 : Int32))) h101 n0) (own_siz2 l Z a0 hw [] a1 x1 x2 em h101 n0 Z101 F103 F104 F105 F106 f4) hZ (hwi hw 291 rfl) (hwi hw 271 rfl) (by decide) (by decide)) q111a q111c (g := (mkF m 6 #[vR (a1)] [(.ref a1), (.ref a1), (.ref b101), (.ref b101)])) rfl (by rw [hml]; rfl) (Steps.refl _) (argsL := []) (rest := [(.ref a1), (.ref b101), (.ref b101)]) (lenOf own_pd14 rfl) rfl (by show 2 * 0 + _ ≤ _; exact Nat.le_of_eq rfl) (hb hby q71) (fun _ _ => ⟨rfl, e101, (by decide : 1 + 0 ≤ _), (by decide : 4 + 0 ≤ _)⟩)
  dsimp only [Pt.U, Pt.locs, Pt.cells, Pt.slots] at X111 l111 y111 z111 st111 hQ111
  subst l111 y111 z111
  obtain ⟨rfl, N111q, eh111⟩ := hQ111
  have N111 := Fr.app N0 N111q
  refine gs m T111 9 #[vR (a1)] [(.int (2 : Int32)), (.ref a1), (.ref b101), (.ref b101)] (fun _ k => st111.trans k) ?_
  obtain ⟨_, _, ⟨T112, L112, k112, n112⟩, -, X112, ⟨Lc112, hQ112, l112, y112, z112⟩, st112⟩ := X111.specialBack hx (y := (⟨"java/util/ImmutableCollections$ListItr", "<init>", "(Ljava/util/List;I)V"⟩ : MethodName)) rfl hown (mvT hZ (hwi hw 113 rfl)) (mvT hZ (hwi hw 114 rfl)) (mvT hZ (hwi hw 116 rfl)) (by decide) (backOf (W := 1) (Q := fun v h L => (v = none) ∧ (Fr n0 L) ∧ (Keep h101 h [b101]) ∧ (Exa Z h b101 "java/util/ImmutableCollections$ListItr") ∧ (Fld Z h b101 "java/util/ImmutableCollections$ListItr" "list" "Ljava/util/List;" (.ref a1)) ∧ (Fld Z h b101 "java/util/ImmutableCollections$ListItr" "size" "I" (.int (2 : Int32))) ∧ (Fld Z h b101 "java/util/ImmutableCollections$ListItr" "cursor" "I" (.int (0 : Int32)))) (own_lii l Z a0 hw [] b101 a1 (2 : Int32) .null (.int (0 : Int32)) (.int (0 : Int32)) (.int (0 : Int32)) h101 n0 Z101 A101 ge101 F107 F108 F109 F110) hZ (hwi hw 116 rfl) (hwi hw 103 rfl) (by decide) (by decide)) (g := (mkF m 9 #[vR (a1)] [(.int (2 : Int32)), (.ref a1), (.ref b101), (.ref b101)])) rfl (by rw [hml]; rfl) (Steps.refl _) (a := b101) (argsL := [(.ref a1), (.int (2 : Int32))]) (rest := [(.ref b101)]) (lenOf own_pd15 rfl) rfl (by show 2 * 0 + _ ≤ _; exact Nat.le_of_eq rfl) (hb hby q72) (fun _ _ => ⟨rfl, eh111, (by decide : 1 + 0 ≤ _), (by decide : 4 + 0 ≤ _)⟩)
  dsimp only [Pt.U, Pt.locs, Pt.cells, Pt.slots] at X112 l112 y112 z112 st112 hQ112
  subst l112 y112 z112
  obtain ⟨rfl, N112q, K112, P112_0, P112_1, P112_2, P112_3⟩ := hQ112
  have N112 := Fr.app N111 N112q
  have KK112 := K101.trans K112 (allS (Or.inr sz101) all0)
  have Z112 : n0 ≤ T112.heap.size := Nat.le_trans Z101 K112.1
  have F113 := F103.keep K112
  have F114 := F104.keep K112 (ninS ne102 nin0)
  have F115 := F105.keep K112 (ninS ne102 nin0)
  have F116 := own_sta_keep F106 K112 (allS (own_plain A101) all0)
  have F117 := A101.keep K112
  refine gs m T112 12 #[vR (a1)] [(.ref b101)] (fun _ k => st112.trans k) ?_
  exact Go.retA X112 hx (t := (.object "java/util/Iterator")) hret rfl hlk rfl (hb hby q73) (⟨b101, rfl, N112, KK112, sz101, P112_0, P112_1, P112_2, P112_3⟩) (by decide) (by decide)
theorem own_hn2_0 (l : Launch) (Z : State) (a0 : Array Value) (hw : ∀ d ∈ tables_1, d.before a0 Z = true) (ws : List Jvm.Cond) (it : Addr) (a1 : Addr) (h0 : Heap) (n0 : Nat) (Z0 : n0 ≤ h0.size) (f0 : Exa Z h0 it "java/util/ImmutableCollections$ListItr") (f1 : Fld Z h0 it "java/util/ImmutableCollections$ListItr" "list" "Ljava/util/List;" (.ref a1)) (f2 : Fld Z h0 it "java/util/ImmutableCollections$ListItr" "size" "I" (.int (2 : Int32))) (f3 : Fld Z h0 it "java/util/ImmutableCollections$ListItr" "cursor" "I" (.int (0 : Int32)))  :
    Con l Z (⟨"java/util/ImmutableCollections$ListItr", "hasNext", "()Z"⟩ : MethodName) jdk_53_method_3_code 1 (some .boolean) ({ frames := 0, cells := 0, slots := 0, locals := 0 } : Room) ws #[(.ref it)] h0 (Qret (some (.int (1 : Int32))) h0 n0) 0 0 := by
  refine Con.of (plainFor_of_name own_pn_ImmutableCollections_ListItr) ?_
  intro pgm e s m below meth c s₁ X0 hx hZ hby hml hown hnm hret hlk e0 hs0
  have N0 := Fr.nil n0
  have hown : s.vm.findClass "java/util/ImmutableCollections$ListItr" = some m.cls := hown
  have hnm : meth.name = "hasNext" := hnm
  refine Go.cast (own_ef_jdk_53_method_3_code_R m it) ?_
  refine gs m s₁ 1 #[vR (it)] [(.ref it)] (fun _ k => XS.aloadN X0.here hx rfl (hb hby q74) rfl rfl k) ?_
  obtain ⟨T101, X101, e101, st101⟩ := getF X0 hx hZ hown (host := "") (Or.inl (hwi hw 122 rfl)) Via.refl e0 f3 (g := (mkF m 1 #[vR (it)] [(.ref it)])) rfl rfl (hb hby q75)
  refine gs m T101 4 #[vR (it)] [(.int (0 : Int32))] st101 ?_
  refine gs m T101 5 #[vR (it)] [(.ref it), (.int (0 : Int32))] (fun _ k => XS.aloadN X101.here hx rfl (hb hby q76) rfl rfl k) ?_
  obtain ⟨T102, X102, e102, st102⟩ := getF X101 hx hZ hown (host := "") (Or.inl (hwi hw 120 rfl)) Via.refl e101 f2 (g := (mkF m 5 #[vR (it)] [(.ref it), (.int (0 : Int32))])) rfl rfl (hb hby q77)
  refine gs m T102 8 #[vR (it)] [(.int (2 : Int32)), (.int (0 : Int32))] st102 ?_
  refine gs m T102 11 #[vR (it)] [] (fun _ k => XS.icmpNo X102.here hx rfl (hb hby q78) rfl (feq (by decide : ¬ ((0 : Int32) = (2 : Int32)))).1 k) ?_
  refine gs m T102 12 #[vR (it)] [(.int (1 : Int32))] (fun _ k => XS.iconst X102.here hx rfl (hb hby q7b) k) ?_
  refine gs m T102 16 #[vR (it)] [(.int (1 : Int32))] (fun _ k => XS.goto X102.here hx rfl (pc0 := 12) (pc' := 16) rfl (hb hby q7c) (by decide) (by decide) k) ?_
  exact Go.retN X102 hx (t := .boolean) hret hlk (by simp) (hb hby q7a) (⟨rfl, N0, e102⟩) (by decide) (by decide)
theorem own_nx2_0 (l : Launch) (Z : State) (a0 : Array Value) (hw : ∀ d ∈ tables_1, d.before a0 Z = true) (ws : List Jvm.Cond) (it : Addr) (a1 : Addr) (x1 : Addr) (x2 : Addr) (em : Addr) (h0 : Heap) (n0 : Nat) (Z0 : n0 ≤ h0.size) (f0 : Exa Z h0 it "java/util/ImmutableCollections$ListItr") (f1 : Fld Z h0 it "java/util/ImmutableCollections$ListItr" "list" "Ljava/util/List;" (.ref a1)) (f2 : Fld Z h0 it "java/util/ImmutableCollections$ListItr" "size" "I" (.int (2 : Int32))) (f3 : Fld Z h0 it "java/util/ImmutableCollections$ListItr" "cursor" "I" (.int (0 : Int32))) (f4 : n0 ≤ it) (f5 : Exa Z h0 a1 "java/util/ImmutableCollections$List12") (f6 : Fld Z h0 a1 "java/util/ImmutableCollections$List12" "e0" "Ljava/lang/Object;" (.ref x1)) (f7 : Fld Z h0 a1 "java/util/ImmutableCollections$List12" "e1" "Ljava/lang/Object;" (.ref x2)) (f8 : Sta Z h0 "java/util/ImmutableCollections" "EMPTY" "Ljava/lang/Object;" (.ref em)) (f9 : x2 ≠ em) (f10 : a1 ≠ it)  :
    ConH [((0 : Nat), (24 : Nat), (25 : Nat), (30 : Nat))] l Z (⟨"java/util/ImmutableCollections$ListItr", "next", "()Ljava/lang/Object;"⟩ : MethodName) jdk_53_method_4_code 3 (some (.object "java/lang/Object")) ({ frames := 1, cells := 0, slots := 0, locals := 13 } : Room) ws #[(.ref it)] h0 (fun v h L => (v = some (.ref x1)) ∧ (Fr n0 L) ∧ (Keep h0 h [it]) ∧ (Exa Z h it "java/util/ImmutableCollections$ListItr") ∧ (Fld Z h it "java/util/ImmutableCollections$ListItr" "list" "Ljava/util/List;" (.ref a1)) ∧ (Fld Z h it "java/util/ImmutableCollections$ListItr" "size" "I" (.int (2 : Int32))) ∧ (Fld Z h it "java/util/ImmutableCollections$ListItr" "cursor" "I" (.int (1 : Int32)))) 0 0 := by
  refine ConH.of (plainFor_of_name own_pn_ImmutableCollections_ListItr) ?_
  intro pgm e s m below meth c s₁ X0 hx hZ hby hml hown hnm hret hlk e0 hs0
  have N0 := Fr.nil n0
  have hown : s.vm.findClass "java/util/ImmutableCollections$ListItr" = some m.cls := hown
  have hnm : meth.name = "next" := hnm
  refine Go.cast (own_ef_jdk_53_method_4_code_R m it) ?_
  have K0 := Keep.refl h0 [it]
  refine gs m s₁ 1 #[vR (it), sU, sU] [(.ref it)] (fun _ k => XS.aloadN X0.here hx rfl (hb hby q7d) rfl rfl k) ?_
  obtain ⟨T101, X101, e101, st101⟩ := getF X0 hx hZ hown (host := "") (Or.inl (hwi hw 122 rfl)) Via.refl e0 f3 (g := (mkF m 1 #[vR (it), sU, sU] [(.ref it)])) rfl rfl (hb hby q7e)
  refine gs m T101 4 #[vR (it), sU, sU] [(.int (0 : Int32))] st101 ?_
  refine gs m T101 5 #[vR (it), vI ((0 : Int32)), sU] [] (fun _ k => XS.istoreN X101.here hx rfl (hb hby q7f) rfl (l' := #[vR (it), vI ((0 : Int32)), sU]) rfl k) ?_
  refine gs m T101 6 #[vR (it), vI ((0 : Int32)), sU] [(.ref it)] (fun _ k => XS.aloadN X101.here hx rfl (hb hby q7g) rfl rfl k) ?_
  obtain ⟨T102, X102, e102, st102⟩ := getF X101 hx hZ hown (host := "") (Or.inl (hwi hw 118 rfl)) Via.refl e101 f1 (g := (mkF m 6 #[vR (it), vI ((0 : Int32)), sU] [(.ref it)])) rfl rfl (hb hby q7h)
  refine gs m T102 9 #[vR (it), vI ((0 : Int32)), sU] [(.ref a1)] st102 ?_
  refine gs m T102 10 #[vR (it), vI ((0 : Int32)), sU] [(.int (0 : Int32)), (.ref a1)] (fun _ k => XS.iloadN X102.here hx rfl (hb hby q7i) rfl  k) ?_
  obtain ⟨cq103, kq103, q103a, q103b, q103c⟩ := isOf hZ e102 f5
  obtain ⟨_, _, ⟨T103, L103, k103, n103⟩, -, X103, ⟨Lc103, hQ103, l103, y103, z103⟩, st103⟩ := X102.interfaceBack hx (xi := (⟨"java/util/List", "get", "(I)Ljava/lang/Object;"⟩ : MethodName)) (y := (⟨"java/util/ImmutableCollections$List12", "get", "(I)Ljava/lang/Object;"⟩ : MethodName)) hown (mvT hZ (hwi hw 255 rfl)) (mvT hZ (hwi hw 256 rfl)) (mvT hZ (hwi hw 257 rfl)) (mvT hZ (hwi hw 292 rfl)) (mvT hZ (hwi hw 293 rfl)) (mvT hZ (hwi hw 294 rfl)) (mvT hZ (hwi hw 295 rfl)) (mvT hZ (hwi hw 288 rfl)) (by decide) (backOf (W := 0) (Q := Qret (some (.ref x1)) h0 n0) (own_get2_0 l Z a0 hw [] a1 x1 x2 em h0 n0 Z0 f5 f6 f7 f8 f9) hZ (hwi hw 296 rfl) (hwi hw 271 rfl) (by decide) (by decide)) q103a q103b q103c (g := (mkF m 10 #[vR (it), vI ((0 : Int32)), sU] [(.int (0 : Int32)), (.ref a1)])) rfl (by rw [hml]; rfl) (Steps.refl _) (argsL := [(.int (0 : Int32))]) (rest := []) (lenOf own_pd16 rfl) rfl (by show 2 * 0 + _ ≤ _; exact Nat.le_of_eq rfl) (hb hby q7j) (fun _ _ => ⟨rfl, e102, (by decide : 0 + 0 ≤ _), (by decide : 0 + 0 ≤ _)⟩)
  dsimp only [Pt.U, Pt.locs, Pt.cells, Pt.slots] at X103 l103 y103 z103 st103 hQ103
  subst l103 y103 z103
  obtain ⟨rfl, N103q, eh103⟩ := hQ103
  have N103 := Fr.app N0 N103q
  refine gs m T103 15 #[vR (it), vI ((0 : Int32)), sU] [(.ref x1)] (fun _ k => st103.trans k) ?_
  refine gs m T103 16 #[vR (it), vI ((0 : Int32)), vR (x1)] [] (fun _ k => XS.astoreN X103.here hx rfl (hb hby q7k) rfl rfl (l' := #[vR (it), vI ((0 : Int32)), vR (x1)]) rfl k) ?_
  refine gs m T103 17 #[vR (it), vI ((0 : Int32)), vR (x1)] [(.ref it)] (fun _ k => XS.aloadN X103.here hx rfl (hb hby q7l) rfl rfl k) ?_
  refine gs m T103 18 #[vR (it), vI ((0 : Int32)), vR (x1)] [(.int (0 : Int32)), (.ref it)] (fun _ k => XS.iloadN X103.here hx rfl (hb hby q7m) rfl  k) ?_
  refine gs m T103 19 #[vR (it), vI ((0 : Int32)), vR (x1)] [(.int (1 : Int32)), (.int (0 : Int32)), (.ref it)] (fun _ k => XS.iconst X103.here hx rfl (hb hby q7n) k) ?_
  refine gs m T103 20 #[vR (it), vI ((0 : Int32)), vR (x1)] [(.int (1 : Int32)), (.ref it)] (fun _ k => XS.iadd X103.here hx rfl (hb hby q7o) rfl k) ?_
  obtain ⟨T104, h104, X104, e104, W104, st104⟩ := putF X103 hx hZ hown (host := "") (Or.inl (hwi hw 122 rfl)) Via.refl eh103 f3 f0 (Or.inl (hwi hw 123 rfl)) (hwi hw 102 rfl) (ty := .int) (by decide) rfl rfl (g := (mkF m 20 #[vR (it), vI ((0 : Int32)), vR (x1)] [(.int (1 : Int32)), (.ref it)])) rfl rfl (hb hby q7p)
  have N104 := Fr.snoc X104 N103 f4
  have Z104 : n0 ≤ h104.size := Nat.le_trans Z0 (Keep.of_wr W104).1
  have K104 := K0.wr W104 (Or.inl (List.mem_of_getElem? (i := 0) rfl))
  have F105 := f0.wr W104
  have F106 := f1.other W104 (Or.inr (slot_ne (Or.inr (hwi hw 119 rfl)) (Or.inl (hwi hw 123 rfl)) (by decide) (t := (.object "java/util/List")) (t' := .int) (by decide) (by decide)))
  have F107 := f2.other W104 (Or.inr (slot_ne (Or.inr (hwi hw 121 rfl)) (Or.inl (hwi hw 123 rfl)) (by decide) (t := .int) (t' := .int) (by decide) (by decide)))
  have F108 := f5.wr W104
  have F109 := f6.other W104 (Or.inl f10)
  have F110 := f7.other W104 (Or.inl f10)
  have F111 := f8.wr W104
  have F112 := f3.same W104
  refine gs m T104 23 #[vR (it), vI ((0 : Int32)), vR (x1)] [] st104 ?_
  refine gs m T104 24 #[vR (it), vI ((0 : Int32)), vR (x1)] [(.ref x1)] (fun _ k => XS.aloadN X104.here hx rfl (hb hby q7q) rfl rfl k) ?_
  exact Go.retA X104 hx (t := (.object "java/lang/Object")) hret rfl hlk rfl (hb hby q7r) (by rw [e104]; exact ⟨rfl, N104, K104, F105, F106, F107, F112⟩) (by decide) (by decide)
theorem own_hn2_1 (l : Launch) (Z : State) (a0 : Array Value) (hw : ∀ d ∈ tables_1, d.before a0 Z = true) (ws : List Jvm.Cond) (it : Addr) (a1 : Addr) (h0 : Heap) (n0 : Nat) (Z0 : n0 ≤ h0.size) (f0 : Exa Z h0 it "java/util/ImmutableCollections$ListItr") (f1 : Fld Z h0 it "java/util/ImmutableCollections$ListItr" "list" "Ljava/util/List;" (.ref a1)) (f2 : Fld Z h0 it "java/util/ImmutableCollections$ListItr" "size" "I" (.int (2 : Int32))) (f3 : Fld Z h0 it "java/util/ImmutableCollections$ListItr" "cursor" "I" (.int (1 : Int32)))  :
    Con l Z (⟨"java/util/ImmutableCollections$ListItr", "hasNext", "()Z"⟩ : MethodName) jdk_53_method_3_code 1 (some .boolean) ({ frames := 0, cells := 0, slots := 0, locals := 0 } : Room) ws #[(.ref it)] h0 (Qret (some (.int (1 : Int32))) h0 n0) 0 0 := by
  refine Con.of (plainFor_of_name own_pn_ImmutableCollections_ListItr) ?_
  intro pgm e s m below meth c s₁ X0 hx hZ hby hml hown hnm hret hlk e0 hs0
  have N0 := Fr.nil n0
  have hown : s.vm.findClass "java/util/ImmutableCollections$ListItr" = some m.cls := hown
  have hnm : meth.name = "hasNext" := hnm
  refine Go.cast (own_ef_jdk_53_method_3_code_R m it) ?_
  refine gs m s₁ 1 #[vR (it)] [(.ref it)] (fun _ k => XS.aloadN X0.here hx rfl (hb hby q74) rfl rfl k) ?_
  obtain ⟨T101, X101, e101, st101⟩ := getF X0 hx hZ hown (host := "") (Or.inl (hwi hw 122 rfl)) Via.refl e0 f3 (g := (mkF m 1 #[vR (it)] [(.ref it)])) rfl rfl (hb hby q75)
  refine gs m T101 4 #[vR (it)] [(.int (1 : Int32))] st101 ?_
  refine gs m T101 5 #[vR (it)] [(.ref it), (.int (1 : Int32))] (fun _ k => XS.aloadN X101.here hx rfl (hb hby q76) rfl rfl k) ?_
  obtain ⟨T102, X102, e102, st102⟩ := getF X101 hx hZ hown (host := "") (Or.inl (hwi hw 120 rfl)) Via.refl e101 f2 (g := (mkF m 5 #[vR (it)] [(.ref it), (.int (1 : Int32))])) rfl rfl (hb hby q77)
  refine gs m T102 8 #[vR (it)] [(.int (2 : Int32)), (.int (1 : Int32))] st102 ?_
  refine gs m T102 11 #[vR (it)] [] (fun _ k => XS.icmpNo X102.here hx rfl (hb hby q78) rfl (feq (by decide : ¬ ((1 : Int32) = (2 : Int32)))).1 k) ?_
  refine gs m T102 12 #[vR (it)] [(.int (1 : Int32))] (fun _ k => XS.iconst X102.here hx rfl (hb hby q7b) k) ?_
  refine gs m T102 16 #[vR (it)] [(.int (1 : Int32))] (fun _ k => XS.goto X102.here hx rfl (pc0 := 12) (pc' := 16) rfl (hb hby q7c) (by decide) (by decide) k) ?_
  exact Go.retN X102 hx (t := .boolean) hret hlk (by simp) (hb hby q7a) (⟨rfl, N0, e102⟩) (by decide) (by decide)
theorem own_nx2_1 (l : Launch) (Z : State) (a0 : Array Value) (hw : ∀ d ∈ tables_1, d.before a0 Z = true) (ws : List Jvm.Cond) (it : Addr) (a1 : Addr) (x1 : Addr) (x2 : Addr) (em : Addr) (h0 : Heap) (n0 : Nat) (Z0 : n0 ≤ h0.size) (f0 : Exa Z h0 it "java/util/ImmutableCollections$ListItr") (f1 : Fld Z h0 it "java/util/ImmutableCollections$ListItr" "list" "Ljava/util/List;" (.ref a1)) (f2 : Fld Z h0 it "java/util/ImmutableCollections$ListItr" "size" "I" (.int (2 : Int32))) (f3 : Fld Z h0 it "java/util/ImmutableCollections$ListItr" "cursor" "I" (.int (1 : Int32))) (f4 : n0 ≤ it) (f5 : Exa Z h0 a1 "java/util/ImmutableCollections$List12") (f6 : Fld Z h0 a1 "java/util/ImmutableCollections$List12" "e0" "Ljava/lang/Object;" (.ref x1)) (f7 : Fld Z h0 a1 "java/util/ImmutableCollections$List12" "e1" "Ljava/lang/Object;" (.ref x2)) (f8 : Sta Z h0 "java/util/ImmutableCollections" "EMPTY" "Ljava/lang/Object;" (.ref em)) (f9 : x2 ≠ em) (f10 : a1 ≠ it)  :
    ConH [((0 : Nat), (24 : Nat), (25 : Nat), (30 : Nat))] l Z (⟨"java/util/ImmutableCollections$ListItr", "next", "()Ljava/lang/Object;"⟩ : MethodName) jdk_53_method_4_code 3 (some (.object "java/lang/Object")) ({ frames := 1, cells := 0, slots := 0, locals := 13 } : Room) ws #[(.ref it)] h0 (fun v h L => (v = some (.ref x2)) ∧ (Fr n0 L) ∧ (Keep h0 h [it]) ∧ (Exa Z h it "java/util/ImmutableCollections$ListItr") ∧ (Fld Z h it "java/util/ImmutableCollections$ListItr" "list" "Ljava/util/List;" (.ref a1)) ∧ (Fld Z h it "java/util/ImmutableCollections$ListItr" "size" "I" (.int (2 : Int32))) ∧ (Fld Z h it "java/util/ImmutableCollections$ListItr" "cursor" "I" (.int (2 : Int32)))) 0 0 := by
  refine ConH.of (plainFor_of_name own_pn_ImmutableCollections_ListItr) ?_
  intro pgm e s m below meth c s₁ X0 hx hZ hby hml hown hnm hret hlk e0 hs0
  have N0 := Fr.nil n0
  have hown : s.vm.findClass "java/util/ImmutableCollections$ListItr" = some m.cls := hown
  have hnm : meth.name = "next" := hnm
  refine Go.cast (own_ef_jdk_53_method_4_code_R m it) ?_
  have K0 := Keep.refl h0 [it]
  refine gs m s₁ 1 #[vR (it), sU, sU] [(.ref it)] (fun _ k => XS.aloadN X0.here hx rfl (hb hby q7d) rfl rfl k) ?_
  obtain ⟨T101, X101, e101, st101⟩ := getF X0 hx hZ hown (host := "") (Or.inl (hwi hw 122 rfl)) Via.refl e0 f3 (g := (mkF m 1 #[vR (it), sU, sU] [(.ref it)])) rfl rfl (hb hby q7e)
  refine gs m T101 4 #[vR (it), sU, sU] [(.int (1 : Int32))] st101 ?_
  refine gs m T101 5 #[vR (it), vI ((1 : Int32)), sU] [] (fun _ k => XS.istoreN X101.here hx rfl (hb hby q7f) rfl (l' := #[vR (it), vI ((1 : Int32)), sU]) rfl k) ?_
  refine gs m T101 6 #[vR (it), vI ((1 : Int32)), sU] [(.ref it)] (fun _ k => XS.aloadN X101.here hx rfl (hb hby q7g) rfl rfl k) ?_
  obtain ⟨T102, X102, e102, st102⟩ := getF X101 hx hZ hown (host := "") (Or.inl (hwi hw 118 rfl)) Via.refl e101 f1 (g := (mkF m 6 #[vR (it), vI ((1 : Int32)), sU] [(.ref it)])) rfl rfl (hb hby q7h)
  refine gs m T102 9 #[vR (it), vI ((1 : Int32)), sU] [(.ref a1)] st102 ?_
  refine gs m T102 10 #[vR (it), vI ((1 : Int32)), sU] [(.int (1 : Int32)), (.ref a1)] (fun _ k => XS.iloadN X102.here hx rfl (hb hby q7i) rfl  k) ?_
  obtain ⟨cq103, kq103, q103a, q103b, q103c⟩ := isOf hZ e102 f5
  obtain ⟨_, _, ⟨T103, L103, k103, n103⟩, -, X103, ⟨Lc103, hQ103, l103, y103, z103⟩, st103⟩ := X102.interfaceBack hx (xi := (⟨"java/util/List", "get", "(I)Ljava/lang/Object;"⟩ : MethodName)) (y := (⟨"java/util/ImmutableCollections$List12", "get", "(I)Ljava/lang/Object;"⟩ : MethodName)) hown (mvT hZ (hwi hw 255 rfl)) (mvT hZ (hwi hw 256 rfl)) (mvT hZ (hwi hw 257 rfl)) (mvT hZ (hwi hw 292 rfl)) (mvT hZ (hwi hw 293 rfl)) (mvT hZ (hwi hw 294 rfl)) (mvT hZ (hwi hw 295 rfl)) (mvT hZ (hwi hw 288 rfl)) (by decide) (backOf (W := 0) (Q := Qret (some (.ref x2)) h0 n0) (own_get2_1 l Z a0 hw [] a1 x1 x2 em h0 n0 Z0 f5 f6 f7 f8 f9) hZ (hwi hw 296 rfl) (hwi hw 271 rfl) (by decide) (by decide)) q103a q103b q103c (g := (mkF m 10 #[vR (it), vI ((1 : Int32)), sU] [(.int (1 : Int32)), (.ref a1)])) rfl (by rw [hml]; rfl) (Steps.refl _) (argsL := [(.int (1 : Int32))]) (rest := []) (lenOf own_pd16 rfl) rfl (by show 2 * 0 + _ ≤ _; exact Nat.le_of_eq rfl) (hb hby q7j) (fun _ _ => ⟨rfl, e102, (by decide : 0 + 0 ≤ _), (by decide : 0 + 0 ≤ _)⟩)
  dsimp only [Pt.U, Pt.locs, Pt.cells, Pt.slots] at X103 l103 y103 z103 st103 hQ103
  subst l103 y103 z103
  obtain ⟨rfl, N103q, eh103⟩ := hQ103
  have N103 := Fr.app N0 N103q
  refine gs m T103 15 #[vR (it), vI ((1 : Int32)), sU] [(.ref x2)] (fun _ k => st103.trans k) ?_
  refine gs m T103 16 #[vR (it), vI ((1 : Int32)), vR (x2)] [] (fun _ k => XS.astoreN X103.here hx rfl (hb hby q7k) rfl rfl (l' := #[vR (it), vI ((1 : Int32)), vR (x2)]) rfl k) ?_
  refine gs m T103 17 #[vR (it), vI ((1 : Int32)), vR (x2)] [(.ref it)] (fun _ k => XS.aloadN X103.here hx rfl (hb hby q7l) rfl rfl k) ?_
  refine gs m T103 18 #[vR (it), vI ((1 : Int32)), vR (x2)] [(.int (1 : Int32)), (.ref it)] (fun _ k => XS.iloadN X103.here hx rfl (hb hby q7m) rfl  k) ?_
  refine gs m T103 19 #[vR (it), vI ((1 : Int32)), vR (x2)] [(.int (1 : Int32)), (.int (1 : Int32)), (.ref it)] (fun _ k => XS.iconst X103.here hx rfl (hb hby q7n) k) ?_
  refine gs m T103 20 #[vR (it), vI ((1 : Int32)), vR (x2)] [(.int (2 : Int32)), (.ref it)] (fun _ k => XS.iadd X103.here hx rfl (hb hby q7o) rfl k) ?_
  obtain ⟨T104, h104, X104, e104, W104, st104⟩ := putF X103 hx hZ hown (host := "") (Or.inl (hwi hw 122 rfl)) Via.refl eh103 f3 f0 (Or.inl (hwi hw 123 rfl)) (hwi hw 102 rfl) (ty := .int) (by decide) rfl rfl (g := (mkF m 20 #[vR (it), vI ((1 : Int32)), vR (x2)] [(.int (2 : Int32)), (.ref it)])) rfl rfl (hb hby q7p)
  have N104 := Fr.snoc X104 N103 f4
  have Z104 : n0 ≤ h104.size := Nat.le_trans Z0 (Keep.of_wr W104).1
  have K104 := K0.wr W104 (Or.inl (List.mem_of_getElem? (i := 0) rfl))
  have F105 := f0.wr W104
  have F106 := f1.other W104 (Or.inr (slot_ne (Or.inr (hwi hw 119 rfl)) (Or.inl (hwi hw 123 rfl)) (by decide) (t := (.object "java/util/List")) (t' := .int) (by decide) (by decide)))
  have F107 := f2.other W104 (Or.inr (slot_ne (Or.inr (hwi hw 121 rfl)) (Or.inl (hwi hw 123 rfl)) (by decide) (t := .int) (t' := .int) (by decide) (by decide)))
  have F108 := f5.wr W104
  have F109 := f6.other W104 (Or.inl f10)
  have F110 := f7.other W104 (Or.inl f10)
  have F111 := f8.wr W104
  have F112 := f3.same W104
  refine gs m T104 23 #[vR (it), vI ((1 : Int32)), vR (x2)] [] st104 ?_
  refine gs m T104 24 #[vR (it), vI ((1 : Int32)), vR (x2)] [(.ref x2)] (fun _ k => XS.aloadN X104.here hx rfl (hb hby q7q) rfl rfl k) ?_
  exact Go.retA X104 hx (t := (.object "java/lang/Object")) hret rfl hlk rfl (hb hby q7r) (by rw [e104]; exact ⟨rfl, N104, K104, F105, F106, F107, F112⟩) (by decide) (by decide)
theorem own_hn2_2 (l : Launch) (Z : State) (a0 : Array Value) (hw : ∀ d ∈ tables_1, d.before a0 Z = true) (ws : List Jvm.Cond) (it : Addr) (a1 : Addr) (h0 : Heap) (n0 : Nat) (Z0 : n0 ≤ h0.size) (f0 : Exa Z h0 it "java/util/ImmutableCollections$ListItr") (f1 : Fld Z h0 it "java/util/ImmutableCollections$ListItr" "list" "Ljava/util/List;" (.ref a1)) (f2 : Fld Z h0 it "java/util/ImmutableCollections$ListItr" "size" "I" (.int (2 : Int32))) (f3 : Fld Z h0 it "java/util/ImmutableCollections$ListItr" "cursor" "I" (.int (2 : Int32)))  :
    Con l Z (⟨"java/util/ImmutableCollections$ListItr", "hasNext", "()Z"⟩ : MethodName) jdk_53_method_3_code 1 (some .boolean) ({ frames := 0, cells := 0, slots := 0, locals := 0 } : Room) ws #[(.ref it)] h0 (Qret (some (.int (0 : Int32))) h0 n0) 0 0 := by
  refine Con.of (plainFor_of_name own_pn_ImmutableCollections_ListItr) ?_
  intro pgm e s m below meth c s₁ X0 hx hZ hby hml hown hnm hret hlk e0 hs0
  have N0 := Fr.nil n0
  have hown : s.vm.findClass "java/util/ImmutableCollections$ListItr" = some m.cls := hown
  have hnm : meth.name = "hasNext" := hnm
  refine Go.cast (own_ef_jdk_53_method_3_code_R m it) ?_
  refine gs m s₁ 1 #[vR (it)] [(.ref it)] (fun _ k => XS.aloadN X0.here hx rfl (hb hby q74) rfl rfl k) ?_
  obtain ⟨T101, X101, e101, st101⟩ := getF X0 hx hZ hown (host := "") (Or.inl (hwi hw 122 rfl)) Via.refl e0 f3 (g := (mkF m 1 #[vR (it)] [(.ref it)])) rfl rfl (hb hby q75)
  refine gs m T101 4 #[vR (it)] [(.int (2 : Int32))] st101 ?_
  refine gs m T101 5 #[vR (it)] [(.ref it), (.int (2 : Int32))] (fun _ k => XS.aloadN X101.here hx rfl (hb hby q76) rfl rfl k) ?_
  obtain ⟨T102, X102, e102, st102⟩ := getF X101 hx hZ hown (host := "") (Or.inl (hwi hw 120 rfl)) Via.refl e101 f2 (g := (mkF m 5 #[vR (it)] [(.ref it), (.int (2 : Int32))])) rfl rfl (hb hby q77)
  refine gs m T102 8 #[vR (it)] [(.int (2 : Int32)), (.int (2 : Int32))] st102 ?_
  refine gs m T102 15 #[vR (it)] [] (fun _ k => XS.icmpYes X102.here hx rfl (pc0 := 8) (pc' := 15) rfl (hb hby q78) rfl (teq (by decide : (2 : Int32) = (2 : Int32))).1 (by decide) (by decide) k) ?_
  refine gs m T102 16 #[vR (it)] [(.int (0 : Int32))] (fun _ k => XS.iconst X102.here hx rfl (hb hby q79) k) ?_
  exact Go.retN X102 hx (t := .boolean) hret hlk (by simp) (hb hby q7a) (⟨rfl, N0, e102⟩) (by decide) (by decide)
theorem own_itr3 (l : Launch) (Z : State) (a0 : Array Value) (hw : ∀ d ∈ tables_1, d.before a0 Z = true) (ws : List Jvm.Cond) (a1 : Addr) (b2 : Addr) (k2 : ClassId) (x1 : Addr) (x2 : Addr) (x3 : Addr) (h0 : Heap) (n0 : Nat) (Z0 : n0 ≤ h0.size) (f0 : Exa Z h0 a1 "java/util/ImmutableCollections$ListN") (f1 : Fld Z h0 a1 "java/util/ImmutableCollections$ListN" "elements" "[Ljava/lang/Object;" (.ref b2)) (f2 : Arv Z h0 b2 k2 (.object "java/lang/Object") (3 : Int32) [(.ref x1), (.ref x2), (.ref x3)] .null)  :
    Con l Z (⟨"java/util/ImmutableCollections$AbstractImmutableList", "iterator", "()Ljava/util/Iterator;"⟩ : MethodName) jdk_46_method_10_code 1 (some (.object "java/util/Iterator")) ({ frames := 2, cells := 1, slots := 4, locals := 27 } : Room) ws #[(.ref a1)] h0 (fun v h L => ∃ it : Addr, (v = some (.ref it)) ∧ (Fr n0 L) ∧ (Keep h0 h []) ∧ (h0.size ≤ it) ∧ (Exa Z h it "java/util/ImmutableCollections$ListItr") ∧ (Fld Z h it "java/util/ImmutableCollections$ListItr" "list" "Ljava/util/List;" (.ref a1)) ∧ (Fld Z h it "java/util/ImmutableCollections$ListItr" "size" "I" (.int (3 : Int32))) ∧ (Fld Z h it "java/util/ImmutableCollections$ListItr" "cursor" "I" (.int (0 : Int32)))) 1 4 := by
  refine Con.of (plainFor_of_name own_pn_ImmutableCollections_AbstractImmutableList) ?_
  intro pgm e s m below meth c s₁ X0 hx hZ hby hml hown hnm hret hlk e0 hs0
  have N0 := Fr.nil n0
  have hown : s.vm.findClass "java/util/ImmutableCollections$AbstractImmutableList" = some m.cls := hown
  have hnm : meth.name = "iterator" := hnm
  refine Go.cast (own_ef_jdk_46_method_10_code_R m a1) ?_
  have K0 := Keep.refl h0 []
  obtain ⟨T101, h101, X101, e101, E101, A101, D101, -, st101⟩ := newO X0 hx hZ hown (hwi hw 101 rfl) (hwi hw 102 rfl) (hwi hw 103 rfl) e0 (g := (mkF m 0 #[vR (a1)] [])) rfl (hb hby q6x) (by decide) (by decide)
  obtain ⟨b101, g101⟩ : ∃ z, z = h0.size := ⟨_, rfl⟩
  rw [← g101] at A101 D101 st101
  have ne102 : a1 ≠ b101 := by have q := f0.lt; intro r; rw [r, g101] at q; exact Nat.lt_irrefl _ q
  have ne103 : b2 ≠ b101 := by have q := f2.lt; intro r; rw [r, g101] at q; exact Nat.lt_irrefl _ q
  have ge101 : n0 ≤ b101 := Nat.le_trans Z0 (Nat.le_of_eq g101.symm)
  have Z101 : n0 ≤ h101.size := Nat.le_trans Z0 E101.1
  have sz101 : h0.size ≤ b101 := Nat.le_trans K0.1 (Nat.le_of_eq g101.symm)
  have K101 := K0.ext E101
  have F104 := f0.ext E101
  have F105 := f1.ext E101
  have F106 := f2.ext E101
  have F107 : Fld Z h101 b101 "java/util/ImmutableCollections$ListItr" "list" "Ljava/util/List;" .null := D101 (Or.inr (hwi hw 119 rfl)) (ty := (.object "java/util/List")) (by decide)
  have F108 : Fld Z h101 b101 "java/util/ImmutableCollections$ListItr" "size" "I" (.int (0 : Int32)) := D101 (Or.inr (hwi hw 121 rfl)) (ty := .int) (by decide)
  have F109 : Fld Z h101 b101 "java/util/ImmutableCollections$ListItr" "cursor" "I" (.int (0 : Int32)) := D101 (Or.inl (hwi hw 123 rfl)) (ty := .int) (by decide)
  have F110 : Fld Z h101 b101 "java/util/ImmutableCollections$ListItr" "isListIterator" "Z" (.int (0 : Int32)) := D101 (Or.inr (hwi hw 125 rfl)) (ty := .boolean) (by decide)
  refine gs m T101 3 #[vR (a1)] [(.ref b101)] st101 ?_
  refine gs m T101 4 #[vR (a1)] [(.ref b101), (.ref b101)] (fun _ k => XS.dup X101.here hx rfl (hb hby q6y) rfl rfl k) ?_
  refine gs m T101 5 #[vR (a1)] [(.ref a1), (.ref b101), (.ref b101)] (fun _ k => XS.aloadN X101.here hx rfl (hb hby q6z) rfl rfl k) ?_
  refine gs m T101 6 #[vR (a1)] [(.ref a1), (.ref a1), (.ref b101), (.ref b101)] (fun _ k => XS.aloadN X101.here hx rfl (hb hby q70) rfl rfl k) ?_
  obtain ⟨cq111, kq111, q111a, q111b, q111c⟩ := isOf hZ e101 F104
  obtain ⟨_, _, ⟨T111, L111, k111, n111⟩, -, X111, ⟨Lc111, hQ111, l111, y111, z111⟩, st111⟩ := X101.virtualBackUp hx (owner := "java/util/AbstractCollection") (x := (⟨"java/util/ImmutableCollections$AbstractImmutableList", "size", "()I"⟩ : MethodName)) (y := (⟨"java/util/ImmutableCollections$ListN", "size", "()I"⟩ : MethodName)) hown (mvT hZ (hwi hw 104 rfl)) (mvT hZ (hwi hw 105 rfl)) (mvT hZ (hwi hw 106 rfl)) (by decide) (mvT hZ (hwi hw 107 rfl)) (mvT hZ (hwi hw 108 rfl)) (backOf (W := 3) (Q := Qret (some (.int (3 : Int32))) h101 n0) (own_siz3 l Z a0 hw [] a1 b2 k2 x1 x2 x3 h101 n0 Z101 F104 F105 F106) hZ (hwi hw 110 rfl) (hwi hw 109 rfl) (by decide) (by decide)) q111a q111c (g := (mkF m 6 #[vR (a1)] [(.ref a1), (.ref a1), (.ref b101), (.ref b101)])) rfl (by rw [hml]; rfl) (Steps.refl _) (argsL := []) (rest := [(.ref a1), (.ref b101), (.ref b101)]) (lenOf own_pd14 rfl) rfl (by show 2 * 0 + _ ≤ _; exact Nat.le_of_eq rfl) (hb hby q71) (fun _ _ => ⟨rfl, e101, (by decide : 1 + 0 ≤ _), (by decide : 4 + 0 ≤ _)⟩)
  dsimp only [Pt.U, Pt.locs, Pt.cells, Pt.slots] at X111 l111 y111 z111 st111 hQ111
  subst l111 y111 z111
  obtain ⟨rfl, N111q, eh111⟩ := hQ111
  have N111 := Fr.app N0 N111q
  refine gs m T111 9 #[vR (a1)] [(.int (3 : Int32)), (.ref a1), (.ref b101), (.ref b101)] (fun _ k => st111.trans k) ?_
  obtain ⟨_, _, ⟨T112, L112, k112, n112⟩, -, X112, ⟨Lc112, hQ112, l112, y112, z112⟩, st112⟩ := X111.specialBack hx (y := (⟨"java/util/ImmutableCollections$ListItr", "<init>", "(Ljava/util/List;I)V"⟩ : MethodName)) rfl hown (mvT hZ (hwi hw 113 rfl)) (mvT hZ (hwi hw 114 rfl)) (mvT hZ (hwi hw 116 rfl)) (by decide) (backOf (W := 1) (Q := fun v h L => (v = none) ∧ (Fr n0 L) ∧ (Keep h101 h [b101]) ∧ (Exa Z h b101 "java/util/ImmutableCollections$ListItr") ∧ (Fld Z h b101 "java/util/ImmutableCollections$ListItr" "list" "Ljava/util/List;" (.ref a1)) ∧ (Fld Z h b101 "java/util/ImmutableCollections$ListItr" "size" "I" (.int (3 : Int32))) ∧ (Fld Z h b101 "java/util/ImmutableCollections$ListItr" "cursor" "I" (.int (0 : Int32)))) (own_lii l Z a0 hw [] b101 a1 (3 : Int32) .null (.int (0 : Int32)) (.int (0 : Int32)) (.int (0 : Int32)) h101 n0 Z101 A101 ge101 F107 F108 F109 F110) hZ (hwi hw 116 rfl) (hwi hw 103 rfl) (by decide) (by decide)) (g := (mkF m 9 #[vR (a1)] [(.int (3 : Int32)), (.ref a1), (.ref b101), (.ref b101)])) rfl (by rw [hml]; rfl) (Steps.refl _) (a := b101) (argsL := [(.ref a1), (.int (3 : Int32))]) (rest := [(.ref b101)]) (lenOf own_pd15 rfl) rfl (by show 2 * 0 + _ ≤ _; exact Nat.le_of_eq rfl) (hb hby q72) (fun _ _ => ⟨rfl, eh111, (by decide : 1 + 0 ≤ _), (by decide : 4 + 0 ≤ _)⟩)
  dsimp only [Pt.U, Pt.locs, Pt.cells, Pt.slots] at X112 l112 y112 z112 st112 hQ112
  subst l112 y112 z112
  obtain ⟨rfl, N112q, K112, P112_0, P112_1, P112_2, P112_3⟩ := hQ112
  have N112 := Fr.app N111 N112q
  have KK112 := K101.trans K112 (allS (Or.inr sz101) all0)
  have Z112 : n0 ≤ T112.heap.size := Nat.le_trans Z101 K112.1
  have F113 := F104.keep K112
  have F114 := F105.keep K112 (ninS ne102 nin0)
  have F115 := F106.keep K112 (ninS ne103 nin0)
  have F116 := A101.keep K112
  refine gs m T112 12 #[vR (a1)] [(.ref b101)] (fun _ k => st112.trans k) ?_
  exact Go.retA X112 hx (t := (.object "java/util/Iterator")) hret rfl hlk rfl (hb hby q73) (⟨b101, rfl, N112, KK112, sz101, P112_0, P112_1, P112_2, P112_3⟩) (by decide) (by decide)
theorem own_hn3_0 (l : Launch) (Z : State) (a0 : Array Value) (hw : ∀ d ∈ tables_1, d.before a0 Z = true) (ws : List Jvm.Cond) (it : Addr) (a1 : Addr) (h0 : Heap) (n0 : Nat) (Z0 : n0 ≤ h0.size) (f0 : Exa Z h0 it "java/util/ImmutableCollections$ListItr") (f1 : Fld Z h0 it "java/util/ImmutableCollections$ListItr" "list" "Ljava/util/List;" (.ref a1)) (f2 : Fld Z h0 it "java/util/ImmutableCollections$ListItr" "size" "I" (.int (3 : Int32))) (f3 : Fld Z h0 it "java/util/ImmutableCollections$ListItr" "cursor" "I" (.int (0 : Int32)))  :
    Con l Z (⟨"java/util/ImmutableCollections$ListItr", "hasNext", "()Z"⟩ : MethodName) jdk_53_method_3_code 1 (some .boolean) ({ frames := 0, cells := 0, slots := 0, locals := 0 } : Room) ws #[(.ref it)] h0 (Qret (some (.int (1 : Int32))) h0 n0) 0 0 := by
  refine Con.of (plainFor_of_name own_pn_ImmutableCollections_ListItr) ?_
  intro pgm e s m below meth c s₁ X0 hx hZ hby hml hown hnm hret hlk e0 hs0
  have N0 := Fr.nil n0
  have hown : s.vm.findClass "java/util/ImmutableCollections$ListItr" = some m.cls := hown
  have hnm : meth.name = "hasNext" := hnm
  refine Go.cast (own_ef_jdk_53_method_3_code_R m it) ?_
  refine gs m s₁ 1 #[vR (it)] [(.ref it)] (fun _ k => XS.aloadN X0.here hx rfl (hb hby q74) rfl rfl k) ?_
  obtain ⟨T101, X101, e101, st101⟩ := getF X0 hx hZ hown (host := "") (Or.inl (hwi hw 122 rfl)) Via.refl e0 f3 (g := (mkF m 1 #[vR (it)] [(.ref it)])) rfl rfl (hb hby q75)
  refine gs m T101 4 #[vR (it)] [(.int (0 : Int32))] st101 ?_
  refine gs m T101 5 #[vR (it)] [(.ref it), (.int (0 : Int32))] (fun _ k => XS.aloadN X101.here hx rfl (hb hby q76) rfl rfl k) ?_
  obtain ⟨T102, X102, e102, st102⟩ := getF X101 hx hZ hown (host := "") (Or.inl (hwi hw 120 rfl)) Via.refl e101 f2 (g := (mkF m 5 #[vR (it)] [(.ref it), (.int (0 : Int32))])) rfl rfl (hb hby q77)
  refine gs m T102 8 #[vR (it)] [(.int (3 : Int32)), (.int (0 : Int32))] st102 ?_
  refine gs m T102 11 #[vR (it)] [] (fun _ k => XS.icmpNo X102.here hx rfl (hb hby q78) rfl (feq (by decide : ¬ ((0 : Int32) = (3 : Int32)))).1 k) ?_
  refine gs m T102 12 #[vR (it)] [(.int (1 : Int32))] (fun _ k => XS.iconst X102.here hx rfl (hb hby q7b) k) ?_
  refine gs m T102 16 #[vR (it)] [(.int (1 : Int32))] (fun _ k => XS.goto X102.here hx rfl (pc0 := 12) (pc' := 16) rfl (hb hby q7c) (by decide) (by decide) k) ?_
  exact Go.retN X102 hx (t := .boolean) hret hlk (by simp) (hb hby q7a) (⟨rfl, N0, e102⟩) (by decide) (by decide)
theorem own_nx3_0 (l : Launch) (Z : State) (a0 : Array Value) (hw : ∀ d ∈ tables_1, d.before a0 Z = true) (ws : List Jvm.Cond) (it : Addr) (a1 : Addr) (b2 : Addr) (k2 : ClassId) (x1 : Addr) (x2 : Addr) (x3 : Addr) (h0 : Heap) (n0 : Nat) (Z0 : n0 ≤ h0.size) (f0 : Exa Z h0 it "java/util/ImmutableCollections$ListItr") (f1 : Fld Z h0 it "java/util/ImmutableCollections$ListItr" "list" "Ljava/util/List;" (.ref a1)) (f2 : Fld Z h0 it "java/util/ImmutableCollections$ListItr" "size" "I" (.int (3 : Int32))) (f3 : Fld Z h0 it "java/util/ImmutableCollections$ListItr" "cursor" "I" (.int (0 : Int32))) (f4 : n0 ≤ it) (f5 : Exa Z h0 a1 "java/util/ImmutableCollections$ListN") (f6 : Fld Z h0 a1 "java/util/ImmutableCollections$ListN" "elements" "[Ljava/lang/Object;" (.ref b2)) (f7 : Arv Z h0 b2 k2 (.object "java/lang/Object") (3 : Int32) [(.ref x1), (.ref x2), (.ref x3)] .null) (f8 : b2 ≠ it) (f9 : a1 ≠ it)  :
    ConH [((0 : Nat), (24 : Nat), (25 : Nat), (30 : Nat))] l Z (⟨"java/util/ImmutableCollections$ListItr", "next", "()Ljava/lang/Object;"⟩ : MethodName) jdk_53_method_4_code 3 (some (.object "java/lang/Object")) ({ frames := 1, cells := 0, slots := 0, locals := 13 } : Room) ws #[(.ref it)] h0 (fun v h L => (v = some (.ref x1)) ∧ (Fr n0 L) ∧ (Keep h0 h [it]) ∧ (Exa Z h it "java/util/ImmutableCollections$ListItr") ∧ (Fld Z h it "java/util/ImmutableCollections$ListItr" "list" "Ljava/util/List;" (.ref a1)) ∧ (Fld Z h it "java/util/ImmutableCollections$ListItr" "size" "I" (.int (3 : Int32))) ∧ (Fld Z h it "java/util/ImmutableCollections$ListItr" "cursor" "I" (.int (1 : Int32)))) 0 0 := by
  refine ConH.of (plainFor_of_name own_pn_ImmutableCollections_ListItr) ?_
  intro pgm e s m below meth c s₁ X0 hx hZ hby hml hown hnm hret hlk e0 hs0
  have N0 := Fr.nil n0
  have hown : s.vm.findClass "java/util/ImmutableCollections$ListItr" = some m.cls := hown
  have hnm : meth.name = "next" := hnm
  refine Go.cast (own_ef_jdk_53_method_4_code_R m it) ?_
  have K0 := Keep.refl h0 [it]
  refine gs m s₁ 1 #[vR (it), sU, sU] [(.ref it)] (fun _ k => XS.aloadN X0.here hx rfl (hb hby q7d) rfl rfl k) ?_
  obtain ⟨T101, X101, e101, st101⟩ := getF X0 hx hZ hown (host := "") (Or.inl (hwi hw 122 rfl)) Via.refl e0 f3 (g := (mkF m 1 #[vR (it), sU, sU] [(.ref it)])) rfl rfl (hb hby q7e)
  refine gs m T101 4 #[vR (it), sU, sU] [(.int (0 : Int32))] st101 ?_
  refine gs m T101 5 #[vR (it), vI ((0 : Int32)), sU] [] (fun _ k => XS.istoreN X101.here hx rfl (hb hby q7f) rfl (l' := #[vR (it), vI ((0 : Int32)), sU]) rfl k) ?_
  refine gs m T101 6 #[vR (it), vI ((0 : Int32)), sU] [(.ref it)] (fun _ k => XS.aloadN X101.here hx rfl (hb hby q7g) rfl rfl k) ?_
  obtain ⟨T102, X102, e102, st102⟩ := getF X101 hx hZ hown (host := "") (Or.inl (hwi hw 118 rfl)) Via.refl e101 f1 (g := (mkF m 6 #[vR (it), vI ((0 : Int32)), sU] [(.ref it)])) rfl rfl (hb hby q7h)
  refine gs m T102 9 #[vR (it), vI ((0 : Int32)), sU] [(.ref a1)] st102 ?_
  refine gs m T102 10 #[vR (it), vI ((0 : Int32)), sU] [(.int (0 : Int32)), (.ref a1)] (fun _ k => XS.iloadN X102.here hx rfl (hb hby q7i) rfl  k) ?_
  obtain ⟨cq103, kq103, q103a, q103b, q103c⟩ := isOf hZ e102 f5
  obtain ⟨_, _, ⟨T103, L103, k103, n103⟩, -, X103, ⟨Lc103, hQ103, l103, y103, z103⟩, st103⟩ := X102.interfaceBack hx (xi := (⟨"java/util/List", "get", "(I)Ljava/lang/Object;"⟩ : MethodName)) (y := (⟨"java/util/ImmutableCollections$ListN", "get", "(I)Ljava/lang/Object;"⟩ : MethodName)) hown (mvT hZ (hwi hw 255 rfl)) (mvT hZ (hwi hw 256 rfl)) (mvT hZ (hwi hw 257 rfl)) (mvT hZ (hwi hw 258 rfl)) (mvT hZ (hwi hw 259 rfl)) (mvT hZ (hwi hw 260 rfl)) (mvT hZ (hwi hw 261 rfl)) (mvT hZ (hwi hw 98 rfl)) (by decide) (backOf (W := 0) (Q := Qret (some (.ref x1)) h0 n0) (own_get3_0 l Z a0 hw [] a1 b2 k2 x1 x2 x3 h0 n0 Z0 f5 f6 f7) hZ (hwi hw 262 rfl) (hwi hw 109 rfl) (by decide) (by decide)) q103a q103b q103c (g := (mkF m 10 #[vR (it), vI ((0 : Int32)), sU] [(.int (0 : Int32)), (.ref a1)])) rfl (by rw [hml]; rfl) (Steps.refl _) (argsL := [(.int (0 : Int32))]) (rest := []) (lenOf own_pd16 rfl) rfl (by show 2 * 0 + _ ≤ _; exact Nat.le_of_eq rfl) (hb hby q7j) (fun _ _ => ⟨rfl, e102, (by decide : 0 + 0 ≤ _), (by decide : 0 + 0 ≤ _)⟩)
  dsimp only [Pt.U, Pt.locs, Pt.cells, Pt.slots] at X103 l103 y103 z103 st103 hQ103
  subst l103 y103 z103
  obtain ⟨rfl, N103q, eh103⟩ := hQ103
  have N103 := Fr.app N0 N103q
  refine gs m T103 15 #[vR (it), vI ((0 : Int32)), sU] [(.ref x1)] (fun _ k => st103.trans k) ?_
  refine gs m T103 16 #[vR (it), vI ((0 : Int32)), vR (x1)] [] (fun _ k => XS.astoreN X103.here hx rfl (hb hby q7k) rfl rfl (l' := #[vR (it), vI ((0 : Int32)), vR (x1)]) rfl k) ?_
  refine gs m T103 17 #[vR (it), vI ((0 : Int32)), vR (x1)] [(.ref it)] (fun _ k => XS.aloadN X103.here hx rfl (hb hby q7l) rfl rfl k) ?_
  refine gs m T103 18 #[vR (it), vI ((0 : Int32)), vR (x1)] [(.int (0 : Int32)), (.ref it)] (fun _ k => XS.iloadN X103.here hx rfl (hb hby q7m) rfl  k) ?_
  refine gs m T103 19 #[vR (it), vI ((0 : Int32)), vR (x1)] [(.int (1 : Int32)), (.int (0 : Int32)), (.ref it)] (fun _ k => XS.iconst X103.here hx rfl (hb hby q7n) k) ?_
  refine gs m T103 20 #[vR (it), vI ((0 : Int32)), vR (x1)] [(.int (1 : Int32)), (.ref it)] (fun _ k => XS.iadd X103.here hx rfl (hb hby q7o) rfl k) ?_
  obtain ⟨T104, h104, X104, e104, W104, st104⟩ := putF X103 hx hZ hown (host := "") (Or.inl (hwi hw 122 rfl)) Via.refl eh103 f3 f0 (Or.inl (hwi hw 123 rfl)) (hwi hw 102 rfl) (ty := .int) (by decide) rfl rfl (g := (mkF m 20 #[vR (it), vI ((0 : Int32)), vR (x1)] [(.int (1 : Int32)), (.ref it)])) rfl rfl (hb hby q7p)
  have N104 := Fr.snoc X104 N103 f4
  have Z104 : n0 ≤ h104.size := Nat.le_trans Z0 (Keep.of_wr W104).1
  have K104 := K0.wr W104 (Or.inl (List.mem_of_getElem? (i := 0) rfl))
  have F105 := f0.wr W104
  have F106 := f1.other W104 (Or.inr (slot_ne (Or.inr (hwi hw 119 rfl)) (Or.inl (hwi hw 123 rfl)) (by decide) (t := (.object "java/util/List")) (t' := .int) (by decide) (by decide)))
  have F107 := f2.other W104 (Or.inr (slot_ne (Or.inr (hwi hw 121 rfl)) (Or.inl (hwi hw 123 rfl)) (by decide) (t := .int) (t' := .int) (by decide) (by decide)))
  have F108 := f5.wr W104
  have F109 := f6.other W104 (Or.inl f9)
  have F110 := f7.other W104 f8
  have F111 := f3.same W104
  refine gs m T104 23 #[vR (it), vI ((0 : Int32)), vR (x1)] [] st104 ?_
  refine gs m T104 24 #[vR (it), vI ((0 : Int32)), vR (x1)] [(.ref x1)] (fun _ k => XS.aloadN X104.here hx rfl (hb hby q7q) rfl rfl k) ?_
  exact Go.retA X104 hx (t := (.object "java/lang/Object")) hret rfl hlk rfl (hb hby q7r) (by rw [e104]; exact ⟨rfl, N104, K104, F105, F106, F107, F111⟩) (by decide) (by decide)
theorem own_hn3_1 (l : Launch) (Z : State) (a0 : Array Value) (hw : ∀ d ∈ tables_1, d.before a0 Z = true) (ws : List Jvm.Cond) (it : Addr) (a1 : Addr) (h0 : Heap) (n0 : Nat) (Z0 : n0 ≤ h0.size) (f0 : Exa Z h0 it "java/util/ImmutableCollections$ListItr") (f1 : Fld Z h0 it "java/util/ImmutableCollections$ListItr" "list" "Ljava/util/List;" (.ref a1)) (f2 : Fld Z h0 it "java/util/ImmutableCollections$ListItr" "size" "I" (.int (3 : Int32))) (f3 : Fld Z h0 it "java/util/ImmutableCollections$ListItr" "cursor" "I" (.int (1 : Int32)))  :
    Con l Z (⟨"java/util/ImmutableCollections$ListItr", "hasNext", "()Z"⟩ : MethodName) jdk_53_method_3_code 1 (some .boolean) ({ frames := 0, cells := 0, slots := 0, locals := 0 } : Room) ws #[(.ref it)] h0 (Qret (some (.int (1 : Int32))) h0 n0) 0 0 := by
  refine Con.of (plainFor_of_name own_pn_ImmutableCollections_ListItr) ?_
  intro pgm e s m below meth c s₁ X0 hx hZ hby hml hown hnm hret hlk e0 hs0
  have N0 := Fr.nil n0
  have hown : s.vm.findClass "java/util/ImmutableCollections$ListItr" = some m.cls := hown
  have hnm : meth.name = "hasNext" := hnm
  refine Go.cast (own_ef_jdk_53_method_3_code_R m it) ?_
  refine gs m s₁ 1 #[vR (it)] [(.ref it)] (fun _ k => XS.aloadN X0.here hx rfl (hb hby q74) rfl rfl k) ?_
  obtain ⟨T101, X101, e101, st101⟩ := getF X0 hx hZ hown (host := "") (Or.inl (hwi hw 122 rfl)) Via.refl e0 f3 (g := (mkF m 1 #[vR (it)] [(.ref it)])) rfl rfl (hb hby q75)
  refine gs m T101 4 #[vR (it)] [(.int (1 : Int32))] st101 ?_
  refine gs m T101 5 #[vR (it)] [(.ref it), (.int (1 : Int32))] (fun _ k => XS.aloadN X101.here hx rfl (hb hby q76) rfl rfl k) ?_
  obtain ⟨T102, X102, e102, st102⟩ := getF X101 hx hZ hown (host := "") (Or.inl (hwi hw 120 rfl)) Via.refl e101 f2 (g := (mkF m 5 #[vR (it)] [(.ref it), (.int (1 : Int32))])) rfl rfl (hb hby q77)
  refine gs m T102 8 #[vR (it)] [(.int (3 : Int32)), (.int (1 : Int32))] st102 ?_
  refine gs m T102 11 #[vR (it)] [] (fun _ k => XS.icmpNo X102.here hx rfl (hb hby q78) rfl (feq (by decide : ¬ ((1 : Int32) = (3 : Int32)))).1 k) ?_
  refine gs m T102 12 #[vR (it)] [(.int (1 : Int32))] (fun _ k => XS.iconst X102.here hx rfl (hb hby q7b) k) ?_
  refine gs m T102 16 #[vR (it)] [(.int (1 : Int32))] (fun _ k => XS.goto X102.here hx rfl (pc0 := 12) (pc' := 16) rfl (hb hby q7c) (by decide) (by decide) k) ?_
  exact Go.retN X102 hx (t := .boolean) hret hlk (by simp) (hb hby q7a) (⟨rfl, N0, e102⟩) (by decide) (by decide)
theorem own_nx3_1 (l : Launch) (Z : State) (a0 : Array Value) (hw : ∀ d ∈ tables_1, d.before a0 Z = true) (ws : List Jvm.Cond) (it : Addr) (a1 : Addr) (b2 : Addr) (k2 : ClassId) (x1 : Addr) (x2 : Addr) (x3 : Addr) (h0 : Heap) (n0 : Nat) (Z0 : n0 ≤ h0.size) (f0 : Exa Z h0 it "java/util/ImmutableCollections$ListItr") (f1 : Fld Z h0 it "java/util/ImmutableCollections$ListItr" "list" "Ljava/util/List;" (.ref a1)) (f2 : Fld Z h0 it "java/util/ImmutableCollections$ListItr" "size" "I" (.int (3 : Int32))) (f3 : Fld Z h0 it "java/util/ImmutableCollections$ListItr" "cursor" "I" (.int (1 : Int32))) (f4 : n0 ≤ it) (f5 : Exa Z h0 a1 "java/util/ImmutableCollections$ListN") (f6 : Fld Z h0 a1 "java/util/ImmutableCollections$ListN" "elements" "[Ljava/lang/Object;" (.ref b2)) (f7 : Arv Z h0 b2 k2 (.object "java/lang/Object") (3 : Int32) [(.ref x1), (.ref x2), (.ref x3)] .null) (f8 : b2 ≠ it) (f9 : a1 ≠ it)  :
    ConH [((0 : Nat), (24 : Nat), (25 : Nat), (30 : Nat))] l Z (⟨"java/util/ImmutableCollections$ListItr", "next", "()Ljava/lang/Object;"⟩ : MethodName) jdk_53_method_4_code 3 (some (.object "java/lang/Object")) ({ frames := 1, cells := 0, slots := 0, locals := 13 } : Room) ws #[(.ref it)] h0 (fun v h L => (v = some (.ref x2)) ∧ (Fr n0 L) ∧ (Keep h0 h [it]) ∧ (Exa Z h it "java/util/ImmutableCollections$ListItr") ∧ (Fld Z h it "java/util/ImmutableCollections$ListItr" "list" "Ljava/util/List;" (.ref a1)) ∧ (Fld Z h it "java/util/ImmutableCollections$ListItr" "size" "I" (.int (3 : Int32))) ∧ (Fld Z h it "java/util/ImmutableCollections$ListItr" "cursor" "I" (.int (2 : Int32)))) 0 0 := by
  refine ConH.of (plainFor_of_name own_pn_ImmutableCollections_ListItr) ?_
  intro pgm e s m below meth c s₁ X0 hx hZ hby hml hown hnm hret hlk e0 hs0
  have N0 := Fr.nil n0
  have hown : s.vm.findClass "java/util/ImmutableCollections$ListItr" = some m.cls := hown
  have hnm : meth.name = "next" := hnm
  refine Go.cast (own_ef_jdk_53_method_4_code_R m it) ?_
  have K0 := Keep.refl h0 [it]
  refine gs m s₁ 1 #[vR (it), sU, sU] [(.ref it)] (fun _ k => XS.aloadN X0.here hx rfl (hb hby q7d) rfl rfl k) ?_
  obtain ⟨T101, X101, e101, st101⟩ := getF X0 hx hZ hown (host := "") (Or.inl (hwi hw 122 rfl)) Via.refl e0 f3 (g := (mkF m 1 #[vR (it), sU, sU] [(.ref it)])) rfl rfl (hb hby q7e)
  refine gs m T101 4 #[vR (it), sU, sU] [(.int (1 : Int32))] st101 ?_
  refine gs m T101 5 #[vR (it), vI ((1 : Int32)), sU] [] (fun _ k => XS.istoreN X101.here hx rfl (hb hby q7f) rfl (l' := #[vR (it), vI ((1 : Int32)), sU]) rfl k) ?_
  refine gs m T101 6 #[vR (it), vI ((1 : Int32)), sU] [(.ref it)] (fun _ k => XS.aloadN X101.here hx rfl (hb hby q7g) rfl rfl k) ?_
  obtain ⟨T102, X102, e102, st102⟩ := getF X101 hx hZ hown (host := "") (Or.inl (hwi hw 118 rfl)) Via.refl e101 f1 (g := (mkF m 6 #[vR (it), vI ((1 : Int32)), sU] [(.ref it)])) rfl rfl (hb hby q7h)
  refine gs m T102 9 #[vR (it), vI ((1 : Int32)), sU] [(.ref a1)] st102 ?_
  refine gs m T102 10 #[vR (it), vI ((1 : Int32)), sU] [(.int (1 : Int32)), (.ref a1)] (fun _ k => XS.iloadN X102.here hx rfl (hb hby q7i) rfl  k) ?_
  obtain ⟨cq103, kq103, q103a, q103b, q103c⟩ := isOf hZ e102 f5
  obtain ⟨_, _, ⟨T103, L103, k103, n103⟩, -, X103, ⟨Lc103, hQ103, l103, y103, z103⟩, st103⟩ := X102.interfaceBack hx (xi := (⟨"java/util/List", "get", "(I)Ljava/lang/Object;"⟩ : MethodName)) (y := (⟨"java/util/ImmutableCollections$ListN", "get", "(I)Ljava/lang/Object;"⟩ : MethodName)) hown (mvT hZ (hwi hw 255 rfl)) (mvT hZ (hwi hw 256 rfl)) (mvT hZ (hwi hw 257 rfl)) (mvT hZ (hwi hw 258 rfl)) (mvT hZ (hwi hw 259 rfl)) (mvT hZ (hwi hw 260 rfl)) (mvT hZ (hwi hw 261 rfl)) (mvT hZ (hwi hw 98 rfl)) (by decide) (backOf (W := 0) (Q := Qret (some (.ref x2)) h0 n0) (own_get3_1 l Z a0 hw [] a1 b2 k2 x1 x2 x3 h0 n0 Z0 f5 f6 f7) hZ (hwi hw 262 rfl) (hwi hw 109 rfl) (by decide) (by decide)) q103a q103b q103c (g := (mkF m 10 #[vR (it), vI ((1 : Int32)), sU] [(.int (1 : Int32)), (.ref a1)])) rfl (by rw [hml]; rfl) (Steps.refl _) (argsL := [(.int (1 : Int32))]) (rest := []) (lenOf own_pd16 rfl) rfl (by show 2 * 0 + _ ≤ _; exact Nat.le_of_eq rfl) (hb hby q7j) (fun _ _ => ⟨rfl, e102, (by decide : 0 + 0 ≤ _), (by decide : 0 + 0 ≤ _)⟩)
  dsimp only [Pt.U, Pt.locs, Pt.cells, Pt.slots] at X103 l103 y103 z103 st103 hQ103
  subst l103 y103 z103
  obtain ⟨rfl, N103q, eh103⟩ := hQ103
  have N103 := Fr.app N0 N103q
  refine gs m T103 15 #[vR (it), vI ((1 : Int32)), sU] [(.ref x2)] (fun _ k => st103.trans k) ?_
  refine gs m T103 16 #[vR (it), vI ((1 : Int32)), vR (x2)] [] (fun _ k => XS.astoreN X103.here hx rfl (hb hby q7k) rfl rfl (l' := #[vR (it), vI ((1 : Int32)), vR (x2)]) rfl k) ?_
  refine gs m T103 17 #[vR (it), vI ((1 : Int32)), vR (x2)] [(.ref it)] (fun _ k => XS.aloadN X103.here hx rfl (hb hby q7l) rfl rfl k) ?_
  refine gs m T103 18 #[vR (it), vI ((1 : Int32)), vR (x2)] [(.int (1 : Int32)), (.ref it)] (fun _ k => XS.iloadN X103.here hx rfl (hb hby q7m) rfl  k) ?_
  refine gs m T103 19 #[vR (it), vI ((1 : Int32)), vR (x2)] [(.int (1 : Int32)), (.int (1 : Int32)), (.ref it)] (fun _ k => XS.iconst X103.here hx rfl (hb hby q7n) k) ?_
  refine gs m T103 20 #[vR (it), vI ((1 : Int32)), vR (x2)] [(.int (2 : Int32)), (.ref it)] (fun _ k => XS.iadd X103.here hx rfl (hb hby q7o) rfl k) ?_
  obtain ⟨T104, h104, X104, e104, W104, st104⟩ := putF X103 hx hZ hown (host := "") (Or.inl (hwi hw 122 rfl)) Via.refl eh103 f3 f0 (Or.inl (hwi hw 123 rfl)) (hwi hw 102 rfl) (ty := .int) (by decide) rfl rfl (g := (mkF m 20 #[vR (it), vI ((1 : Int32)), vR (x2)] [(.int (2 : Int32)), (.ref it)])) rfl rfl (hb hby q7p)
  have N104 := Fr.snoc X104 N103 f4
  have Z104 : n0 ≤ h104.size := Nat.le_trans Z0 (Keep.of_wr W104).1
  have K104 := K0.wr W104 (Or.inl (List.mem_of_getElem? (i := 0) rfl))
  have F105 := f0.wr W104
  have F106 := f1.other W104 (Or.inr (slot_ne (Or.inr (hwi hw 119 rfl)) (Or.inl (hwi hw 123 rfl)) (by decide) (t := (.object "java/util/List")) (t' := .int) (by decide) (by decide)))
  have F107 := f2.other W104 (Or.inr (slot_ne (Or.inr (hwi hw 121 rfl)) (Or.inl (hwi hw 123 rfl)) (by decide) (t := .int) (t' := .int) (by decide) (by decide)))
  have F108 := f5.wr W104
  have F109 := f6.other W104 (Or.inl f9)
  have F110 := f7.other W104 f8
  have F111 := f3.same W104
  refine gs m T104 23 #[vR (it), vI ((1 : Int32)), vR (x2)] [] st104 ?_
  refine gs m T104 24 #[vR (it), vI ((1 : Int32)), vR (x2)] [(.ref x2)] (fun _ k => XS.aloadN X104.here hx rfl (hb hby q7q) rfl rfl k) ?_
  exact Go.retA X104 hx (t := (.object "java/lang/Object")) hret rfl hlk rfl (hb hby q7r) (by rw [e104]; exact ⟨rfl, N104, K104, F105, F106, F107, F111⟩) (by decide) (by decide)
theorem own_hn3_2 (l : Launch) (Z : State) (a0 : Array Value) (hw : ∀ d ∈ tables_1, d.before a0 Z = true) (ws : List Jvm.Cond) (it : Addr) (a1 : Addr) (h0 : Heap) (n0 : Nat) (Z0 : n0 ≤ h0.size) (f0 : Exa Z h0 it "java/util/ImmutableCollections$ListItr") (f1 : Fld Z h0 it "java/util/ImmutableCollections$ListItr" "list" "Ljava/util/List;" (.ref a1)) (f2 : Fld Z h0 it "java/util/ImmutableCollections$ListItr" "size" "I" (.int (3 : Int32))) (f3 : Fld Z h0 it "java/util/ImmutableCollections$ListItr" "cursor" "I" (.int (2 : Int32)))  :
    Con l Z (⟨"java/util/ImmutableCollections$ListItr", "hasNext", "()Z"⟩ : MethodName) jdk_53_method_3_code 1 (some .boolean) ({ frames := 0, cells := 0, slots := 0, locals := 0 } : Room) ws #[(.ref it)] h0 (Qret (some (.int (1 : Int32))) h0 n0) 0 0 := by
  refine Con.of (plainFor_of_name own_pn_ImmutableCollections_ListItr) ?_
  intro pgm e s m below meth c s₁ X0 hx hZ hby hml hown hnm hret hlk e0 hs0
  have N0 := Fr.nil n0
  have hown : s.vm.findClass "java/util/ImmutableCollections$ListItr" = some m.cls := hown
  have hnm : meth.name = "hasNext" := hnm
  refine Go.cast (own_ef_jdk_53_method_3_code_R m it) ?_
  refine gs m s₁ 1 #[vR (it)] [(.ref it)] (fun _ k => XS.aloadN X0.here hx rfl (hb hby q74) rfl rfl k) ?_
  obtain ⟨T101, X101, e101, st101⟩ := getF X0 hx hZ hown (host := "") (Or.inl (hwi hw 122 rfl)) Via.refl e0 f3 (g := (mkF m 1 #[vR (it)] [(.ref it)])) rfl rfl (hb hby q75)
  refine gs m T101 4 #[vR (it)] [(.int (2 : Int32))] st101 ?_
  refine gs m T101 5 #[vR (it)] [(.ref it), (.int (2 : Int32))] (fun _ k => XS.aloadN X101.here hx rfl (hb hby q76) rfl rfl k) ?_
  obtain ⟨T102, X102, e102, st102⟩ := getF X101 hx hZ hown (host := "") (Or.inl (hwi hw 120 rfl)) Via.refl e101 f2 (g := (mkF m 5 #[vR (it)] [(.ref it), (.int (2 : Int32))])) rfl rfl (hb hby q77)
  refine gs m T102 8 #[vR (it)] [(.int (3 : Int32)), (.int (2 : Int32))] st102 ?_
  refine gs m T102 11 #[vR (it)] [] (fun _ k => XS.icmpNo X102.here hx rfl (hb hby q78) rfl (feq (by decide : ¬ ((2 : Int32) = (3 : Int32)))).1 k) ?_
  refine gs m T102 12 #[vR (it)] [(.int (1 : Int32))] (fun _ k => XS.iconst X102.here hx rfl (hb hby q7b) k) ?_
  refine gs m T102 16 #[vR (it)] [(.int (1 : Int32))] (fun _ k => XS.goto X102.here hx rfl (pc0 := 12) (pc' := 16) rfl (hb hby q7c) (by decide) (by decide) k) ?_
  exact Go.retN X102 hx (t := .boolean) hret hlk (by simp) (hb hby q7a) (⟨rfl, N0, e102⟩) (by decide) (by decide)
theorem own_nx3_2 (l : Launch) (Z : State) (a0 : Array Value) (hw : ∀ d ∈ tables_1, d.before a0 Z = true) (ws : List Jvm.Cond) (it : Addr) (a1 : Addr) (b2 : Addr) (k2 : ClassId) (x1 : Addr) (x2 : Addr) (x3 : Addr) (h0 : Heap) (n0 : Nat) (Z0 : n0 ≤ h0.size) (f0 : Exa Z h0 it "java/util/ImmutableCollections$ListItr") (f1 : Fld Z h0 it "java/util/ImmutableCollections$ListItr" "list" "Ljava/util/List;" (.ref a1)) (f2 : Fld Z h0 it "java/util/ImmutableCollections$ListItr" "size" "I" (.int (3 : Int32))) (f3 : Fld Z h0 it "java/util/ImmutableCollections$ListItr" "cursor" "I" (.int (2 : Int32))) (f4 : n0 ≤ it) (f5 : Exa Z h0 a1 "java/util/ImmutableCollections$ListN") (f6 : Fld Z h0 a1 "java/util/ImmutableCollections$ListN" "elements" "[Ljava/lang/Object;" (.ref b2)) (f7 : Arv Z h0 b2 k2 (.object "java/lang/Object") (3 : Int32) [(.ref x1), (.ref x2), (.ref x3)] .null) (f8 : b2 ≠ it) (f9 : a1 ≠ it)  :
    ConH [((0 : Nat), (24 : Nat), (25 : Nat), (30 : Nat))] l Z (⟨"java/util/ImmutableCollections$ListItr", "next", "()Ljava/lang/Object;"⟩ : MethodName) jdk_53_method_4_code 3 (some (.object "java/lang/Object")) ({ frames := 1, cells := 0, slots := 0, locals := 13 } : Room) ws #[(.ref it)] h0 (fun v h L => (v = some (.ref x3)) ∧ (Fr n0 L) ∧ (Keep h0 h [it]) ∧ (Exa Z h it "java/util/ImmutableCollections$ListItr") ∧ (Fld Z h it "java/util/ImmutableCollections$ListItr" "list" "Ljava/util/List;" (.ref a1)) ∧ (Fld Z h it "java/util/ImmutableCollections$ListItr" "size" "I" (.int (3 : Int32))) ∧ (Fld Z h it "java/util/ImmutableCollections$ListItr" "cursor" "I" (.int (3 : Int32)))) 0 0 := by
  refine ConH.of (plainFor_of_name own_pn_ImmutableCollections_ListItr) ?_
  intro pgm e s m below meth c s₁ X0 hx hZ hby hml hown hnm hret hlk e0 hs0
  have N0 := Fr.nil n0
  have hown : s.vm.findClass "java/util/ImmutableCollections$ListItr" = some m.cls := hown
  have hnm : meth.name = "next" := hnm
  refine Go.cast (own_ef_jdk_53_method_4_code_R m it) ?_
  have K0 := Keep.refl h0 [it]
  refine gs m s₁ 1 #[vR (it), sU, sU] [(.ref it)] (fun _ k => XS.aloadN X0.here hx rfl (hb hby q7d) rfl rfl k) ?_
  obtain ⟨T101, X101, e101, st101⟩ := getF X0 hx hZ hown (host := "") (Or.inl (hwi hw 122 rfl)) Via.refl e0 f3 (g := (mkF m 1 #[vR (it), sU, sU] [(.ref it)])) rfl rfl (hb hby q7e)
  refine gs m T101 4 #[vR (it), sU, sU] [(.int (2 : Int32))] st101 ?_
  refine gs m T101 5 #[vR (it), vI ((2 : Int32)), sU] [] (fun _ k => XS.istoreN X101.here hx rfl (hb hby q7f) rfl (l' := #[vR (it), vI ((2 : Int32)), sU]) rfl k) ?_
  refine gs m T101 6 #[vR (it), vI ((2 : Int32)), sU] [(.ref it)] (fun _ k => XS.aloadN X101.here hx rfl (hb hby q7g) rfl rfl k) ?_
  obtain ⟨T102, X102, e102, st102⟩ := getF X101 hx hZ hown (host := "") (Or.inl (hwi hw 118 rfl)) Via.refl e101 f1 (g := (mkF m 6 #[vR (it), vI ((2 : Int32)), sU] [(.ref it)])) rfl rfl (hb hby q7h)
  refine gs m T102 9 #[vR (it), vI ((2 : Int32)), sU] [(.ref a1)] st102 ?_
  refine gs m T102 10 #[vR (it), vI ((2 : Int32)), sU] [(.int (2 : Int32)), (.ref a1)] (fun _ k => XS.iloadN X102.here hx rfl (hb hby q7i) rfl  k) ?_
  obtain ⟨cq103, kq103, q103a, q103b, q103c⟩ := isOf hZ e102 f5
  obtain ⟨_, _, ⟨T103, L103, k103, n103⟩, -, X103, ⟨Lc103, hQ103, l103, y103, z103⟩, st103⟩ := X102.interfaceBack hx (xi := (⟨"java/util/List", "get", "(I)Ljava/lang/Object;"⟩ : MethodName)) (y := (⟨"java/util/ImmutableCollections$ListN", "get", "(I)Ljava/lang/Object;"⟩ : MethodName)) hown (mvT hZ (hwi hw 255 rfl)) (mvT hZ (hwi hw 256 rfl)) (mvT hZ (hwi hw 257 rfl)) (mvT hZ (hwi hw 258 rfl)) (mvT hZ (hwi hw 259 rfl)) (mvT hZ (hwi hw 260 rfl)) (mvT hZ (hwi hw 261 rfl)) (mvT hZ (hwi hw 98 rfl)) (by decide) (backOf (W := 0) (Q := Qret (some (.ref x3)) h0 n0) (own_get3_2 l Z a0 hw [] a1 b2 k2 x1 x2 x3 h0 n0 Z0 f5 f6 f7) hZ (hwi hw 262 rfl) (hwi hw 109 rfl) (by decide) (by decide)) q103a q103b q103c (g := (mkF m 10 #[vR (it), vI ((2 : Int32)), sU] [(.int (2 : Int32)), (.ref a1)])) rfl (by rw [hml]; rfl) (Steps.refl _) (argsL := [(.int (2 : Int32))]) (rest := []) (lenOf own_pd16 rfl) rfl (by show 2 * 0 + _ ≤ _; exact Nat.le_of_eq rfl) (hb hby q7j) (fun _ _ => ⟨rfl, e102, (by decide : 0 + 0 ≤ _), (by decide : 0 + 0 ≤ _)⟩)
  dsimp only [Pt.U, Pt.locs, Pt.cells, Pt.slots] at X103 l103 y103 z103 st103 hQ103
  subst l103 y103 z103
  obtain ⟨rfl, N103q, eh103⟩ := hQ103
  have N103 := Fr.app N0 N103q
  refine gs m T103 15 #[vR (it), vI ((2 : Int32)), sU] [(.ref x3)] (fun _ k => st103.trans k) ?_
  refine gs m T103 16 #[vR (it), vI ((2 : Int32)), vR (x3)] [] (fun _ k => XS.astoreN X103.here hx rfl (hb hby q7k) rfl rfl (l' := #[vR (it), vI ((2 : Int32)), vR (x3)]) rfl k) ?_
  refine gs m T103 17 #[vR (it), vI ((2 : Int32)), vR (x3)] [(.ref it)] (fun _ k => XS.aloadN X103.here hx rfl (hb hby q7l) rfl rfl k) ?_
  refine gs m T103 18 #[vR (it), vI ((2 : Int32)), vR (x3)] [(.int (2 : Int32)), (.ref it)] (fun _ k => XS.iloadN X103.here hx rfl (hb hby q7m) rfl  k) ?_
  refine gs m T103 19 #[vR (it), vI ((2 : Int32)), vR (x3)] [(.int (1 : Int32)), (.int (2 : Int32)), (.ref it)] (fun _ k => XS.iconst X103.here hx rfl (hb hby q7n) k) ?_
  refine gs m T103 20 #[vR (it), vI ((2 : Int32)), vR (x3)] [(.int (3 : Int32)), (.ref it)] (fun _ k => XS.iadd X103.here hx rfl (hb hby q7o) rfl k) ?_
  obtain ⟨T104, h104, X104, e104, W104, st104⟩ := putF X103 hx hZ hown (host := "") (Or.inl (hwi hw 122 rfl)) Via.refl eh103 f3 f0 (Or.inl (hwi hw 123 rfl)) (hwi hw 102 rfl) (ty := .int) (by decide) rfl rfl (g := (mkF m 20 #[vR (it), vI ((2 : Int32)), vR (x3)] [(.int (3 : Int32)), (.ref it)])) rfl rfl (hb hby q7p)
  have N104 := Fr.snoc X104 N103 f4
  have Z104 : n0 ≤ h104.size := Nat.le_trans Z0 (Keep.of_wr W104).1
  have K104 := K0.wr W104 (Or.inl (List.mem_of_getElem? (i := 0) rfl))
  have F105 := f0.wr W104
  have F106 := f1.other W104 (Or.inr (slot_ne (Or.inr (hwi hw 119 rfl)) (Or.inl (hwi hw 123 rfl)) (by decide) (t := (.object "java/util/List")) (t' := .int) (by decide) (by decide)))
  have F107 := f2.other W104 (Or.inr (slot_ne (Or.inr (hwi hw 121 rfl)) (Or.inl (hwi hw 123 rfl)) (by decide) (t := .int) (t' := .int) (by decide) (by decide)))
  have F108 := f5.wr W104
  have F109 := f6.other W104 (Or.inl f9)
  have F110 := f7.other W104 f8
  have F111 := f3.same W104
  refine gs m T104 23 #[vR (it), vI ((2 : Int32)), vR (x3)] [] st104 ?_
  refine gs m T104 24 #[vR (it), vI ((2 : Int32)), vR (x3)] [(.ref x3)] (fun _ k => XS.aloadN X104.here hx rfl (hb hby q7q) rfl rfl k) ?_
  exact Go.retA X104 hx (t := (.object "java/lang/Object")) hret rfl hlk rfl (hb hby q7r) (by rw [e104]; exact ⟨rfl, N104, K104, F105, F106, F107, F111⟩) (by decide) (by decide)
theorem own_hn3_3 (l : Launch) (Z : State) (a0 : Array Value) (hw : ∀ d ∈ tables_1, d.before a0 Z = true) (ws : List Jvm.Cond) (it : Addr) (a1 : Addr) (h0 : Heap) (n0 : Nat) (Z0 : n0 ≤ h0.size) (f0 : Exa Z h0 it "java/util/ImmutableCollections$ListItr") (f1 : Fld Z h0 it "java/util/ImmutableCollections$ListItr" "list" "Ljava/util/List;" (.ref a1)) (f2 : Fld Z h0 it "java/util/ImmutableCollections$ListItr" "size" "I" (.int (3 : Int32))) (f3 : Fld Z h0 it "java/util/ImmutableCollections$ListItr" "cursor" "I" (.int (3 : Int32)))  :
    Con l Z (⟨"java/util/ImmutableCollections$ListItr", "hasNext", "()Z"⟩ : MethodName) jdk_53_method_3_code 1 (some .boolean) ({ frames := 0, cells := 0, slots := 0, locals := 0 } : Room) ws #[(.ref it)] h0 (Qret (some (.int (0 : Int32))) h0 n0) 0 0 := by
  refine Con.of (plainFor_of_name own_pn_ImmutableCollections_ListItr) ?_
  intro pgm e s m below meth c s₁ X0 hx hZ hby hml hown hnm hret hlk e0 hs0
  have N0 := Fr.nil n0
  have hown : s.vm.findClass "java/util/ImmutableCollections$ListItr" = some m.cls := hown
  have hnm : meth.name = "hasNext" := hnm
  refine Go.cast (own_ef_jdk_53_method_3_code_R m it) ?_
  refine gs m s₁ 1 #[vR (it)] [(.ref it)] (fun _ k => XS.aloadN X0.here hx rfl (hb hby q74) rfl rfl k) ?_
  obtain ⟨T101, X101, e101, st101⟩ := getF X0 hx hZ hown (host := "") (Or.inl (hwi hw 122 rfl)) Via.refl e0 f3 (g := (mkF m 1 #[vR (it)] [(.ref it)])) rfl rfl (hb hby q75)
  refine gs m T101 4 #[vR (it)] [(.int (3 : Int32))] st101 ?_
  refine gs m T101 5 #[vR (it)] [(.ref it), (.int (3 : Int32))] (fun _ k => XS.aloadN X101.here hx rfl (hb hby q76) rfl rfl k) ?_
  obtain ⟨T102, X102, e102, st102⟩ := getF X101 hx hZ hown (host := "") (Or.inl (hwi hw 120 rfl)) Via.refl e101 f2 (g := (mkF m 5 #[vR (it)] [(.ref it), (.int (3 : Int32))])) rfl rfl (hb hby q77)
  refine gs m T102 8 #[vR (it)] [(.int (3 : Int32)), (.int (3 : Int32))] st102 ?_
  refine gs m T102 15 #[vR (it)] [] (fun _ k => XS.icmpYes X102.here hx rfl (pc0 := 8) (pc' := 15) rfl (hb hby q78) rfl (teq (by decide : (3 : Int32) = (3 : Int32))).1 (by decide) (by decide) k) ?_
  refine gs m T102 16 #[vR (it)] [(.int (0 : Int32))] (fun _ k => XS.iconst X102.here hx rfl (hb hby q79) k) ?_
  exact Go.retN X102 hx (t := .boolean) hret hlk (by simp) (hb hby q7a) (⟨rfl, N0, e102⟩) (by decide) (by decide)
theorem own_ef_jdk_2316_method_22_code_R (m : MethodId) (x0 : Addr) : entryFrame m #[(.ref x0)] 1 = mkF m 0 #[vR (x0)] [] := by first | (simp [entryFrame, mkF, argsToLocals, Value.category]; done) | rfl | (simp [entryFrame, mkF, argsToLocals, own_cI, own_cJ, own_cR, own_cN]; done)
theorem own_pn_Duration : plainName "java/time/Duration" = true := by first | (simp [plainName, overriddenIn]; done) | decide +kernel
theorem q7s : decode jdk_2316_method_22_code 0 = .ok (.aload_n 0, 1) := by decide +kernel
theorem q7t : decode jdk_2316_method_22_code 1 = .ok (.getfield 221, 3) := by decide +kernel
theorem q7u : decode jdk_2316_method_22_code 4 = .ok (.lconst 0, 1) := by decide +kernel
theorem q7v : decode jdk_2316_method_22_code 5 = .ok (.lcmp, 1) := by decide +kernel
theorem q7w : decode jdk_2316_method_22_code 6 = .ok (.ifCond .ge 7, 3) := by decide +kernel
theorem q7x : decode jdk_2316_method_22_code 13 = .ok (.iconst 0, 1) := by decide +kernel
theorem q7y : decode jdk_2316_method_22_code 14 = .ok (.ireturn, 1) := by decide +kernel
theorem own_neg (l : Launch) (Z : State) (a0 : Array Value) (hw : ∀ d ∈ tables_1, d.before a0 Z = true) (ws : List Jvm.Cond) (a1 : Addr) (s1 : Int64) (h0 : Heap) (n0 : Nat) (Z0 : n0 ≤ h0.size) (f0 : Fld Z h0 a1 "java/time/Duration" "seconds" "J" (.long s1)) (hs : ¬ lcmpW s1 (0 : Int64) < (0 : Int32)) :
    Con l Z (⟨"java/time/Duration", "isNegative", "()Z"⟩ : MethodName) jdk_2316_method_22_code 1 (some .boolean) ({ frames := 0, cells := 0, slots := 0, locals := 0 } : Room) ws #[(.ref a1)] h0 (Qret (some (.int (0 : Int32))) h0 n0) 0 0 := by
  refine Con.of (plainFor_of_name own_pn_Duration) ?_
  intro pgm e s m below meth c s₁ X0 hx hZ hby hml hown hnm hret hlk e0 hs0
  have N0 := Fr.nil n0
  have hown : s.vm.findClass "java/time/Duration" = some m.cls := hown
  have hnm : meth.name = "isNegative" := hnm
  refine Go.cast (own_ef_jdk_2316_method_22_code_R m a1) ?_
  refine gs m s₁ 1 #[vR (a1)] [(.ref a1)] (fun _ k => XS.aloadN X0.here hx rfl (hb hby q7s) rfl rfl k) ?_
  obtain ⟨T101, X101, e101, st101⟩ := getF X0 hx hZ hown (host := "") (Or.inl (hwi hw 22 rfl)) Via.refl e0 f0 (g := (mkF m 1 #[vR (a1)] [(.ref a1)])) rfl rfl (hb hby q7t)
  refine gs m T101 4 #[vR (a1)] [(.long s1)] st101 ?_
  refine gs m T101 5 #[vR (a1)] [(.long (0 : Int64)), (.long s1)] (fun _ k => XS.lconst X101.here hx rfl (hb hby q7u) k) ?_
  refine gs m T101 6 #[vR (a1)] [(.int (lcmpW s1 (0 : Int64)))] (fun _ k => XS.lcmp X101.here hx rfl (hb hby q7v) rfl k) ?_
  refine gs m T101 13 #[vR (a1)] [] (fun _ k => XS.ifYes X101.here hx rfl (pc0 := 6) (pc' := 13) rfl (hb hby q7w) rfl ((if0 _ _).trans (flt hs).2.1) (by decide) (by decide) k) ?_
  refine gs m T101 14 #[vR (a1)] [(.int (0 : Int32))] (fun _ k => XS.iconst X101.here hx rfl (hb hby q7x) k) ?_
  exact Go.retN X101 hx (t := .boolean) hret hlk (by simp) (hb hby q7y) (⟨rfl, N0, e101⟩) (by decide) (by decide)
theorem own_ef_prog_7_method_1_code_RR (m : MethodId) (x0 : Addr) (x1 : Addr) : entryFrame m #[(.ref x0), (.ref x1)] 4 = mkF m 0 #[vR (x0), vR (x1), sU, sU] [] := by first | (simp [entryFrame, mkF, argsToLocals, Value.category]; done) | rfl | (simp [entryFrame, mkF, argsToLocals, own_cI, own_cJ, own_cR, own_cN]; done)
theorem own_pn_RetrySchedule : plainName "com/example/nuthatch/nuthatch/RetrySchedule" = true := by first | (simp [plainName, overriddenIn]; done) | decide +kernel
theorem q7z : decode prog_7_method_1_code 0 = .ok (.aload_n 0, 1) := by decide +kernel
theorem q80 : decode prog_7_method_1_code 1 = .ok (.invokespecial 1, 3) := by decide +kernel
theorem q81 : decode prog_7_method_1_code 4 = .ok (.aload_n 1, 1) := by decide +kernel
theorem q82 : decode prog_7_method_1_code 5 = .ok (.invokestatic 7, 3) := by decide +kernel
theorem q83 : decode prog_7_method_1_code 8 = .ok (.astore_n 1, 1) := by decide +kernel
theorem q84 : decode prog_7_method_1_code 9 = .ok (.aload_n 1, 1) := by decide +kernel
theorem q85 : decode prog_7_method_1_code 10 = .ok (.invokeinterface 13 1, 5) := by decide +kernel
theorem own_pd17 : parseMethodDescriptor "()Ljava/util/Iterator;" = some ⟨[], some (.object "java/util/Iterator")⟩ := by decide +kernel
theorem q86 : decode prog_7_method_1_code 15 = .ok (.astore_n 2, 1) := by decide +kernel
theorem q87 : decode prog_7_method_1_code 16 = .ok (.aload_n 2, 1) := by decide +kernel
theorem q88 : decode prog_7_method_1_code 17 = .ok (.invokeinterface 17 1, 5) := by decide +kernel
theorem q89 : decode prog_7_method_1_code 22 = .ok (.ifCond .eq 40, 3) := by decide +kernel
theorem q8a : decode prog_7_method_1_code 62 = .ok (.aload_n 0, 1) := by decide +kernel
theorem q8b : decode prog_7_method_1_code 63 = .ok (.aload_n 1, 1) := by decide +kernel
theorem q8c : decode prog_7_method_1_code 64 = .ok (.putfield 47, 3) := by decide +kernel
theorem q8d : decode prog_7_method_1_code 67 = .ok (.return_, 1) := by decide +kernel
theorem own_rsi0 (l : Launch) (Z : State) (a0 : Array Value) (hw : ∀ d ∈ tables_1, d.before a0 Z = true) (ws : List Jvm.Cond) (a1 : Addr) (al : Addr) (u0 : Value) (el : Addr) (b2 : Addr) (k2 : ClassId) (h0 : Heap) (n0 : Nat) (Z0 : n0 ≤ h0.size) (f0 : Exa Z h0 a1 "com/example/nuthatch/nuthatch/RetrySchedule") (f1 : n0 ≤ a1) (f2 : Fld Z h0 a1 "com/example/nuthatch/nuthatch/RetrySchedule" "delays" "Ljava/util/List;" u0) (f3 : Exa Z h0 al "java/util/ArrayList") (f4 : Fld Z h0 al "java/util/ArrayList" "size" "I" (.int (0 : Int32))) (f5 : Sta Z h0 "java/util/ImmutableCollections" "EMPTY_LIST" "Ljava/util/ImmutableCollections$ListN;" (.ref el)) (f6 : Exa Z h0 el "java/util/ImmutableCollections$ListN") (f7 : Fld Z h0 el "java/util/ImmutableCollections$ListN" "elements" "[Ljava/lang/Object;" (.ref b2)) (f8 : Arv Z h0 b2 k2 (.object "java/lang/Object") (0 : Int32) [] .null) (f9 : al ≠ a1) (f10 : el ≠ a1) (f11 : b2 ≠ a1)  :
    Con l Z (⟨"com/example/nuthatch/nuthatch/RetrySchedule", "<init>", "(Ljava/util/List;)V"⟩ : MethodName) prog_7_method_1_code 4 none ({ frames := 3, cells := 1, slots := 4, locals := 39 } : Room) ws #[(.ref a1), (.ref al)] h0 (fun v h L => (v = none) ∧ (Fr n0 L) ∧ (Keep h0 h [a1]) ∧ (Exa Z h a1 "com/example/nuthatch/nuthatch/RetrySchedule") ∧ (Fld Z h a1 "com/example/nuthatch/nuthatch/RetrySchedule" "delays" "Ljava/util/List;" (.ref el))) 1 4 := by
  refine Con.of (plainFor_of_name own_pn_RetrySchedule) ?_
  intro pgm e s m below meth c s₁ X0 hx hZ hby hml hown hnm hret hlk e0 hs0
  have N0 := Fr.nil n0
  have hown : s.vm.findClass "com/example/nuthatch/nuthatch/RetrySchedule" = some m.cls := hown
  have hnm : meth.name = "<init>" := hnm
  refine Go.cast (own_ef_prog_7_method_1_code_RR m a1 al) ?_
  have K0 := Keep.refl h0 [a1]
  refine gs m s₁ 1 #[vR (a1), vR (al), sU, sU] [(.ref a1)] (fun _ k => XS.aloadN X0.here hx rfl (hb hby q7z) rfl rfl k) ?_
  obtain ⟨_, _, ⟨T101, L101, k101, n101⟩, -, X101, ⟨Lc101, hQ101, l101, y101, z101⟩, st101⟩ := X0.specialBack hx (y := (⟨"java/lang/Record", "<init>", "()V"⟩ : MethodName)) rfl hown (mvT hZ (hwi hw 56 rfl)) (mvT hZ (hwi hw 57 rfl)) (mvT hZ (hwi hw 60 rfl)) (by decide) (backOf (W := 0) (Q := Qret (none) h0 n0) (own_rec l Z a0 hw [] a1 h0 n0 Z0 ) hZ (hwi hw 60 rfl) (hwi hw 59 rfl) (by decide) (by decide)) (g := (mkF m 1 #[vR (a1), vR (al), sU, sU] [(.ref a1)])) rfl (by rw [hml]; rfl) (Steps.refl _) (a := a1) (argsL := []) (rest := []) (lenOf own_pd0 rfl) rfl (by show 2 * 0 + _ ≤ _; exact Nat.le_of_eq rfl) (hb hby q80) (fun _ _ => ⟨rfl, e0, (by decide : 0 + 0 ≤ _), (by decide : 0 + 0 ≤ _)⟩)
  dsimp only [Pt.U, Pt.locs, Pt.cells, Pt.slots] at X101 l101 y101 z101 st101 hQ101
  subst l101 y101 z101
  obtain ⟨rfl, N101q, eh101⟩ := hQ101
  have N101 := Fr.app N0 N101q
  refine gs m T101 4 #[vR (a1), vR (al), sU, sU] [] (fun _ k => st101.trans k) ?_
  refine gs m T101 5 #[vR (a1), vR (al), sU, sU] [(.ref al)] (fun _ k => XS.aloadN X101.here hx rfl (hb hby q81) rfl rfl k) ?_
  obtain ⟨_, _, ⟨T102, L102, k102, n102⟩, -, X102, ⟨Lc102, hQ102, l102, y102, z102⟩, st102⟩ := Jvm.LawKit.callS X101 hx (y := (⟨"java/util/List", "copyOf", "(Ljava/util/Collection;)Ljava/util/List;"⟩ : MethodName)) hown (mvT hZ (hwi hw 62 rfl)) (mvT hZ (hwi hw 63 rfl)) (mvT hZ (hwi hw 64 rfl)) (mvT hZ (hwi hw 65 rfl)) (by decide) (backOf (W := 0) (Q := Qret (some (.ref el)) h0 n0) (own_cof0 l Z a0 hw [] al el h0 n0 Z0 f3 f4 f5) hZ (hwi hw 65 rfl) (hwi hw 64 rfl) (by decide) (by decide)) (g := (mkF m 5 #[vR (a1), vR (al), sU, sU] [(.ref al)])) rfl (by rw [hml]; rfl) (argsL := [(.ref al)]) (rest := []) (lenOf own_pd13 rfl) rfl (by show 2 * 0 + _ ≤ _; exact Nat.le_of_eq rfl) (hb hby q82) (fun _ _ => ⟨rfl, eh101, (by decide : 0 + 0 ≤ _), (by decide : 0 + 0 ≤ _)⟩)
  dsimp only [Pt.U, Pt.locs, Pt.cells, Pt.slots] at X102 l102 y102 z102 st102 hQ102
  subst l102 y102 z102
  obtain ⟨rfl, N102q, eh102⟩ := hQ102
  have N102 := Fr.app N101 N102q
  refine gs m T102 8 #[vR (a1), vR (al), sU, sU] [(.ref el)] (st102) ?_
  refine gs m T102 9 #[vR (a1), vR (el), sU, sU] [] (fun _ k => XS.astoreN X102.here hx rfl (hb hby q83) rfl rfl (l' := #[vR (a1), vR (el), sU, sU]) rfl k) ?_
  refine gs m T102 10 #[vR (a1), vR (el), sU, sU] [(.ref el)] (fun _ k => XS.aloadN X102.here hx rfl (hb hby q84) rfl rfl k) ?_
  obtain ⟨cq103, kq103, q103a, q103b, q103c⟩ := isOf hZ eh102 f6
  obtain ⟨_, _, ⟨T103, L103, k103, n103⟩, -, X103, ⟨Lc103, hQ103, l103, y103, z103⟩, st103⟩ := X102.interfaceBack hx (xi := (⟨"java/util/List", "iterator", "()Ljava/util/Iterator;"⟩ : MethodName)) (y := (⟨"java/util/ImmutableCollections$AbstractImmutableList", "iterator", "()Ljava/util/Iterator;"⟩ : MethodName)) hown (mvT hZ (hwi hw 91 rfl)) (mvT hZ (hwi hw 92 rfl)) (mvT hZ (hwi hw 93 rfl)) (mvT hZ (hwi hw 94 rfl)) (mvT hZ (hwi hw 95 rfl)) (mvT hZ (hwi hw 96 rfl)) (mvT hZ (hwi hw 97 rfl)) (mvT hZ (hwi hw 98 rfl)) (by decide) (backOf (W := 0) (Q := fun v h L => ∃ it : Addr, (v = some (.ref it)) ∧ (Fr n0 L) ∧ (Keep h0 h []) ∧ (h0.size ≤ it) ∧ (Exa Z h it "java/util/ImmutableCollections$ListItr") ∧ (Fld Z h it "java/util/ImmutableCollections$ListItr" "list" "Ljava/util/List;" (.ref el)) ∧ (Fld Z h it "java/util/ImmutableCollections$ListItr" "size" "I" (.int (0 : Int32))) ∧ (Fld Z h it "java/util/ImmutableCollections$ListItr" "cursor" "I" (.int (0 : Int32)))) (own_itr0 l Z a0 hw [] el b2 k2 h0 n0 Z0 f6 f7 f8) hZ (hwi hw 100 rfl) (hwi hw 99 rfl) (by decide) (by decide)) q103a q103b q103c (g := (mkF m 10 #[vR (a1), vR (el), sU, sU] [(.ref el)])) rfl (by rw [hml]; rfl) (Steps.refl _) (argsL := []) (rest := []) (lenOf own_pd17 rfl) rfl (by show 2 * 0 + _ ≤ _; exact Nat.le_of_eq rfl) (hb hby q85) (fun _ _ => ⟨rfl, eh102, (by decide : 0 + 1 ≤ _), (by decide : 0 + 4 ≤ _)⟩)
  dsimp only [Pt.U, Pt.locs, Pt.cells, Pt.slots] at X103 l103 y103 z103 st103 hQ103
  subst l103 y103 z103
  obtain ⟨it_103, rfl, N103q, K103, lt103_0, P103_0, P103_1, P103_2, P103_3⟩ := hQ103
  have N103 := Fr.app N102 N103q
  have ne104 : a1 ≠ it_103 := Nat.ne_of_lt (Nat.lt_of_lt_of_le f0.lt lt103_0)
  have ne105 : al ≠ it_103 := Nat.ne_of_lt (Nat.lt_of_lt_of_le f3.lt lt103_0)
  have ne106 : el ≠ it_103 := Nat.ne_of_lt (Nat.lt_of_lt_of_le f6.lt lt103_0)
  have ne107 : b2 ≠ it_103 := Nat.ne_of_lt (Nat.lt_of_lt_of_le f8.lt lt103_0)
  have ge108 : n0 ≤ it_103 := Nat.le_trans Z0 lt103_0
  have sz109 : h0.size ≤ it_103 := Nat.le_trans K0.1 lt103_0
  have KK103 := K0.trans K103 all0
  have Z103 : n0 ≤ T103.heap.size := Nat.le_trans Z0 K103.1
  have F110 := f0.keep K103
  have F111 := f2.keep K103 nin0
  have F112 := f3.keep K103
  have F113 := f4.keep K103 nin0
  have F114 := own_sta_keep f5 K103 all0
  have F115 := f6.keep K103
  have F116 := f7.keep K103 nin0
  have F117 := f8.keep K103 nin0
  refine gs m T103 15 #[vR (a1), vR (el), sU, sU] [(.ref it_103)] (fun _ k => st103.trans k) ?_
  refine gs m T103 16 #[vR (a1), vR (el), vR (it_103), sU] [] (fun _ k => XS.astoreN X103.here hx rfl (hb hby q86) rfl rfl (l' := #[vR (a1), vR (el), vR (it_103), sU]) rfl k) ?_
  refine gs m T103 17 #[vR (a1), vR (el), vR (it_103), sU] [(.ref it_103)] (fun _ k => XS.aloadN X103.here hx rfl (hb hby q87) rfl rfl k) ?_
  obtain ⟨cq118, kq118, q118a, q118b, q118c⟩ := isOf hZ rfl P103_0
  obtain ⟨_, _, ⟨T118, L118, k118, n118⟩, -, X118, ⟨Lc118, hQ118, l118, y118, z118⟩, st118⟩ := X103.interfaceBack hx (xi := (⟨"java/util/Iterator", "hasNext", "()Z"⟩ : MethodName)) (y := (⟨"java/util/ImmutableCollections$ListItr", "hasNext", "()Z"⟩ : MethodName)) hown (mvT hZ (hwi hw 126 rfl)) (mvT hZ (hwi hw 127 rfl)) (mvT hZ (hwi hw 128 rfl)) (mvT hZ (hwi hw 129 rfl)) (mvT hZ (hwi hw 130 rfl)) (mvT hZ (hwi hw 131 rfl)) (mvT hZ (hwi hw 132 rfl)) (mvT hZ (hwi hw 133 rfl)) (by decide) (backOf (W := 0) (Q := Qret (some (.int (0 : Int32))) T103.heap n0) (own_hn0_0 l Z a0 hw [] it_103 el T103.heap n0 Z103 P103_0 P103_1 P103_2 P103_3) hZ (hwi hw 134 rfl) (hwi hw 103 rfl) (by decide) (by decide)) q118a q118b q118c (g := (mkF m 17 #[vR (a1), vR (el), vR (it_103), sU] [(.ref it_103)])) rfl (by rw [hml]; rfl) (Steps.refl _) (argsL := []) (rest := []) (lenOf own_pd11 rfl) rfl (by show 2 * 0 + _ ≤ _; exact Nat.le_of_eq rfl) (hb hby q88) (fun _ _ => ⟨rfl, rfl, (by decide : 1 + 0 ≤ _), (by decide : 4 + 0 ≤ _)⟩)
  dsimp only [Pt.U, Pt.locs, Pt.cells, Pt.slots] at X118 l118 y118 z118 st118 hQ118
  subst l118 y118 z118
  obtain ⟨rfl, N118q, eh118⟩ := hQ118
  have N118 := Fr.app N103 N118q
  refine gs m T118 22 #[vR (a1), vR (el), vR (it_103), sU] [(.int (0 : Int32))] (fun _ k => st118.trans k) ?_
  refine gs m T118 62 #[vR (a1), vR (el), vR (it_103), sU] [] (fun _ k => XS.ifYes X118.here hx rfl (pc0 := 22) (pc' := 62) rfl (hb hby q89) rfl ((if0 _ _).trans (teq (by decide : (0 : Int32) = (0 : Int32))).1) (by decide) (by decide) k) ?_
  refine gs m T118 63 #[vR (a1), vR (el), vR (it_103), sU] [(.ref a1)] (fun _ k => XS.aloadN X118.here hx rfl (hb hby q8a) rfl rfl k) ?_
  refine gs m T118 64 #[vR (a1), vR (el), vR (it_103), sU] [(.ref el), (.ref a1)] (fun _ k => XS.aloadN X118.here hx rfl (hb hby q8b) rfl rfl k) ?_
  obtain ⟨T119, h119, X119, e119, W119, st119⟩ := putF X118 hx hZ hown (host := "") (Or.inl (hwi hw 135 rfl)) Via.refl eh118 F111 F110 (Or.inr ⟨(hwi hw 136 rfl), rfl, hnm⟩) (hwi hw 51 rfl) (ty := (.object "java/util/List")) (by decide) rfl rfl (g := (mkF m 64 #[vR (a1), vR (el), vR (it_103), sU] [(.ref el), (.ref a1)])) rfl rfl (hb hby q8c)
  have N119 := Fr.snoc X119 N118 f1
  have Z119 : n0 ≤ h119.size := Nat.le_trans Z103 (Keep.of_wr W119).1
  have K119 := KK103.wr W119 (Or.inl (List.mem_of_getElem? (i := 0) rfl))
  have F120 := F110.wr W119
  have F121 := F112.wr W119
  have F122 := F113.other W119 (Or.inl f9)
  have F123 := F114.wr W119
  have F124 := F115.wr W119
  have F125 := F116.other W119 (Or.inl f10)
  have F126 := F117.other W119 f11
  have F127 := P103_0.wr W119
  have F128 := P103_1.other W119 (Or.inl (Ne.symm ne104))
  have F129 := P103_2.other W119 (Or.inl (Ne.symm ne104))
  have F130 := P103_3.other W119 (Or.inl (Ne.symm ne104))
  have F131 := F111.same W119
  refine gs m T119 67 #[vR (a1), vR (el), vR (it_103), sU] [] st119 ?_
  exact Go.retV X119 hx hret hlk (hb hby q8d) (by rw [e119]; exact ⟨rfl, N119, K119, F120, F131⟩) (by decide) (by decide)
theorem q8e : decode prog_7_method_1_code 25 = .ok (.aload_n 2, 1) := by decide +kernel
theorem q8f : decode prog_7_method_1_code 26 = .ok (.invokeinterface 23 1, 5) := by decide +kernel
theorem own_pd18 : parseMethodDescriptor "()Ljava/lang/Object;" = some ⟨[], some (.object "java/lang/Object")⟩ := by decide +kernel
theorem q8g : decode prog_7_method_1_code 31 = .ok (.checkcast 27, 3) := by decide +kernel
theorem q8h : decode prog_7_method_1_code 34 = .ok (.astore_n 3, 1) := by decide +kernel
theorem q8i : decode prog_7_method_1_code 35 = .ok (.aload_n 3, 1) := by decide +kernel
theorem q8j : decode prog_7_method_1_code 36 = .ok (.invokevirtual 29, 3) := by decide +kernel
theorem q8k : decode prog_7_method_1_code 39 = .ok (.ifCond .eq 20, 3) := by decide +kernel
theorem q8l : decode prog_7_method_1_code 59 = .ok (.goto (-43), 3) := by decide +kernel
theorem own_rsi1 (l : Launch) (Z : State) (a0 : Array Value) (hw : ∀ d ∈ tables_1, d.before a0 Z = true) (ws : List Jvm.Cond) (a1 : Addr) (al : Addr) (u0 : Value) (b1 : Addr) (k1 : ClassId) (x1 : Addr) (s1 : Int64) (em : Addr) (h0 : Heap) (n0 : Nat) (Z0 : n0 ≤ h0.size) (f0 : Exa Z h0 a1 "com/example/nuthatch/nuthatch/RetrySchedule") (f1 : n0 ≤ a1) (f2 : Fld Z h0 a1 "com/example/nuthatch/nuthatch/RetrySchedule" "delays" "Ljava/util/List;" u0) (f3 : Exa Z h0 al "java/util/ArrayList") (f4 : Fld Z h0 al "java/util/ArrayList" "elementData" "[Ljava/lang/Object;" (.ref b1)) (f5 : Fld Z h0 al "java/util/ArrayList" "size" "I" (.int (1 : Int32))) (f6 : Exa Z h0 b1 "[Ljava/lang/Object;") (f7 : Arv Z h0 b1 k1 (.object "java/lang/Object") (10 : Int32) [(.ref x1), .null, .null, .null, .null, .null, .null, .null, .null, .null] .null) (f8 : Exa Z h0 x1 "java/time/Duration") (f9 : Fld Z h0 x1 "java/time/Duration" "seconds" "J" (.long s1)) (f10 : Sta Z h0 "java/util/ImmutableCollections" "EMPTY" "Ljava/lang/Object;" (.ref em)) (f11 : al ≠ a1) (f12 : b1 ≠ a1) (f13 : x1 ≠ a1) (ov1 : Ovr Z k1 "java/lang/Object") (MM : MirrorMade Z "[Ljava/lang/Object;") (hs1 : ¬ lcmpW s1 (0 : Int64) < (0 : Int32)) :
    Con l Z (⟨"com/example/nuthatch/nuthatch/RetrySchedule", "<init>", "(Ljava/util/List;)V"⟩ : MethodName) prog_7_method_1_code 4 none ({ frames := 8, cells := 3, slots := 7, locals := 114 } : Room) ws #[(.ref a1), (.ref al)] h0 (fun v h L => ∃ lst : Addr, (v = none) ∧ (Fr n0 L) ∧ (Keep h0 h [a1]) ∧ (h0.size ≤ lst) ∧ (Exa Z h a1 "com/example/nuthatch/nuthatch/RetrySchedule") ∧ (Fld Z h a1 "com/example/nuthatch/nuthatch/RetrySchedule" "delays" "Ljava/util/List;" (.ref lst)) ∧ (Exa Z h lst "java/util/ImmutableCollections$List12") ∧ (Fld Z h lst "java/util/ImmutableCollections$List12" "e0" "Ljava/lang/Object;" (.ref x1)) ∧ (Fld Z h lst "java/util/ImmutableCollections$List12" "e1" "Ljava/lang/Object;" (.ref em))) 3 7 := by
  refine Con.of (plainFor_of_name own_pn_RetrySchedule) ?_
  intro pgm e s m below meth c s₁ X0 hx hZ hby hml hown hnm hret hlk e0 hs0
  have N0 := Fr.nil n0
  have hown : s.vm.findClass "com/example/nuthatch/nuthatch/RetrySchedule" = some m.cls := hown
  have hnm : meth.name = "<init>" := hnm
  refine Go.cast (own_ef_prog_7_method_1_code_RR m a1 al) ?_
  have K0 := Keep.refl h0 [a1]
  refine gs m s₁ 1 #[vR (a1), vR (al), sU, sU] [(.ref a1)] (fun _ k => XS.aloadN X0.here hx rfl (hb hby q7z) rfl rfl k) ?_
  obtain ⟨_, _, ⟨T101, L101, k101, n101⟩, -, X101, ⟨Lc101, hQ101, l101, y101, z101⟩, st101⟩ := X0.specialBack hx (y := (⟨"java/lang/Record", "<init>", "()V"⟩ : MethodName)) rfl hown (mvT hZ (hwi hw 56 rfl)) (mvT hZ (hwi hw 57 rfl)) (mvT hZ (hwi hw 60 rfl)) (by decide) (backOf (W := 0) (Q := Qret (none) h0 n0) (own_rec l Z a0 hw [] a1 h0 n0 Z0 ) hZ (hwi hw 60 rfl) (hwi hw 59 rfl) (by decide) (by decide)) (g := (mkF m 1 #[vR (a1), vR (al), sU, sU] [(.ref a1)])) rfl (by rw [hml]; rfl) (Steps.refl _) (a := a1) (argsL := []) (rest := []) (lenOf own_pd0 rfl) rfl (by show 2 * 0 + _ ≤ _; exact Nat.le_of_eq rfl) (hb hby q80) (fun _ _ => ⟨rfl, e0, (by decide : 0 + 0 ≤ _), (by decide : 0 + 0 ≤ _)⟩)
  dsimp only [Pt.U, Pt.locs, Pt.cells, Pt.slots] at X101 l101 y101 z101 st101 hQ101
  subst l101 y101 z101
  obtain ⟨rfl, N101q, eh101⟩ := hQ101
  have N101 := Fr.app N0 N101q
  refine gs m T101 4 #[vR (a1), vR (al), sU, sU] [] (fun _ k => st101.trans k) ?_
  refine gs m T101 5 #[vR (a1), vR (al), sU, sU] [(.ref al)] (fun _ k => XS.aloadN X101.here hx rfl (hb hby q81) rfl rfl k) ?_
  obtain ⟨_, _, ⟨T102, L102, k102, n102⟩, -, X102, ⟨Lc102, hQ102, l102, y102, z102⟩, st102⟩ := Jvm.LawKit.callS X101 hx (y := (⟨"java/util/List", "copyOf", "(Ljava/util/Collection;)Ljava/util/List;"⟩ : MethodName)) hown (mvT hZ (hwi hw 62 rfl)) (mvT hZ (hwi hw 63 rfl)) (mvT hZ (hwi hw 64 rfl)) (mvT hZ (hwi hw 65 rfl)) (by decide) (backOf (W := 0) (Q := fun v h L => ∃ lst : Addr, (v = some (.ref lst)) ∧ (Fr n0 L) ∧ (Keep h0 h []) ∧ (h0.size ≤ lst) ∧ (Exa Z h lst "java/util/ImmutableCollections$List12") ∧ (Fld Z h lst "java/util/ImmutableCollections$List12" "e0" "Ljava/lang/Object;" (.ref x1)) ∧ (Fld Z h lst "java/util/ImmutableCollections$List12" "e1" "Ljava/lang/Object;" (.ref em))) (own_cof1 l Z a0 hw [] al b1 k1 x1 s1 em h0 n0 Z0 f3 f4 f5 f6 f7 f8 f9 f10 ov1 MM) hZ (hwi hw 65 rfl) (hwi hw 64 rfl) (by decide) (by decide)) (g := (mkF m 5 #[vR (a1), vR (al), sU, sU] [(.ref al)])) rfl (by rw [hml]; rfl) (argsL := [(.ref al)]) (rest := []) (lenOf own_pd13 rfl) rfl (by show 2 * 0 + _ ≤ _; exact Nat.le_of_eq rfl) (hb hby q82) (fun _ _ => ⟨rfl, eh101, (by decide : 0 + 2 ≤ _), (by decide : 0 + 3 ≤ _)⟩)
  dsimp only [Pt.U, Pt.locs, Pt.cells, Pt.slots] at X102 l102 y102 z102 st102 hQ102
  subst l102 y102 z102
  obtain ⟨lst_102, rfl, N102q, K102, lt102_0, P102_0, P102_1, P102_2⟩ := hQ102
  have N102 := Fr.app N101 N102q
  have ne103 : a1 ≠ lst_102 := Nat.ne_of_lt (Nat.lt_of_lt_of_le f0.lt lt102_0)
  have ne104 : al ≠ lst_102 := Nat.ne_of_lt (Nat.lt_of_lt_of_le f3.lt lt102_0)
  have ne105 : b1 ≠ lst_102 := Nat.ne_of_lt (Nat.lt_of_lt_of_le f6.lt lt102_0)
  have ne106 : x1 ≠ lst_102 := Nat.ne_of_lt (Nat.lt_of_lt_of_le f8.lt lt102_0)
  have ge107 : n0 ≤ lst_102 := Nat.le_trans Z0 lt102_0
  have sz108 : h0.size ≤ lst_102 := Nat.le_trans K0.1 lt102_0
  have KK102 := K0.trans K102 all0
  have Z102 : n0 ≤ T102.heap.size := Nat.le_trans Z0 K102.1
  have F109 := f0.keep K102
  have F110 := f2.keep K102 nin0
  have F111 := f3.keep K102
  have F112 := f4.keep K102 nin0
  have F113 := f5.keep K102 nin0
  have F114 := f6.keep K102
  have F115 := f7.keep K102 nin0
  have F116 := f8.keep K102
  have F117 := f9.keep K102 nin0
  have F118 := own_sta_keep f10 K102 all0
  refine gs m T102 8 #[vR (a1), vR (al), sU, sU] [(.ref lst_102)] (st102) ?_
  refine gs m T102 9 #[vR (a1), vR (lst_102), sU, sU] [] (fun _ k => XS.astoreN X102.here hx rfl (hb hby q83) rfl rfl (l' := #[vR (a1), vR (lst_102), sU, sU]) rfl k) ?_
  refine gs m T102 10 #[vR (a1), vR (lst_102), sU, sU] [(.ref lst_102)] (fun _ k => XS.aloadN X102.here hx rfl (hb hby q84) rfl rfl k) ?_
  obtain ⟨cq119, kq119, q119a, q119b, q119c⟩ := isOf hZ rfl P102_0
  obtain ⟨_, _, ⟨T119, L119, k119, n119⟩, -, X119, ⟨Lc119, hQ119, l119, y119, z119⟩, st119⟩ := X102.interfaceBack hx (xi := (⟨"java/util/List", "iterator", "()Ljava/util/Iterator;"⟩ : MethodName)) (y := (⟨"java/util/ImmutableCollections$AbstractImmutableList", "iterator", "()Ljava/util/Iterator;"⟩ : MethodName)) hown (mvT hZ (hwi hw 91 rfl)) (mvT hZ (hwi hw 92 rfl)) (mvT hZ (hwi hw 93 rfl)) (mvT hZ (hwi hw 286 rfl)) (mvT hZ (hwi hw 95 rfl)) (mvT hZ (hwi hw 96 rfl)) (mvT hZ (hwi hw 287 rfl)) (mvT hZ (hwi hw 288 rfl)) (by decide) (backOf (W := 0) (Q := fun v h L => ∃ it : Addr, (v = some (.ref it)) ∧ (Fr n0 L) ∧ (Keep T102.heap h []) ∧ (T102.heap.size ≤ it) ∧ (Exa Z h it "java/util/ImmutableCollections$ListItr") ∧ (Fld Z h it "java/util/ImmutableCollections$ListItr" "list" "Ljava/util/List;" (.ref lst_102)) ∧ (Fld Z h it "java/util/ImmutableCollections$ListItr" "size" "I" (.int (1 : Int32))) ∧ (Fld Z h it "java/util/ImmutableCollections$ListItr" "cursor" "I" (.int (0 : Int32)))) (own_itr1 l Z a0 hw [] lst_102 x1 em T102.heap n0 Z102 P102_0 P102_1 P102_2 F118) hZ (hwi hw 100 rfl) (hwi hw 99 rfl) (by decide) (by decide)) q119a q119b q119c (g := (mkF m 10 #[vR (a1), vR (lst_102), sU, sU] [(.ref lst_102)])) rfl (by rw [hml]; rfl) (Steps.refl _) (argsL := []) (rest := []) (lenOf own_pd17 rfl) rfl (by show 2 * 0 + _ ≤ _; exact Nat.le_of_eq rfl) (hb hby q85) (fun _ _ => ⟨rfl, rfl, (by decide : 2 + 1 ≤ _), (by decide : 3 + 4 ≤ _)⟩)
  dsimp only [Pt.U, Pt.locs, Pt.cells, Pt.slots] at X119 l119 y119 z119 st119 hQ119
  subst l119 y119 z119
  obtain ⟨it_119, rfl, N119q, K119, lt119_0, P119_0, P119_1, P119_2, P119_3⟩ := hQ119
  have N119 := Fr.app N102 N119q
  have ne120 : a1 ≠ it_119 := Nat.ne_of_lt (Nat.lt_of_lt_of_le F109.lt lt119_0)
  have ne121 : al ≠ it_119 := Nat.ne_of_lt (Nat.lt_of_lt_of_le F111.lt lt119_0)
  have ne122 : b1 ≠ it_119 := Nat.ne_of_lt (Nat.lt_of_lt_of_le F114.lt lt119_0)
  have ne123 : x1 ≠ it_119 := Nat.ne_of_lt (Nat.lt_of_lt_of_le F116.lt lt119_0)
  have ne124 : lst_102 ≠ it_119 := Nat.ne_of_lt (Nat.lt_of_lt_of_le P102_0.lt lt119_0)
  have ge125 : n0 ≤ it_119 := Nat.le_trans Z102 lt119_0
  have sz126 : h0.size ≤ it_119 := Nat.le_trans KK102.1 lt119_0
  have KK119 := KK102.trans K119 all0
  have Z119 : n0 ≤ T119.heap.size := Nat.le_trans Z102 K119.1
  have F127 := F109.keep K119
  have F128 := F110.keep K119 nin0
  have F129 := F111.keep K119
  have F130 := F112.keep K119 nin0
  have F131 := F113.keep K119 nin0
  have F132 := F114.keep K119
  have F133 := F115.keep K119 nin0
  have F134 := F116.keep K119
  have F135 := F117.keep K119 nin0
  have F136 := own_sta_keep F118 K119 all0
  have F137 := P102_0.keep K119
  have F138 := P102_1.keep K119 nin0
  have F139 := P102_2.keep K119 nin0
  refine gs m T119 15 #[vR (a1), vR (lst_102), sU, sU] [(.ref it_119)] (fun _ k => st119.trans k) ?_
  refine gs m T119 16 #[vR (a1), vR (lst_102), vR (it_119), sU] [] (fun _ k => XS.astoreN X119.here hx rfl (hb hby q86) rfl rfl (l' := #[vR (a1), vR (lst_102), vR (it_119), sU]) rfl k) ?_
  refine gs m T119 17 #[vR (a1), vR (lst_102), vR (it_119), sU] [(.ref it_119)] (fun _ k => XS.aloadN X119.here hx rfl (hb hby q87) rfl rfl k) ?_
  obtain ⟨cq140, kq140, q140a, q140b, q140c⟩ := isOf hZ rfl P119_0
  obtain ⟨_, _, ⟨T140, L140, k140, n140⟩, -, X140, ⟨Lc140, hQ140, l140, y140, z140⟩, st140⟩ := X119.interfaceBack hx (xi := (⟨"java/util/Iterator", "hasNext", "()Z"⟩ : MethodName)) (y := (⟨"java/util/ImmutableCollections$ListItr", "hasNext", "()Z"⟩ : MethodName)) hown (mvT hZ (hwi hw 126 rfl)) (mvT hZ (hwi hw 127 rfl)) (mvT hZ (hwi hw 128 rfl)) (mvT hZ (hwi hw 129 rfl)) (mvT hZ (hwi hw 130 rfl)) (mvT hZ (hwi hw 131 rfl)) (mvT hZ (hwi hw 132 rfl)) (mvT hZ (hwi hw 133 rfl)) (by decide) (backOf (W := 0) (Q := Qret (some (.int (1 : Int32))) T119.heap n0) (own_hn1_0 l Z a0 hw [] it_119 lst_102 T119.heap n0 Z119 P119_0 P119_1 P119_2 P119_3) hZ (hwi hw 134 rfl) (hwi hw 103 rfl) (by decide) (by decide)) q140a q140b q140c (g := (mkF m 17 #[vR (a1), vR (lst_102), vR (it_119), sU] [(.ref it_119)])) rfl (by rw [hml]; rfl) (Steps.refl _) (argsL := []) (rest := []) (lenOf own_pd11 rfl) rfl (by show 2 * 0 + _ ≤ _; exact Nat.le_of_eq rfl) (hb hby q88) (fun _ _ => ⟨rfl, rfl, (by decide : 3 + 0 ≤ _), (by decide : 7 + 0 ≤ _)⟩)
  dsimp only [Pt.U, Pt.locs, Pt.cells, Pt.slots] at X140 l140 y140 z140 st140 hQ140
  subst l140 y140 z140
  obtain ⟨rfl, N140q, eh140⟩ := hQ140
  have N140 := Fr.app N119 N140q
  refine gs m T140 22 #[vR (a1), vR (lst_102), vR (it_119), sU] [(.int (1 : Int32))] (fun _ k => st140.trans k) ?_
  refine gs m T140 25 #[vR (a1), vR (lst_102), vR (it_119), sU] [] (fun _ k => XS.ifNo X140.here hx rfl (hb hby q89) rfl ((if0 _ _).trans (feq (by decide : ¬ ((1 : Int32) = (0 : Int32)))).1) k) ?_
  refine gs m T140 26 #[vR (a1), vR (lst_102), vR (it_119), sU] [(.ref it_119)] (fun _ k => XS.aloadN X140.here hx rfl (hb hby q8e) rfl rfl k) ?_
  obtain ⟨cq141, kq141, q141a, q141b, q141c⟩ := isOf hZ eh140 P119_0
  obtain ⟨_, _, ⟨T141, L141, k141, n141⟩, -, X141, ⟨Lc141, hQ141, l141, y141, z141⟩, st141⟩ := X140.interfaceBack hx (xi := (⟨"java/util/Iterator", "next", "()Ljava/lang/Object;"⟩ : MethodName)) (y := (⟨"java/util/ImmutableCollections$ListItr", "next", "()Ljava/lang/Object;"⟩ : MethodName)) hown (mvT hZ (hwi hw 247 rfl)) (mvT hZ (hwi hw 248 rfl)) (mvT hZ (hwi hw 249 rfl)) (mvT hZ (hwi hw 250 rfl)) (mvT hZ (hwi hw 251 rfl)) (mvT hZ (hwi hw 252 rfl)) (mvT hZ (hwi hw 253 rfl)) (mvT hZ (hwi hw 133 rfl)) (by decide) (backOfWith (W := 0) (Q := fun v h L => (v = some (.ref x1)) ∧ (Fr n0 L) ∧ (Keep T119.heap h [it_119]) ∧ (Exa Z h it_119 "java/util/ImmutableCollections$ListItr") ∧ (Fld Z h it_119 "java/util/ImmutableCollections$ListItr" "list" "Ljava/util/List;" (.ref lst_102)) ∧ (Fld Z h it_119 "java/util/ImmutableCollections$ListItr" "size" "I" (.int (1 : Int32))) ∧ (Fld Z h it_119 "java/util/ImmutableCollections$ListItr" "cursor" "I" (.int (1 : Int32)))) (own_nx1_0 l Z a0 hw [] it_119 lst_102 x1 em T119.heap n0 Z119 P119_0 P119_1 P119_2 P119_3 ge125 F137 F138 F139 F136 ne124) hZ (hwi hw 254 rfl) (hwi hw 103 rfl) (by decide) (by decide)) q141a q141b q141c (g := (mkF m 26 #[vR (a1), vR (lst_102), vR (it_119), sU] [(.ref it_119)])) rfl (by rw [hml]; rfl) (Steps.refl _) (argsL := []) (rest := []) (lenOf own_pd18 rfl) rfl (by show 2 * 0 + _ ≤ _; exact Nat.le_of_eq rfl) (hb hby q8f) (fun _ _ => ⟨rfl, eh140, (by decide : 3 + 0 ≤ _), (by decide : 7 + 0 ≤ _)⟩)
  dsimp only [Pt.U, Pt.locs, Pt.cells, Pt.slots] at X141 l141 y141 z141 st141 hQ141
  subst l141 y141 z141
  obtain ⟨rfl, N141q, K141, P141_0, P141_1, P141_2, P141_3⟩ := hQ141
  have N141 := Fr.app N140 N141q
  have KK141 := KK119.trans K141 (allS (Or.inr sz126) all0)
  have Z141 : n0 ≤ T141.heap.size := Nat.le_trans Z119 K141.1
  have F142 := F127.keep K141
  have F143 := F128.keep K141 (ninS ne120 nin0)
  have F144 := F129.keep K141
  have F145 := F130.keep K141 (ninS ne121 nin0)
  have F146 := F131.keep K141 (ninS ne121 nin0)
  have F147 := F132.keep K141
  have F148 := F133.keep K141 (ninS ne122 nin0)
  have F149 := F134.keep K141
  have F150 := F135.keep K141 (ninS ne123 nin0)
  have F151 := own_sta_keep F136 K141 (allS (own_plain P119_0) all0)
  have F152 := F137.keep K141
  have F153 := F138.keep K141 (ninS ne124 nin0)
  have F154 := F139.keep K141 (ninS ne124 nin0)
  have F155 := P119_0.keep K141
  refine gs m T141 31 #[vR (a1), vR (lst_102), vR (it_119), sU] [(.ref x1)] (fun _ k => st141.trans k) ?_
  obtain ⟨T156, X156, e156, st156⟩ := castY X141 hx hZ hown (hwi hw 263 rfl) rfl (Ins.self F149) (g := (mkF m 31 #[vR (a1), vR (lst_102), vR (it_119), sU] [(.ref x1)])) rfl rfl (hb hby q8g)
  refine gs m T156 34 #[vR (a1), vR (lst_102), vR (it_119), sU] [(.ref x1)] st156 ?_
  refine gs m T156 35 #[vR (a1), vR (lst_102), vR (it_119), vR (x1)] [] (fun _ k => XS.astoreN X156.here hx rfl (hb hby q8h) rfl rfl (l' := #[vR (a1), vR (lst_102), vR (it_119), vR (x1)]) rfl k) ?_
  refine gs m T156 36 #[vR (a1), vR (lst_102), vR (it_119), vR (x1)] [(.ref x1)] (fun _ k => XS.aloadN X156.here hx rfl (hb hby q8i) rfl rfl k) ?_
  obtain ⟨cq157, kq157, q157a, q157b, q157c⟩ := isOf hZ e156 F149
  obtain ⟨_, _, ⟨T157, L157, k157, n157⟩, -, X157, ⟨Lc157, hQ157, l157, y157, z157⟩, st157⟩ := X156.virtualBack hx (y := (⟨"java/time/Duration", "isNegative", "()Z"⟩ : MethodName)) (z := (⟨"java/time/Duration", "isNegative", "()Z"⟩ : MethodName)) hown (mvT hZ (hwi hw 264 rfl)) (mvT hZ (hwi hw 265 rfl)) (notFace_of_selects (args := #[]) (mvT hZ (hwi hw 267 rfl))) (mvT hZ (hwi hw 267 rfl)) (mvT hZ (hwi hw 266 rfl)) (by decide) (backOf (W := 0) (Q := Qret (some (.int (0 : Int32))) T141.heap n0) (own_neg l Z a0 hw [] x1 s1 T141.heap n0 Z141 F150 hs1) hZ (hwi hw 268 rfl) (hwi hw 8 rfl) (by decide) (by decide)) q157a q157c (g := (mkF m 36 #[vR (a1), vR (lst_102), vR (it_119), vR (x1)] [(.ref x1)])) rfl (by rw [hml]; rfl) (Steps.refl _) (argsL := []) (rest := []) (lenOf own_pd11 rfl) rfl (by show 2 * 0 + _ ≤ _; exact Nat.le_of_eq rfl) (hb hby q8j) (fun _ _ => ⟨rfl, e156, (by decide : 3 + 0 ≤ _), (by decide : 7 + 0 ≤ _)⟩)
  dsimp only [Pt.U, Pt.locs, Pt.cells, Pt.slots] at X157 l157 y157 z157 st157 hQ157
  subst l157 y157 z157
  obtain ⟨rfl, N157q, eh157⟩ := hQ157
  have N157 := Fr.app N141 N157q
  refine gs m T157 39 #[vR (a1), vR (lst_102), vR (it_119), vR (x1)] [(.int (0 : Int32))] (fun _ k => st157.trans k) ?_
  refine gs m T157 59 #[vR (a1), vR (lst_102), vR (it_119), vR (x1)] [] (fun _ k => XS.ifYes X157.here hx rfl (pc0 := 39) (pc' := 59) rfl (hb hby q8k) rfl ((if0 _ _).trans (teq (by decide : (0 : Int32) = (0 : Int32))).1) (by decide) (by decide) k) ?_
  refine gs m T157 16 #[vR (a1), vR (lst_102), vR (it_119), vR (x1)] [] (fun _ k => XS.goto X157.here hx rfl (pc0 := 59) (pc' := 16) rfl (hb hby q8l) (by decide) (by decide) k) ?_
  refine gs m T157 17 #[vR (a1), vR (lst_102), vR (it_119), vR (x1)] [(.ref it_119)] (fun _ k => XS.aloadN X157.here hx rfl (hb hby q87) rfl rfl k) ?_
  obtain ⟨cq158, kq158, q158a, q158b, q158c⟩ := isOf hZ eh157 P141_0
  obtain ⟨_, _, ⟨T158, L158, k158, n158⟩, -, X158, ⟨Lc158, hQ158, l158, y158, z158⟩, st158⟩ := X157.interfaceBack hx (xi := (⟨"java/util/Iterator", "hasNext", "()Z"⟩ : MethodName)) (y := (⟨"java/util/ImmutableCollections$ListItr", "hasNext", "()Z"⟩ : MethodName)) hown (mvT hZ (hwi hw 126 rfl)) (mvT hZ (hwi hw 127 rfl)) (mvT hZ (hwi hw 128 rfl)) (mvT hZ (hwi hw 129 rfl)) (mvT hZ (hwi hw 130 rfl)) (mvT hZ (hwi hw 131 rfl)) (mvT hZ (hwi hw 132 rfl)) (mvT hZ (hwi hw 133 rfl)) (by decide) (backOf (W := 0) (Q := Qret (some (.int (0 : Int32))) T141.heap n0) (own_hn1_1 l Z a0 hw [] it_119 lst_102 T141.heap n0 Z141 P141_0 P141_1 P141_2 P141_3) hZ (hwi hw 134 rfl) (hwi hw 103 rfl) (by decide) (by decide)) q158a q158b q158c (g := (mkF m 17 #[vR (a1), vR (lst_102), vR (it_119), vR (x1)] [(.ref it_119)])) rfl (by rw [hml]; rfl) (Steps.refl _) (argsL := []) (rest := []) (lenOf own_pd11 rfl) rfl (by show 2 * 0 + _ ≤ _; exact Nat.le_of_eq rfl) (hb hby q88) (fun _ _ => ⟨rfl, eh157, (by decide : 3 + 0 ≤ _), (by decide : 7 + 0 ≤ _)⟩)
  dsimp only [Pt.U, Pt.locs, Pt.cells, Pt.slots] at X158 l158 y158 z158 st158 hQ158
  subst l158 y158 z158
  obtain ⟨rfl, N158q, eh158⟩ := hQ158
  have N158 := Fr.app N157 N158q
  refine gs m T158 22 #[vR (a1), vR (lst_102), vR (it_119), vR (x1)] [(.int (0 : Int32))] (fun _ k => st158.trans k) ?_
  refine gs m T158 62 #[vR (a1), vR (lst_102), vR (it_119), vR (x1)] [] (fun _ k => XS.ifYes X158.here hx rfl (pc0 := 22) (pc' := 62) rfl (hb hby q89) rfl ((if0 _ _).trans (teq (by decide : (0 : Int32) = (0 : Int32))).1) (by decide) (by decide) k) ?_
  refine gs m T158 63 #[vR (a1), vR (lst_102), vR (it_119), vR (x1)] [(.ref a1)] (fun _ k => XS.aloadN X158.here hx rfl (hb hby q8a) rfl rfl k) ?_
  refine gs m T158 64 #[vR (a1), vR (lst_102), vR (it_119), vR (x1)] [(.ref lst_102), (.ref a1)] (fun _ k => XS.aloadN X158.here hx rfl (hb hby q8b) rfl rfl k) ?_
  obtain ⟨T159, h159, X159, e159, W159, st159⟩ := putF X158 hx hZ hown (host := "") (Or.inl (hwi hw 135 rfl)) Via.refl eh158 F143 F142 (Or.inr ⟨(hwi hw 136 rfl), rfl, hnm⟩) (hwi hw 51 rfl) (ty := (.object "java/util/List")) (by decide) rfl rfl (g := (mkF m 64 #[vR (a1), vR (lst_102), vR (it_119), vR (x1)] [(.ref lst_102), (.ref a1)])) rfl rfl (hb hby q8c)
  have N159 := Fr.snoc X159 N158 f1
  have Z159 : n0 ≤ h159.size := Nat.le_trans Z141 (Keep.of_wr W159).1
  have K159 := KK141.wr W159 (Or.inl (List.mem_of_getElem? (i := 0) rfl))
  have F160 := F142.wr W159
  have F161 := F144.wr W159
  have F162 := F145.other W159 (Or.inl f11)
  have F163 := F146.other W159 (Or.inl f11)
  have F164 := F147.wr W159
  have F165 := F148.other W159 f12
  have F166 := F149.wr W159
  have F167 := F150.other W159 (Or.inl f13)
  have F168 := F151.wr W159
  have F169 := F152.wr W159
  have F170 := F153.other W159 (Or.inl (Ne.symm ne103))
  have F171 := F154.other W159 (Or.inl (Ne.symm ne103))
  have F172 := P141_0.wr W159
  have F173 := P141_1.other W159 (Or.inl (Ne.symm ne120))
  have F174 := P141_2.other W159 (Or.inl (Ne.symm ne120))
  have F175 := P141_3.other W159 (Or.inl (Ne.symm ne120))
  have F176 := F143.same W159
  refine gs m T159 67 #[vR (a1), vR (lst_102), vR (it_119), vR (x1)] [] st159 ?_
  exact Go.retV X159 hx hret hlk (hb hby q8d) (by rw [e159]; exact ⟨lst_102, rfl, N159, K159, sz108, F160, F176, F169, F170, F171⟩) (by decide) (by decide)
theorem own_rsi2 (l : Launch) (Z : State) (a0 : Array Value) (hw : ∀ d ∈ tables_1, d.before a0 Z = true) (ws : List Jvm.Cond) (a1 : Addr) (al : Addr) (u0 : Value) (b1 : Addr) (k1 : ClassId) (x1 : Addr) (x2 : Addr) (s1 : Int64) (s2 : Int64) (em : Addr) (h0 : Heap) (n0 : Nat) (Z0 : n0 ≤ h0.size) (f0 : Exa Z h0 a1 "com/example/nuthatch/nuthatch/RetrySchedule") (f1 : n0 ≤ a1) (f2 : Fld Z h0 a1 "com/example/nuthatch/nuthatch/RetrySchedule" "delays" "Ljava/util/List;" u0) (f3 : Exa Z h0 al "java/util/ArrayList") (f4 : Fld Z h0 al "java/util/ArrayList" "elementData" "[Ljava/lang/Object;" (.ref b1)) (f5 : Fld Z h0 al "java/util/ArrayList" "size" "I" (.int (2 : Int32))) (f6 : Exa Z h0 b1 "[Ljava/lang/Object;") (f7 : Arv Z h0 b1 k1 (.object "java/lang/Object") (10 : Int32) [(.ref x1), (.ref x2), .null, .null, .null, .null, .null, .null, .null, .null] .null) (f8 : Exa Z h0 x1 "java/time/Duration") (f9 : Fld Z h0 x1 "java/time/Duration" "seconds" "J" (.long s1)) (f10 : Exa Z h0 x2 "java/time/Duration") (f11 : Fld Z h0 x2 "java/time/Duration" "seconds" "J" (.long s2)) (f12 : al ≠ a1) (f13 : b1 ≠ a1) (f14 : x1 ≠ a1) (f15 : x2 ≠ a1) (f16 : Sta Z h0 "java/util/ImmutableCollections" "EMPTY" "Ljava/lang/Object;" (.ref em)) (f17 : x2 ≠ em) (ov1 : Ovr Z k1 "java/lang/Object") (MM : MirrorMade Z "[Ljava/lang/Object;") (hs1 : ¬ lcmpW s1 (0 : Int64) < (0 : Int32)) (hs2 : ¬ lcmpW s2 (0 : Int64) < (0 : Int32)) :
    Con l Z (⟨"com/example/nuthatch/nuthatch/RetrySchedule", "<init>", "(Ljava/util/List;)V"⟩ : MethodName) prog_7_method_1_code 4 none ({ frames := 8, cells := 3, slots := 8, locals := 114 } : Room) ws #[(.ref a1), (.ref al)] h0 (fun v h L => ∃ lst : Addr, (v = none) ∧ (Fr n0 L) ∧ (Keep h0 h [a1]) ∧ (h0.size ≤ lst) ∧ (Exa Z h a1 "com/example/nuthatch/nuthatch/RetrySchedule") ∧ (Fld Z h a1 "com/example/nuthatch/nuthatch/RetrySchedule" "delays" "Ljava/util/List;" (.ref lst)) ∧ (Exa Z h lst "java/util/ImmutableCollections$List12") ∧ (Fld Z h lst "java/util/ImmutableCollections$List12" "e0" "Ljava/lang/Object;" (.ref x1)) ∧ (Fld Z h lst "java/util/ImmutableCollections$List12" "e1" "Ljava/lang/Object;" (.ref x2))) 3 8 := by
  refine Con.of (plainFor_of_name own_pn_RetrySchedule) ?_
  intro pgm e s m below meth c s₁ X0 hx hZ hby hml hown hnm hret hlk e0 hs0
  have N0 := Fr.nil n0
  have hown : s.vm.findClass "com/example/nuthatch/nuthatch/RetrySchedule" = some m.cls := hown
  have hnm : meth.name = "<init>" := hnm
  refine Go.cast (own_ef_prog_7_method_1_code_RR m a1 al) ?_
  have K0 := Keep.refl h0 [a1]
  refine gs m s₁ 1 #[vR (a1), vR (al), sU, sU] [(.ref a1)] (fun _ k => XS.aloadN X0.here hx rfl (hb hby q7z) rfl rfl k) ?_
  obtain ⟨_, _, ⟨T101, L101, k101, n101⟩, -, X101, ⟨Lc101, hQ101, l101, y101, z101⟩, st101⟩ := X0.specialBack hx (y := (⟨"java/lang/Record", "<init>", "()V"⟩ : MethodName)) rfl hown (mvT hZ (hwi hw 56 rfl)) (mvT hZ (hwi hw 57 rfl)) (mvT hZ (hwi hw 60 rfl)) (by decide) (backOf (W := 0) (Q := Qret (none) h0 n0) (own_rec l Z a0 hw [] a1 h0 n0 Z0 ) hZ (hwi hw 60 rfl) (hwi hw 59 rfl) (by decide) (by decide)) (g := (mkF m 1 #[vR (a1), vR (al), sU, sU] [(.ref a1)])) rfl (by rw [hml]; rfl) (Steps.refl _) (a := a1) (argsL := []) (rest := []) (lenOf own_pd0 rfl) rfl (by show 2 * 0 + _ ≤ _; exact Nat.le_of_eq rfl) (hb hby q80) (fun _ _ => ⟨rfl, e0, (by decide : 0 + 0 ≤ _), (by decide : 0 + 0 ≤ _)⟩)
  dsimp only [Pt.U, Pt.locs, Pt.cells, Pt.slots] at X101 l101 y101 z101 st101 hQ101
  subst l101 y101 z101
  obtain ⟨rfl, N101q, eh101⟩ := hQ101
  have N101 := Fr.app N0 N101q
  refine gs m T101 4 #[vR (a1), vR (al), sU, sU] [] (fun _ k => st101.trans k) ?_
  refine gs m T101 5 #[vR (a1), vR (al), sU, sU] [(.ref al)] (fun _ k => XS.aloadN X101.here hx rfl (hb hby q81) rfl rfl k) ?_
  obtain ⟨_, _, ⟨T102, L102, k102, n102⟩, -, X102, ⟨Lc102, hQ102, l102, y102, z102⟩, st102⟩ := Jvm.LawKit.callS X101 hx (y := (⟨"java/util/List", "copyOf", "(Ljava/util/Collection;)Ljava/util/List;"⟩ : MethodName)) hown (mvT hZ (hwi hw 62 rfl)) (mvT hZ (hwi hw 63 rfl)) (mvT hZ (hwi hw 64 rfl)) (mvT hZ (hwi hw 65 rfl)) (by decide) (backOf (W := 0) (Q := fun v h L => ∃ lst : Addr, (v = some (.ref lst)) ∧ (Fr n0 L) ∧ (Keep h0 h []) ∧ (h0.size ≤ lst) ∧ (Exa Z h lst "java/util/ImmutableCollections$List12") ∧ (Fld Z h lst "java/util/ImmutableCollections$List12" "e0" "Ljava/lang/Object;" (.ref x1)) ∧ (Fld Z h lst "java/util/ImmutableCollections$List12" "e1" "Ljava/lang/Object;" (.ref x2))) (own_cof2 l Z a0 hw [] al b1 k1 x1 x2 s1 s2 h0 n0 Z0 f3 f4 f5 f6 f7 f8 f9 f10 f11 ov1 MM) hZ (hwi hw 65 rfl) (hwi hw 64 rfl) (by decide) (by decide)) (g := (mkF m 5 #[vR (a1), vR (al), sU, sU] [(.ref al)])) rfl (by rw [hml]; rfl) (argsL := [(.ref al)]) (rest := []) (lenOf own_pd13 rfl) rfl (by show 2 * 0 + _ ≤ _; exact Nat.le_of_eq rfl) (hb hby q82) (fun _ _ => ⟨rfl, eh101, (by decide : 0 + 2 ≤ _), (by decide : 0 + 4 ≤ _)⟩)
  dsimp only [Pt.U, Pt.locs, Pt.cells, Pt.slots] at X102 l102 y102 z102 st102 hQ102
  subst l102 y102 z102
  obtain ⟨lst_102, rfl, N102q, K102, lt102_0, P102_0, P102_1, P102_2⟩ := hQ102
  have N102 := Fr.app N101 N102q
  have ne103 : a1 ≠ lst_102 := Nat.ne_of_lt (Nat.lt_of_lt_of_le f0.lt lt102_0)
  have ne104 : al ≠ lst_102 := Nat.ne_of_lt (Nat.lt_of_lt_of_le f3.lt lt102_0)
  have ne105 : b1 ≠ lst_102 := Nat.ne_of_lt (Nat.lt_of_lt_of_le f6.lt lt102_0)
  have ne106 : x1 ≠ lst_102 := Nat.ne_of_lt (Nat.lt_of_lt_of_le f8.lt lt102_0)
  have ne107 : x2 ≠ lst_102 := Nat.ne_of_lt (Nat.lt_of_lt_of_le f10.lt lt102_0)
  have ge108 : n0 ≤ lst_102 := Nat.le_trans Z0 lt102_0
  have sz109 : h0.size ≤ lst_102 := Nat.le_trans K0.1 lt102_0
  have KK102 := K0.trans K102 all0
  have Z102 : n0 ≤ T102.heap.size := Nat.le_trans Z0 K102.1
  have F110 := f0.keep K102
  have F111 := f2.keep K102 nin0
  have F112 := f3.keep K102
  have F113 := f4.keep K102 nin0
  have F114 := f5.keep K102 nin0
  have F115 := f6.keep K102
  have F116 := f7.keep K102 nin0
  have F117 := f8.keep K102
  have F118 := f9.keep K102 nin0
  have F119 := f10.keep K102
  have F120 := f11.keep K102 nin0
  have F121 := own_sta_keep f16 K102 all0
  refine gs m T102 8 #[vR (a1), vR (al), sU, sU] [(.ref lst_102)] (st102) ?_
  refine gs m T102 9 #[vR (a1), vR (lst_102), sU, sU] [] (fun _ k => XS.astoreN X102.here hx rfl (hb hby q83) rfl rfl (l' := #[vR (a1), vR (lst_102), sU, sU]) rfl k) ?_
  refine gs m T102 10 #[vR (a1), vR (lst_102), sU, sU] [(.ref lst_102)] (fun _ k => XS.aloadN X102.here hx rfl (hb hby q84) rfl rfl k) ?_
  obtain ⟨cq122, kq122, q122a, q122b, q122c⟩ := isOf hZ rfl P102_0
  obtain ⟨_, _, ⟨T122, L122, k122, n122⟩, -, X122, ⟨Lc122, hQ122, l122, y122, z122⟩, st122⟩ := X102.interfaceBack hx (xi := (⟨"java/util/List", "iterator", "()Ljava/util/Iterator;"⟩ : MethodName)) (y := (⟨"java/util/ImmutableCollections$AbstractImmutableList", "iterator", "()Ljava/util/Iterator;"⟩ : MethodName)) hown (mvT hZ (hwi hw 91 rfl)) (mvT hZ (hwi hw 92 rfl)) (mvT hZ (hwi hw 93 rfl)) (mvT hZ (hwi hw 286 rfl)) (mvT hZ (hwi hw 95 rfl)) (mvT hZ (hwi hw 96 rfl)) (mvT hZ (hwi hw 287 rfl)) (mvT hZ (hwi hw 288 rfl)) (by decide) (backOf (W := 0) (Q := fun v h L => ∃ it : Addr, (v = some (.ref it)) ∧ (Fr n0 L) ∧ (Keep T102.heap h []) ∧ (T102.heap.size ≤ it) ∧ (Exa Z h it "java/util/ImmutableCollections$ListItr") ∧ (Fld Z h it "java/util/ImmutableCollections$ListItr" "list" "Ljava/util/List;" (.ref lst_102)) ∧ (Fld Z h it "java/util/ImmutableCollections$ListItr" "size" "I" (.int (2 : Int32))) ∧ (Fld Z h it "java/util/ImmutableCollections$ListItr" "cursor" "I" (.int (0 : Int32)))) (own_itr2 l Z a0 hw [] lst_102 x1 x2 em T102.heap n0 Z102 P102_0 P102_1 P102_2 F121 f17) hZ (hwi hw 100 rfl) (hwi hw 99 rfl) (by decide) (by decide)) q122a q122b q122c (g := (mkF m 10 #[vR (a1), vR (lst_102), sU, sU] [(.ref lst_102)])) rfl (by rw [hml]; rfl) (Steps.refl _) (argsL := []) (rest := []) (lenOf own_pd17 rfl) rfl (by show 2 * 0 + _ ≤ _; exact Nat.le_of_eq rfl) (hb hby q85) (fun _ _ => ⟨rfl, rfl, (by decide : 2 + 1 ≤ _), (by decide : 4 + 4 ≤ _)⟩)
  dsimp only [Pt.U, Pt.locs, Pt.cells, Pt.slots] at X122 l122 y122 z122 st122 hQ122
  subst l122 y122 z122
  obtain ⟨it_122, rfl, N122q, K122, lt122_0, P122_0, P122_1, P122_2, P122_3⟩ := hQ122
  have N122 := Fr.app N102 N122q
  have ne123 : a1 ≠ it_122 := Nat.ne_of_lt (Nat.lt_of_lt_of_le F110.lt lt122_0)
  have ne124 : al ≠ it_122 := Nat.ne_of_lt (Nat.lt_of_lt_of_le F112.lt lt122_0)
  have ne125 : b1 ≠ it_122 := Nat.ne_of_lt (Nat.lt_of_lt_of_le F115.lt lt122_0)
  have ne126 : x1 ≠ it_122 := Nat.ne_of_lt (Nat.lt_of_lt_of_le F117.lt lt122_0)
  have ne127 : x2 ≠ it_122 := Nat.ne_of_lt (Nat.lt_of_lt_of_le F119.lt lt122_0)
  have ne128 : lst_102 ≠ it_122 := Nat.ne_of_lt (Nat.lt_of_lt_of_le P102_0.lt lt122_0)
  have ge129 : n0 ≤ it_122 := Nat.le_trans Z102 lt122_0
  have sz130 : h0.size ≤ it_122 := Nat.le_trans KK102.1 lt122_0
  have KK122 := KK102.trans K122 all0
  have Z122 : n0 ≤ T122.heap.size := Nat.le_trans Z102 K122.1
  have F131 := F110.keep K122
  have F132 := F111.keep K122 nin0
  have F133 := F112.keep K122
  have F134 := F113.keep K122 nin0
  have F135 := F114.keep K122 nin0
  have F136 := F115.keep K122
  have F137 := F116.keep K122 nin0
  have F138 := F117.keep K122
  have F139 := F118.keep K122 nin0
  have F140 := F119.keep K122
  have F141 := F120.keep K122 nin0
  have F142 := own_sta_keep F121 K122 all0
  have F143 := P102_0.keep K122
  have F144 := P102_1.keep K122 nin0
  have F145 := P102_2.keep K122 nin0
  refine gs m T122 15 #[vR (a1), vR (lst_102), sU, sU] [(.ref it_122)] (fun _ k => st122.trans k) ?_
  refine gs m T122 16 #[vR (a1), vR (lst_102), vR (it_122), sU] [] (fun _ k => XS.astoreN X122.here hx rfl (hb hby q86) rfl rfl (l' := #[vR (a1), vR (lst_102), vR (it_122), sU]) rfl k) ?_
  refine gs m T122 17 #[vR (a1), vR (lst_102), vR (it_122), sU] [(.ref it_122)] (fun _ k => XS.aloadN X122.here hx rfl (hb hby q87) rfl rfl k) ?_
  obtain ⟨cq146, kq146, q146a, q146b, q146c⟩ := isOf hZ rfl P122_0
  obtain ⟨_, _, ⟨T146, L146, k146, n146⟩, -, X146, ⟨Lc146, hQ146, l146, y146, z146⟩, st146⟩ := X122.interfaceBack hx (xi := (⟨"java/util/Iterator", "hasNext", "()Z"⟩ : MethodName)) (y := (⟨"java/util/ImmutableCollections$ListItr", "hasNext", "()Z"⟩ : MethodName)) hown (mvT hZ (hwi hw 126 rfl)) (mvT hZ (hwi hw 127 rfl)) (mvT hZ (hwi hw 128 rfl)) (mvT hZ (hwi hw 129 rfl)) (mvT hZ (hwi hw 130 rfl)) (mvT hZ (hwi hw 131 rfl)) (mvT hZ (hwi hw 132 rfl)) (mvT hZ (hwi hw 133 rfl)) (by decide) (backOf (W := 0) (Q := Qret (some (.int (1 : Int32))) T122.heap n0) (own_hn2_0 l Z a0 hw [] it_122 lst_102 T122.heap n0 Z122 P122_0 P122_1 P122_2 P122_3) hZ (hwi hw 134 rfl) (hwi hw 103 rfl) (by decide) (by decide)) q146a q146b q146c (g := (mkF m 17 #[vR (a1), vR (lst_102), vR (it_122), sU] [(.ref it_122)])) rfl (by rw [hml]; rfl) (Steps.refl _) (argsL := []) (rest := []) (lenOf own_pd11 rfl) rfl (by show 2 * 0 + _ ≤ _; exact Nat.le_of_eq rfl) (hb hby q88) (fun _ _ => ⟨rfl, rfl, (by decide : 3 + 0 ≤ _), (by decide : 8 + 0 ≤ _)⟩)
  dsimp only [Pt.U, Pt.locs, Pt.cells, Pt.slots] at X146 l146 y146 z146 st146 hQ146
  subst l146 y146 z146
  obtain ⟨rfl, N146q, eh146⟩ := hQ146
  have N146 := Fr.app N122 N146q
  refine gs m T146 22 #[vR (a1), vR (lst_102), vR (it_122), sU] [(.int (1 : Int32))] (fun _ k => st146.trans k) ?_
  refine gs m T146 25 #[vR (a1), vR (lst_102), vR (it_122), sU] [] (fun _ k => XS.ifNo X146.here hx rfl (hb hby q89) rfl ((if0 _ _).trans (feq (by decide : ¬ ((1 : Int32) = (0 : Int32)))).1) k) ?_
  refine gs m T146 26 #[vR (a1), vR (lst_102), vR (it_122), sU] [(.ref it_122)] (fun _ k => XS.aloadN X146.here hx rfl (hb hby q8e) rfl rfl k) ?_
  obtain ⟨cq147, kq147, q147a, q147b, q147c⟩ := isOf hZ eh146 P122_0
  obtain ⟨_, _, ⟨T147, L147, k147, n147⟩, -, X147, ⟨Lc147, hQ147, l147, y147, z147⟩, st147⟩ := X146.interfaceBack hx (xi := (⟨"java/util/Iterator", "next", "()Ljava/lang/Object;"⟩ : MethodName)) (y := (⟨"java/util/ImmutableCollections$ListItr", "next", "()Ljava/lang/Object;"⟩ : MethodName)) hown (mvT hZ (hwi hw 247 rfl)) (mvT hZ (hwi hw 248 rfl)) (mvT hZ (hwi hw 249 rfl)) (mvT hZ (hwi hw 250 rfl)) (mvT hZ (hwi hw 251 rfl)) (mvT hZ (hwi hw 252 rfl)) (mvT hZ (hwi hw 253 rfl)) (mvT hZ (hwi hw 133 rfl)) (by decide) (backOfWith (W := 0) (Q := fun v h L => (v = some (.ref x1)) ∧ (Fr n0 L) ∧ (Keep T122.heap h [it_122]) ∧ (Exa Z h it_122 "java/util/ImmutableCollections$ListItr") ∧ (Fld Z h it_122 "java/util/ImmutableCollections$ListItr" "list" "Ljava/util/List;" (.ref lst_102)) ∧ (Fld Z h it_122 "java/util/ImmutableCollections$ListItr" "size" "I" (.int (2 : Int32))) ∧ (Fld Z h it_122 "java/util/ImmutableCollections$ListItr" "cursor" "I" (.int (1 : Int32)))) (own_nx2_0 l Z a0 hw [] it_122 lst_102 x1 x2 em T122.heap n0 Z122 P122_0 P122_1 P122_2 P122_3 ge129 F143 F144 F145 F142 f17 ne128) hZ (hwi hw 254 rfl) (hwi hw 103 rfl) (by decide) (by decide)) q147a q147b q147c (g := (mkF m 26 #[vR (a1), vR (lst_102), vR (it_122), sU] [(.ref it_122)])) rfl (by rw [hml]; rfl) (Steps.refl _) (argsL := []) (rest := []) (lenOf own_pd18 rfl) rfl (by show 2 * 0 + _ ≤ _; exact Nat.le_of_eq rfl) (hb hby q8f) (fun _ _ => ⟨rfl, eh146, (by decide : 3 + 0 ≤ _), (by decide : 8 + 0 ≤ _)⟩)
  dsimp only [Pt.U, Pt.locs, Pt.cells, Pt.slots] at X147 l147 y147 z147 st147 hQ147
  subst l147 y147 z147
  obtain ⟨rfl, N147q, K147, P147_0, P147_1, P147_2, P147_3⟩ := hQ147
  have N147 := Fr.app N146 N147q
  have KK147 := KK122.trans K147 (allS (Or.inr sz130) all0)
  have Z147 : n0 ≤ T147.heap.size := Nat.le_trans Z122 K147.1
  have F148 := F131.keep K147
  have F149 := F132.keep K147 (ninS ne123 nin0)
  have F150 := F133.keep K147
  have F151 := F134.keep K147 (ninS ne124 nin0)
  have F152 := F135.keep K147 (ninS ne124 nin0)
  have F153 := F136.keep K147
  have F154 := F137.keep K147 (ninS ne125 nin0)
  have F155 := F138.keep K147
  have F156 := F139.keep K147 (ninS ne126 nin0)
  have F157 := F140.keep K147
  have F158 := F141.keep K147 (ninS ne127 nin0)
  have F159 := own_sta_keep F142 K147 (allS (own_plain P122_0) all0)
  have F160 := F143.keep K147
  have F161 := F144.keep K147 (ninS ne128 nin0)
  have F162 := F145.keep K147 (ninS ne128 nin0)
  have F163 := P122_0.keep K147
  refine gs m T147 31 #[vR (a1), vR (lst_102), vR (it_122), sU] [(.ref x1)] (fun _ k => st147.trans k) ?_
  obtain ⟨T164, X164, e164, st164⟩ := castY X147 hx hZ hown (hwi hw 263 rfl) rfl (Ins.self F155) (g := (mkF m 31 #[vR (a1), vR (lst_102), vR (it_122), sU] [(.ref x1)])) rfl rfl (hb hby q8g)
  refine gs m T164 34 #[vR (a1), vR (lst_102), vR (it_122), sU] [(.ref x1)] st164 ?_
  refine gs m T164 35 #[vR (a1), vR (lst_102), vR (it_122), vR (x1)] [] (fun _ k => XS.astoreN X164.here hx rfl (hb hby q8h) rfl rfl (l' := #[vR (a1), vR (lst_102), vR (it_122), vR (x1)]) rfl k) ?_
  refine gs m T164 36 #[vR (a1), vR (lst_102), vR (it_122), vR (x1)] [(.ref x1)] (fun _ k => XS.aloadN X164.here hx rfl (hb hby q8i) rfl rfl k) ?_
  obtain ⟨cq165, kq165, q165a, q165b, q165c⟩ := isOf hZ e164 F155
  obtain ⟨_, _, ⟨T165, L165, k165, n165⟩, -, X165, ⟨Lc165, hQ165, l165, y165, z165⟩, st165⟩ := X164.virtualBack hx (y := (⟨"java/time/Duration", "isNegative", "()Z"⟩ : MethodName)) (z := (⟨"java/time/Duration", "isNegative", "()Z"⟩ : MethodName)) hown (mvT hZ (hwi hw 264 rfl)) (mvT hZ (hwi hw 265 rfl)) (notFace_of_selects (args := #[]) (mvT hZ (hwi hw 267 rfl))) (mvT hZ (hwi hw 267 rfl)) (mvT hZ (hwi hw 266 rfl)) (by decide) (backOf (W := 0) (Q := Qret (some (.int (0 : Int32))) T147.heap n0) (own_neg l Z a0 hw [] x1 s1 T147.heap n0 Z147 F156 hs1) hZ (hwi hw 268 rfl) (hwi hw 8 rfl) (by decide) (by decide)) q165a q165c (g := (mkF m 36 #[vR (a1), vR (lst_102), vR (it_122), vR (x1)] [(.ref x1)])) rfl (by rw [hml]; rfl) (Steps.refl _) (argsL := []) (rest := []) (lenOf own_pd11 rfl) rfl (by show 2 * 0 + _ ≤ _; exact Nat.le_of_eq rfl) (hb hby q8j) (fun _ _ => ⟨rfl, e164, (by decide : 3 + 0 ≤ _), (by decide : 8 + 0 ≤ _)⟩)
  dsimp only [Pt.U, Pt.locs, Pt.cells, Pt.slots] at X165 l165 y165 z165 st165 hQ165
  subst l165 y165 z165
  obtain ⟨rfl, N165q, eh165⟩ := hQ165
  have N165 := Fr.app N147 N165q
  refine gs m T165 39 #[vR (a1), vR (lst_102), vR (it_122), vR (x1)] [(.int (0 : Int32))] (fun _ k => st165.trans k) ?_
  refine gs m T165 59 #[vR (a1), vR (lst_102), vR (it_122), vR (x1)] [] (fun _ k => XS.ifYes X165.here hx rfl (pc0 := 39) (pc' := 59) rfl (hb hby q8k) rfl ((if0 _ _).trans (teq (by decide : (0 : Int32) = (0 : Int32))).1) (by decide) (by decide) k) ?_
  refine gs m T165 16 #[vR (a1), vR (lst_102), vR (it_122), vR (x1)] [] (fun _ k => XS.goto X165.here hx rfl (pc0 := 59) (pc' := 16) rfl (hb hby q8l) (by decide) (by decide) k) ?_
  refine gs m T165 17 #[vR (a1), vR (lst_102), vR (it_122), vR (x1)] [(.ref it_122)] (fun _ k => XS.aloadN X165.here hx rfl (hb hby q87) rfl rfl k) ?_
  obtain ⟨cq166, kq166, q166a, q166b, q166c⟩ := isOf hZ eh165 P147_0
  obtain ⟨_, _, ⟨T166, L166, k166, n166⟩, -, X166, ⟨Lc166, hQ166, l166, y166, z166⟩, st166⟩ := X165.interfaceBack hx (xi := (⟨"java/util/Iterator", "hasNext", "()Z"⟩ : MethodName)) (y := (⟨"java/util/ImmutableCollections$ListItr", "hasNext", "()Z"⟩ : MethodName)) hown (mvT hZ (hwi hw 126 rfl)) (mvT hZ (hwi hw 127 rfl)) (mvT hZ (hwi hw 128 rfl)) (mvT hZ (hwi hw 129 rfl)) (mvT hZ (hwi hw 130 rfl)) (mvT hZ (hwi hw 131 rfl)) (mvT hZ (hwi hw 132 rfl)) (mvT hZ (hwi hw 133 rfl)) (by decide) (backOf (W := 0) (Q := Qret (some (.int (1 : Int32))) T147.heap n0) (own_hn2_1 l Z a0 hw [] it_122 lst_102 T147.heap n0 Z147 P147_0 P147_1 P147_2 P147_3) hZ (hwi hw 134 rfl) (hwi hw 103 rfl) (by decide) (by decide)) q166a q166b q166c (g := (mkF m 17 #[vR (a1), vR (lst_102), vR (it_122), vR (x1)] [(.ref it_122)])) rfl (by rw [hml]; rfl) (Steps.refl _) (argsL := []) (rest := []) (lenOf own_pd11 rfl) rfl (by show 2 * 0 + _ ≤ _; exact Nat.le_of_eq rfl) (hb hby q88) (fun _ _ => ⟨rfl, eh165, (by decide : 3 + 0 ≤ _), (by decide : 8 + 0 ≤ _)⟩)
  dsimp only [Pt.U, Pt.locs, Pt.cells, Pt.slots] at X166 l166 y166 z166 st166 hQ166
  subst l166 y166 z166
  obtain ⟨rfl, N166q, eh166⟩ := hQ166
  have N166 := Fr.app N165 N166q
  refine gs m T166 22 #[vR (a1), vR (lst_102), vR (it_122), vR (x1)] [(.int (1 : Int32))] (fun _ k => st166.trans k) ?_
  refine gs m T166 25 #[vR (a1), vR (lst_102), vR (it_122), vR (x1)] [] (fun _ k => XS.ifNo X166.here hx rfl (hb hby q89) rfl ((if0 _ _).trans (feq (by decide : ¬ ((1 : Int32) = (0 : Int32)))).1) k) ?_
  refine gs m T166 26 #[vR (a1), vR (lst_102), vR (it_122), vR (x1)] [(.ref it_122)] (fun _ k => XS.aloadN X166.here hx rfl (hb hby q8e) rfl rfl k) ?_
  obtain ⟨cq167, kq167, q167a, q167b, q167c⟩ := isOf hZ eh166 P147_0
  obtain ⟨_, _, ⟨T167, L167, k167, n167⟩, -, X167, ⟨Lc167, hQ167, l167, y167, z167⟩, st167⟩ := X166.interfaceBack hx (xi := (⟨"java/util/Iterator", "next", "()Ljava/lang/Object;"⟩ : MethodName)) (y := (⟨"java/util/ImmutableCollections$ListItr", "next", "()Ljava/lang/Object;"⟩ : MethodName)) hown (mvT hZ (hwi hw 247 rfl)) (mvT hZ (hwi hw 248 rfl)) (mvT hZ (hwi hw 249 rfl)) (mvT hZ (hwi hw 250 rfl)) (mvT hZ (hwi hw 251 rfl)) (mvT hZ (hwi hw 252 rfl)) (mvT hZ (hwi hw 253 rfl)) (mvT hZ (hwi hw 133 rfl)) (by decide) (backOfWith (W := 0) (Q := fun v h L => (v = some (.ref x2)) ∧ (Fr n0 L) ∧ (Keep T147.heap h [it_122]) ∧ (Exa Z h it_122 "java/util/ImmutableCollections$ListItr") ∧ (Fld Z h it_122 "java/util/ImmutableCollections$ListItr" "list" "Ljava/util/List;" (.ref lst_102)) ∧ (Fld Z h it_122 "java/util/ImmutableCollections$ListItr" "size" "I" (.int (2 : Int32))) ∧ (Fld Z h it_122 "java/util/ImmutableCollections$ListItr" "cursor" "I" (.int (2 : Int32)))) (own_nx2_1 l Z a0 hw [] it_122 lst_102 x1 x2 em T147.heap n0 Z147 P147_0 P147_1 P147_2 P147_3 ge129 F160 F161 F162 F159 f17 ne128) hZ (hwi hw 254 rfl) (hwi hw 103 rfl) (by decide) (by decide)) q167a q167b q167c (g := (mkF m 26 #[vR (a1), vR (lst_102), vR (it_122), vR (x1)] [(.ref it_122)])) rfl (by rw [hml]; rfl) (Steps.refl _) (argsL := []) (rest := []) (lenOf own_pd18 rfl) rfl (by show 2 * 0 + _ ≤ _; exact Nat.le_of_eq rfl) (hb hby q8f) (fun _ _ => ⟨rfl, eh166, (by decide : 3 + 0 ≤ _), (by decide : 8 + 0 ≤ _)⟩)
  dsimp only [Pt.U, Pt.locs, Pt.cells, Pt.slots] at X167 l167 y167 z167 st167 hQ167
  subst l167 y167 z167
  obtain ⟨rfl, N167q, K167, P167_0, P167_1, P167_2, P167_3⟩ := hQ167
  have N167 := Fr.app N166 N167q
  have KK167 := KK147.trans K167 (allS (Or.inr sz130) all0)
  have Z167 : n0 ≤ T167.heap.size := Nat.le_trans Z147 K167.1
  have F168 := F148.keep K167
  have F169 := F149.keep K167 (ninS ne123 nin0)
  have F170 := F150.keep K167
  have F171 := F151.keep K167 (ninS ne124 nin0)
  have F172 := F152.keep K167 (ninS ne124 nin0)
  have F173 := F153.keep K167
  have F174 := F154.keep K167 (ninS ne125 nin0)
  have F175 := F155.keep K167
  have F176 := F156.keep K167 (ninS ne126 nin0)
  have F177 := F157.keep K167
  have F178 := F158.keep K167 (ninS ne127 nin0)
  have F179 := own_sta_keep F159 K167 (allS (own_plain P147_0) all0)
  have F180 := F160.keep K167
  have F181 := F161.keep K167 (ninS ne128 nin0)
  have F182 := F162.keep K167 (ninS ne128 nin0)
  have F183 := P147_0.keep K167
  refine gs m T167 31 #[vR (a1), vR (lst_102), vR (it_122), vR (x1)] [(.ref x2)] (fun _ k => st167.trans k) ?_
  obtain ⟨T184, X184, e184, st184⟩ := castY X167 hx hZ hown (hwi hw 263 rfl) rfl (Ins.self F177) (g := (mkF m 31 #[vR (a1), vR (lst_102), vR (it_122), vR (x1)] [(.ref x2)])) rfl rfl (hb hby q8g)
  refine gs m T184 34 #[vR (a1), vR (lst_102), vR (it_122), vR (x1)] [(.ref x2)] st184 ?_
  refine gs m T184 35 #[vR (a1), vR (lst_102), vR (it_122), vR (x2)] [] (fun _ k => XS.astoreN X184.here hx rfl (hb hby q8h) rfl rfl (l' := #[vR (a1), vR (lst_102), vR (it_122), vR (x2)]) rfl k) ?_
  refine gs m T184 36 #[vR (a1), vR (lst_102), vR (it_122), vR (x2)] [(.ref x2)] (fun _ k => XS.aloadN X184.here hx rfl (hb hby q8i) rfl rfl k) ?_
  obtain ⟨cq185, kq185, q185a, q185b, q185c⟩ := isOf hZ e184 F177
  obtain ⟨_, _, ⟨T185, L185, k185, n185⟩, -, X185, ⟨Lc185, hQ185, l185, y185, z185⟩, st185⟩ := X184.virtualBack hx (y := (⟨"java/time/Duration", "isNegative", "()Z"⟩ : MethodName)) (z := (⟨"java/time/Duration", "isNegative", "()Z"⟩ : MethodName)) hown (mvT hZ (hwi hw 264 rfl)) (mvT hZ (hwi hw 265 rfl)) (notFace_of_selects (args := #[]) (mvT hZ (hwi hw 267 rfl))) (mvT hZ (hwi hw 267 rfl)) (mvT hZ (hwi hw 266 rfl)) (by decide) (backOf (W := 0) (Q := Qret (some (.int (0 : Int32))) T167.heap n0) (own_neg l Z a0 hw [] x2 s2 T167.heap n0 Z167 F178 hs2) hZ (hwi hw 268 rfl) (hwi hw 8 rfl) (by decide) (by decide)) q185a q185c (g := (mkF m 36 #[vR (a1), vR (lst_102), vR (it_122), vR (x2)] [(.ref x2)])) rfl (by rw [hml]; rfl) (Steps.refl _) (argsL := []) (rest := []) (lenOf own_pd11 rfl) rfl (by show 2 * 0 + _ ≤ _; exact Nat.le_of_eq rfl) (hb hby q8j) (fun _ _ => ⟨rfl, e184, (by decide : 3 + 0 ≤ _), (by decide : 8 + 0 ≤ _)⟩)
  dsimp only [Pt.U, Pt.locs, Pt.cells, Pt.slots] at X185 l185 y185 z185 st185 hQ185
  subst l185 y185 z185
  obtain ⟨rfl, N185q, eh185⟩ := hQ185
  have N185 := Fr.app N167 N185q
  refine gs m T185 39 #[vR (a1), vR (lst_102), vR (it_122), vR (x2)] [(.int (0 : Int32))] (fun _ k => st185.trans k) ?_
  refine gs m T185 59 #[vR (a1), vR (lst_102), vR (it_122), vR (x2)] [] (fun _ k => XS.ifYes X185.here hx rfl (pc0 := 39) (pc' := 59) rfl (hb hby q8k) rfl ((if0 _ _).trans (teq (by decide : (0 : Int32) = (0 : Int32))).1) (by decide) (by decide) k) ?_
  refine gs m T185 16 #[vR (a1), vR (lst_102), vR (it_122), vR (x2)] [] (fun _ k => XS.goto X185.here hx rfl (pc0 := 59) (pc' := 16) rfl (hb hby q8l) (by decide) (by decide) k) ?_
  refine gs m T185 17 #[vR (a1), vR (lst_102), vR (it_122), vR (x2)] [(.ref it_122)] (fun _ k => XS.aloadN X185.here hx rfl (hb hby q87) rfl rfl k) ?_
  obtain ⟨cq186, kq186, q186a, q186b, q186c⟩ := isOf hZ eh185 P167_0
  obtain ⟨_, _, ⟨T186, L186, k186, n186⟩, -, X186, ⟨Lc186, hQ186, l186, y186, z186⟩, st186⟩ := X185.interfaceBack hx (xi := (⟨"java/util/Iterator", "hasNext", "()Z"⟩ : MethodName)) (y := (⟨"java/util/ImmutableCollections$ListItr", "hasNext", "()Z"⟩ : MethodName)) hown (mvT hZ (hwi hw 126 rfl)) (mvT hZ (hwi hw 127 rfl)) (mvT hZ (hwi hw 128 rfl)) (mvT hZ (hwi hw 129 rfl)) (mvT hZ (hwi hw 130 rfl)) (mvT hZ (hwi hw 131 rfl)) (mvT hZ (hwi hw 132 rfl)) (mvT hZ (hwi hw 133 rfl)) (by decide) (backOf (W := 0) (Q := Qret (some (.int (0 : Int32))) T167.heap n0) (own_hn2_2 l Z a0 hw [] it_122 lst_102 T167.heap n0 Z167 P167_0 P167_1 P167_2 P167_3) hZ (hwi hw 134 rfl) (hwi hw 103 rfl) (by decide) (by decide)) q186a q186b q186c (g := (mkF m 17 #[vR (a1), vR (lst_102), vR (it_122), vR (x2)] [(.ref it_122)])) rfl (by rw [hml]; rfl) (Steps.refl _) (argsL := []) (rest := []) (lenOf own_pd11 rfl) rfl (by show 2 * 0 + _ ≤ _; exact Nat.le_of_eq rfl) (hb hby q88) (fun _ _ => ⟨rfl, eh185, (by decide : 3 + 0 ≤ _), (by decide : 8 + 0 ≤ _)⟩)
  dsimp only [Pt.U, Pt.locs, Pt.cells, Pt.slots] at X186 l186 y186 z186 st186 hQ186
  subst l186 y186 z186
  obtain ⟨rfl, N186q, eh186⟩ := hQ186
  have N186 := Fr.app N185 N186q
  refine gs m T186 22 #[vR (a1), vR (lst_102), vR (it_122), vR (x2)] [(.int (0 : Int32))] (fun _ k => st186.trans k) ?_
  refine gs m T186 62 #[vR (a1), vR (lst_102), vR (it_122), vR (x2)] [] (fun _ k => XS.ifYes X186.here hx rfl (pc0 := 22) (pc' := 62) rfl (hb hby q89) rfl ((if0 _ _).trans (teq (by decide : (0 : Int32) = (0 : Int32))).1) (by decide) (by decide) k) ?_
  refine gs m T186 63 #[vR (a1), vR (lst_102), vR (it_122), vR (x2)] [(.ref a1)] (fun _ k => XS.aloadN X186.here hx rfl (hb hby q8a) rfl rfl k) ?_
  refine gs m T186 64 #[vR (a1), vR (lst_102), vR (it_122), vR (x2)] [(.ref lst_102), (.ref a1)] (fun _ k => XS.aloadN X186.here hx rfl (hb hby q8b) rfl rfl k) ?_
  obtain ⟨T187, h187, X187, e187, W187, st187⟩ := putF X186 hx hZ hown (host := "") (Or.inl (hwi hw 135 rfl)) Via.refl eh186 F169 F168 (Or.inr ⟨(hwi hw 136 rfl), rfl, hnm⟩) (hwi hw 51 rfl) (ty := (.object "java/util/List")) (by decide) rfl rfl (g := (mkF m 64 #[vR (a1), vR (lst_102), vR (it_122), vR (x2)] [(.ref lst_102), (.ref a1)])) rfl rfl (hb hby q8c)
  have N187 := Fr.snoc X187 N186 f1
  have Z187 : n0 ≤ h187.size := Nat.le_trans Z167 (Keep.of_wr W187).1
  have K187 := KK167.wr W187 (Or.inl (List.mem_of_getElem? (i := 0) rfl))
  have F188 := F168.wr W187
  have F189 := F170.wr W187
  have F190 := F171.other W187 (Or.inl f12)
  have F191 := F172.other W187 (Or.inl f12)
  have F192 := F173.wr W187
  have F193 := F174.other W187 f13
  have F194 := F175.wr W187
  have F195 := F176.other W187 (Or.inl f14)
  have F196 := F177.wr W187
  have F197 := F178.other W187 (Or.inl f15)
  have F198 := F179.wr W187
  have F199 := F180.wr W187
  have F200 := F181.other W187 (Or.inl (Ne.symm ne103))
  have F201 := F182.other W187 (Or.inl (Ne.symm ne103))
  have F202 := P167_0.wr W187
  have F203 := P167_1.other W187 (Or.inl (Ne.symm ne123))
  have F204 := P167_2.other W187 (Or.inl (Ne.symm ne123))
  have F205 := P167_3.other W187 (Or.inl (Ne.symm ne123))
  have F206 := F169.same W187
  refine gs m T187 67 #[vR (a1), vR (lst_102), vR (it_122), vR (x2)] [] st187 ?_
  exact Go.retV X187 hx hret hlk (hb hby q8d) (by rw [e187]; exact ⟨lst_102, rfl, N187, K187, sz109, F188, F206, F199, F200, F201⟩) (by decide) (by decide)
theorem own_rsi3 (l : Launch) (Z : State) (a0 : Array Value) (hw : ∀ d ∈ tables_1, d.before a0 Z = true) (ws : List Jvm.Cond) (a1 : Addr) (al : Addr) (u0 : Value) (b1 : Addr) (k1 : ClassId) (x1 : Addr) (x2 : Addr) (x3 : Addr) (s1 : Int64) (s2 : Int64) (s3 : Int64) (h0 : Heap) (n0 : Nat) (Z0 : n0 ≤ h0.size) (f0 : Exa Z h0 a1 "com/example/nuthatch/nuthatch/RetrySchedule") (f1 : n0 ≤ a1) (f2 : Fld Z h0 a1 "com/example/nuthatch/nuthatch/RetrySchedule" "delays" "Ljava/util/List;" u0) (f3 : Exa Z h0 al "java/util/ArrayList") (f4 : Fld Z h0 al "java/util/ArrayList" "elementData" "[Ljava/lang/Object;" (.ref b1)) (f5 : Fld Z h0 al "java/util/ArrayList" "size" "I" (.int (3 : Int32))) (f6 : Exa Z h0 b1 "[Ljava/lang/Object;") (f7 : Arv Z h0 b1 k1 (.object "java/lang/Object") (10 : Int32) [(.ref x1), (.ref x2), (.ref x3), .null, .null, .null, .null, .null, .null, .null] .null) (f8 : Exa Z h0 x1 "java/time/Duration") (f9 : Fld Z h0 x1 "java/time/Duration" "seconds" "J" (.long s1)) (f10 : Exa Z h0 x2 "java/time/Duration") (f11 : Fld Z h0 x2 "java/time/Duration" "seconds" "J" (.long s2)) (f12 : Exa Z h0 x3 "java/time/Duration") (f13 : Fld Z h0 x3 "java/time/Duration" "seconds" "J" (.long s3)) (f14 : al ≠ a1) (f15 : b1 ≠ a1) (f16 : x1 ≠ a1) (f17 : x2 ≠ a1) (f18 : x3 ≠ a1) (ov1 : Ovr Z k1 "java/lang/Object") (MM : MirrorMade Z "[Ljava/lang/Object;") (hs1 : ¬ lcmpW s1 (0 : Int64) < (0 : Int32)) (hs2 : ¬ lcmpW s2 (0 : Int64) < (0 : Int32)) (hs3 : ¬ lcmpW s3 (0 : Int64) < (0 : Int32)) :
    Con l Z (⟨"com/example/nuthatch/nuthatch/RetrySchedule", "<init>", "(Ljava/util/List;)V"⟩ : MethodName) prog_7_method_1_code 4 none ({ frames := 9, cells := 4, slots := 12, locals := 115 } : Room) ws #[(.ref a1), (.ref al)] h0 (fun v h L => ∃ lst : Addr, ∃ b2 : Addr, ∃ k2 : ClassId, (v = none) ∧ (Fr n0 L) ∧ (Keep h0 h [a1]) ∧ (h0.size ≤ lst) ∧ (h0.size ≤ b2) ∧ (Exa Z h a1 "com/example/nuthatch/nuthatch/RetrySchedule") ∧ (Fld Z h a1 "com/example/nuthatch/nuthatch/RetrySchedule" "delays" "Ljava/util/List;" (.ref lst)) ∧ (Exa Z h lst "java/util/ImmutableCollections$ListN") ∧ (Fld Z h lst "java/util/ImmutableCollections$ListN" "elements" "[Ljava/lang/Object;" (.ref b2)) ∧ (Arv Z h b2 k2 (.object "java/lang/Object") (3 : Int32) [(.ref x1), (.ref x2), (.ref x3)] .null)) 4 12 := by
  refine Con.of (plainFor_of_name own_pn_RetrySchedule) ?_
  intro pgm e s m below meth c s₁ X0 hx hZ hby hml hown hnm hret hlk e0 hs0
  have N0 := Fr.nil n0
  have hown : s.vm.findClass "com/example/nuthatch/nuthatch/RetrySchedule" = some m.cls := hown
  have hnm : meth.name = "<init>" := hnm
  refine Go.cast (own_ef_prog_7_method_1_code_RR m a1 al) ?_
  have K0 := Keep.refl h0 [a1]
  refine gs m s₁ 1 #[vR (a1), vR (al), sU, sU] [(.ref a1)] (fun _ k => XS.aloadN X0.here hx rfl (hb hby q7z) rfl rfl k) ?_
  obtain ⟨_, _, ⟨T101, L101, k101, n101⟩, -, X101, ⟨Lc101, hQ101, l101, y101, z101⟩, st101⟩ := X0.specialBack hx (y := (⟨"java/lang/Record", "<init>", "()V"⟩ : MethodName)) rfl hown (mvT hZ (hwi hw 56 rfl)) (mvT hZ (hwi hw 57 rfl)) (mvT hZ (hwi hw 60 rfl)) (by decide) (backOf (W := 0) (Q := Qret (none) h0 n0) (own_rec l Z a0 hw [] a1 h0 n0 Z0 ) hZ (hwi hw 60 rfl) (hwi hw 59 rfl) (by decide) (by decide)) (g := (mkF m 1 #[vR (a1), vR (al), sU, sU] [(.ref a1)])) rfl (by rw [hml]; rfl) (Steps.refl _) (a := a1) (argsL := []) (rest := []) (lenOf own_pd0 rfl) rfl (by show 2 * 0 + _ ≤ _; exact Nat.le_of_eq rfl) (hb hby q80) (fun _ _ => ⟨rfl, e0, (by decide : 0 + 0 ≤ _), (by decide : 0 + 0 ≤ _)⟩)
  dsimp only [Pt.U, Pt.locs, Pt.cells, Pt.slots] at X101 l101 y101 z101 st101 hQ101
  subst l101 y101 z101
  obtain ⟨rfl, N101q, eh101⟩ := hQ101
  have N101 := Fr.app N0 N101q
  refine gs m T101 4 #[vR (a1), vR (al), sU, sU] [] (fun _ k => st101.trans k) ?_
  refine gs m T101 5 #[vR (a1), vR (al), sU, sU] [(.ref al)] (fun _ k => XS.aloadN X101.here hx rfl (hb hby q81) rfl rfl k) ?_
  obtain ⟨_, _, ⟨T102, L102, k102, n102⟩, -, X102, ⟨Lc102, hQ102, l102, y102, z102⟩, st102⟩ := Jvm.LawKit.callS X101 hx (y := (⟨"java/util/List", "copyOf", "(Ljava/util/Collection;)Ljava/util/List;"⟩ : MethodName)) hown (mvT hZ (hwi hw 62 rfl)) (mvT hZ (hwi hw 63 rfl)) (mvT hZ (hwi hw 64 rfl)) (mvT hZ (hwi hw 65 rfl)) (by decide) (backOf (W := 0) (Q := fun v h L => ∃ lst : Addr, ∃ b2 : Addr, ∃ k2 : ClassId, (v = some (.ref lst)) ∧ (Fr n0 L) ∧ (Keep h0 h []) ∧ (h0.size ≤ lst) ∧ (h0.size ≤ b2) ∧ (Exa Z h lst "java/util/ImmutableCollections$ListN") ∧ (Fld Z h lst "java/util/ImmutableCollections$ListN" "elements" "[Ljava/lang/Object;" (.ref b2)) ∧ (Arv Z h b2 k2 (.object "java/lang/Object") (3 : Int32) [(.ref x1), (.ref x2), (.ref x3)] .null)) (own_cof3 l Z a0 hw [] al b1 k1 x1 x2 x3 s1 s2 s3 h0 n0 Z0 f3 f4 f5 f6 f7 f8 f9 f10 f11 f12 f13 ov1 MM) hZ (hwi hw 65 rfl) (hwi hw 64 rfl) (by decide) (by decide)) (g := (mkF m 5 #[vR (a1), vR (al), sU, sU] [(.ref al)])) rfl (by rw [hml]; rfl) (argsL := [(.ref al)]) (rest := []) (lenOf own_pd13 rfl) rfl (by show 2 * 0 + _ ≤ _; exact Nat.le_of_eq rfl) (hb hby q82) (fun _ _ => ⟨rfl, eh101, (by decide : 0 + 3 ≤ _), (by decide : 0 + 8 ≤ _)⟩)
  dsimp only [Pt.U, Pt.locs, Pt.cells, Pt.slots] at X102 l102 y102 z102 st102 hQ102
  subst l102 y102 z102
  obtain ⟨lst_102, b2_102, k2_102, rfl, N102q, K102, lt102_0, lt102_1, P102_0, P102_1, P102_2⟩ := hQ102
  have N102 := Fr.app N101 N102q
  have ne103 : a1 ≠ lst_102 := Nat.ne_of_lt (Nat.lt_of_lt_of_le f0.lt lt102_0)
  have ne104 : al ≠ lst_102 := Nat.ne_of_lt (Nat.lt_of_lt_of_le f3.lt lt102_0)
  have ne105 : b1 ≠ lst_102 := Nat.ne_of_lt (Nat.lt_of_lt_of_le f6.lt lt102_0)
  have ne106 : x1 ≠ lst_102 := Nat.ne_of_lt (Nat.lt_of_lt_of_le f8.lt lt102_0)
  have ne107 : x2 ≠ lst_102 := Nat.ne_of_lt (Nat.lt_of_lt_of_le f10.lt lt102_0)
  have ne108 : x3 ≠ lst_102 := Nat.ne_of_lt (Nat.lt_of_lt_of_le f12.lt lt102_0)
  have ge109 : n0 ≤ lst_102 := Nat.le_trans Z0 lt102_0
  have sz110 : h0.size ≤ lst_102 := Nat.le_trans K0.1 lt102_0
  have ne111 : a1 ≠ b2_102 := Nat.ne_of_lt (Nat.lt_of_lt_of_le f0.lt lt102_1)
  have ne112 : al ≠ b2_102 := Nat.ne_of_lt (Nat.lt_of_lt_of_le f3.lt lt102_1)
  have ne113 : b1 ≠ b2_102 := Nat.ne_of_lt (Nat.lt_of_lt_of_le f6.lt lt102_1)
  have ne114 : x1 ≠ b2_102 := Nat.ne_of_lt (Nat.lt_of_lt_of_le f8.lt lt102_1)
  have ne115 : x2 ≠ b2_102 := Nat.ne_of_lt (Nat.lt_of_lt_of_le f10.lt lt102_1)
  have ne116 : x3 ≠ b2_102 := Nat.ne_of_lt (Nat.lt_of_lt_of_le f12.lt lt102_1)
  have ge117 : n0 ≤ b2_102 := Nat.le_trans Z0 lt102_1
  have sz118 : h0.size ≤ b2_102 := Nat.le_trans K0.1 lt102_1
  have KK102 := K0.trans K102 all0
  have Z102 : n0 ≤ T102.heap.size := Nat.le_trans Z0 K102.1
  have F119 := f0.keep K102
  have F120 := f2.keep K102 nin0
  have F121 := f3.keep K102
  have F122 := f4.keep K102 nin0
  have F123 := f5.keep K102 nin0
  have F124 := f6.keep K102
  have F125 := f7.keep K102 nin0
  have F126 := f8.keep K102
  have F127 := f9.keep K102 nin0
  have F128 := f10.keep K102
  have F129 := f11.keep K102 nin0
  have F130 := f12.keep K102
  have F131 := f13.keep K102 nin0
  refine gs m T102 8 #[vR (a1), vR (al), sU, sU] [(.ref lst_102)] (st102) ?_
  refine gs m T102 9 #[vR (a1), vR (lst_102), sU, sU] [] (fun _ k => XS.astoreN X102.here hx rfl (hb hby q83) rfl rfl (l' := #[vR (a1), vR (lst_102), sU, sU]) rfl k) ?_
  refine gs m T102 10 #[vR (a1), vR (lst_102), sU, sU] [(.ref lst_102)] (fun _ k => XS.aloadN X102.here hx rfl (hb hby q84) rfl rfl k) ?_
  obtain ⟨cq132, kq132, q132a, q132b, q132c⟩ := isOf hZ rfl P102_0
  obtain ⟨_, _, ⟨T132, L132, k132, n132⟩, -, X132, ⟨Lc132, hQ132, l132, y132, z132⟩, st132⟩ := X102.interfaceBack hx (xi := (⟨"java/util/List", "iterator", "()Ljava/util/Iterator;"⟩ : MethodName)) (y := (⟨"java/util/ImmutableCollections$AbstractImmutableList", "iterator", "()Ljava/util/Iterator;"⟩ : MethodName)) hown (mvT hZ (hwi hw 91 rfl)) (mvT hZ (hwi hw 92 rfl)) (mvT hZ (hwi hw 93 rfl)) (mvT hZ (hwi hw 94 rfl)) (mvT hZ (hwi hw 95 rfl)) (mvT hZ (hwi hw 96 rfl)) (mvT hZ (hwi hw 97 rfl)) (mvT hZ (hwi hw 98 rfl)) (by decide) (backOf (W := 0) (Q := fun v h L => ∃ it : Addr, (v = some (.ref it)) ∧ (Fr n0 L) ∧ (Keep T102.heap h []) ∧ (T102.heap.size ≤ it) ∧ (Exa Z h it "java/util/ImmutableCollections$ListItr") ∧ (Fld Z h it "java/util/ImmutableCollections$ListItr" "list" "Ljava/util/List;" (.ref lst_102)) ∧ (Fld Z h it "java/util/ImmutableCollections$ListItr" "size" "I" (.int (3 : Int32))) ∧ (Fld Z h it "java/util/ImmutableCollections$ListItr" "cursor" "I" (.int (0 : Int32)))) (own_itr3 l Z a0 hw [] lst_102 b2_102 k2_102 x1 x2 x3 T102.heap n0 Z102 P102_0 P102_1 P102_2) hZ (hwi hw 100 rfl) (hwi hw 99 rfl) (by decide) (by decide)) q132a q132b q132c (g := (mkF m 10 #[vR (a1), vR (lst_102), sU, sU] [(.ref lst_102)])) rfl (by rw [hml]; rfl) (Steps.refl _) (argsL := []) (rest := []) (lenOf own_pd17 rfl) rfl (by show 2 * 0 + _ ≤ _; exact Nat.le_of_eq rfl) (hb hby q85) (fun _ _ => ⟨rfl, rfl, (by decide : 3 + 1 ≤ _), (by decide : 8 + 4 ≤ _)⟩)
  dsimp only [Pt.U, Pt.locs, Pt.cells, Pt.slots] at X132 l132 y132 z132 st132 hQ132
  subst l132 y132 z132
  obtain ⟨it_132, rfl, N132q, K132, lt132_0, P132_0, P132_1, P132_2, P132_3⟩ := hQ132
  have N132 := Fr.app N102 N132q
  have ne133 : a1 ≠ it_132 := Nat.ne_of_lt (Nat.lt_of_lt_of_le F119.lt lt132_0)
  have ne134 : al ≠ it_132 := Nat.ne_of_lt (Nat.lt_of_lt_of_le F121.lt lt132_0)
  have ne135 : b1 ≠ it_132 := Nat.ne_of_lt (Nat.lt_of_lt_of_le F124.lt lt132_0)
  have ne136 : x1 ≠ it_132 := Nat.ne_of_lt (Nat.lt_of_lt_of_le F126.lt lt132_0)
  have ne137 : x2 ≠ it_132 := Nat.ne_of_lt (Nat.lt_of_lt_of_le F128.lt lt132_0)
  have ne138 : x3 ≠ it_132 := Nat.ne_of_lt (Nat.lt_of_lt_of_le F130.lt lt132_0)
  have ne139 : lst_102 ≠ it_132 := Nat.ne_of_lt (Nat.lt_of_lt_of_le P102_0.lt lt132_0)
  have ne140 : b2_102 ≠ it_132 := Nat.ne_of_lt (Nat.lt_of_lt_of_le P102_2.lt lt132_0)
  have ge141 : n0 ≤ it_132 := Nat.le_trans Z102 lt132_0
  have sz142 : h0.size ≤ it_132 := Nat.le_trans KK102.1 lt132_0
  have KK132 := KK102.trans K132 all0
  have Z132 : n0 ≤ T132.heap.size := Nat.le_trans Z102 K132.1
  have F143 := F119.keep K132
  have F144 := F120.keep K132 nin0
  have F145 := F121.keep K132
  have F146 := F122.keep K132 nin0
  have F147 := F123.keep K132 nin0
  have F148 := F124.keep K132
  have F149 := F125.keep K132 nin0
  have F150 := F126.keep K132
  have F151 := F127.keep K132 nin0
  have F152 := F128.keep K132
  have F153 := F129.keep K132 nin0
  have F154 := F130.keep K132
  have F155 := F131.keep K132 nin0
  have F156 := P102_0.keep K132
  have F157 := P102_1.keep K132 nin0
  have F158 := P102_2.keep K132 nin0
  refine gs m T132 15 #[vR (a1), vR (lst_102), sU, sU] [(.ref it_132)] (fun _ k => st132.trans k) ?_
  refine gs m T132 16 #[vR (a1), vR (lst_102), vR (it_132), sU] [] (fun _ k => XS.astoreN X132.here hx rfl (hb hby q86) rfl rfl (l' := #[vR (a1), vR (lst_102), vR (it_132), sU]) rfl k) ?_
  refine gs m T132 17 #[vR (a1), vR (lst_102), vR (it_132), sU] [(.ref it_132)] (fun _ k => XS.aloadN X132.here hx rfl (hb hby q87) rfl rfl k) ?_
  obtain ⟨cq159, kq159, q159a, q159b, q159c⟩ := isOf hZ rfl P132_0
  obtain ⟨_, _, ⟨T159, L159, k159, n159⟩, -, X159, ⟨Lc159, hQ159, l159, y159, z159⟩, st159⟩ := X132.interfaceBack hx (xi := (⟨"java/util/Iterator", "hasNext", "()Z"⟩ : MethodName)) (y := (⟨"java/util/ImmutableCollections$ListItr", "hasNext", "()Z"⟩ : MethodName)) hown (mvT hZ (hwi hw 126 rfl)) (mvT hZ (hwi hw 127 rfl)) (mvT hZ (hwi hw 128 rfl)) (mvT hZ (hwi hw 129 rfl)) (mvT hZ (hwi hw 130 rfl)) (mvT hZ (hwi hw 131 rfl)) (mvT hZ (hwi hw 132 rfl)) (mvT hZ (hwi hw 133 rfl)) (by decide) (backOf (W := 0) (Q := Qret (some (.int (1 : Int32))) T132.heap n0) (own_hn3_0 l Z a0 hw [] it_132 lst_102 T132.heap n0 Z132 P132_0 P132_1 P132_2 P132_3) hZ (hwi hw 134 rfl) (hwi hw 103 rfl) (by decide) (by decide)) q159a q159b q159c (g := (mkF m 17 #[vR (a1), vR (lst_102), vR (it_132), sU] [(.ref it_132)])) rfl (by rw [hml]; rfl) (Steps.refl _) (argsL := []) (rest := []) (lenOf own_pd11 rfl) rfl (by show 2 * 0 + _ ≤ _; exact Nat.le_of_eq rfl) (hb hby q88) (fun _ _ => ⟨rfl, rfl, (by decide : 4 + 0 ≤ _), (by decide : 12 + 0 ≤ _)⟩)
  dsimp only [Pt.U, Pt.locs, Pt.cells, Pt.slots] at X159 l159 y159 z159 st159 hQ159
  subst l159 y159 z159
  obtain ⟨rfl, N159q, eh159⟩ := hQ159
  have N159 := Fr.app N132 N159q
  refine gs m T159 22 #[vR (a1), vR (lst_102), vR (it_132), sU] [(.int (1 : Int32))] (fun _ k => st159.trans k) ?_
  refine gs m T159 25 #[vR (a1), vR (lst_102), vR (it_132), sU] [] (fun _ k => XS.ifNo X159.here hx rfl (hb hby q89) rfl ((if0 _ _).trans (feq (by decide : ¬ ((1 : Int32) = (0 : Int32)))).1) k) ?_
  refine gs m T159 26 #[vR (a1), vR (lst_102), vR (it_132), sU] [(.ref it_132)] (fun _ k => XS.aloadN X159.here hx rfl (hb hby q8e) rfl rfl k) ?_
  obtain ⟨cq160, kq160, q160a, q160b, q160c⟩ := isOf hZ eh159 P132_0
  obtain ⟨_, _, ⟨T160, L160, k160, n160⟩, -, X160, ⟨Lc160, hQ160, l160, y160, z160⟩, st160⟩ := X159.interfaceBack hx (xi := (⟨"java/util/Iterator", "next", "()Ljava/lang/Object;"⟩ : MethodName)) (y := (⟨"java/util/ImmutableCollections$ListItr", "next", "()Ljava/lang/Object;"⟩ : MethodName)) hown (mvT hZ (hwi hw 247 rfl)) (mvT hZ (hwi hw 248 rfl)) (mvT hZ (hwi hw 249 rfl)) (mvT hZ (hwi hw 250 rfl)) (mvT hZ (hwi hw 251 rfl)) (mvT hZ (hwi hw 252 rfl)) (mvT hZ (hwi hw 253 rfl)) (mvT hZ (hwi hw 133 rfl)) (by decide) (backOfWith (W := 0) (Q := fun v h L => (v = some (.ref x1)) ∧ (Fr n0 L) ∧ (Keep T132.heap h [it_132]) ∧ (Exa Z h it_132 "java/util/ImmutableCollections$ListItr") ∧ (Fld Z h it_132 "java/util/ImmutableCollections$ListItr" "list" "Ljava/util/List;" (.ref lst_102)) ∧ (Fld Z h it_132 "java/util/ImmutableCollections$ListItr" "size" "I" (.int (3 : Int32))) ∧ (Fld Z h it_132 "java/util/ImmutableCollections$ListItr" "cursor" "I" (.int (1 : Int32)))) (own_nx3_0 l Z a0 hw [] it_132 lst_102 b2_102 k2_102 x1 x2 x3 T132.heap n0 Z132 P132_0 P132_1 P132_2 P132_3 ge141 F156 F157 F158 ne140 ne139) hZ (hwi hw 254 rfl) (hwi hw 103 rfl) (by decide) (by decide)) q160a q160b q160c (g := (mkF m 26 #[vR (a1), vR (lst_102), vR (it_132), sU] [(.ref it_132)])) rfl (by rw [hml]; rfl) (Steps.refl _) (argsL := []) (rest := []) (lenOf own_pd18 rfl) rfl (by show 2 * 0 + _ ≤ _; exact Nat.le_of_eq rfl) (hb hby q8f) (fun _ _ => ⟨rfl, eh159, (by decide : 4 + 0 ≤ _), (by decide : 12 + 0 ≤ _)⟩)
  dsimp only [Pt.U, Pt.locs, Pt.cells, Pt.slots] at X160 l160 y160 z160 st160 hQ160
  subst l160 y160 z160
  obtain ⟨rfl, N160q, K160, P160_0, P160_1, P160_2, P160_3⟩ := hQ160
  have N160 := Fr.app N159 N160q
  have KK160 := KK132.trans K160 (allS (Or.inr sz142) all0)
  have Z160 : n0 ≤ T160.heap.size := Nat.le_trans Z132 K160.1
  have F161 := F143.keep K160
  have F162 := F144.keep K160 (ninS ne133 nin0)
  have F163 := F145.keep K160
  have F164 := F146.keep K160 (ninS ne134 nin0)
  have F165 := F147.keep K160 (ninS ne134 nin0)
  have F166 := F148.keep K160
  have F167 := F149.keep K160 (ninS ne135 nin0)
  have F168 := F150.keep K160
  have F169 := F151.keep K160 (ninS ne136 nin0)
  have F170 := F152.keep K160
  have F171 := F153.keep K160 (ninS ne137 nin0)
  have F172 := F154.keep K160
  have F173 := F155.keep K160 (ninS ne138 nin0)
  have F174 := F156.keep K160
  have F175 := F157.keep K160 (ninS ne139 nin0)
  have F176 := F158.keep K160 (ninS ne140 nin0)
  have F177 := P132_0.keep K160
  refine gs m T160 31 #[vR (a1), vR (lst_102), vR (it_132), sU] [(.ref x1)] (fun _ k => st160.trans k) ?_
  obtain ⟨T178, X178, e178, st178⟩ := castY X160 hx hZ hown (hwi hw 263 rfl) rfl (Ins.self F168) (g := (mkF m 31 #[vR (a1), vR (lst_102), vR (it_132), sU] [(.ref x1)])) rfl rfl (hb hby q8g)
  refine gs m T178 34 #[vR (a1), vR (lst_102), vR (it_132), sU] [(.ref x1)] st178 ?_
  refine gs m T178 35 #[vR (a1), vR (lst_102), vR (it_132), vR (x1)] [] (fun _ k => XS.astoreN X178.here hx rfl (hb hby q8h) rfl rfl (l' := #[vR (a1), vR (lst_102), vR (it_132), vR (x1)]) rfl k) ?_
  refine gs m T178 36 #[vR (a1), vR (lst_102), vR (it_132), vR (x1)] [(.ref x1)] (fun _ k => XS.aloadN X178.here hx rfl (hb hby q8i) rfl rfl k) ?_
  obtain ⟨cq179, kq179, q179a, q179b, q179c⟩ := isOf hZ e178 F168
  obtain ⟨_, _, ⟨T179, L179, k179, n179⟩, -, X179, ⟨Lc179, hQ179, l179, y179, z179⟩, st179⟩ := X178.virtualBack hx (y := (⟨"java/time/Duration", "isNegative", "()Z"⟩ : MethodName)) (z := (⟨"java/time/Duration", "isNegative", "()Z"⟩ : MethodName)) hown (mvT hZ (hwi hw 264 rfl)) (mvT hZ (hwi hw 265 rfl)) (notFace_of_selects (args := #[]) (mvT hZ (hwi hw 267 rfl))) (mvT hZ (hwi hw 267 rfl)) (mvT hZ (hwi hw 266 rfl)) (by decide) (backOf (W := 0) (Q := Qret (some (.int (0 : Int32))) T160.heap n0) (own_neg l Z a0 hw [] x1 s1 T160.heap n0 Z160 F169 hs1) hZ (hwi hw 268 rfl) (hwi hw 8 rfl) (by decide) (by decide)) q179a q179c (g := (mkF m 36 #[vR (a1), vR (lst_102), vR (it_132), vR (x1)] [(.ref x1)])) rfl (by rw [hml]; rfl) (Steps.refl _) (argsL := []) (rest := []) (lenOf own_pd11 rfl) rfl (by show 2 * 0 + _ ≤ _; exact Nat.le_of_eq rfl) (hb hby q8j) (fun _ _ => ⟨rfl, e178, (by decide : 4 + 0 ≤ _), (by decide : 12 + 0 ≤ _)⟩)
  dsimp only [Pt.U, Pt.locs, Pt.cells, Pt.slots] at X179 l179 y179 z179 st179 hQ179
  subst l179 y179 z179
  obtain ⟨rfl, N179q, eh179⟩ := hQ179
  have N179 := Fr.app N160 N179q
  refine gs m T179 39 #[vR (a1), vR (lst_102), vR (it_132), vR (x1)] [(.int (0 : Int32))] (fun _ k => st179.trans k) ?_
  refine gs m T179 59 #[vR (a1), vR (lst_102), vR (it_132), vR (x1)] [] (fun _ k => XS.ifYes X179.here hx rfl (pc0 := 39) (pc' := 59) rfl (hb hby q8k) rfl ((if0 _ _).trans (teq (by decide : (0 : Int32) = (0 : Int32))).1) (by decide) (by decide) k) ?_
  refine gs m T179 16 #[vR (a1), vR (lst_102), vR (it_132), vR (x1)] [] (fun _ k => XS.goto X179.here hx rfl (pc0 := 59) (pc' := 16) rfl (hb hby q8l) (by decide) (by decide) k) ?_
  refine gs m T179 17 #[vR (a1), vR (lst_102), vR (it_132), vR (x1)] [(.ref it_132)] (fun _ k => XS.aloadN X179.here hx rfl (hb hby q87) rfl rfl k) ?_
  obtain ⟨cq180, kq180, q180a, q180b, q180c⟩ := isOf hZ eh179 P160_0
  obtain ⟨_, _, ⟨T180, L180, k180, n180⟩, -, X180, ⟨Lc180, hQ180, l180, y180, z180⟩, st180⟩ := X179.interfaceBack hx (xi := (⟨"java/util/Iterator", "hasNext", "()Z"⟩ : MethodName)) (y := (⟨"java/util/ImmutableCollections$ListItr", "hasNext", "()Z"⟩ : MethodName)) hown (mvT hZ (hwi hw 126 rfl)) (mvT hZ (hwi hw 127 rfl)) (mvT hZ (hwi hw 128 rfl)) (mvT hZ (hwi hw 129 rfl)) (mvT hZ (hwi hw 130 rfl)) (mvT hZ (hwi hw 131 rfl)) (mvT hZ (hwi hw 132 rfl)) (mvT hZ (hwi hw 133 rfl)) (by decide) (backOf (W := 0) (Q := Qret (some (.int (1 : Int32))) T160.heap n0) (own_hn3_1 l Z a0 hw [] it_132 lst_102 T160.heap n0 Z160 P160_0 P160_1 P160_2 P160_3) hZ (hwi hw 134 rfl) (hwi hw 103 rfl) (by decide) (by decide)) q180a q180b q180c (g := (mkF m 17 #[vR (a1), vR (lst_102), vR (it_132), vR (x1)] [(.ref it_132)])) rfl (by rw [hml]; rfl) (Steps.refl _) (argsL := []) (rest := []) (lenOf own_pd11 rfl) rfl (by show 2 * 0 + _ ≤ _; exact Nat.le_of_eq rfl) (hb hby q88) (fun _ _ => ⟨rfl, eh179, (by decide : 4 + 0 ≤ _), (by decide : 12 + 0 ≤ _)⟩)
  dsimp only [Pt.U, Pt.locs, Pt.cells, Pt.slots] at X180 l180 y180 z180 st180 hQ180
  subst l180 y180 z180
  obtain ⟨rfl, N180q, eh180⟩ := hQ180
  have N180 := Fr.app N179 N180q
  refine gs m T180 22 #[vR (a1), vR (lst_102), vR (it_132), vR (x1)] [(.int (1 : Int32))] (fun _ k => st180.trans k) ?_
  refine gs m T180 25 #[vR (a1), vR (lst_102), vR (it_132), vR (x1)] [] (fun _ k => XS.ifNo X180.here hx rfl (hb hby q89) rfl ((if0 _ _).trans (feq (by decide : ¬ ((1 : Int32) = (0 : Int32)))).1) k) ?_
  refine gs m T180 26 #[vR (a1), vR (lst_102), vR (it_132), vR (x1)] [(.ref it_132)] (fun _ k => XS.aloadN X180.here hx rfl (hb hby q8e) rfl rfl k) ?_
  obtain ⟨cq181, kq181, q181a, q181b, q181c⟩ := isOf hZ eh180 P160_0
  obtain ⟨_, _, ⟨T181, L181, k181, n181⟩, -, X181, ⟨Lc181, hQ181, l181, y181, z181⟩, st181⟩ := X180.interfaceBack hx (xi := (⟨"java/util/Iterator", "next", "()Ljava/lang/Object;"⟩ : MethodName)) (y := (⟨"java/util/ImmutableCollections$ListItr", "next", "()Ljava/lang/Object;"⟩ : MethodName)) hown (mvT hZ (hwi hw 247 rfl)) (mvT hZ (hwi hw 248 rfl)) (mvT hZ (hwi hw 249 rfl)) (mvT hZ (hwi hw 250 rfl)) (mvT hZ (hwi hw 251 rfl)) (mvT hZ (hwi hw 252 rfl)) (mvT hZ (hwi hw 253 rfl)) (mvT hZ (hwi hw 133 rfl)) (by decide) (backOfWith (W := 0) (Q := fun v h L => (v = some (.ref x2)) ∧ (Fr n0 L) ∧ (Keep T160.heap h [it_132]) ∧ (Exa Z h it_132 "java/util/ImmutableCollections$ListItr") ∧ (Fld Z h it_132 "java/util/ImmutableCollections$ListItr" "list" "Ljava/util/List;" (.ref lst_102)) ∧ (Fld Z h it_132 "java/util/ImmutableCollections$ListItr" "size" "I" (.int (3 : Int32))) ∧ (Fld Z h it_132 "java/util/ImmutableCollections$ListItr" "cursor" "I" (.int (2 : Int32)))) (own_nx3_1 l Z a0 hw [] it_132 lst_102 b2_102 k2_102 x1 x2 x3 T160.heap n0 Z160 P160_0 P160_1 P160_2 P160_3 ge141 F174 F175 F176 ne140 ne139) hZ (hwi hw 254 rfl) (hwi hw 103 rfl) (by decide) (by decide)) q181a q181b q181c (g := (mkF m 26 #[vR (a1), vR (lst_102), vR (it_132), vR (x1)] [(.ref it_132)])) rfl (by rw [hml]; rfl) (Steps.refl _) (argsL := []) (rest := []) (lenOf own_pd18 rfl) rfl (by show 2 * 0 + _ ≤ _; exact Nat.le_of_eq rfl) (hb hby q8f) (fun _ _ => ⟨rfl, eh180, (by decide : 4 + 0 ≤ _), (by decide : 12 + 0 ≤ _)⟩)
  dsimp only [Pt.U, Pt.locs, Pt.cells, Pt.slots] at X181 l181 y181 z181 st181 hQ181
  subst l181 y181 z181
  obtain ⟨rfl, N181q, K181, P181_0, P181_1, P181_2, P181_3⟩ := hQ181
  have N181 := Fr.app N180 N181q
  have KK181 := KK160.trans K181 (allS (Or.inr sz142) all0)
  have Z181 : n0 ≤ T181.heap.size := Nat.le_trans Z160 K181.1
  have F182 := F161.keep K181
  have F183 := F162.keep K181 (ninS ne133 nin0)
  have F184 := F163.keep K181
  have F185 := F164.keep K181 (ninS ne134 nin0)
  have F186 := F165.keep K181 (ninS ne134 nin0)
  have F187 := F166.keep K181
  have F188 := F167.keep K181 (ninS ne135 nin0)
  have F189 := F168.keep K181
  have F190 := F169.keep K181 (ninS ne136 nin0)
  have F191 := F170.keep K181
  have F192 := F171.keep K181 (ninS ne137 nin0)
  have F193 := F172.keep K181
  have F194 := F173.keep K181 (ninS ne138 nin0)
  have F195 := F174.keep K181
  have F196 := F175.keep K181 (ninS ne139 nin0)
  have F197 := F176.keep K181 (ninS ne140 nin0)
  have F198 := P160_0.keep K181
  refine gs m T181 31 #[vR (a1), vR (lst_102), vR (it_132), vR (x1)] [(.ref x2)] (fun _ k => st181.trans k) ?_
  obtain ⟨T199, X199, e199, st199⟩ := castY X181 hx hZ hown (hwi hw 263 rfl) rfl (Ins.self F191) (g := (mkF m 31 #[vR (a1), vR (lst_102), vR (it_132), vR (x1)] [(.ref x2)])) rfl rfl (hb hby q8g)
  refine gs m T199 34 #[vR (a1), vR (lst_102), vR (it_132), vR (x1)] [(.ref x2)] st199 ?_
  refine gs m T199 35 #[vR (a1), vR (lst_102), vR (it_132), vR (x2)] [] (fun _ k => XS.astoreN X199.here hx rfl (hb hby q8h) rfl rfl (l' := #[vR (a1), vR (lst_102), vR (it_132), vR (x2)]) rfl k) ?_
  refine gs m T199 36 #[vR (a1), vR (lst_102), vR (it_132), vR (x2)] [(.ref x2)] (fun _ k => XS.aloadN X199.here hx rfl (hb hby q8i) rfl rfl k) ?_
  obtain ⟨cq200, kq200, q200a, q200b, q200c⟩ := isOf hZ e199 F191
  obtain ⟨_, _, ⟨T200, L200, k200, n200⟩, -, X200, ⟨Lc200, hQ200, l200, y200, z200⟩, st200⟩ := X199.virtualBack hx (y := (⟨"java/time/Duration", "isNegative", "()Z"⟩ : MethodName)) (z := (⟨"java/time/Duration", "isNegative", "()Z"⟩ : MethodName)) hown (mvT hZ (hwi hw 264 rfl)) (mvT hZ (hwi hw 265 rfl)) (notFace_of_selects (args := #[]) (mvT hZ (hwi hw 267 rfl))) (mvT hZ (hwi hw 267 rfl)) (mvT hZ (hwi hw 266 rfl)) (by decide) (backOf (W := 0) (Q := Qret (some (.int (0 : Int32))) T181.heap n0) (own_neg l Z a0 hw [] x2 s2 T181.heap n0 Z181 F192 hs2) hZ (hwi hw 268 rfl) (hwi hw 8 rfl) (by decide) (by decide)) q200a q200c (g := (mkF m 36 #[vR (a1), vR (lst_102), vR (it_132), vR (x2)] [(.ref x2)])) rfl (by rw [hml]; rfl) (Steps.refl _) (argsL := []) (rest := []) (lenOf own_pd11 rfl) rfl (by show 2 * 0 + _ ≤ _; exact Nat.le_of_eq rfl) (hb hby q8j) (fun _ _ => ⟨rfl, e199, (by decide : 4 + 0 ≤ _), (by decide : 12 + 0 ≤ _)⟩)
  dsimp only [Pt.U, Pt.locs, Pt.cells, Pt.slots] at X200 l200 y200 z200 st200 hQ200
  subst l200 y200 z200
  obtain ⟨rfl, N200q, eh200⟩ := hQ200
  have N200 := Fr.app N181 N200q
  refine gs m T200 39 #[vR (a1), vR (lst_102), vR (it_132), vR (x2)] [(.int (0 : Int32))] (fun _ k => st200.trans k) ?_
  refine gs m T200 59 #[vR (a1), vR (lst_102), vR (it_132), vR (x2)] [] (fun _ k => XS.ifYes X200.here hx rfl (pc0 := 39) (pc' := 59) rfl (hb hby q8k) rfl ((if0 _ _).trans (teq (by decide : (0 : Int32) = (0 : Int32))).1) (by decide) (by decide) k) ?_
  refine gs m T200 16 #[vR (a1), vR (lst_102), vR (it_132), vR (x2)] [] (fun _ k => XS.goto X200.here hx rfl (pc0 := 59) (pc' := 16) rfl (hb hby q8l) (by decide) (by decide) k) ?_
  refine gs m T200 17 #[vR (a1), vR (lst_102), vR (it_132), vR (x2)] [(.ref it_132)] (fun _ k => XS.aloadN X200.here hx rfl (hb hby q87) rfl rfl k) ?_
  obtain ⟨cq201, kq201, q201a, q201b, q201c⟩ := isOf hZ eh200 P181_0
  obtain ⟨_, _, ⟨T201, L201, k201, n201⟩, -, X201, ⟨Lc201, hQ201, l201, y201, z201⟩, st201⟩ := X200.interfaceBack hx (xi := (⟨"java/util/Iterator", "hasNext", "()Z"⟩ : MethodName)) (y := (⟨"java/util/ImmutableCollections$ListItr", "hasNext", "()Z"⟩ : MethodName)) hown (mvT hZ (hwi hw 126 rfl)) (mvT hZ (hwi hw 127 rfl)) (mvT hZ (hwi hw 128 rfl)) (mvT hZ (hwi hw 129 rfl)) (mvT hZ (hwi hw 130 rfl)) (mvT hZ (hwi hw 131 rfl)) (mvT hZ (hwi hw 132 rfl)) (mvT hZ (hwi hw 133 rfl)) (by decide) (backOf (W := 0) (Q := Qret (some (.int (1 : Int32))) T181.heap n0) (own_hn3_2 l Z a0 hw [] it_132 lst_102 T181.heap n0 Z181 P181_0 P181_1 P181_2 P181_3) hZ (hwi hw 134 rfl) (hwi hw 103 rfl) (by decide) (by decide)) q201a q201b q201c (g := (mkF m 17 #[vR (a1), vR (lst_102), vR (it_132), vR (x2)] [(.ref it_132)])) rfl (by rw [hml]; rfl) (Steps.refl _) (argsL := []) (rest := []) (lenOf own_pd11 rfl) rfl (by show 2 * 0 + _ ≤ _; exact Nat.le_of_eq rfl) (hb hby q88) (fun _ _ => ⟨rfl, eh200, (by decide : 4 + 0 ≤ _), (by decide : 12 + 0 ≤ _)⟩)
  dsimp only [Pt.U, Pt.locs, Pt.cells, Pt.slots] at X201 l201 y201 z201 st201 hQ201
  subst l201 y201 z201
  obtain ⟨rfl, N201q, eh201⟩ := hQ201
  have N201 := Fr.app N200 N201q
  refine gs m T201 22 #[vR (a1), vR (lst_102), vR (it_132), vR (x2)] [(.int (1 : Int32))] (fun _ k => st201.trans k) ?_
  refine gs m T201 25 #[vR (a1), vR (lst_102), vR (it_132), vR (x2)] [] (fun _ k => XS.ifNo X201.here hx rfl (hb hby q89) rfl ((if0 _ _).trans (feq (by decide : ¬ ((1 : Int32) = (0 : Int32)))).1) k) ?_
  refine gs m T201 26 #[vR (a1), vR (lst_102), vR (it_132), vR (x2)] [(.ref it_132)] (fun _ k => XS.aloadN X201.here hx rfl (hb hby q8e) rfl rfl k) ?_
  obtain ⟨cq202, kq202, q202a, q202b, q202c⟩ := isOf hZ eh201 P181_0
  obtain ⟨_, _, ⟨T202, L202, k202, n202⟩, -, X202, ⟨Lc202, hQ202, l202, y202, z202⟩, st202⟩ := X201.interfaceBack hx (xi := (⟨"java/util/Iterator", "next", "()Ljava/lang/Object;"⟩ : MethodName)) (y := (⟨"java/util/ImmutableCollections$ListItr", "next", "()Ljava/lang/Object;"⟩ : MethodName)) hown (mvT hZ (hwi hw 247 rfl)) (mvT hZ (hwi hw 248 rfl)) (mvT hZ (hwi hw 249 rfl)) (mvT hZ (hwi hw 250 rfl)) (mvT hZ (hwi hw 251 rfl)) (mvT hZ (hwi hw 252 rfl)) (mvT hZ (hwi hw 253 rfl)) (mvT hZ (hwi hw 133 rfl)) (by decide) (backOfWith (W := 0) (Q := fun v h L => (v = some (.ref x3)) ∧ (Fr n0 L) ∧ (Keep T181.heap h [it_132]) ∧ (Exa Z h it_132 "java/util/ImmutableCollections$ListItr") ∧ (Fld Z h it_132 "java/util/ImmutableCollections$ListItr" "list" "Ljava/util/List;" (.ref lst_102)) ∧ (Fld Z h it_132 "java/util/ImmutableCollections$ListItr" "size" "I" (.int (3 : Int32))) ∧ (Fld Z h it_132 "java/util/ImmutableCollections$ListItr" "cursor" "I" (.int (3 : Int32)))) (own_nx3_2 l Z a0 hw [] it_132 lst_102 b2_102 k2_102 x1 x2 x3 T181.heap n0 Z181 P181_0 P181_1 P181_2 P181_3 ge141 F195 F196 F197 ne140 ne139) hZ (hwi hw 254 rfl) (hwi hw 103 rfl) (by decide) (by decide)) q202a q202b q202c (g := (mkF m 26 #[vR (a1), vR (lst_102), vR (it_132), vR (x2)] [(.ref it_132)])) rfl (by rw [hml]; rfl) (Steps.refl _) (argsL := []) (rest := []) (lenOf own_pd18 rfl) rfl (by show 2 * 0 + _ ≤ _; exact Nat.le_of_eq rfl) (hb hby q8f) (fun _ _ => ⟨rfl, eh201, (by decide : 4 + 0 ≤ _), (by decide : 12 + 0 ≤ _)⟩)
  dsimp only [Pt.U, Pt.locs, Pt.cells, Pt.slots] at X202 l202 y202 z202 st202 hQ202
  subst l202 y202 z202
  obtain ⟨rfl, N202q, K202, P202_0, P202_1, P202_2, P202_3⟩ := hQ202
  have N202 := Fr.app N201 N202q
  have KK202 := KK181.trans K202 (allS (Or.inr sz142) all0)
  have Z202 : n0 ≤ T202.heap.size := Nat.le_trans Z181 K202.1
  have F203 := F182.keep K202
  have F204 := F183.keep K202 (ninS ne133 nin0)
  have F205 := F184.keep K202
  have F206 := F185.keep K202 (ninS ne134 nin0)
  have F207 := F186.keep K202 (ninS ne134 nin0)
  have F208 := F187.keep K202
  have F209 := F188.keep K202 (ninS ne135 nin0)
  have F210 := F189.keep K202
  have F211 := F190.keep K202 (ninS ne136 nin0)
  have F212 := F191.keep K202
  have F213 := F192.keep K202 (ninS ne137 nin0)
  have F214 := F193.keep K202
  have F215 := F194.keep K202 (ninS ne138 nin0)
  have F216 := F195.keep K202
  have F217 := F196.keep K202 (ninS ne139 nin0)
  have F218 := F197.keep K202 (ninS ne140 nin0)
  have F219 := P181_0.keep K202
  refine gs m T202 31 #[vR (a1), vR (lst_102), vR (it_132), vR (x2)] [(.ref x3)] (fun _ k => st202.trans k) ?_
  obtain ⟨T220, X220, e220, st220⟩ := castY X202 hx hZ hown (hwi hw 263 rfl) rfl (Ins.self F214) (g := (mkF m 31 #[vR (a1), vR (lst_102), vR (it_132), vR (x2)] [(.ref x3)])) rfl rfl (hb hby q8g)
  refine gs m T220 34 #[vR (a1), vR (lst_102), vR (it_132), vR (x2)] [(.ref x3)] st220 ?_
  refine gs m T220 35 #[vR (a1), vR (lst_102), vR (it_132), vR (x3)] [] (fun _ k => XS.astoreN X220.here hx rfl (hb hby q8h) rfl rfl (l' := #[vR (a1), vR (lst_102), vR (it_132), vR (x3)]) rfl k) ?_
  refine gs m T220 36 #[vR (a1), vR (lst_102), vR (it_132), vR (x3)] [(.ref x3)] (fun _ k => XS.aloadN X220.here hx rfl (hb hby q8i) rfl rfl k) ?_
  obtain ⟨cq221, kq221, q221a, q221b, q221c⟩ := isOf hZ e220 F214
  obtain ⟨_, _, ⟨T221, L221, k221, n221⟩, -, X221, ⟨Lc221, hQ221, l221, y221, z221⟩, st221⟩ := X220.virtualBack hx (y := (⟨"java/time/Duration", "isNegative", "()Z"⟩ : MethodName)) (z := (⟨"java/time/Duration", "isNegative", "()Z"⟩ : MethodName)) hown (mvT hZ (hwi hw 264 rfl)) (mvT hZ (hwi hw 265 rfl)) (notFace_of_selects (args := #[]) (mvT hZ (hwi hw 267 rfl))) (mvT hZ (hwi hw 267 rfl)) (mvT hZ (hwi hw 266 rfl)) (by decide) (backOf (W := 0) (Q := Qret (some (.int (0 : Int32))) T202.heap n0) (own_neg l Z a0 hw [] x3 s3 T202.heap n0 Z202 F215 hs3) hZ (hwi hw 268 rfl) (hwi hw 8 rfl) (by decide) (by decide)) q221a q221c (g := (mkF m 36 #[vR (a1), vR (lst_102), vR (it_132), vR (x3)] [(.ref x3)])) rfl (by rw [hml]; rfl) (Steps.refl _) (argsL := []) (rest := []) (lenOf own_pd11 rfl) rfl (by show 2 * 0 + _ ≤ _; exact Nat.le_of_eq rfl) (hb hby q8j) (fun _ _ => ⟨rfl, e220, (by decide : 4 + 0 ≤ _), (by decide : 12 + 0 ≤ _)⟩)
  dsimp only [Pt.U, Pt.locs, Pt.cells, Pt.slots] at X221 l221 y221 z221 st221 hQ221
  subst l221 y221 z221
  obtain ⟨rfl, N221q, eh221⟩ := hQ221
  have N221 := Fr.app N202 N221q
  refine gs m T221 39 #[vR (a1), vR (lst_102), vR (it_132), vR (x3)] [(.int (0 : Int32))] (fun _ k => st221.trans k) ?_
  refine gs m T221 59 #[vR (a1), vR (lst_102), vR (it_132), vR (x3)] [] (fun _ k => XS.ifYes X221.here hx rfl (pc0 := 39) (pc' := 59) rfl (hb hby q8k) rfl ((if0 _ _).trans (teq (by decide : (0 : Int32) = (0 : Int32))).1) (by decide) (by decide) k) ?_
  refine gs m T221 16 #[vR (a1), vR (lst_102), vR (it_132), vR (x3)] [] (fun _ k => XS.goto X221.here hx rfl (pc0 := 59) (pc' := 16) rfl (hb hby q8l) (by decide) (by decide) k) ?_
  refine gs m T221 17 #[vR (a1), vR (lst_102), vR (it_132), vR (x3)] [(.ref it_132)] (fun _ k => XS.aloadN X221.here hx rfl (hb hby q87) rfl rfl k) ?_
  obtain ⟨cq222, kq222, q222a, q222b, q222c⟩ := isOf hZ eh221 P202_0
  obtain ⟨_, _, ⟨T222, L222, k222, n222⟩, -, X222, ⟨Lc222, hQ222, l222, y222, z222⟩, st222⟩ := X221.interfaceBack hx (xi := (⟨"java/util/Iterator", "hasNext", "()Z"⟩ : MethodName)) (y := (⟨"java/util/ImmutableCollections$ListItr", "hasNext", "()Z"⟩ : MethodName)) hown (mvT hZ (hwi hw 126 rfl)) (mvT hZ (hwi hw 127 rfl)) (mvT hZ (hwi hw 128 rfl)) (mvT hZ (hwi hw 129 rfl)) (mvT hZ (hwi hw 130 rfl)) (mvT hZ (hwi hw 131 rfl)) (mvT hZ (hwi hw 132 rfl)) (mvT hZ (hwi hw 133 rfl)) (by decide) (backOf (W := 0) (Q := Qret (some (.int (0 : Int32))) T202.heap n0) (own_hn3_3 l Z a0 hw [] it_132 lst_102 T202.heap n0 Z202 P202_0 P202_1 P202_2 P202_3) hZ (hwi hw 134 rfl) (hwi hw 103 rfl) (by decide) (by decide)) q222a q222b q222c (g := (mkF m 17 #[vR (a1), vR (lst_102), vR (it_132), vR (x3)] [(.ref it_132)])) rfl (by rw [hml]; rfl) (Steps.refl _) (argsL := []) (rest := []) (lenOf own_pd11 rfl) rfl (by show 2 * 0 + _ ≤ _; exact Nat.le_of_eq rfl) (hb hby q88) (fun _ _ => ⟨rfl, eh221, (by decide : 4 + 0 ≤ _), (by decide : 12 + 0 ≤ _)⟩)
  dsimp only [Pt.U, Pt.locs, Pt.cells, Pt.slots] at X222 l222 y222 z222 st222 hQ222
  subst l222 y222 z222
  obtain ⟨rfl, N222q, eh222⟩ := hQ222
  have N222 := Fr.app N221 N222q
  refine gs m T222 22 #[vR (a1), vR (lst_102), vR (it_132), vR (x3)] [(.int (0 : Int32))] (fun _ k => st222.trans k) ?_
  refine gs m T222 62 #[vR (a1), vR (lst_102), vR (it_132), vR (x3)] [] (fun _ k => XS.ifYes X222.here hx rfl (pc0 := 22) (pc' := 62) rfl (hb hby q89) rfl ((if0 _ _).trans (teq (by decide : (0 : Int32) = (0 : Int32))).1) (by decide) (by decide) k) ?_
  refine gs m T222 63 #[vR (a1), vR (lst_102), vR (it_132), vR (x3)] [(.ref a1)] (fun _ k => XS.aloadN X222.here hx rfl (hb hby q8a) rfl rfl k) ?_
  refine gs m T222 64 #[vR (a1), vR (lst_102), vR (it_132), vR (x3)] [(.ref lst_102), (.ref a1)] (fun _ k => XS.aloadN X222.here hx rfl (hb hby q8b) rfl rfl k) ?_
  obtain ⟨T223, h223, X223, e223, W223, st223⟩ := putF X222 hx hZ hown (host := "") (Or.inl (hwi hw 135 rfl)) Via.refl eh222 F204 F203 (Or.inr ⟨(hwi hw 136 rfl), rfl, hnm⟩) (hwi hw 51 rfl) (ty := (.object "java/util/List")) (by decide) rfl rfl (g := (mkF m 64 #[vR (a1), vR (lst_102), vR (it_132), vR (x3)] [(.ref lst_102), (.ref a1)])) rfl rfl (hb hby q8c)
  have N223 := Fr.snoc X223 N222 f1
  have Z223 : n0 ≤ h223.size := Nat.le_trans Z202 (Keep.of_wr W223).1
  have K223 := KK202.wr W223 (Or.inl (List.mem_of_getElem? (i := 0) rfl))
  have F224 := F203.wr W223
  have F225 := F205.wr W223
  have F226 := F206.other W223 (Or.inl f14)
  have F227 := F207.other W223 (Or.inl f14)
  have F228 := F208.wr W223
  have F229 := F209.other W223 f15
  have F230 := F210.wr W223
  have F231 := F211.other W223 (Or.inl f16)
  have F232 := F212.wr W223
  have F233 := F213.other W223 (Or.inl f17)
  have F234 := F214.wr W223
  have F235 := F215.other W223 (Or.inl f18)
  have F236 := F216.wr W223
  have F237 := F217.other W223 (Or.inl (Ne.symm ne103))
  have F238 := F218.other W223 (Ne.symm ne111)
  have F239 := P202_0.wr W223
  have F240 := P202_1.other W223 (Or.inl (Ne.symm ne133))
  have F241 := P202_2.other W223 (Or.inl (Ne.symm ne133))
  have F242 := P202_3.other W223 (Or.inl (Ne.symm ne133))
  have F243 := F204.same W223
  refine gs m T223 67 #[vR (a1), vR (lst_102), vR (it_132), vR (x3)] [] st223 ?_
  exact Go.retV X223 hx hret hlk (hb hby q8d) (by rw [e223]; exact ⟨lst_102, b2_102, k2_102, rfl, N223, K223, sz110, sz118, F224, F243, F236, F237, F238⟩) (by decide) (by decide)
def own_mx (a b : Int32) : Int32 := if a < b then b else a
theorem own_nn (p : Int64) : ¬ lcmpW (p &&& (9223372036854775807 : Int64)) (0 : Int64) < (0 : Int32) := by
  have m := c_maskL p 9223372036854775807 63 (by decide) (by decide)
  have c := c_lcmp (p &&& (9223372036854775807 : Int64)) 0
  rw [Int32.lt_iff_toInt_lt, show (0 : Int32).toInt = 0 from rfl]
  have z : (0 : Int64).toInt = 0 := rfl
  rcases Int.lt_trichotomy (p &&& (9223372036854775807 : Int64)).toInt 0 with h | h | h
  · omega
  · rw [c.2.1 (by omega)]; decide
  · rw [c.2.2 (by omega)]; decide
theorem own_lor0 {V : Int64} (h : lcmpW (V ||| ((0 : Int32).toInt64)) (0 : Int64) = (0 : Int32)) : V = 0 := by
  have e : V ||| ((0 : Int32).toInt64) = V := by rw [show ((0 : Int32).toInt64) = (0 : Int64) from rfl]; exact Int64.or_zero
  rw [e] at h
  have c := c_lcmp V 0
  have q := congrArg Int32.toInt h
  have z : (0 : Int64).toInt = 0 := rfl
  have z' : (0 : Int32).toInt = 0 := rfl
  refine Int64.toInt_inj.mp ?_
  rcases Int.lt_trichotomy V.toInt 0 with r | r | r
  · have := c.1 (by omega); omega
  · omega
  · have := c.2.2 (by omega); omega
theorem own_n3 (p : Int32) : (p &&& (3 : Int32)) = 0 ∨ (p &&& (3 : Int32)) = 1 ∨ (p &&& (3 : Int32)) = 2 ∨ (p &&& (3 : Int32)) = 3 := by
  have c := c_and p 3 (by decide)
  have z : (3 : Int32).toInt = 3 := rfl
  have h : (p &&& (3 : Int32)).toInt = 0 ∨ (p &&& (3 : Int32)).toInt = 1 ∨ (p &&& (3 : Int32)).toInt = 2 ∨ (p &&& (3 : Int32)).toInt = 3 := by omega
  rcases h with h | h | h | h
  · exact Or.inl (Int32.toInt_inj.mp h)
  · exact Or.inr (Or.inl (Int32.toInt_inj.mp h))
  · exact Or.inr (Or.inr (Or.inl (Int32.toInt_inj.mp h)))
  · exact Or.inr (Or.inr (Or.inr (Int32.toInt_inj.mp h)))
theorem own_k1 (p : Int32) : ¬ ((1 : Int32) + ((p &&& (2147483647 : Int32)) % (5 : Int32))) < (1 : Int32) := by
  have h1 := (c_and p 2147483647 (by decide)).1
  have h2 := (c_irem (p &&& 2147483647) 5 5 rfl).1 h1
  have c := c_iadd 1 ((p &&& (2147483647 : Int32)) % (5 : Int32))
  have r := rng32 ((1 : Int32) + ((p &&& (2147483647 : Int32)) % (5 : Int32)))
  have z : (1 : Int32).toInt = 1 := rfl
  rw [Int32.lt_iff_toInt_lt]
  omega
theorem own_k2 (a : Int32) : ¬ (own_mx (1 : Int32) a) < (1 : Int32) := by
  unfold own_mx
  split
  · rename_i h; rw [Int32.lt_iff_toInt_lt] at *; omega
  · exact Int32.lt_irrefl
theorem own_kle0 {k : Int32} (h : ¬ k < (1 : Int32)) : (0 : Int32) < k := by
  rw [Int32.lt_iff_toInt_lt] at *
  have z : (1 : Int32).toInt = 1 := rfl
  have z' : (0 : Int32).toInt = 0 := rfl
  omega
theorem own_kle {k n : Int32} {m : Nat} (h : ¬ k < (1 : Int32)) (hn : n.toInt = m) (hm : m ≤ 3) : n < k ∨ (∃ j : Nat, j < m ∧ k.toInt = j + 1) := by
  rw [Int32.lt_iff_toInt_lt] at *
  have z : (1 : Int32).toInt = 1 := rfl
  by_cases q : n.toInt < k.toInt
  · exact Or.inl q
  · exact Or.inr ⟨(k.toInt - 1).toNat, by omega, by omega⟩
theorem q8m : decode jdk_29_method_65_code 9 = .ok (.iload_n 1, 1) := by decide +kernel
theorem own_max (l : Launch) (Z : State) (a0 : Array Value) (hw : ∀ d ∈ tables_1, d.before a0 Z = true) (ws : List Jvm.Cond) (p0 p1 : Int32) (h0 : Heap) (n0 : Nat) (Z0 : n0 ≤ h0.size)  :
    Con l Z (⟨"java/lang/Math", "max", "(II)I"⟩ : MethodName) jdk_29_method_65_code 2 (some .int) ({ frames := 0, cells := 0, slots := 0, locals := 0 } : Room) ws #[(.int p0), (.int p1)] h0 (Qret (some (.int (own_mx p0 p1))) h0 n0) 0 0 := by
  refine Con.of (Jvm.Free.JP.mathPlain rfl (by decide +kernel)) ?_
  intro pgm e s m below meth c s₁ X0 hx hZ hby hml hown hnm hret hlk e0 hs0
  have N0 := Fr.nil n0
  have hown : s.vm.findClass "java/lang/Math" = some m.cls := hown
  have hnm : meth.name = "max" := hnm
  refine Go.cast (own_ef_jdk_29_method_65_code_II m p0 p1) ?_
  refine gs m s₁ 1 #[vI (p0), vI (p1)] [(.int p0)] (fun _ k => XS.iloadN X0.here hx rfl (hb hby qo) rfl  k) ?_
  refine gs m s₁ 2 #[vI (p0), vI (p1)] [(.int p1), (.int p0)] (fun _ k => XS.iloadN X0.here hx rfl (hb hby qp) rfl  k) ?_
  by_cases hc101 : p0 < p1
  · skip
    refine gs m s₁ 9 #[vI (p0), vI (p1)] [] (fun _ k => XS.icmpYes X0.here hx rfl (pc0 := 2) (pc' := 9) rfl (hb hby qq) rfl (tlt hc101).1 (by decide) (by decide) k) ?_
    refine gs m s₁ 10 #[vI (p0), vI (p1)] [(.int p1)] (fun _ k => XS.iloadN X0.here hx rfl (hb hby q8m) rfl  k) ?_
    exact Go.retI X0 hx hret hlk (hb hby qt) (⟨congrArg (fun z => some (Value.int z)) (if_pos hc101).symm, N0, e0⟩) (by decide) (by decide)
  · skip
    refine gs m s₁ 5 #[vI (p0), vI (p1)] [] (fun _ k => XS.icmpNo X0.here hx rfl (hb hby qq) rfl (flt hc101).1 k) ?_
    refine gs m s₁ 6 #[vI (p0), vI (p1)] [(.int p0)] (fun _ k => XS.iloadN X0.here hx rfl (hb hby qr) rfl  k) ?_
    refine gs m s₁ 10 #[vI (p0), vI (p1)] [(.int p0)] (fun _ k => XS.goto X0.here hx rfl (pc0 := 6) (pc' := 10) rfl (hb hby qs) (by decide) (by decide) k) ?_
    exact Go.retI X0 hx hret hlk (hb hby qt) (⟨congrArg (fun z => some (Value.int z)) (if_neg hc101).symm, N0, e0⟩) (by decide) (by decide)
theorem own_ef_jdk_2316_method_17_code_RJI (m : MethodId) (x0 : Addr) (x1 : Int64) (x2 : Int32) : entryFrame m #[(.ref x0), (.long x1), (.int x2)] 4 = mkF m 0 #[vR (x0), vJ (x1), sS, vI (x2)] [] := by first | (simp [entryFrame, mkF, argsToLocals, Value.category]; done) | rfl | (simp [entryFrame, mkF, argsToLocals, own_cI, own_cJ, own_cR, own_cN]; done)
theorem q8n : decode jdk_2316_method_17_code 0 = .ok (.aload_n 0, 1) := by decide +kernel
theorem q8o : decode jdk_2316_method_17_code 1 = .ok (.invokespecial 218, 3) := by decide +kernel
theorem q8p : decode jdk_2316_method_17_code 4 = .ok (.aload_n 0, 1) := by decide +kernel
theorem q8q : decode jdk_2316_method_17_code 5 = .ok (.lload_n 1, 1) := by decide +kernel
theorem q8r : decode jdk_2316_method_17_code 6 = .ok (.putfield 221, 3) := by decide +kernel
theorem q8s : decode jdk_2316_method_17_code 9 = .ok (.aload_n 0, 1) := by decide +kernel
theorem q8t : decode jdk_2316_method_17_code 10 = .ok (.iload_n 3, 1) := by decide +kernel
theorem q8u : decode jdk_2316_method_17_code 11 = .ok (.putfield 224, 3) := by decide +kernel
theorem q8v : decode jdk_2316_method_17_code 14 = .ok (.return_, 1) := by decide +kernel
theorem own_dui (l : Launch) (Z : State) (a0 : Array Value) (hw : ∀ d ∈ tables_1, d.before a0 Z = true) (ws : List Jvm.Cond) (a1 : Addr) (vv : Int64) (u0 : Value) (u1 : Value) (h0 : Heap) (n0 : Nat) (Z0 : n0 ≤ h0.size) (f0 : Exa Z h0 a1 "java/time/Duration") (f1 : n0 ≤ a1) (f2 : Fld Z h0 a1 "java/time/Duration" "seconds" "J" u0) (f3 : Fld Z h0 a1 "java/time/Duration" "nanos" "I" u1)  :
    Con l Z (⟨"java/time/Duration", "<init>", "(JI)V"⟩ : MethodName) jdk_2316_method_17_code 4 none ({ frames := 1, cells := 0, slots := 0, locals := 12 } : Room) ws #[(.ref a1), (.long vv), (.int (0 : Int32))] h0 (fun v h L => (v = none) ∧ (Fr n0 L) ∧ (Keep h0 h [a1]) ∧ (Exa Z h a1 "java/time/Duration") ∧ (Fld Z h a1 "java/time/Duration" "seconds" "J" (.long vv))) 0 0 := by
  refine Con.of (plainFor_of_name own_pn_Duration) ?_
  intro pgm e s m below meth c s₁ X0 hx hZ hby hml hown hnm hret hlk e0 hs0
  have N0 := Fr.nil n0
  have hown : s.vm.findClass "java/time/Duration" = some m.cls := hown
  have hnm : meth.name = "<init>" := hnm
  refine Go.cast (own_ef_jdk_2316_method_17_code_RJI m a1 vv (0 : Int32)) ?_
  have K0 := Keep.refl h0 [a1]
  refine gs m s₁ 1 #[vR (a1), vJ (vv), sS, vI ((0 : Int32))] [(.ref a1)] (fun _ k => XS.aloadN X0.here hx rfl (hb hby q8n) rfl rfl k) ?_
  obtain ⟨T101, X101, e101, st101⟩ := initO X0 hx hZ hown (hwi hw 19 rfl) (hwi hw 20 rfl) (hwi hw 21 rfl) e0 (g := (mkF m 1 #[vR (a1), vJ (vv), sS, vI ((0 : Int32))] [(.ref a1)])) rfl (by rw [hml]; rfl) rfl (hb hby q8o) (by decide) (W := 0) (by show 2 * 0 + _ ≤ _; exact Nat.le_of_eq rfl) (by decide)
  refine gs m T101 4 #[vR (a1), vJ (vv), sS, vI ((0 : Int32))] [] st101 ?_
  refine gs m T101 5 #[vR (a1), vJ (vv), sS, vI ((0 : Int32))] [(.ref a1)] (fun _ k => XS.aloadN X101.here hx rfl (hb hby q8p) rfl rfl k) ?_
  refine gs m T101 6 #[vR (a1), vJ (vv), sS, vI ((0 : Int32))] [(.long vv), (.ref a1)] (fun _ k => XS.lloadN X101.here hx rfl (hb hby q8q) rfl  k) ?_
  obtain ⟨T102, h102, X102, e102, W102, st102⟩ := putF X101 hx hZ hown (host := "") (Or.inl (hwi hw 22 rfl)) Via.refl e101 f2 f0 (Or.inr ⟨(hwi hw 23 rfl), rfl, hnm⟩) (hwi hw 14 rfl) (ty := .long) (by decide) rfl rfl (g := (mkF m 6 #[vR (a1), vJ (vv), sS, vI ((0 : Int32))] [(.long vv), (.ref a1)])) rfl rfl (hb hby q8r)
  have N102 := Fr.snoc X102 N0 f1
  have Z102 : n0 ≤ h102.size := Nat.le_trans Z0 (Keep.of_wr W102).1
  have K102 := K0.wr W102 (Or.inl (List.mem_of_getElem? (i := 0) rfl))
  have F103 := f0.wr W102
  have F104 := f3.other W102 (Or.inr (slot_ne (Or.inr (hwi hw 25 rfl)) (Or.inr (hwi hw 23 rfl)) (by decide) (t := .int) (t' := .long) (by decide) (by decide)))
  have F105 := f2.same W102
  refine gs m T102 9 #[vR (a1), vJ (vv), sS, vI ((0 : Int32))] [] st102 ?_
  refine gs m T102 10 #[vR (a1), vJ (vv), sS, vI ((0 : Int32))] [(.ref a1)] (fun _ k => XS.aloadN X102.here hx rfl (hb hby q8s) rfl rfl k) ?_
  refine gs m T102 11 #[vR (a1), vJ (vv), sS, vI ((0 : Int32))] [(.int (0 : Int32)), (.ref a1)] (fun _ k => XS.iloadN X102.here hx rfl (hb hby q8t) rfl  k) ?_
  obtain ⟨T106, h106, X106, e106, W106, st106⟩ := putF X102 hx hZ hown (host := "") (Or.inl (hwi hw 24 rfl)) Via.refl e102 F104 F103 (Or.inr ⟨(hwi hw 25 rfl), rfl, hnm⟩) (hwi hw 14 rfl) (ty := .int) (by decide) rfl rfl (g := (mkF m 11 #[vR (a1), vJ (vv), sS, vI ((0 : Int32))] [(.int (0 : Int32)), (.ref a1)])) rfl rfl (hb hby q8u)
  have N106 := Fr.snoc X106 N102 f1
  have Z106 : n0 ≤ h106.size := Nat.le_trans Z102 (Keep.of_wr W106).1
  have K106 := K102.wr W106 (Or.inl (List.mem_of_getElem? (i := 0) rfl))
  have F107 := F103.wr W106
  have F108 := F105.other W106 (Or.inr (slot_ne (Or.inr (hwi hw 23 rfl)) (Or.inr (hwi hw 25 rfl)) (by decide) (t := .long) (t' := .int) (by decide) (by decide)))
  have F109 := F104.same W106
  refine gs m T106 14 #[vR (a1), vJ (vv), sS, vI ((0 : Int32))] [] st106 ?_
  exact Go.retV X106 hx hret hlk (hb hby q8v) (by rw [e106]; exact ⟨rfl, N106, K106, F107, F108⟩) (by decide) (by decide)
theorem own_ef_jdk_2316_method_16_code_JI (m : MethodId) (x0 : Int64) (x1 : Int32) : entryFrame m #[(.long x0), (.int x1)] 3 = mkF m 0 #[vJ (x0), sS, vI (x1)] [] := by first | (simp [entryFrame, mkF, argsToLocals, Value.category]; done) | rfl | (simp [entryFrame, mkF, argsToLocals, own_cI, own_cJ, own_cR, own_cN]; done)
theorem q8w : decode jdk_2316_method_16_code 0 = .ok (.lload_n 0, 1) := by decide +kernel
theorem q8x : decode jdk_2316_method_16_code 1 = .ok (.iload_n 2, 1) := by decide +kernel
theorem q8y : decode jdk_2316_method_16_code 2 = .ok (.i2l, 1) := by decide +kernel
theorem q8z : decode jdk_2316_method_16_code 3 = .ok (.lor, 1) := by decide +kernel
theorem q90 : decode jdk_2316_method_16_code 4 = .ok (.lconst 0, 1) := by decide +kernel
theorem q91 : decode jdk_2316_method_16_code 5 = .ok (.lcmp, 1) := by decide +kernel
theorem q92 : decode jdk_2316_method_16_code 6 = .ok (.ifCond .ne 7, 3) := by decide +kernel
theorem q93 : decode jdk_2316_method_16_code 9 = .ok (.getstatic 32, 3) := by decide +kernel
theorem q94 : decode jdk_2316_method_16_code 12 = .ok (.areturn, 1) := by decide +kernel
theorem q95 : decode jdk_2316_method_16_code 13 = .ok (.new 11, 3) := by decide +kernel
theorem q96 : decode jdk_2316_method_16_code 16 = .ok (.dup, 1) := by decide +kernel
theorem q97 : decode jdk_2316_method_16_code 17 = .ok (.lload_n 0, 1) := by decide +kernel
theorem q98 : decode jdk_2316_method_16_code 18 = .ok (.iload_n 2, 1) := by decide +kernel
theorem q99 : decode jdk_2316_method_16_code 19 = .ok (.invokespecial 215, 3) := by decide +kernel
theorem own_pd19 : parseMethodDescriptor "(JI)V" = some ⟨[.long, .int], none⟩ := by decide +kernel
theorem q9a : decode jdk_2316_method_16_code 22 = .ok (.areturn, 1) := by decide +kernel
theorem own_duc (l : Launch) (Z : State) (a0 : Array Value) (hw : ∀ d ∈ tables_1, d.before a0 Z = true) (ws : List Jvm.Cond) (vv : Int64) (z0 : Addr) (h0 : Heap) (n0 : Nat) (Z0 : n0 ≤ h0.size) (f0 : Sta Z h0 "java/time/Duration" "ZERO" "Ljava/time/Duration;" (.ref z0)) (f1 : Exa Z h0 z0 "java/time/Duration") (f2 : Fld Z h0 z0 "java/time/Duration" "seconds" "J" (.long (0 : Int64)))  :
    Con l Z (⟨"java/time/Duration", "create", "(JI)Ljava/time/Duration;"⟩ : MethodName) jdk_2316_method_16_code 3 (some (.object "java/time/Duration")) ({ frames := 2, cells := 1, slots := 2, locals := 28 } : Room) ws #[(.long vv), (.int (0 : Int32))] h0 (fun v h L => ∃ d : Addr, (v = some (.ref d)) ∧ (Fr n0 L) ∧ (Keep h0 h []) ∧ (Exa Z h d "java/time/Duration") ∧ (Fld Z h d "java/time/Duration" "seconds" "J" (.long vv))) 1 2 := by
  refine Con.of (plainFor_of_name own_pn_Duration) ?_
  intro pgm e s m below meth c s₁ X0 hx hZ hby hml hown hnm hret hlk e0 hs0
  have N0 := Fr.nil n0
  have hown : s.vm.findClass "java/time/Duration" = some m.cls := hown
  have hnm : meth.name = "create" := hnm
  refine Go.cast (own_ef_jdk_2316_method_16_code_JI m vv (0 : Int32)) ?_
  have K0 := Keep.refl h0 []
  refine gs m s₁ 1 #[vJ (vv), sS, vI ((0 : Int32))] [(.long vv)] (fun _ k => XS.lloadN X0.here hx rfl (hb hby q8w) rfl  k) ?_
  refine gs m s₁ 2 #[vJ (vv), sS, vI ((0 : Int32))] [(.int (0 : Int32)), (.long vv)] (fun _ k => XS.iloadN X0.here hx rfl (hb hby q8x) rfl  k) ?_
  refine gs m s₁ 3 #[vJ (vv), sS, vI ((0 : Int32))] [(.long ((0 : Int32).toInt64)), (.long vv)] (fun _ k => XS.i2l X0.here hx rfl (hb hby q8y) rfl k) ?_
  refine gs m s₁ 4 #[vJ (vv), sS, vI ((0 : Int32))] [(.long (vv ||| ((0 : Int32).toInt64)))] (fun _ k => XS.lor X0.here hx rfl (hb hby q8z) rfl k) ?_
  refine gs m s₁ 5 #[vJ (vv), sS, vI ((0 : Int32))] [(.long (0 : Int64)), (.long (vv ||| ((0 : Int32).toInt64)))] (fun _ k => XS.lconst X0.here hx rfl (hb hby q90) k) ?_
  refine gs m s₁ 6 #[vJ (vv), sS, vI ((0 : Int32))] [(.int (lcmpW (vv ||| ((0 : Int32).toInt64)) (0 : Int64)))] (fun _ k => XS.lcmp X0.here hx rfl (hb hby q91) rfl k) ?_
  by_cases hc101 : (lcmpW (vv ||| ((0 : Int32).toInt64)) (0 : Int64)) = (0 : Int32)
  · skip
    refine gs m s₁ 9 #[vJ (vv), sS, vI ((0 : Int32))] [] (fun _ k => XS.ifNo X0.here hx rfl (hb hby q92) rfl ((if0 _ _).trans (teq hc101).2) k) ?_
    have hV : vv = 0 := own_lor0 hc101
    have FZ : Fld Z h0 z0 "java/time/Duration" "seconds" "J" (.long vv) := by rw [hV]; exact f2
    obtain ⟨T102, X102, e102, st102⟩ := getS2 X0 hx hZ hown (host := "") (Or.inl (hwi hw 303 rfl)) Via.refl e0 f0 (g := (mkF m 9 #[vJ (vv), sS, vI ((0 : Int32))] [])) rfl (hb hby q93)
    refine gs m T102 12 #[vJ (vv), sS, vI ((0 : Int32))] [(.ref z0)] st102 ?_
    exact Go.retA X102 hx (t := (.object "java/time/Duration")) hret rfl hlk rfl (hb hby q94) (by rw [e102]; exact ⟨z0, rfl, N0, K0, f1, FZ⟩) (by decide) (by decide)
  · skip
    refine gs m s₁ 13 #[vJ (vv), sS, vI ((0 : Int32))] [] (fun _ k => XS.ifYes X0.here hx rfl (pc0 := 6) (pc' := 13) rfl (hb hby q92) rfl ((if0 _ _).trans (feq hc101).2) (by decide) (by decide) k) ?_
    obtain ⟨T103, h103, X103, e103, E103, A103, D103, -, st103⟩ := newO X0 hx hZ hown (hwi hw 13 rfl) (hwi hw 14 rfl) (hwi hw 8 rfl) e0 (g := (mkF m 13 #[vJ (vv), sS, vI ((0 : Int32))] [])) rfl (hb hby q95) (by decide) (by decide)
    obtain ⟨b103, g103⟩ : ∃ z, z = h0.size := ⟨_, rfl⟩
    rw [← g103] at A103 D103 st103
    have ne104 : z0 ≠ b103 := by have q := f1.lt; intro r; rw [r, g103] at q; exact Nat.lt_irrefl _ q
    have ge103 : n0 ≤ b103 := Nat.le_trans Z0 (Nat.le_of_eq g103.symm)
    have Z103 : n0 ≤ h103.size := Nat.le_trans Z0 E103.1
    have sz103 : h0.size ≤ b103 := Nat.le_trans K0.1 (Nat.le_of_eq g103.symm)
    have K103 := K0.ext E103
    have F105 := f0.ext E103
    have F106 := f1.ext E103
    have F107 := f2.ext E103
    have F108 : Fld Z h103 b103 "java/time/Duration" "seconds" "J" (.long (0 : Int64)) := D103 (Or.inr (hwi hw 23 rfl)) (ty := .long) (by decide)
    have F109 : Fld Z h103 b103 "java/time/Duration" "nanos" "I" (.int (0 : Int32)) := D103 (Or.inr (hwi hw 25 rfl)) (ty := .int) (by decide)
    refine gs m T103 16 #[vJ (vv), sS, vI ((0 : Int32))] [(.ref b103)] st103 ?_
    refine gs m T103 17 #[vJ (vv), sS, vI ((0 : Int32))] [(.ref b103), (.ref b103)] (fun _ k => XS.dup X103.here hx rfl (hb hby q96) rfl rfl k) ?_
    refine gs m T103 18 #[vJ (vv), sS, vI ((0 : Int32))] [(.long vv), (.ref b103), (.ref b103)] (fun _ k => XS.lloadN X103.here hx rfl (hb hby q97) rfl  k) ?_
    refine gs m T103 19 #[vJ (vv), sS, vI ((0 : Int32))] [(.int (0 : Int32)), (.long vv), (.ref b103), (.ref b103)] (fun _ k => XS.iloadN X103.here hx rfl (hb hby q98) rfl  k) ?_
    obtain ⟨_, _, ⟨T110, L110, k110, n110⟩, -, X110, ⟨Lc110, hQ110, l110, y110, z110⟩, st110⟩ := X103.specialBack hx (y := (⟨"java/time/Duration", "<init>", "(JI)V"⟩ : MethodName)) rfl hown (mvT hZ (hwi hw 15 rfl)) (mvT hZ (hwi hw 16 rfl)) (mvT hZ (hwi hw 18 rfl)) (by decide) (backOf (W := 1) (Q := fun v h L => (v = none) ∧ (Fr n0 L) ∧ (Keep h103 h [b103]) ∧ (Exa Z h b103 "java/time/Duration") ∧ (Fld Z h b103 "java/time/Duration" "seconds" "J" (.long vv))) (own_dui l Z a0 hw [] b103 vv (.long (0 : Int64)) (.int (0 : Int32)) h103 n0 Z103 A103 ge103 F108 F109) hZ (hwi hw 18 rfl) (hwi hw 8 rfl) (by decide) (by decide)) (g := (mkF m 19 #[vJ (vv), sS, vI ((0 : Int32))] [(.int (0 : Int32)), (.long vv), (.ref b103), (.ref b103)])) rfl (by rw [hml]; rfl) (Steps.refl _) (a := b103) (argsL := [(.long vv), (.int (0 : Int32))]) (rest := [(.ref b103)]) (lenOf own_pd19 rfl) rfl (by show 2 * 0 + _ ≤ _; exact Nat.le_of_eq rfl) (hb hby q99) (fun _ _ => ⟨rfl, e103, (by decide : 1 + 0 ≤ _), (by decide : 2 + 0 ≤ _)⟩)
    dsimp only [Pt.U, Pt.locs, Pt.cells, Pt.slots] at X110 l110 y110 z110 st110 hQ110
    subst l110 y110 z110
    obtain ⟨rfl, N110q, K110, P110_0, P110_1⟩ := hQ110
    have N110 := Fr.app N0 N110q
    have KK110 := K103.trans K110 (allS (Or.inr sz103) all0)
    have Z110 : n0 ≤ T110.heap.size := Nat.le_trans Z103 K110.1
    have F111 := own_sta_keep F105 K110 (allS (own_plain A103) all0)
    have F112 := F106.keep K110
    have F113 := F107.keep K110 (ninS ne104 nin0)
    have F114 := A103.keep K110
    refine gs m T110 22 #[vJ (vv), sS, vI ((0 : Int32))] [(.ref b103)] (fun _ k => st110.trans k) ?_
    exact Go.retA X110 hx (t := (.object "java/time/Duration")) hret rfl hlk rfl (hb hby q9a) (⟨b103, rfl, N110, KK110, P110_0, P110_1⟩) (by decide) (by decide)
theorem own_ef_jdk_2316_method_4_code_J (m : MethodId) (x0 : Int64) : entryFrame m #[(.long x0)] 2 = mkF m 0 #[vJ (x0), sS] [] := by first | (simp [entryFrame, mkF, argsToLocals, Value.category]; done) | rfl | (simp [entryFrame, mkF, argsToLocals, own_cI, own_cJ, own_cR, own_cN]; done)
theorem q9b : decode jdk_2316_method_4_code 0 = .ok (.lload_n 0, 1) := by decide +kernel
theorem q9c : decode jdk_2316_method_4_code 1 = .ok (.iconst 0, 1) := by decide +kernel
theorem q9d : decode jdk_2316_method_4_code 2 = .ok (.invokestatic 10, 3) := by decide +kernel
theorem own_pd20 : parseMethodDescriptor "(JI)Ljava/time/Duration;" = some ⟨[.long, .int], some (.object "java/time/Duration")⟩ := by decide +kernel
theorem q9e : decode jdk_2316_method_4_code 5 = .ok (.areturn, 1) := by decide +kernel
theorem own_duo (l : Launch) (Z : State) (a0 : Array Value) (hw : ∀ d ∈ tables_1, d.before a0 Z = true) (ws : List Jvm.Cond) (vv : Int64) (z0 : Addr) (h0 : Heap) (n0 : Nat) (Z0 : n0 ≤ h0.size) (f0 : Sta Z h0 "java/time/Duration" "ZERO" "Ljava/time/Duration;" (.ref z0)) (f1 : Exa Z h0 z0 "java/time/Duration") (f2 : Fld Z h0 z0 "java/time/Duration" "seconds" "J" (.long (0 : Int64)))  :
    Con l Z (⟨"java/time/Duration", "ofSeconds", "(J)Ljava/time/Duration;"⟩ : MethodName) jdk_2316_method_4_code 2 (some (.object "java/time/Duration")) ({ frames := 3, cells := 1, slots := 2, locals := 42 } : Room) ws #[(.long vv)] h0 (fun v h L => ∃ d : Addr, (v = some (.ref d)) ∧ (Fr n0 L) ∧ (Keep h0 h []) ∧ (Exa Z h d "java/time/Duration") ∧ (Fld Z h d "java/time/Duration" "seconds" "J" (.long vv))) 1 2 := by
  refine Con.of (plainFor_of_name own_pn_Duration) ?_
  intro pgm e s m below meth c s₁ X0 hx hZ hby hml hown hnm hret hlk e0 hs0
  have N0 := Fr.nil n0
  have hown : s.vm.findClass "java/time/Duration" = some m.cls := hown
  have hnm : meth.name = "ofSeconds" := hnm
  refine Go.cast (own_ef_jdk_2316_method_4_code_J m vv) ?_
  have K0 := Keep.refl h0 []
  refine gs m s₁ 1 #[vJ (vv), sS] [(.long vv)] (fun _ k => XS.lloadN X0.here hx rfl (hb hby q9b) rfl  k) ?_
  refine gs m s₁ 2 #[vJ (vv), sS] [(.int (0 : Int32)), (.long vv)] (fun _ k => XS.iconst X0.here hx rfl (hb hby q9c) k) ?_
  obtain ⟨_, _, ⟨T101, L101, k101, n101⟩, -, X101, ⟨Lc101, hQ101, l101, y101, z101⟩, st101⟩ := Jvm.LawKit.callS X0 hx (y := (⟨"java/time/Duration", "create", "(JI)Ljava/time/Duration;"⟩ : MethodName)) hown (mvT hZ (hwi hw 10 rfl)) (mvT hZ (hwi hw 11 rfl)) (mvT hZ (hwi hw 8 rfl)) (mvT hZ (hwi hw 12 rfl)) (by decide) (backOf (W := 0) (Q := fun v h L => ∃ d : Addr, (v = some (.ref d)) ∧ (Fr n0 L) ∧ (Keep h0 h []) ∧ (Exa Z h d "java/time/Duration") ∧ (Fld Z h d "java/time/Duration" "seconds" "J" (.long vv))) (own_duc l Z a0 hw [] vv z0 h0 n0 Z0 f0 f1 f2) hZ (hwi hw 12 rfl) (hwi hw 8 rfl) (by decide) (by decide)) (g := (mkF m 2 #[vJ (vv), sS] [(.int (0 : Int32)), (.long vv)])) rfl (by rw [hml]; rfl) (argsL := [(.long vv), (.int (0 : Int32))]) (rest := []) (lenOf own_pd20 rfl) rfl (by show 2 * 0 + _ ≤ _; exact Nat.le_of_eq rfl) (hb hby q9d) (fun _ _ => ⟨rfl, e0, (by decide : 0 + 1 ≤ _), (by decide : 0 + 2 ≤ _)⟩)
  dsimp only [Pt.U, Pt.locs, Pt.cells, Pt.slots] at X101 l101 y101 z101 st101 hQ101
  subst l101 y101 z101
  obtain ⟨d_101, rfl, N101q, K101, P101_0, P101_1⟩ := hQ101
  have N101 := Fr.app N0 N101q
  have KK101 := K0.trans K101 all0
  have Z101 : n0 ≤ T101.heap.size := Nat.le_trans Z0 K101.1
  have F102 := own_sta_keep f0 K101 all0
  have F103 := f1.keep K101
  have F104 := f2.keep K101 nin0
  refine gs m T101 5 #[vJ (vv), sS] [(.ref d_101)] (st101) ?_
  exact Go.retA X101 hx (t := (.object "java/time/Duration")) hret rfl hlk rfl (hb hby q9e) (⟨d_101, rfl, N101, KK101, P101_0, P101_1⟩) (by decide) (by decide)
theorem own_ef_jdk_2316_method_67_code_RR (m : MethodId) (x0 : Addr) (x1 : Addr) : entryFrame m #[(.ref x0), (.ref x1)] 3 = mkF m 0 #[vR (x0), vR (x1), sU] [] := by first | (simp [entryFrame, mkF, argsToLocals, Value.category]; done) | rfl | (simp [entryFrame, mkF, argsToLocals, own_cI, own_cJ, own_cR, own_cN]; done)
theorem q9f : decode jdk_2316_method_67_code 0 = .ok (.aload_n 0, 1) := by decide +kernel
theorem q9g : decode jdk_2316_method_67_code 1 = .ok (.aload_n 1, 1) := by decide +kernel
theorem q9h : decode jdk_2316_method_67_code 2 = .ok (.if_acmp .ne 5, 3) := by decide +kernel
theorem q9i : decode jdk_2316_method_67_code 5 = .ok (.iconst 1, 1) := by decide +kernel
theorem q9j : decode jdk_2316_method_67_code 6 = .ok (.ireturn, 1) := by decide +kernel
theorem own_dueq (l : Launch) (Z : State) (a0 : Array Value) (hw : ∀ d ∈ tables_1, d.before a0 Z = true) (ws : List Jvm.Cond) (a1 : Addr) (h0 : Heap) (n0 : Nat) (Z0 : n0 ≤ h0.size)   :
    Con l Z (⟨"java/time/Duration", "equals", "(Ljava/lang/Object;)Z"⟩ : MethodName) jdk_2316_method_67_code 3 (some .boolean) ({ frames := 0, cells := 0, slots := 0, locals := 0 } : Room) ws #[(.ref a1), (.ref a1)] h0 (Qret (some (.int (1 : Int32))) h0 n0) 0 0 := by
  refine Con.of (plainFor_of_name own_pn_Duration) ?_
  intro pgm e s m below meth c s₁ X0 hx hZ hby hml hown hnm hret hlk e0 hs0
  have N0 := Fr.nil n0
  have hown : s.vm.findClass "java/time/Duration" = some m.cls := hown
  have hnm : meth.name = "equals" := hnm
  refine Go.cast (own_ef_jdk_2316_method_67_code_RR m a1 a1) ?_
  refine gs m s₁ 1 #[vR (a1), vR (a1), sU] [(.ref a1)] (fun _ k => XS.aloadN X0.here hx rfl (hb hby q9f) rfl rfl k) ?_
  refine gs m s₁ 2 #[vR (a1), vR (a1), sU] [(.ref a1), (.ref a1)] (fun _ k => XS.aloadN X0.here hx rfl (hb hby q9g) rfl rfl k) ?_
  refine gs m s₁ 5 #[vR (a1), vR (a1), sU] [] (fun _ k => Jvm.RoadKit.acmp (g := (mkF m 2 #[vR (a1), vR (a1), sU] [(.ref a1), (.ref a1)])) X0 hx rfl rfl rfl (pc0 := 2) (pc' := 5) (same := true) rfl (hb hby q9h) rfl (decide_eq_true rfl) (by decide) (by decide) k) ?_
  refine gs m s₁ 6 #[vR (a1), vR (a1), sU] [(.int (1 : Int32))] (fun _ k => XS.iconst X0.here hx rfl (hb hby q9i) k) ?_
  exact Go.retN X0 hx (t := .boolean) hret hlk (by simp) (hb hby q9j) (⟨rfl, N0, e0⟩) (by decide) (by decide)
theorem own_ef_jdk_32_method_1_code_ (m : MethodId)  : entryFrame m #[] 1 = mkF m 0 #[sU] [] := by first | (simp [entryFrame, mkF, argsToLocals, Value.category]; done) | rfl | (simp [entryFrame, mkF, argsToLocals, own_cI, own_cJ, own_cR, own_cN]; done)
theorem own_pn_Optional : plainName "java/util/Optional" = true := by first | (simp [plainName, overriddenIn]; done) | decide +kernel
theorem q9k : decode jdk_32_method_1_code 0 = .ok (.getstatic 1, 3) := by decide +kernel
theorem q9l : decode jdk_32_method_1_code 3 = .ok (.astore_n 0, 1) := by decide +kernel
theorem q9m : decode jdk_32_method_1_code 4 = .ok (.aload_n 0, 1) := by decide +kernel
theorem q9n : decode jdk_32_method_1_code 5 = .ok (.areturn, 1) := by decide +kernel
theorem own_ope (l : Launch) (Z : State) (a0 : Array Value) (hw : ∀ d ∈ tables_1, d.before a0 Z = true) (ws : List Jvm.Cond) (oe : Addr) (h0 : Heap) (n0 : Nat) (Z0 : n0 ≤ h0.size) (f0 : Sta Z h0 "java/util/Optional" "EMPTY" "Ljava/util/Optional;" (.ref oe))  :
    Con l Z (⟨"java/util/Optional", "empty", "()Ljava/util/Optional;"⟩ : MethodName) jdk_32_method_1_code 1 (some (.object "java/util/Optional")) ({ frames := 0, cells := 0, slots := 0, locals := 0 } : Room) ws #[] h0 (Qret (some (.ref oe)) h0 n0) 0 0 := by
  refine Con.of (plainFor_of_name own_pn_Optional) ?_
  intro pgm e s m below meth c s₁ X0 hx hZ hby hml hown hnm hret hlk e0 hs0
  have N0 := Fr.nil n0
  have hown : s.vm.findClass "java/util/Optional" = some m.cls := hown
  have hnm : meth.name = "empty" := hnm
  refine Go.cast (own_ef_jdk_32_method_1_code_ m ) ?_
  obtain ⟨T101, X101, e101, st101⟩ := getS2 X0 hx hZ hown (host := "") (Or.inl (hwi hw 152 rfl)) Via.refl e0 f0 (g := (mkF m 0 #[sU] [])) rfl (hb hby q9k)
  refine gs m T101 3 #[sU] [(.ref oe)] st101 ?_
  refine gs m T101 4 #[vR (oe)] [] (fun _ k => XS.astoreN X101.here hx rfl (hb hby q9l) rfl rfl (l' := #[vR (oe)]) rfl k) ?_
  refine gs m T101 5 #[vR (oe)] [(.ref oe)] (fun _ k => XS.aloadN X101.here hx rfl (hb hby q9m) rfl rfl k) ?_
  exact Go.retA X101 hx (t := (.object "java/util/Optional")) hret rfl hlk rfl (hb hby q9n) (⟨rfl, N0, e101⟩) (by decide) (by decide)
theorem own_ef_jdk_32_method_2_code_RR (m : MethodId) (x0 : Addr) (x1 : Addr) : entryFrame m #[(.ref x0), (.ref x1)] 2 = mkF m 0 #[vR (x0), vR (x1)] [] := by first | (simp [entryFrame, mkF, argsToLocals, Value.category]; done) | rfl | (simp [entryFrame, mkF, argsToLocals, own_cI, own_cJ, own_cR, own_cN]; done)
theorem q9o : decode jdk_32_method_2_code 0 = .ok (.aload_n 0, 1) := by decide +kernel
theorem q9p : decode jdk_32_method_2_code 1 = .ok (.invokespecial 7, 3) := by decide +kernel
theorem q9q : decode jdk_32_method_2_code 4 = .ok (.aload_n 0, 1) := by decide +kernel
theorem q9r : decode jdk_32_method_2_code 5 = .ok (.aload_n 1, 1) := by decide +kernel
theorem q9s : decode jdk_32_method_2_code 6 = .ok (.putfield 13, 3) := by decide +kernel
theorem q9t : decode jdk_32_method_2_code 9 = .ok (.return_, 1) := by decide +kernel
theorem own_opi (l : Launch) (Z : State) (a0 : Array Value) (hw : ∀ d ∈ tables_1, d.before a0 Z = true) (ws : List Jvm.Cond) (a1 : Addr) (y1 : Addr) (u0 : Value) (h0 : Heap) (n0 : Nat) (Z0 : n0 ≤ h0.size) (f0 : Exa Z h0 a1 "java/util/Optional") (f1 : n0 ≤ a1) (f2 : Fld Z h0 a1 "java/util/Optional" "value" "Ljava/lang/Object;" u0)  :
    Con l Z (⟨"java/util/Optional", "<init>", "(Ljava/lang/Object;)V"⟩ : MethodName) jdk_32_method_2_code 2 none ({ frames := 1, cells := 0, slots := 0, locals := 12 } : Room) ws #[(.ref a1), (.ref y1)] h0 (fun v h L => (v = none) ∧ (Fr n0 L) ∧ (Keep h0 h [a1]) ∧ (Exa Z h a1 "java/util/Optional") ∧ (Fld Z h a1 "java/util/Optional" "value" "Ljava/lang/Object;" (.ref y1))) 0 0 := by
  refine Con.of (plainFor_of_name own_pn_Optional) ?_
  intro pgm e s m below meth c s₁ X0 hx hZ hby hml hown hnm hret hlk e0 hs0
  have N0 := Fr.nil n0
  have hown : s.vm.findClass "java/util/Optional" = some m.cls := hown
  have hnm : meth.name = "<init>" := hnm
  refine Go.cast (own_ef_jdk_32_method_2_code_RR m a1 y1) ?_
  have K0 := Keep.refl h0 [a1]
  refine gs m s₁ 1 #[vR (a1), vR (y1)] [(.ref a1)] (fun _ k => XS.aloadN X0.here hx rfl (hb hby q9o) rfl rfl k) ?_
  obtain ⟨T101, X101, e101, st101⟩ := initO X0 hx hZ hown (hwi hw 315 rfl) (hwi hw 20 rfl) (hwi hw 21 rfl) e0 (g := (mkF m 1 #[vR (a1), vR (y1)] [(.ref a1)])) rfl (by rw [hml]; rfl) rfl (hb hby q9p) (by decide) (W := 0) (by show 2 * 0 + _ ≤ _; exact Nat.le_of_eq rfl) (by decide)
  refine gs m T101 4 #[vR (a1), vR (y1)] [] st101 ?_
  refine gs m T101 5 #[vR (a1), vR (y1)] [(.ref a1)] (fun _ k => XS.aloadN X101.here hx rfl (hb hby q9q) rfl rfl k) ?_
  refine gs m T101 6 #[vR (a1), vR (y1)] [(.ref y1), (.ref a1)] (fun _ k => XS.aloadN X101.here hx rfl (hb hby q9r) rfl rfl k) ?_
  obtain ⟨T102, h102, X102, e102, W102, st102⟩ := putF X101 hx hZ hown (host := "") (Or.inl (hwi hw 158 rfl)) Via.refl e101 f2 f0 (Or.inr ⟨(hwi hw 159 rfl), rfl, hnm⟩) (hwi hw 309 rfl) (ty := (.object "java/lang/Object")) (by decide) rfl rfl (g := (mkF m 6 #[vR (a1), vR (y1)] [(.ref y1), (.ref a1)])) rfl rfl (hb hby q9s)
  have N102 := Fr.snoc X102 N0 f1
  have Z102 : n0 ≤ h102.size := Nat.le_trans Z0 (Keep.of_wr W102).1
  have K102 := K0.wr W102 (Or.inl (List.mem_of_getElem? (i := 0) rfl))
  have F103 := f0.wr W102
  have F104 := f2.same W102
  refine gs m T102 9 #[vR (a1), vR (y1)] [] st102 ?_
  exact Go.retV X102 hx hret hlk (hb hby q9t) (by rw [e102]; exact ⟨rfl, N102, K102, F103, F104⟩) (by decide) (by decide)
theorem own_ef_jdk_32_method_3_code_R (m : MethodId) (x0 : Addr) : entryFrame m #[(.ref x0)] 1 = mkF m 0 #[vR (x0)] [] := by first | (simp [entryFrame, mkF, argsToLocals, Value.category]; done) | rfl | (simp [entryFrame, mkF, argsToLocals, own_cI, own_cJ, own_cR, own_cN]; done)
theorem q9u : decode jdk_32_method_3_code 0 = .ok (.new 2, 3) := by decide +kernel
theorem q9v : decode jdk_32_method_3_code 3 = .ok (.dup, 1) := by decide +kernel
theorem q9w : decode jdk_32_method_3_code 4 = .ok (.aload_n 0, 1) := by decide +kernel
theorem q9x : decode jdk_32_method_3_code 5 = .ok (.invokestatic 17, 3) := by decide +kernel
theorem q9y : decode jdk_32_method_3_code 8 = .ok (.invokespecial 23, 3) := by decide +kernel
theorem q9z : decode jdk_32_method_3_code 11 = .ok (.areturn, 1) := by decide +kernel
theorem own_opo (l : Launch) (Z : State) (a0 : Array Value) (hw : ∀ d ∈ tables_1, d.before a0 Z = true) (ws : List Jvm.Cond) (y1 : Addr) (h0 : Heap) (n0 : Nat) (Z0 : n0 ≤ h0.size)   :
    Con l Z (⟨"java/util/Optional", "of", "(Ljava/lang/Object;)Ljava/util/Optional;"⟩ : MethodName) jdk_32_method_3_code 1 (some (.object "java/util/Optional")) ({ frames := 2, cells := 1, slots := 1, locals := 26 } : Room) ws #[(.ref y1)] h0 (fun v h L => ∃ o : Addr, (v = some (.ref o)) ∧ (Fr n0 L) ∧ (Keep h0 h []) ∧ (h0.size ≤ o) ∧ (Exa Z h o "java/util/Optional") ∧ (Fld Z h o "java/util/Optional" "value" "Ljava/lang/Object;" (.ref y1))) 1 1 := by
  refine Con.of (plainFor_of_name own_pn_Optional) ?_
  intro pgm e s m below meth c s₁ X0 hx hZ hby hml hown hnm hret hlk e0 hs0
  have N0 := Fr.nil n0
  have hown : s.vm.findClass "java/util/Optional" = some m.cls := hown
  have hnm : meth.name = "of" := hnm
  refine Go.cast (own_ef_jdk_32_method_3_code_R m y1) ?_
  have K0 := Keep.refl h0 []
  obtain ⟨T101, h101, X101, e101, E101, A101, D101, -, st101⟩ := newO X0 hx hZ hown (hwi hw 308 rfl) (hwi hw 309 rfl) (hwi hw 150 rfl) e0 (g := (mkF m 0 #[vR (y1)] [])) rfl (hb hby q9u) (by decide) (by decide)
  obtain ⟨b101, g101⟩ : ∃ z, z = h0.size := ⟨_, rfl⟩
  rw [← g101] at A101 D101 st101
  have ge101 : n0 ≤ b101 := Nat.le_trans Z0 (Nat.le_of_eq g101.symm)
  have Z101 : n0 ≤ h101.size := Nat.le_trans Z0 E101.1
  have sz101 : h0.size ≤ b101 := Nat.le_trans K0.1 (Nat.le_of_eq g101.symm)
  have K101 := K0.ext E101
  have F102 : Fld Z h101 b101 "java/util/Optional" "value" "Ljava/lang/Object;" .null := D101 (Or.inr (hwi hw 159 rfl)) (ty := (.object "java/lang/Object")) (by decide)
  refine gs m T101 3 #[vR (y1)] [(.ref b101)] st101 ?_
  refine gs m T101 4 #[vR (y1)] [(.ref b101), (.ref b101)] (fun _ k => XS.dup X101.here hx rfl (hb hby q9v) rfl rfl k) ?_
  refine gs m T101 5 #[vR (y1)] [(.ref y1), (.ref b101), (.ref b101)] (fun _ k => XS.aloadN X101.here hx rfl (hb hby q9w) rfl rfl k) ?_
  obtain ⟨_, _, ⟨T103, L103, k103, n103⟩, -, X103, ⟨Lc103, hQ103, l103, y103, z103⟩, st103⟩ := Jvm.LawKit.callS X101 hx (y := (⟨"java/util/Objects", "requireNonNull", "(Ljava/lang/Object;)Ljava/lang/Object;"⟩ : MethodName)) hown (mvT hZ (hwi hw 310 rfl)) (mvT hZ (hwi hw 224 rfl)) (mvT hZ (hwi hw 225 rfl)) (mvT hZ (hwi hw 226 rfl)) (by decide) (backOf (W := 2) (Q := Qret (some (.ref y1)) h101 n0) (own_rnn l Z a0 hw [] y1 h101 n0 Z101 ) hZ (hwi hw 226 rfl) (hwi hw 225 rfl) (by decide) (by decide)) (g := (mkF m 5 #[vR (y1)] [(.ref y1), (.ref b101), (.ref b101)])) rfl (by rw [hml]; rfl) (argsL := [(.ref y1)]) (rest := [(.ref b101), (.ref b101)]) (lenOf own_pd6 rfl) rfl (by show 2 * 0 + _ ≤ _; exact Nat.le_of_eq rfl) (hb hby q9x) (fun _ _ => ⟨rfl, e101, (by decide : 1 + 0 ≤ _), (by decide : 1 + 0 ≤ _)⟩)
  dsimp only [Pt.U, Pt.locs, Pt.cells, Pt.slots] at X103 l103 y103 z103 st103 hQ103
  subst l103 y103 z103
  obtain ⟨rfl, N103q, eh103⟩ := hQ103
  have N103 := Fr.app N0 N103q
  refine gs m T103 8 #[vR (y1)] [(.ref y1), (.ref b101), (.ref b101)] (st103) ?_
  obtain ⟨_, _, ⟨T104, L104, k104, n104⟩, -, X104, ⟨Lc104, hQ104, l104, y104, z104⟩, st104⟩ := X103.specialBack hx (y := (⟨"java/util/Optional", "<init>", "(Ljava/lang/Object;)V"⟩ : MethodName)) rfl hown (mvT hZ (hwi hw 311 rfl)) (mvT hZ (hwi hw 312 rfl)) (mvT hZ (hwi hw 314 rfl)) (by decide) (backOf (W := 1) (Q := fun v h L => (v = none) ∧ (Fr n0 L) ∧ (Keep h101 h [b101]) ∧ (Exa Z h b101 "java/util/Optional") ∧ (Fld Z h b101 "java/util/Optional" "value" "Ljava/lang/Object;" (.ref y1))) (own_opi l Z a0 hw [] b101 y1 .null h101 n0 Z101 A101 ge101 F102) hZ (hwi hw 314 rfl) (hwi hw 150 rfl) (by decide) (by decide)) (g := (mkF m 8 #[vR (y1)] [(.ref y1), (.ref b101), (.ref b101)])) rfl (by rw [hml]; rfl) (Steps.refl _) (a := b101) (argsL := [(.ref y1)]) (rest := [(.ref b101)]) (lenOf own_pd7 rfl) rfl (by show 2 * 0 + _ ≤ _; exact Nat.le_of_eq rfl) (hb hby q9y) (fun _ _ => ⟨rfl, eh103, (by decide : 1 + 0 ≤ _), (by decide : 1 + 0 ≤ _)⟩)
  dsimp only [Pt.U, Pt.locs, Pt.cells, Pt.slots] at X104 l104 y104 z104 st104 hQ104
  subst l104 y104 z104
  obtain ⟨rfl, N104q, K104, P104_0, P104_1⟩ := hQ104
  have N104 := Fr.app N103 N104q
  have KK104 := K101.trans K104 (allS (Or.inr sz101) all0)
  have Z104 : n0 ≤ T104.heap.size := Nat.le_trans Z101 K104.1
  have F105 := A101.keep K104
  refine gs m T104 11 #[vR (y1)] [(.ref b101)] (fun _ k => st104.trans k) ?_
  exact Go.retA X104 hx (t := (.object "java/util/Optional")) hret rfl hlk rfl (hb hby q9z) (⟨b101, rfl, N104, KK104, sz101, P104_0, P104_1⟩) (by decide) (by decide)
theorem own_ef_jdk_32_method_15_code_Rn (m : MethodId) (x0 : Addr) : entryFrame m #[(.ref x0), .null] 2 = mkF m 0 #[vR (x0), .val .null] [] := by first | (simp [entryFrame, mkF, argsToLocals, Value.category]; done) | rfl | (simp [entryFrame, mkF, argsToLocals, own_cI, own_cJ, own_cR, own_cN]; done)
theorem qa0 : decode jdk_32_method_15_code 0 = .ok (.aload_n 0, 1) := by decide +kernel
theorem qa1 : decode jdk_32_method_15_code 1 = .ok (.getfield 13, 3) := by decide +kernel
theorem qa2 : decode jdk_32_method_15_code 4 = .ok (.ifnull 10, 3) := by decide +kernel
theorem qa3 : decode jdk_32_method_15_code 7 = .ok (.aload_n 0, 1) := by decide +kernel
theorem qa4 : decode jdk_32_method_15_code 8 = .ok (.getfield 13, 3) := by decide +kernel
theorem qa5 : decode jdk_32_method_15_code 11 = .ok (.goto 4, 3) := by decide +kernel
theorem qa6 : decode jdk_32_method_15_code 15 = .ok (.areturn, 1) := by decide +kernel
theorem own_oel (l : Launch) (Z : State) (a0 : Array Value) (hw : ∀ d ∈ tables_1, d.before a0 Z = true) (ws : List Jvm.Cond) (a1 : Addr) (y1 : Addr) (h0 : Heap) (n0 : Nat) (Z0 : n0 ≤ h0.size) (f0 : Fld Z h0 a1 "java/util/Optional" "value" "Ljava/lang/Object;" (.ref y1))  :
    Con l Z (⟨"java/util/Optional", "orElse", "(Ljava/lang/Object;)Ljava/lang/Object;"⟩ : MethodName) jdk_32_method_15_code 2 (some (.object "java/lang/Object")) ({ frames := 0, cells := 0, slots := 0, locals := 0 } : Room) ws #[(.ref a1), .null] h0 (Qret (some (.ref y1)) h0 n0) 0 0 := by
  refine Con.of (plainFor_of_name own_pn_Optional) ?_
  intro pgm e s m below meth c s₁ X0 hx hZ hby hml hown hnm hret hlk e0 hs0
  have N0 := Fr.nil n0
  have hown : s.vm.findClass "java/util/Optional" = some m.cls := hown
  have hnm : meth.name = "orElse" := hnm
  refine Go.cast (own_ef_jdk_32_method_15_code_Rn m a1) ?_
  refine gs m s₁ 1 #[vR (a1), .val .null] [(.ref a1)] (fun _ k => XS.aloadN X0.here hx rfl (hb hby qa0) rfl rfl k) ?_
  obtain ⟨T101, X101, e101, st101⟩ := getF X0 hx hZ hown (host := "") (Or.inl (hwi hw 158 rfl)) Via.refl e0 f0 (g := (mkF m 1 #[vR (a1), .val .null] [(.ref a1)])) rfl rfl (hb hby qa1)
  refine gs m T101 4 #[vR (a1), .val .null] [(.ref y1)] st101 ?_
  refine gs m T101 7 #[vR (a1), .val .null] [] (fun _ k => XS.ifnullNo X101.here hx rfl (hb hby qa2) rfl k) ?_
  refine gs m T101 8 #[vR (a1), .val .null] [(.ref a1)] (fun _ k => XS.aloadN X101.here hx rfl (hb hby qa3) rfl rfl k) ?_
  obtain ⟨T102, X102, e102, st102⟩ := getF X101 hx hZ hown (host := "") (Or.inl (hwi hw 158 rfl)) Via.refl e101 f0 (g := (mkF m 8 #[vR (a1), .val .null] [(.ref a1)])) rfl rfl (hb hby qa4)
  refine gs m T102 11 #[vR (a1), .val .null] [(.ref y1)] st102 ?_
  refine gs m T102 15 #[vR (a1), .val .null] [(.ref y1)] (fun _ k => XS.goto X102.here hx rfl (pc0 := 11) (pc' := 15) rfl (hb hby qa5) (by decide) (by decide) k) ?_
  exact Go.retA X102 hx (t := (.object "java/lang/Object")) hret rfl hlk rfl (hb hby qa6) (⟨rfl, N0, e102⟩) (by decide) (by decide)
theorem qa7 : decode jdk_32_method_15_code 14 = .ok (.aload_n 1, 1) := by decide +kernel
theorem own_oen (l : Launch) (Z : State) (a0 : Array Value) (hw : ∀ d ∈ tables_1, d.before a0 Z = true) (ws : List Jvm.Cond) (a1 : Addr) (h0 : Heap) (n0 : Nat) (Z0 : n0 ≤ h0.size) (f0 : Fld Z h0 a1 "java/util/Optional" "value" "Ljava/lang/Object;" .null)  :
    Con l Z (⟨"java/util/Optional", "orElse", "(Ljava/lang/Object;)Ljava/lang/Object;"⟩ : MethodName) jdk_32_method_15_code 2 (some (.object "java/lang/Object")) ({ frames := 0, cells := 0, slots := 0, locals := 0 } : Room) ws #[(.ref a1), .null] h0 (Qret (some .null) h0 n0) 0 0 := by
  refine Con.of (plainFor_of_name own_pn_Optional) ?_
  intro pgm e s m below meth c s₁ X0 hx hZ hby hml hown hnm hret hlk e0 hs0
  have N0 := Fr.nil n0
  have hown : s.vm.findClass "java/util/Optional" = some m.cls := hown
  have hnm : meth.name = "orElse" := hnm
  refine Go.cast (own_ef_jdk_32_method_15_code_Rn m a1) ?_
  refine gs m s₁ 1 #[vR (a1), .val .null] [(.ref a1)] (fun _ k => XS.aloadN X0.here hx rfl (hb hby qa0) rfl rfl k) ?_
  obtain ⟨T101, X101, e101, st101⟩ := getF X0 hx hZ hown (host := "") (Or.inl (hwi hw 158 rfl)) Via.refl e0 f0 (g := (mkF m 1 #[vR (a1), .val .null] [(.ref a1)])) rfl rfl (hb hby qa1)
  refine gs m T101 4 #[vR (a1), .val .null] [.null] st101 ?_
  refine gs m T101 14 #[vR (a1), .val .null] [] (fun _ k => XS.ifnullYes X101.here hx rfl (pc0 := 4) (pc' := 14) rfl (hb hby qa2) rfl (by decide) (by decide) k) ?_
  refine gs m T101 15 #[vR (a1), .val .null] [.null] (fun _ k => XS.aloadN X101.here hx rfl (hb hby qa7) rfl rfl k) ?_
  exact Go.retA X101 hx (t := (.object "java/lang/Object")) hret rfl hlk rfl (hb hby qa6) (⟨rfl, N0, e101⟩) (by decide) (by decide)
theorem own_ef_prog_7_method_4_code_RI (m : MethodId) (x0 : Addr) (x1 : Int32) : entryFrame m #[(.ref x0), (.int x1)] 3 = mkF m 0 #[vR (x0), vI (x1), sU] [] := by first | (simp [entryFrame, mkF, argsToLocals, Value.category]; done) | rfl | (simp [entryFrame, mkF, argsToLocals, own_cI, own_cJ, own_cR, own_cN]; done)
theorem qa8 : decode prog_7_method_4_code 0 = .ok (.iload_n 1, 1) := by decide +kernel
theorem qa9 : decode prog_7_method_4_code 1 = .ok (.aload_n 0, 1) := by decide +kernel
theorem qaa : decode prog_7_method_4_code 2 = .ok (.getfield 47, 3) := by decide +kernel
theorem qab : decode prog_7_method_4_code 5 = .ok (.invokeinterface 60 1, 5) := by decide +kernel
theorem qac : decode prog_7_method_4_code 10 = .ok (.if_icmp .gt 25, 3) := by decide +kernel
theorem qad : decode prog_7_method_4_code 35 = .ok (.invokestatic 73, 3) := by decide +kernel
theorem own_pd21 : parseMethodDescriptor "()Ljava/util/Optional;" = some ⟨[], some (.object "java/util/Optional")⟩ := by decide +kernel
theorem qae : decode prog_7_method_4_code 38 = .ok (.astore_n 2, 1) := by decide +kernel
theorem qaf : decode prog_7_method_4_code 39 = .ok (.aload_n 2, 1) := by decide +kernel
theorem qag : decode prog_7_method_4_code 40 = .ok (.areturn, 1) := by decide +kernel
theorem own_daf0_gt (l : Launch) (Z : State) (a0 : Array Value) (hw : ∀ d ∈ tables_1, d.before a0 Z = true) (ws : List Jvm.Cond) (a1 : Addr) (kk : Int32) (oe : Addr) (lst : Addr) (b2 : Addr) (k2 : ClassId) (h0 : Heap) (n0 : Nat) (Z0 : n0 ≤ h0.size) (f0 : Exa Z h0 a1 "com/example/nuthatch/nuthatch/RetrySchedule") (f1 : Fld Z h0 a1 "com/example/nuthatch/nuthatch/RetrySchedule" "delays" "Ljava/util/List;" (.ref lst)) (f2 : Exa Z h0 lst "java/util/ImmutableCollections$ListN") (f3 : Fld Z h0 lst "java/util/ImmutableCollections$ListN" "elements" "[Ljava/lang/Object;" (.ref b2)) (f4 : Arv Z h0 b2 k2 (.object "java/lang/Object") (0 : Int32) [] .null) (f5 : Sta Z h0 "java/util/Optional" "EMPTY" "Ljava/util/Optional;" (.ref oe)) (hk : (0 : Int32) < kk) :
    Con l Z (⟨"com/example/nuthatch/nuthatch/RetrySchedule", "delayAfterFailure", "(I)Ljava/util/Optional;"⟩ : MethodName) prog_7_method_4_code 3 (some (.object "java/util/Optional")) ({ frames := 1, cells := 0, slots := 0, locals := 13 } : Room) ws #[(.ref a1), (.int kk)] h0 (Qret (some (.ref oe)) h0 n0) 0 0 := by
  refine Con.of (plainFor_of_name own_pn_RetrySchedule) ?_
  intro pgm e s m below meth c s₁ X0 hx hZ hby hml hown hnm hret hlk e0 hs0
  have N0 := Fr.nil n0
  have hown : s.vm.findClass "com/example/nuthatch/nuthatch/RetrySchedule" = some m.cls := hown
  have hnm : meth.name = "delayAfterFailure" := hnm
  refine Go.cast (own_ef_prog_7_method_4_code_RI m a1 kk) ?_
  refine gs m s₁ 1 #[vR (a1), vI (kk), sU] [(.int kk)] (fun _ k => XS.iloadN X0.here hx rfl (hb hby qa8) rfl  k) ?_
  refine gs m s₁ 2 #[vR (a1), vI (kk), sU] [(.ref a1), (.int kk)] (fun _ k => XS.aloadN X0.here hx rfl (hb hby qa9) rfl rfl k) ?_
  obtain ⟨T101, X101, e101, st101⟩ := getF X0 hx hZ hown (host := "") (Or.inl (hwi hw 135 rfl)) Via.refl e0 f1 (g := (mkF m 2 #[vR (a1), vI (kk), sU] [(.ref a1), (.int kk)])) rfl rfl (hb hby qaa)
  refine gs m T101 5 #[vR (a1), vI (kk), sU] [(.ref lst), (.int kk)] st101 ?_
  obtain ⟨cq102, kq102, q102a, q102b, q102c⟩ := isOf hZ e101 f2
  obtain ⟨_, _, ⟨T102, L102, k102, n102⟩, -, X102, ⟨Lc102, hQ102, l102, y102, z102⟩, st102⟩ := X101.interfaceBack hx (xi := (⟨"java/util/List", "size", "()I"⟩ : MethodName)) (y := (⟨"java/util/ImmutableCollections$ListN", "size", "()I"⟩ : MethodName)) hown (mvT hZ (hwi hw 142 rfl)) (mvT hZ (hwi hw 143 rfl)) (mvT hZ (hwi hw 144 rfl)) (mvT hZ (hwi hw 145 rfl)) (mvT hZ (hwi hw 108 rfl)) (mvT hZ (hwi hw 146 rfl)) (mvT hZ (hwi hw 147 rfl)) (mvT hZ (hwi hw 98 rfl)) (by decide) (backOf (W := 1) (Q := Qret (some (.int (0 : Int32))) h0 n0) (own_siz0 l Z a0 hw [] lst b2 k2 h0 n0 Z0 f2 f3 f4) hZ (hwi hw 110 rfl) (hwi hw 109 rfl) (by decide) (by decide)) q102a q102b q102c (g := (mkF m 5 #[vR (a1), vI (kk), sU] [(.ref lst), (.int kk)])) rfl (by rw [hml]; rfl) (Steps.refl _) (argsL := []) (rest := [(.int kk)]) (lenOf own_pd14 rfl) rfl (by show 2 * 0 + _ ≤ _; exact Nat.le_of_eq rfl) (hb hby qab) (fun _ _ => ⟨rfl, e101, (by decide : 0 + 0 ≤ _), (by decide : 0 + 0 ≤ _)⟩)
  dsimp only [Pt.U, Pt.locs, Pt.cells, Pt.slots] at X102 l102 y102 z102 st102 hQ102
  subst l102 y102 z102
  obtain ⟨rfl, N102q, eh102⟩ := hQ102
  have N102 := Fr.app N0 N102q
  refine gs m T102 10 #[vR (a1), vI (kk), sU] [(.int (0 : Int32)), (.int kk)] (fun _ k => st102.trans k) ?_
  refine gs m T102 35 #[vR (a1), vI (kk), sU] [] (fun _ k => XS.icmpYes X102.here hx rfl (pc0 := 10) (pc' := 35) rfl (hb hby qac) rfl (tlt hk).2.2.1 (by decide) (by decide) k) ?_
  obtain ⟨_, _, ⟨T103, L103, k103, n103⟩, -, X103, ⟨Lc103, hQ103, l103, y103, z103⟩, st103⟩ := Jvm.LawKit.callS X102 hx (y := (⟨"java/util/Optional", "empty", "()Ljava/util/Optional;"⟩ : MethodName)) hown (mvT hZ (hwi hw 148 rfl)) (mvT hZ (hwi hw 149 rfl)) (mvT hZ (hwi hw 150 rfl)) (mvT hZ (hwi hw 151 rfl)) (by decide) (backOf (W := 0) (Q := Qret (some (.ref oe)) h0 n0) (own_ope l Z a0 hw [] oe h0 n0 Z0 f5) hZ (hwi hw 151 rfl) (hwi hw 150 rfl) (by decide) (by decide)) (g := (mkF m 35 #[vR (a1), vI (kk), sU] [])) rfl (by rw [hml]; rfl) (argsL := []) (rest := []) (lenOf own_pd21 rfl) rfl (by show 2 * 0 + _ ≤ _; exact Nat.le_of_eq rfl) (hb hby qad) (fun _ _ => ⟨rfl, eh102, (by decide : 0 + 0 ≤ _), (by decide : 0 + 0 ≤ _)⟩)
  dsimp only [Pt.U, Pt.locs, Pt.cells, Pt.slots] at X103 l103 y103 z103 st103 hQ103
  subst l103 y103 z103
  obtain ⟨rfl, N103q, eh103⟩ := hQ103
  have N103 := Fr.app N102 N103q
  refine gs m T103 38 #[vR (a1), vI (kk), sU] [(.ref oe)] (st103) ?_
  refine gs m T103 39 #[vR (a1), vI (kk), vR (oe)] [] (fun _ k => XS.astoreN X103.here hx rfl (hb hby qae) rfl rfl (l' := #[vR (a1), vI (kk), vR (oe)]) rfl k) ?_
  refine gs m T103 40 #[vR (a1), vI (kk), vR (oe)] [(.ref oe)] (fun _ k => XS.aloadN X103.here hx rfl (hb hby qaf) rfl rfl k) ?_
  exact Go.retA X103 hx (t := (.object "java/util/Optional")) hret rfl hlk rfl (hb hby qag) (⟨rfl, N103, eh103⟩) (by decide) (by decide)
theorem own_daf1_gt (l : Launch) (Z : State) (a0 : Array Value) (hw : ∀ d ∈ tables_1, d.before a0 Z = true) (ws : List Jvm.Cond) (a1 : Addr) (kk : Int32) (oe : Addr) (lst : Addr) (x1 : Addr) (em : Addr) (h0 : Heap) (n0 : Nat) (Z0 : n0 ≤ h0.size) (f0 : Exa Z h0 a1 "com/example/nuthatch/nuthatch/RetrySchedule") (f1 : Fld Z h0 a1 "com/example/nuthatch/nuthatch/RetrySchedule" "delays" "Ljava/util/List;" (.ref lst)) (f2 : Exa Z h0 lst "java/util/ImmutableCollections$List12") (f3 : Fld Z h0 lst "java/util/ImmutableCollections$List12" "e0" "Ljava/lang/Object;" (.ref x1)) (f4 : Fld Z h0 lst "java/util/ImmutableCollections$List12" "e1" "Ljava/lang/Object;" (.ref em)) (f5 : Sta Z h0 "java/util/ImmutableCollections" "EMPTY" "Ljava/lang/Object;" (.ref em)) (f6 : Sta Z h0 "java/util/Optional" "EMPTY" "Ljava/util/Optional;" (.ref oe)) (hk : (1 : Int32) < kk) :
    Con l Z (⟨"com/example/nuthatch/nuthatch/RetrySchedule", "delayAfterFailure", "(I)Ljava/util/Optional;"⟩ : MethodName) prog_7_method_4_code 3 (some (.object "java/util/Optional")) ({ frames := 1, cells := 0, slots := 0, locals := 13 } : Room) ws #[(.ref a1), (.int kk)] h0 (Qret (some (.ref oe)) h0 n0) 0 0 := by
  refine Con.of (plainFor_of_name own_pn_RetrySchedule) ?_
  intro pgm e s m below meth c s₁ X0 hx hZ hby hml hown hnm hret hlk e0 hs0
  have N0 := Fr.nil n0
  have hown : s.vm.findClass "com/example/nuthatch/nuthatch/RetrySchedule" = some m.cls := hown
  have hnm : meth.name = "delayAfterFailure" := hnm
  refine Go.cast (own_ef_prog_7_method_4_code_RI m a1 kk) ?_
  refine gs m s₁ 1 #[vR (a1), vI (kk), sU] [(.int kk)] (fun _ k => XS.iloadN X0.here hx rfl (hb hby qa8) rfl  k) ?_
  refine gs m s₁ 2 #[vR (a1), vI (kk), sU] [(.ref a1), (.int kk)] (fun _ k => XS.aloadN X0.here hx rfl (hb hby qa9) rfl rfl k) ?_
  obtain ⟨T101, X101, e101, st101⟩ := getF X0 hx hZ hown (host := "") (Or.inl (hwi hw 135 rfl)) Via.refl e0 f1 (g := (mkF m 2 #[vR (a1), vI (kk), sU] [(.ref a1), (.int kk)])) rfl rfl (hb hby qaa)
  refine gs m T101 5 #[vR (a1), vI (kk), sU] [(.ref lst), (.int kk)] st101 ?_
  obtain ⟨cq102, kq102, q102a, q102b, q102c⟩ := isOf hZ e101 f2
  obtain ⟨_, _, ⟨T102, L102, k102, n102⟩, -, X102, ⟨Lc102, hQ102, l102, y102, z102⟩, st102⟩ := X101.interfaceBack hx (xi := (⟨"java/util/List", "size", "()I"⟩ : MethodName)) (y := (⟨"java/util/ImmutableCollections$List12", "size", "()I"⟩ : MethodName)) hown (mvT hZ (hwi hw 142 rfl)) (mvT hZ (hwi hw 143 rfl)) (mvT hZ (hwi hw 144 rfl)) (mvT hZ (hwi hw 297 rfl)) (mvT hZ (hwi hw 290 rfl)) (mvT hZ (hwi hw 298 rfl)) (mvT hZ (hwi hw 299 rfl)) (mvT hZ (hwi hw 288 rfl)) (by decide) (backOf (W := 1) (Q := Qret (some (.int (1 : Int32))) h0 n0) (own_siz1 l Z a0 hw [] lst x1 em h0 n0 Z0 f2 f3 f4 f5) hZ (hwi hw 291 rfl) (hwi hw 271 rfl) (by decide) (by decide)) q102a q102b q102c (g := (mkF m 5 #[vR (a1), vI (kk), sU] [(.ref lst), (.int kk)])) rfl (by rw [hml]; rfl) (Steps.refl _) (argsL := []) (rest := [(.int kk)]) (lenOf own_pd14 rfl) rfl (by show 2 * 0 + _ ≤ _; exact Nat.le_of_eq rfl) (hb hby qab) (fun _ _ => ⟨rfl, e101, (by decide : 0 + 0 ≤ _), (by decide : 0 + 0 ≤ _)⟩)
  dsimp only [Pt.U, Pt.locs, Pt.cells, Pt.slots] at X102 l102 y102 z102 st102 hQ102
  subst l102 y102 z102
  obtain ⟨rfl, N102q, eh102⟩ := hQ102
  have N102 := Fr.app N0 N102q
  refine gs m T102 10 #[vR (a1), vI (kk), sU] [(.int (1 : Int32)), (.int kk)] (fun _ k => st102.trans k) ?_
  refine gs m T102 35 #[vR (a1), vI (kk), sU] [] (fun _ k => XS.icmpYes X102.here hx rfl (pc0 := 10) (pc' := 35) rfl (hb hby qac) rfl (tlt hk).2.2.1 (by decide) (by decide) k) ?_
  obtain ⟨_, _, ⟨T103, L103, k103, n103⟩, -, X103, ⟨Lc103, hQ103, l103, y103, z103⟩, st103⟩ := Jvm.LawKit.callS X102 hx (y := (⟨"java/util/Optional", "empty", "()Ljava/util/Optional;"⟩ : MethodName)) hown (mvT hZ (hwi hw 148 rfl)) (mvT hZ (hwi hw 149 rfl)) (mvT hZ (hwi hw 150 rfl)) (mvT hZ (hwi hw 151 rfl)) (by decide) (backOf (W := 0) (Q := Qret (some (.ref oe)) h0 n0) (own_ope l Z a0 hw [] oe h0 n0 Z0 f6) hZ (hwi hw 151 rfl) (hwi hw 150 rfl) (by decide) (by decide)) (g := (mkF m 35 #[vR (a1), vI (kk), sU] [])) rfl (by rw [hml]; rfl) (argsL := []) (rest := []) (lenOf own_pd21 rfl) rfl (by show 2 * 0 + _ ≤ _; exact Nat.le_of_eq rfl) (hb hby qad) (fun _ _ => ⟨rfl, eh102, (by decide : 0 + 0 ≤ _), (by decide : 0 + 0 ≤ _)⟩)
  dsimp only [Pt.U, Pt.locs, Pt.cells, Pt.slots] at X103 l103 y103 z103 st103 hQ103
  subst l103 y103 z103
  obtain ⟨rfl, N103q, eh103⟩ := hQ103
  have N103 := Fr.app N102 N103q
  refine gs m T103 38 #[vR (a1), vI (kk), sU] [(.ref oe)] (st103) ?_
  refine gs m T103 39 #[vR (a1), vI (kk), vR (oe)] [] (fun _ k => XS.astoreN X103.here hx rfl (hb hby qae) rfl rfl (l' := #[vR (a1), vI (kk), vR (oe)]) rfl k) ?_
  refine gs m T103 40 #[vR (a1), vI (kk), vR (oe)] [(.ref oe)] (fun _ k => XS.aloadN X103.here hx rfl (hb hby qaf) rfl rfl k) ?_
  exact Go.retA X103 hx (t := (.object "java/util/Optional")) hret rfl hlk rfl (hb hby qag) (⟨rfl, N103, eh103⟩) (by decide) (by decide)
theorem qah : decode prog_7_method_4_code 13 = .ok (.aload_n 0, 1) := by decide +kernel
theorem qai : decode prog_7_method_4_code 14 = .ok (.getfield 47, 3) := by decide +kernel
theorem qaj : decode prog_7_method_4_code 17 = .ok (.iload_n 1, 1) := by decide +kernel
theorem qak : decode prog_7_method_4_code 18 = .ok (.iconst 1, 1) := by decide +kernel
theorem qal : decode prog_7_method_4_code 19 = .ok (.isub, 1) := by decide +kernel
theorem qam : decode prog_7_method_4_code 20 = .ok (.invokeinterface 64 2, 5) := by decide +kernel
theorem qan : decode prog_7_method_4_code 25 = .ok (.checkcast 27, 3) := by decide +kernel
theorem qao : decode prog_7_method_4_code 28 = .ok (.invokestatic 68, 3) := by decide +kernel
theorem own_pd22 : parseMethodDescriptor "(Ljava/lang/Object;)Ljava/util/Optional;" = some ⟨[(.object "java/lang/Object")], some (.object "java/util/Optional")⟩ := by decide +kernel
theorem qap : decode prog_7_method_4_code 31 = .ok (.astore_n 2, 1) := by decide +kernel
theorem qaq : decode prog_7_method_4_code 32 = .ok (.goto 7, 3) := by decide +kernel
theorem own_daf1_0 (l : Launch) (Z : State) (a0 : Array Value) (hw : ∀ d ∈ tables_1, d.before a0 Z = true) (ws : List Jvm.Cond) (a1 : Addr) (lst : Addr) (x1 : Addr) (em : Addr) (h0 : Heap) (n0 : Nat) (Z0 : n0 ≤ h0.size) (f0 : Exa Z h0 a1 "com/example/nuthatch/nuthatch/RetrySchedule") (f1 : Fld Z h0 a1 "com/example/nuthatch/nuthatch/RetrySchedule" "delays" "Ljava/util/List;" (.ref lst)) (f2 : Exa Z h0 lst "java/util/ImmutableCollections$List12") (f3 : Fld Z h0 lst "java/util/ImmutableCollections$List12" "e0" "Ljava/lang/Object;" (.ref x1)) (f4 : Fld Z h0 lst "java/util/ImmutableCollections$List12" "e1" "Ljava/lang/Object;" (.ref em)) (f5 : Sta Z h0 "java/util/ImmutableCollections" "EMPTY" "Ljava/lang/Object;" (.ref em)) (f6 : Exa Z h0 x1 "java/time/Duration")  :
    Con l Z (⟨"com/example/nuthatch/nuthatch/RetrySchedule", "delayAfterFailure", "(I)Ljava/util/Optional;"⟩ : MethodName) prog_7_method_4_code 3 (some (.object "java/util/Optional")) ({ frames := 3, cells := 1, slots := 1, locals := 38 } : Room) ws #[(.ref a1), (.int (1 : Int32))] h0 (fun v h L => ∃ o : Addr, (v = some (.ref o)) ∧ (Fr n0 L) ∧ (Keep h0 h []) ∧ (h0.size ≤ o) ∧ (Exa Z h o "java/util/Optional") ∧ (Fld Z h o "java/util/Optional" "value" "Ljava/lang/Object;" (.ref x1))) 1 1 := by
  refine Con.of (plainFor_of_name own_pn_RetrySchedule) ?_
  intro pgm e s m below meth c s₁ X0 hx hZ hby hml hown hnm hret hlk e0 hs0
  have N0 := Fr.nil n0
  have hown : s.vm.findClass "com/example/nuthatch/nuthatch/RetrySchedule" = some m.cls := hown
  have hnm : meth.name = "delayAfterFailure" := hnm
  refine Go.cast (own_ef_prog_7_method_4_code_RI m a1 (1 : Int32)) ?_
  have K0 := Keep.refl h0 []
  refine gs m s₁ 1 #[vR (a1), vI ((1 : Int32)), sU] [(.int (1 : Int32))] (fun _ k => XS.iloadN X0.here hx rfl (hb hby qa8) rfl  k) ?_
  refine gs m s₁ 2 #[vR (a1), vI ((1 : Int32)), sU] [(.ref a1), (.int (1 : Int32))] (fun _ k => XS.aloadN X0.here hx rfl (hb hby qa9) rfl rfl k) ?_
  obtain ⟨T101, X101, e101, st101⟩ := getF X0 hx hZ hown (host := "") (Or.inl (hwi hw 135 rfl)) Via.refl e0 f1 (g := (mkF m 2 #[vR (a1), vI ((1 : Int32)), sU] [(.ref a1), (.int (1 : Int32))])) rfl rfl (hb hby qaa)
  refine gs m T101 5 #[vR (a1), vI ((1 : Int32)), sU] [(.ref lst), (.int (1 : Int32))] st101 ?_
  obtain ⟨cq102, kq102, q102a, q102b, q102c⟩ := isOf hZ e101 f2
  obtain ⟨_, _, ⟨T102, L102, k102, n102⟩, -, X102, ⟨Lc102, hQ102, l102, y102, z102⟩, st102⟩ := X101.interfaceBack hx (xi := (⟨"java/util/List", "size", "()I"⟩ : MethodName)) (y := (⟨"java/util/ImmutableCollections$List12", "size", "()I"⟩ : MethodName)) hown (mvT hZ (hwi hw 142 rfl)) (mvT hZ (hwi hw 143 rfl)) (mvT hZ (hwi hw 144 rfl)) (mvT hZ (hwi hw 297 rfl)) (mvT hZ (hwi hw 290 rfl)) (mvT hZ (hwi hw 298 rfl)) (mvT hZ (hwi hw 299 rfl)) (mvT hZ (hwi hw 288 rfl)) (by decide) (backOf (W := 1) (Q := Qret (some (.int (1 : Int32))) h0 n0) (own_siz1 l Z a0 hw [] lst x1 em h0 n0 Z0 f2 f3 f4 f5) hZ (hwi hw 291 rfl) (hwi hw 271 rfl) (by decide) (by decide)) q102a q102b q102c (g := (mkF m 5 #[vR (a1), vI ((1 : Int32)), sU] [(.ref lst), (.int (1 : Int32))])) rfl (by rw [hml]; rfl) (Steps.refl _) (argsL := []) (rest := [(.int (1 : Int32))]) (lenOf own_pd14 rfl) rfl (by show 2 * 0 + _ ≤ _; exact Nat.le_of_eq rfl) (hb hby qab) (fun _ _ => ⟨rfl, e101, (by decide : 0 + 0 ≤ _), (by decide : 0 + 0 ≤ _)⟩)
  dsimp only [Pt.U, Pt.locs, Pt.cells, Pt.slots] at X102 l102 y102 z102 st102 hQ102
  subst l102 y102 z102
  obtain ⟨rfl, N102q, eh102⟩ := hQ102
  have N102 := Fr.app N0 N102q
  refine gs m T102 10 #[vR (a1), vI ((1 : Int32)), sU] [(.int (1 : Int32)), (.int (1 : Int32))] (fun _ k => st102.trans k) ?_
  refine gs m T102 13 #[vR (a1), vI ((1 : Int32)), sU] [] (fun _ k => XS.icmpNo X102.here hx rfl (hb hby qac) rfl (flt (by decide : ¬ ((1 : Int32) < (1 : Int32)))).2.2.1 k) ?_
  refine gs m T102 14 #[vR (a1), vI ((1 : Int32)), sU] [(.ref a1)] (fun _ k => XS.aloadN X102.here hx rfl (hb hby qah) rfl rfl k) ?_
  obtain ⟨T103, X103, e103, st103⟩ := getF X102 hx hZ hown (host := "") (Or.inl (hwi hw 135 rfl)) Via.refl eh102 f1 (g := (mkF m 14 #[vR (a1), vI ((1 : Int32)), sU] [(.ref a1)])) rfl rfl (hb hby qai)
  refine gs m T103 17 #[vR (a1), vI ((1 : Int32)), sU] [(.ref lst)] st103 ?_
  refine gs m T103 18 #[vR (a1), vI ((1 : Int32)), sU] [(.int (1 : Int32)), (.ref lst)] (fun _ k => XS.iloadN X103.here hx rfl (hb hby qaj) rfl  k) ?_
  refine gs m T103 19 #[vR (a1), vI ((1 : Int32)), sU] [(.int (1 : Int32)), (.int (1 : Int32)), (.ref lst)] (fun _ k => XS.iconst X103.here hx rfl (hb hby qak) k) ?_
  refine gs m T103 20 #[vR (a1), vI ((1 : Int32)), sU] [(.int (0 : Int32)), (.ref lst)] (fun _ k => XS.isub X103.here hx rfl (hb hby qal) rfl k) ?_
  obtain ⟨cq104, kq104, q104a, q104b, q104c⟩ := isOf hZ e103 f2
  obtain ⟨_, _, ⟨T104, L104, k104, n104⟩, -, X104, ⟨Lc104, hQ104, l104, y104, z104⟩, st104⟩ := X103.interfaceBack hx (xi := (⟨"java/util/List", "get", "(I)Ljava/lang/Object;"⟩ : MethodName)) (y := (⟨"java/util/ImmutableCollections$List12", "get", "(I)Ljava/lang/Object;"⟩ : MethodName)) hown (mvT hZ (hwi hw 304 rfl)) (mvT hZ (hwi hw 256 rfl)) (mvT hZ (hwi hw 257 rfl)) (mvT hZ (hwi hw 292 rfl)) (mvT hZ (hwi hw 293 rfl)) (mvT hZ (hwi hw 294 rfl)) (mvT hZ (hwi hw 295 rfl)) (mvT hZ (hwi hw 288 rfl)) (by decide) (backOf (W := 0) (Q := Qret (some (.ref x1)) h0 n0) (own_get1_0 l Z a0 hw [] lst x1 em h0 n0 Z0 f2 f3 f4 f5) hZ (hwi hw 296 rfl) (hwi hw 271 rfl) (by decide) (by decide)) q104a q104b q104c (g := (mkF m 20 #[vR (a1), vI ((1 : Int32)), sU] [(.int (0 : Int32)), (.ref lst)])) rfl (by rw [hml]; rfl) (Steps.refl _) (argsL := [(.int (0 : Int32))]) (rest := []) (lenOf own_pd16 rfl) rfl (by show 2 * 0 + _ ≤ _; exact Nat.le_of_eq rfl) (hb hby qam) (fun _ _ => ⟨rfl, e103, (by decide : 0 + 0 ≤ _), (by decide : 0 + 0 ≤ _)⟩)
  dsimp only [Pt.U, Pt.locs, Pt.cells, Pt.slots] at X104 l104 y104 z104 st104 hQ104
  subst l104 y104 z104
  obtain ⟨rfl, N104q, eh104⟩ := hQ104
  have N104 := Fr.app N102 N104q
  refine gs m T104 25 #[vR (a1), vI ((1 : Int32)), sU] [(.ref x1)] (fun _ k => st104.trans k) ?_
  obtain ⟨T105, X105, e105, st105⟩ := castY X104 hx hZ hown (hwi hw 263 rfl) eh104 (Ins.self f6) (g := (mkF m 25 #[vR (a1), vI ((1 : Int32)), sU] [(.ref x1)])) rfl rfl (hb hby qan)
  refine gs m T105 28 #[vR (a1), vI ((1 : Int32)), sU] [(.ref x1)] st105 ?_
  obtain ⟨_, _, ⟨T106, L106, k106, n106⟩, -, X106, ⟨Lc106, hQ106, l106, y106, z106⟩, st106⟩ := Jvm.LawKit.callS X105 hx (y := (⟨"java/util/Optional", "of", "(Ljava/lang/Object;)Ljava/util/Optional;"⟩ : MethodName)) hown (mvT hZ (hwi hw 305 rfl)) (mvT hZ (hwi hw 306 rfl)) (mvT hZ (hwi hw 150 rfl)) (mvT hZ (hwi hw 307 rfl)) (by decide) (backOf (W := 0) (Q := fun v h L => ∃ o : Addr, (v = some (.ref o)) ∧ (Fr n0 L) ∧ (Keep h0 h []) ∧ (h0.size ≤ o) ∧ (Exa Z h o "java/util/Optional") ∧ (Fld Z h o "java/util/Optional" "value" "Ljava/lang/Object;" (.ref x1))) (own_opo l Z a0 hw [] x1 h0 n0 Z0 ) hZ (hwi hw 307 rfl) (hwi hw 150 rfl) (by decide) (by decide)) (g := (mkF m 28 #[vR (a1), vI ((1 : Int32)), sU] [(.ref x1)])) rfl (by rw [hml]; rfl) (argsL := [(.ref x1)]) (rest := []) (lenOf own_pd22 rfl) rfl (by show 2 * 0 + _ ≤ _; exact Nat.le_of_eq rfl) (hb hby qao) (fun _ _ => ⟨rfl, e105, (by decide : 0 + 1 ≤ _), (by decide : 0 + 1 ≤ _)⟩)
  dsimp only [Pt.U, Pt.locs, Pt.cells, Pt.slots] at X106 l106 y106 z106 st106 hQ106
  subst l106 y106 z106
  obtain ⟨o_106, rfl, N106q, K106, lt106_0, P106_0, P106_1⟩ := hQ106
  have N106 := Fr.app N104 N106q
  have ne107 : a1 ≠ o_106 := Nat.ne_of_lt (Nat.lt_of_lt_of_le f0.lt lt106_0)
  have ne108 : lst ≠ o_106 := Nat.ne_of_lt (Nat.lt_of_lt_of_le f2.lt lt106_0)
  have ne109 : x1 ≠ o_106 := Nat.ne_of_lt (Nat.lt_of_lt_of_le f6.lt lt106_0)
  have ge110 : n0 ≤ o_106 := Nat.le_trans Z0 lt106_0
  have sz111 : h0.size ≤ o_106 := Nat.le_trans K0.1 lt106_0
  have KK106 := K0.trans K106 all0
  have Z106 : n0 ≤ T106.heap.size := Nat.le_trans Z0 K106.1
  have F112 := f0.keep K106
  have F113 := f1.keep K106 nin0
  have F114 := f2.keep K106
  have F115 := f3.keep K106 nin0
  have F116 := f4.keep K106 nin0
  have F117 := own_sta_keep f5 K106 all0
  have F118 := f6.keep K106
  refine gs m T106 31 #[vR (a1), vI ((1 : Int32)), sU] [(.ref o_106)] (st106) ?_
  refine gs m T106 32 #[vR (a1), vI ((1 : Int32)), vR (o_106)] [] (fun _ k => XS.astoreN X106.here hx rfl (hb hby qap) rfl rfl (l' := #[vR (a1), vI ((1 : Int32)), vR (o_106)]) rfl k) ?_
  refine gs m T106 39 #[vR (a1), vI ((1 : Int32)), vR (o_106)] [] (fun _ k => XS.goto X106.here hx rfl (pc0 := 32) (pc' := 39) rfl (hb hby qaq) (by decide) (by decide) k) ?_
  refine gs m T106 40 #[vR (a1), vI ((1 : Int32)), vR (o_106)] [(.ref o_106)] (fun _ k => XS.aloadN X106.here hx rfl (hb hby qaf) rfl rfl k) ?_
  exact Go.retA X106 hx (t := (.object "java/util/Optional")) hret rfl hlk rfl (hb hby qag) (⟨o_106, rfl, N106, KK106, sz111, P106_0, P106_1⟩) (by decide) (by decide)
theorem own_daf2_gt (l : Launch) (Z : State) (a0 : Array Value) (hw : ∀ d ∈ tables_1, d.before a0 Z = true) (ws : List Jvm.Cond) (a1 : Addr) (kk : Int32) (oe : Addr) (lst : Addr) (x1 : Addr) (x2 : Addr) (em : Addr) (h0 : Heap) (n0 : Nat) (Z0 : n0 ≤ h0.size) (f0 : Exa Z h0 a1 "com/example/nuthatch/nuthatch/RetrySchedule") (f1 : Fld Z h0 a1 "com/example/nuthatch/nuthatch/RetrySchedule" "delays" "Ljava/util/List;" (.ref lst)) (f2 : Exa Z h0 lst "java/util/ImmutableCollections$List12") (f3 : Fld Z h0 lst "java/util/ImmutableCollections$List12" "e0" "Ljava/lang/Object;" (.ref x1)) (f4 : Fld Z h0 lst "java/util/ImmutableCollections$List12" "e1" "Ljava/lang/Object;" (.ref x2)) (f5 : Sta Z h0 "java/util/ImmutableCollections" "EMPTY" "Ljava/lang/Object;" (.ref em)) (f6 : x2 ≠ em) (f7 : Sta Z h0 "java/util/Optional" "EMPTY" "Ljava/util/Optional;" (.ref oe)) (hk : (2 : Int32) < kk) :
    Con l Z (⟨"com/example/nuthatch/nuthatch/RetrySchedule", "delayAfterFailure", "(I)Ljava/util/Optional;"⟩ : MethodName) prog_7_method_4_code 3 (some (.object "java/util/Optional")) ({ frames := 1, cells := 0, slots := 0, locals := 13 } : Room) ws #[(.ref a1), (.int kk)] h0 (Qret (some (.ref oe)) h0 n0) 0 0 := by
  refine Con.of (plainFor_of_name own_pn_RetrySchedule) ?_
  intro pgm e s m below meth c s₁ X0 hx hZ hby hml hown hnm hret hlk e0 hs0
  have N0 := Fr.nil n0
  have hown : s.vm.findClass "com/example/nuthatch/nuthatch/RetrySchedule" = some m.cls := hown
  have hnm : meth.name = "delayAfterFailure" := hnm
  refine Go.cast (own_ef_prog_7_method_4_code_RI m a1 kk) ?_
  refine gs m s₁ 1 #[vR (a1), vI (kk), sU] [(.int kk)] (fun _ k => XS.iloadN X0.here hx rfl (hb hby qa8) rfl  k) ?_
  refine gs m s₁ 2 #[vR (a1), vI (kk), sU] [(.ref a1), (.int kk)] (fun _ k => XS.aloadN X0.here hx rfl (hb hby qa9) rfl rfl k) ?_
  obtain ⟨T101, X101, e101, st101⟩ := getF X0 hx hZ hown (host := "") (Or.inl (hwi hw 135 rfl)) Via.refl e0 f1 (g := (mkF m 2 #[vR (a1), vI (kk), sU] [(.ref a1), (.int kk)])) rfl rfl (hb hby qaa)
  refine gs m T101 5 #[vR (a1), vI (kk), sU] [(.ref lst), (.int kk)] st101 ?_
  obtain ⟨cq102, kq102, q102a, q102b, q102c⟩ := isOf hZ e101 f2
  obtain ⟨_, _, ⟨T102, L102, k102, n102⟩, -, X102, ⟨Lc102, hQ102, l102, y102, z102⟩, st102⟩ := X101.interfaceBack hx (xi := (⟨"java/util/List", "size", "()I"⟩ : MethodName)) (y := (⟨"java/util/ImmutableCollections$List12", "size", "()I"⟩ : MethodName)) hown (mvT hZ (hwi hw 142 rfl)) (mvT hZ (hwi hw 143 rfl)) (mvT hZ (hwi hw 144 rfl)) (mvT hZ (hwi hw 297 rfl)) (mvT hZ (hwi hw 290 rfl)) (mvT hZ (hwi hw 298 rfl)) (mvT hZ (hwi hw 299 rfl)) (mvT hZ (hwi hw 288 rfl)) (by decide) (backOf (W := 1) (Q := Qret (some (.int (2 : Int32))) h0 n0) (own_siz2 l Z a0 hw [] lst x1 x2 em h0 n0 Z0 f2 f3 f4 f5 f6) hZ (hwi hw 291 rfl) (hwi hw 271 rfl) (by decide) (by decide)) q102a q102b q102c (g := (mkF m 5 #[vR (a1), vI (kk), sU] [(.ref lst), (.int kk)])) rfl (by rw [hml]; rfl) (Steps.refl _) (argsL := []) (rest := [(.int kk)]) (lenOf own_pd14 rfl) rfl (by show 2 * 0 + _ ≤ _; exact Nat.le_of_eq rfl) (hb hby qab) (fun _ _ => ⟨rfl, e101, (by decide : 0 + 0 ≤ _), (by decide : 0 + 0 ≤ _)⟩)
  dsimp only [Pt.U, Pt.locs, Pt.cells, Pt.slots] at X102 l102 y102 z102 st102 hQ102
  subst l102 y102 z102
  obtain ⟨rfl, N102q, eh102⟩ := hQ102
  have N102 := Fr.app N0 N102q
  refine gs m T102 10 #[vR (a1), vI (kk), sU] [(.int (2 : Int32)), (.int kk)] (fun _ k => st102.trans k) ?_
  refine gs m T102 35 #[vR (a1), vI (kk), sU] [] (fun _ k => XS.icmpYes X102.here hx rfl (pc0 := 10) (pc' := 35) rfl (hb hby qac) rfl (tlt hk).2.2.1 (by decide) (by decide) k) ?_
  obtain ⟨_, _, ⟨T103, L103, k103, n103⟩, -, X103, ⟨Lc103, hQ103, l103, y103, z103⟩, st103⟩ := Jvm.LawKit.callS X102 hx (y := (⟨"java/util/Optional", "empty", "()Ljava/util/Optional;"⟩ : MethodName)) hown (mvT hZ (hwi hw 148 rfl)) (mvT hZ (hwi hw 149 rfl)) (mvT hZ (hwi hw 150 rfl)) (mvT hZ (hwi hw 151 rfl)) (by decide) (backOf (W := 0) (Q := Qret (some (.ref oe)) h0 n0) (own_ope l Z a0 hw [] oe h0 n0 Z0 f7) hZ (hwi hw 151 rfl) (hwi hw 150 rfl) (by decide) (by decide)) (g := (mkF m 35 #[vR (a1), vI (kk), sU] [])) rfl (by rw [hml]; rfl) (argsL := []) (rest := []) (lenOf own_pd21 rfl) rfl (by show 2 * 0 + _ ≤ _; exact Nat.le_of_eq rfl) (hb hby qad) (fun _ _ => ⟨rfl, eh102, (by decide : 0 + 0 ≤ _), (by decide : 0 + 0 ≤ _)⟩)
  dsimp only [Pt.U, Pt.locs, Pt.cells, Pt.slots] at X103 l103 y103 z103 st103 hQ103
  subst l103 y103 z103
  obtain ⟨rfl, N103q, eh103⟩ := hQ103
  have N103 := Fr.app N102 N103q
  refine gs m T103 38 #[vR (a1), vI (kk), sU] [(.ref oe)] (st103) ?_
  refine gs m T103 39 #[vR (a1), vI (kk), vR (oe)] [] (fun _ k => XS.astoreN X103.here hx rfl (hb hby qae) rfl rfl (l' := #[vR (a1), vI (kk), vR (oe)]) rfl k) ?_
  refine gs m T103 40 #[vR (a1), vI (kk), vR (oe)] [(.ref oe)] (fun _ k => XS.aloadN X103.here hx rfl (hb hby qaf) rfl rfl k) ?_
  exact Go.retA X103 hx (t := (.object "java/util/Optional")) hret rfl hlk rfl (hb hby qag) (⟨rfl, N103, eh103⟩) (by decide) (by decide)
theorem own_daf2_0 (l : Launch) (Z : State) (a0 : Array Value) (hw : ∀ d ∈ tables_1, d.before a0 Z = true) (ws : List Jvm.Cond) (a1 : Addr) (lst : Addr) (x1 : Addr) (x2 : Addr) (em : Addr) (h0 : Heap) (n0 : Nat) (Z0 : n0 ≤ h0.size) (f0 : Exa Z h0 a1 "com/example/nuthatch/nuthatch/RetrySchedule") (f1 : Fld Z h0 a1 "com/example/nuthatch/nuthatch/RetrySchedule" "delays" "Ljava/util/List;" (.ref lst)) (f2 : Exa Z h0 lst "java/util/ImmutableCollections$List12") (f3 : Fld Z h0 lst "java/util/ImmutableCollections$List12" "e0" "Ljava/lang/Object;" (.ref x1)) (f4 : Fld Z h0 lst "java/util/ImmutableCollections$List12" "e1" "Ljava/lang/Object;" (.ref x2)) (f5 : Sta Z h0 "java/util/ImmutableCollections" "EMPTY" "Ljava/lang/Object;" (.ref em)) (f6 : x2 ≠ em) (f7 : Exa Z h0 x1 "java/time/Duration")  :
    Con l Z (⟨"com/example/nuthatch/nuthatch/RetrySchedule", "delayAfterFailure", "(I)Ljava/util/Optional;"⟩ : MethodName) prog_7_method_4_code 3 (some (.object "java/util/Optional")) ({ frames := 3, cells := 1, slots := 1, locals := 38 } : Room) ws #[(.ref a1), (.int (1 : Int32))] h0 (fun v h L => ∃ o : Addr, (v = some (.ref o)) ∧ (Fr n0 L) ∧ (Keep h0 h []) ∧ (h0.size ≤ o) ∧ (Exa Z h o "java/util/Optional") ∧ (Fld Z h o "java/util/Optional" "value" "Ljava/lang/Object;" (.ref x1))) 1 1 := by
  refine Con.of (plainFor_of_name own_pn_RetrySchedule) ?_
  intro pgm e s m below meth c s₁ X0 hx hZ hby hml hown hnm hret hlk e0 hs0
  have N0 := Fr.nil n0
  have hown : s.vm.findClass "com/example/nuthatch/nuthatch/RetrySchedule" = some m.cls := hown
  have hnm : meth.name = "delayAfterFailure" := hnm
  refine Go.cast (own_ef_prog_7_method_4_code_RI m a1 (1 : Int32)) ?_
  have K0 := Keep.refl h0 []
  refine gs m s₁ 1 #[vR (a1), vI ((1 : Int32)), sU] [(.int (1 : Int32))] (fun _ k => XS.iloadN X0.here hx rfl (hb hby qa8) rfl  k) ?_
  refine gs m s₁ 2 #[vR (a1), vI ((1 : Int32)), sU] [(.ref a1), (.int (1 : Int32))] (fun _ k => XS.aloadN X0.here hx rfl (hb hby qa9) rfl rfl k) ?_
  obtain ⟨T101, X101, e101, st101⟩ := getF X0 hx hZ hown (host := "") (Or.inl (hwi hw 135 rfl)) Via.refl e0 f1 (g := (mkF m 2 #[vR (a1), vI ((1 : Int32)), sU] [(.ref a1), (.int (1 : Int32))])) rfl rfl (hb hby qaa)
  refine gs m T101 5 #[vR (a1), vI ((1 : Int32)), sU] [(.ref lst), (.int (1 : Int32))] st101 ?_
  obtain ⟨cq102, kq102, q102a, q102b, q102c⟩ := isOf hZ e101 f2
  obtain ⟨_, _, ⟨T102, L102, k102, n102⟩, -, X102, ⟨Lc102, hQ102, l102, y102, z102⟩, st102⟩ := X101.interfaceBack hx (xi := (⟨"java/util/List", "size", "()I"⟩ : MethodName)) (y := (⟨"java/util/ImmutableCollections$List12", "size", "()I"⟩ : MethodName)) hown (mvT hZ (hwi hw 142 rfl)) (mvT hZ (hwi hw 143 rfl)) (mvT hZ (hwi hw 144 rfl)) (mvT hZ (hwi hw 297 rfl)) (mvT hZ (hwi hw 290 rfl)) (mvT hZ (hwi hw 298 rfl)) (mvT hZ (hwi hw 299 rfl)) (mvT hZ (hwi hw 288 rfl)) (by decide) (backOf (W := 1) (Q := Qret (some (.int (2 : Int32))) h0 n0) (own_siz2 l Z a0 hw [] lst x1 x2 em h0 n0 Z0 f2 f3 f4 f5 f6) hZ (hwi hw 291 rfl) (hwi hw 271 rfl) (by decide) (by decide)) q102a q102b q102c (g := (mkF m 5 #[vR (a1), vI ((1 : Int32)), sU] [(.ref lst), (.int (1 : Int32))])) rfl (by rw [hml]; rfl) (Steps.refl _) (argsL := []) (rest := [(.int (1 : Int32))]) (lenOf own_pd14 rfl) rfl (by show 2 * 0 + _ ≤ _; exact Nat.le_of_eq rfl) (hb hby qab) (fun _ _ => ⟨rfl, e101, (by decide : 0 + 0 ≤ _), (by decide : 0 + 0 ≤ _)⟩)
  dsimp only [Pt.U, Pt.locs, Pt.cells, Pt.slots] at X102 l102 y102 z102 st102 hQ102
  subst l102 y102 z102
  obtain ⟨rfl, N102q, eh102⟩ := hQ102
  have N102 := Fr.app N0 N102q
  refine gs m T102 10 #[vR (a1), vI ((1 : Int32)), sU] [(.int (2 : Int32)), (.int (1 : Int32))] (fun _ k => st102.trans k) ?_
  refine gs m T102 13 #[vR (a1), vI ((1 : Int32)), sU] [] (fun _ k => XS.icmpNo X102.here hx rfl (hb hby qac) rfl (flt (by decide : ¬ ((2 : Int32) < (1 : Int32)))).2.2.1 k) ?_
  refine gs m T102 14 #[vR (a1), vI ((1 : Int32)), sU] [(.ref a1)] (fun _ k => XS.aloadN X102.here hx rfl (hb hby qah) rfl rfl k) ?_
  obtain ⟨T103, X103, e103, st103⟩ := getF X102 hx hZ hown (host := "") (Or.inl (hwi hw 135 rfl)) Via.refl eh102 f1 (g := (mkF m 14 #[vR (a1), vI ((1 : Int32)), sU] [(.ref a1)])) rfl rfl (hb hby qai)
  refine gs m T103 17 #[vR (a1), vI ((1 : Int32)), sU] [(.ref lst)] st103 ?_
  refine gs m T103 18 #[vR (a1), vI ((1 : Int32)), sU] [(.int (1 : Int32)), (.ref lst)] (fun _ k => XS.iloadN X103.here hx rfl (hb hby qaj) rfl  k) ?_
  refine gs m T103 19 #[vR (a1), vI ((1 : Int32)), sU] [(.int (1 : Int32)), (.int (1 : Int32)), (.ref lst)] (fun _ k => XS.iconst X103.here hx rfl (hb hby qak) k) ?_
  refine gs m T103 20 #[vR (a1), vI ((1 : Int32)), sU] [(.int (0 : Int32)), (.ref lst)] (fun _ k => XS.isub X103.here hx rfl (hb hby qal) rfl k) ?_
  obtain ⟨cq104, kq104, q104a, q104b, q104c⟩ := isOf hZ e103 f2
  obtain ⟨_, _, ⟨T104, L104, k104, n104⟩, -, X104, ⟨Lc104, hQ104, l104, y104, z104⟩, st104⟩ := X103.interfaceBack hx (xi := (⟨"java/util/List", "get", "(I)Ljava/lang/Object;"⟩ : MethodName)) (y := (⟨"java/util/ImmutableCollections$List12", "get", "(I)Ljava/lang/Object;"⟩ : MethodName)) hown (mvT hZ (hwi hw 304 rfl)) (mvT hZ (hwi hw 256 rfl)) (mvT hZ (hwi hw 257 rfl)) (mvT hZ (hwi hw 292 rfl)) (mvT hZ (hwi hw 293 rfl)) (mvT hZ (hwi hw 294 rfl)) (mvT hZ (hwi hw 295 rfl)) (mvT hZ (hwi hw 288 rfl)) (by decide) (backOf (W := 0) (Q := Qret (some (.ref x1)) h0 n0) (own_get2_0 l Z a0 hw [] lst x1 x2 em h0 n0 Z0 f2 f3 f4 f5 f6) hZ (hwi hw 296 rfl) (hwi hw 271 rfl) (by decide) (by decide)) q104a q104b q104c (g := (mkF m 20 #[vR (a1), vI ((1 : Int32)), sU] [(.int (0 : Int32)), (.ref lst)])) rfl (by rw [hml]; rfl) (Steps.refl _) (argsL := [(.int (0 : Int32))]) (rest := []) (lenOf own_pd16 rfl) rfl (by show 2 * 0 + _ ≤ _; exact Nat.le_of_eq rfl) (hb hby qam) (fun _ _ => ⟨rfl, e103, (by decide : 0 + 0 ≤ _), (by decide : 0 + 0 ≤ _)⟩)
  dsimp only [Pt.U, Pt.locs, Pt.cells, Pt.slots] at X104 l104 y104 z104 st104 hQ104
  subst l104 y104 z104
  obtain ⟨rfl, N104q, eh104⟩ := hQ104
  have N104 := Fr.app N102 N104q
  refine gs m T104 25 #[vR (a1), vI ((1 : Int32)), sU] [(.ref x1)] (fun _ k => st104.trans k) ?_
  obtain ⟨T105, X105, e105, st105⟩ := castY X104 hx hZ hown (hwi hw 263 rfl) eh104 (Ins.self f7) (g := (mkF m 25 #[vR (a1), vI ((1 : Int32)), sU] [(.ref x1)])) rfl rfl (hb hby qan)
  refine gs m T105 28 #[vR (a1), vI ((1 : Int32)), sU] [(.ref x1)] st105 ?_
  obtain ⟨_, _, ⟨T106, L106, k106, n106⟩, -, X106, ⟨Lc106, hQ106, l106, y106, z106⟩, st106⟩ := Jvm.LawKit.callS X105 hx (y := (⟨"java/util/Optional", "of", "(Ljava/lang/Object;)Ljava/util/Optional;"⟩ : MethodName)) hown (mvT hZ (hwi hw 305 rfl)) (mvT hZ (hwi hw 306 rfl)) (mvT hZ (hwi hw 150 rfl)) (mvT hZ (hwi hw 307 rfl)) (by decide) (backOf (W := 0) (Q := fun v h L => ∃ o : Addr, (v = some (.ref o)) ∧ (Fr n0 L) ∧ (Keep h0 h []) ∧ (h0.size ≤ o) ∧ (Exa Z h o "java/util/Optional") ∧ (Fld Z h o "java/util/Optional" "value" "Ljava/lang/Object;" (.ref x1))) (own_opo l Z a0 hw [] x1 h0 n0 Z0 ) hZ (hwi hw 307 rfl) (hwi hw 150 rfl) (by decide) (by decide)) (g := (mkF m 28 #[vR (a1), vI ((1 : Int32)), sU] [(.ref x1)])) rfl (by rw [hml]; rfl) (argsL := [(.ref x1)]) (rest := []) (lenOf own_pd22 rfl) rfl (by show 2 * 0 + _ ≤ _; exact Nat.le_of_eq rfl) (hb hby qao) (fun _ _ => ⟨rfl, e105, (by decide : 0 + 1 ≤ _), (by decide : 0 + 1 ≤ _)⟩)
  dsimp only [Pt.U, Pt.locs, Pt.cells, Pt.slots] at X106 l106 y106 z106 st106 hQ106
  subst l106 y106 z106
  obtain ⟨o_106, rfl, N106q, K106, lt106_0, P106_0, P106_1⟩ := hQ106
  have N106 := Fr.app N104 N106q
  have ne107 : a1 ≠ o_106 := Nat.ne_of_lt (Nat.lt_of_lt_of_le f0.lt lt106_0)
  have ne108 : lst ≠ o_106 := Nat.ne_of_lt (Nat.lt_of_lt_of_le f2.lt lt106_0)
  have ne109 : x1 ≠ o_106 := Nat.ne_of_lt (Nat.lt_of_lt_of_le f7.lt lt106_0)
  have ge110 : n0 ≤ o_106 := Nat.le_trans Z0 lt106_0
  have sz111 : h0.size ≤ o_106 := Nat.le_trans K0.1 lt106_0
  have KK106 := K0.trans K106 all0
  have Z106 : n0 ≤ T106.heap.size := Nat.le_trans Z0 K106.1
  have F112 := f0.keep K106
  have F113 := f1.keep K106 nin0
  have F114 := f2.keep K106
  have F115 := f3.keep K106 nin0
  have F116 := f4.keep K106 nin0
  have F117 := own_sta_keep f5 K106 all0
  have F118 := f7.keep K106
  refine gs m T106 31 #[vR (a1), vI ((1 : Int32)), sU] [(.ref o_106)] (st106) ?_
  refine gs m T106 32 #[vR (a1), vI ((1 : Int32)), vR (o_106)] [] (fun _ k => XS.astoreN X106.here hx rfl (hb hby qap) rfl rfl (l' := #[vR (a1), vI ((1 : Int32)), vR (o_106)]) rfl k) ?_
  refine gs m T106 39 #[vR (a1), vI ((1 : Int32)), vR (o_106)] [] (fun _ k => XS.goto X106.here hx rfl (pc0 := 32) (pc' := 39) rfl (hb hby qaq) (by decide) (by decide) k) ?_
  refine gs m T106 40 #[vR (a1), vI ((1 : Int32)), vR (o_106)] [(.ref o_106)] (fun _ k => XS.aloadN X106.here hx rfl (hb hby qaf) rfl rfl k) ?_
  exact Go.retA X106 hx (t := (.object "java/util/Optional")) hret rfl hlk rfl (hb hby qag) (⟨o_106, rfl, N106, KK106, sz111, P106_0, P106_1⟩) (by decide) (by decide)
theorem own_daf2_1 (l : Launch) (Z : State) (a0 : Array Value) (hw : ∀ d ∈ tables_1, d.before a0 Z = true) (ws : List Jvm.Cond) (a1 : Addr) (lst : Addr) (x1 : Addr) (x2 : Addr) (em : Addr) (h0 : Heap) (n0 : Nat) (Z0 : n0 ≤ h0.size) (f0 : Exa Z h0 a1 "com/example/nuthatch/nuthatch/RetrySchedule") (f1 : Fld Z h0 a1 "com/example/nuthatch/nuthatch/RetrySchedule" "delays" "Ljava/util/List;" (.ref lst)) (f2 : Exa Z h0 lst "java/util/ImmutableCollections$List12") (f3 : Fld Z h0 lst "java/util/ImmutableCollections$List12" "e0" "Ljava/lang/Object;" (.ref x1)) (f4 : Fld Z h0 lst "java/util/ImmutableCollections$List12" "e1" "Ljava/lang/Object;" (.ref x2)) (f5 : Sta Z h0 "java/util/ImmutableCollections" "EMPTY" "Ljava/lang/Object;" (.ref em)) (f6 : x2 ≠ em) (f7 : Exa Z h0 x2 "java/time/Duration")  :
    Con l Z (⟨"com/example/nuthatch/nuthatch/RetrySchedule", "delayAfterFailure", "(I)Ljava/util/Optional;"⟩ : MethodName) prog_7_method_4_code 3 (some (.object "java/util/Optional")) ({ frames := 3, cells := 1, slots := 1, locals := 38 } : Room) ws #[(.ref a1), (.int (2 : Int32))] h0 (fun v h L => ∃ o : Addr, (v = some (.ref o)) ∧ (Fr n0 L) ∧ (Keep h0 h []) ∧ (h0.size ≤ o) ∧ (Exa Z h o "java/util/Optional") ∧ (Fld Z h o "java/util/Optional" "value" "Ljava/lang/Object;" (.ref x2))) 1 1 := by
  refine Con.of (plainFor_of_name own_pn_RetrySchedule) ?_
  intro pgm e s m below meth c s₁ X0 hx hZ hby hml hown hnm hret hlk e0 hs0
  have N0 := Fr.nil n0
  have hown : s.vm.findClass "com/example/nuthatch/nuthatch/RetrySchedule" = some m.cls := hown
  have hnm : meth.name = "delayAfterFailure" := hnm
  refine Go.cast (own_ef_prog_7_method_4_code_RI m a1 (2 : Int32)) ?_
  have K0 := Keep.refl h0 []
  refine gs m s₁ 1 #[vR (a1), vI ((2 : Int32)), sU] [(.int (2 : Int32))] (fun _ k => XS.iloadN X0.here hx rfl (hb hby qa8) rfl  k) ?_
  refine gs m s₁ 2 #[vR (a1), vI ((2 : Int32)), sU] [(.ref a1), (.int (2 : Int32))] (fun _ k => XS.aloadN X0.here hx rfl (hb hby qa9) rfl rfl k) ?_
  obtain ⟨T101, X101, e101, st101⟩ := getF X0 hx hZ hown (host := "") (Or.inl (hwi hw 135 rfl)) Via.refl e0 f1 (g := (mkF m 2 #[vR (a1), vI ((2 : Int32)), sU] [(.ref a1), (.int (2 : Int32))])) rfl rfl (hb hby qaa)
  refine gs m T101 5 #[vR (a1), vI ((2 : Int32)), sU] [(.ref lst), (.int (2 : Int32))] st101 ?_
  obtain ⟨cq102, kq102, q102a, q102b, q102c⟩ := isOf hZ e101 f2
  obtain ⟨_, _, ⟨T102, L102, k102, n102⟩, -, X102, ⟨Lc102, hQ102, l102, y102, z102⟩, st102⟩ := X101.interfaceBack hx (xi := (⟨"java/util/List", "size", "()I"⟩ : MethodName)) (y := (⟨"java/util/ImmutableCollections$List12", "size", "()I"⟩ : MethodName)) hown (mvT hZ (hwi hw 142 rfl)) (mvT hZ (hwi hw 143 rfl)) (mvT hZ (hwi hw 144 rfl)) (mvT hZ (hwi hw 297 rfl)) (mvT hZ (hwi hw 290 rfl)) (mvT hZ (hwi hw 298 rfl)) (mvT hZ (hwi hw 299 rfl)) (mvT hZ (hwi hw 288 rfl)) (by decide) (backOf (W := 1) (Q := Qret (some (.int (2 : Int32))) h0 n0) (own_siz2 l Z a0 hw [] lst x1 x2 em h0 n0 Z0 f2 f3 f4 f5 f6) hZ (hwi hw 291 rfl) (hwi hw 271 rfl) (by decide) (by decide)) q102a q102b q102c (g := (mkF m 5 #[vR (a1), vI ((2 : Int32)), sU] [(.ref lst), (.int (2 : Int32))])) rfl (by rw [hml]; rfl) (Steps.refl _) (argsL := []) (rest := [(.int (2 : Int32))]) (lenOf own_pd14 rfl) rfl (by show 2 * 0 + _ ≤ _; exact Nat.le_of_eq rfl) (hb hby qab) (fun _ _ => ⟨rfl, e101, (by decide : 0 + 0 ≤ _), (by decide : 0 + 0 ≤ _)⟩)
  dsimp only [Pt.U, Pt.locs, Pt.cells, Pt.slots] at X102 l102 y102 z102 st102 hQ102
  subst l102 y102 z102
  obtain ⟨rfl, N102q, eh102⟩ := hQ102
  have N102 := Fr.app N0 N102q
  refine gs m T102 10 #[vR (a1), vI ((2 : Int32)), sU] [(.int (2 : Int32)), (.int (2 : Int32))] (fun _ k => st102.trans k) ?_
  refine gs m T102 13 #[vR (a1), vI ((2 : Int32)), sU] [] (fun _ k => XS.icmpNo X102.here hx rfl (hb hby qac) rfl (flt (by decide : ¬ ((2 : Int32) < (2 : Int32)))).2.2.1 k) ?_
  refine gs m T102 14 #[vR (a1), vI ((2 : Int32)), sU] [(.ref a1)] (fun _ k => XS.aloadN X102.here hx rfl (hb hby qah) rfl rfl k) ?_
  obtain ⟨T103, X103, e103, st103⟩ := getF X102 hx hZ hown (host := "") (Or.inl (hwi hw 135 rfl)) Via.refl eh102 f1 (g := (mkF m 14 #[vR (a1), vI ((2 : Int32)), sU] [(.ref a1)])) rfl rfl (hb hby qai)
  refine gs m T103 17 #[vR (a1), vI ((2 : Int32)), sU] [(.ref lst)] st103 ?_
  refine gs m T103 18 #[vR (a1), vI ((2 : Int32)), sU] [(.int (2 : Int32)), (.ref lst)] (fun _ k => XS.iloadN X103.here hx rfl (hb hby qaj) rfl  k) ?_
  refine gs m T103 19 #[vR (a1), vI ((2 : Int32)), sU] [(.int (1 : Int32)), (.int (2 : Int32)), (.ref lst)] (fun _ k => XS.iconst X103.here hx rfl (hb hby qak) k) ?_
  refine gs m T103 20 #[vR (a1), vI ((2 : Int32)), sU] [(.int (1 : Int32)), (.ref lst)] (fun _ k => XS.isub X103.here hx rfl (hb hby qal) rfl k) ?_
  obtain ⟨cq104, kq104, q104a, q104b, q104c⟩ := isOf hZ e103 f2
  obtain ⟨_, _, ⟨T104, L104, k104, n104⟩, -, X104, ⟨Lc104, hQ104, l104, y104, z104⟩, st104⟩ := X103.interfaceBack hx (xi := (⟨"java/util/List", "get", "(I)Ljava/lang/Object;"⟩ : MethodName)) (y := (⟨"java/util/ImmutableCollections$List12", "get", "(I)Ljava/lang/Object;"⟩ : MethodName)) hown (mvT hZ (hwi hw 304 rfl)) (mvT hZ (hwi hw 256 rfl)) (mvT hZ (hwi hw 257 rfl)) (mvT hZ (hwi hw 292 rfl)) (mvT hZ (hwi hw 293 rfl)) (mvT hZ (hwi hw 294 rfl)) (mvT hZ (hwi hw 295 rfl)) (mvT hZ (hwi hw 288 rfl)) (by decide) (backOf (W := 0) (Q := Qret (some (.ref x2)) h0 n0) (own_get2_1 l Z a0 hw [] lst x1 x2 em h0 n0 Z0 f2 f3 f4 f5 f6) hZ (hwi hw 296 rfl) (hwi hw 271 rfl) (by decide) (by decide)) q104a q104b q104c (g := (mkF m 20 #[vR (a1), vI ((2 : Int32)), sU] [(.int (1 : Int32)), (.ref lst)])) rfl (by rw [hml]; rfl) (Steps.refl _) (argsL := [(.int (1 : Int32))]) (rest := []) (lenOf own_pd16 rfl) rfl (by show 2 * 0 + _ ≤ _; exact Nat.le_of_eq rfl) (hb hby qam) (fun _ _ => ⟨rfl, e103, (by decide : 0 + 0 ≤ _), (by decide : 0 + 0 ≤ _)⟩)
  dsimp only [Pt.U, Pt.locs, Pt.cells, Pt.slots] at X104 l104 y104 z104 st104 hQ104
  subst l104 y104 z104
  obtain ⟨rfl, N104q, eh104⟩ := hQ104
  have N104 := Fr.app N102 N104q
  refine gs m T104 25 #[vR (a1), vI ((2 : Int32)), sU] [(.ref x2)] (fun _ k => st104.trans k) ?_
  obtain ⟨T105, X105, e105, st105⟩ := castY X104 hx hZ hown (hwi hw 263 rfl) eh104 (Ins.self f7) (g := (mkF m 25 #[vR (a1), vI ((2 : Int32)), sU] [(.ref x2)])) rfl rfl (hb hby qan)
  refine gs m T105 28 #[vR (a1), vI ((2 : Int32)), sU] [(.ref x2)] st105 ?_
  obtain ⟨_, _, ⟨T106, L106, k106, n106⟩, -, X106, ⟨Lc106, hQ106, l106, y106, z106⟩, st106⟩ := Jvm.LawKit.callS X105 hx (y := (⟨"java/util/Optional", "of", "(Ljava/lang/Object;)Ljava/util/Optional;"⟩ : MethodName)) hown (mvT hZ (hwi hw 305 rfl)) (mvT hZ (hwi hw 306 rfl)) (mvT hZ (hwi hw 150 rfl)) (mvT hZ (hwi hw 307 rfl)) (by decide) (backOf (W := 0) (Q := fun v h L => ∃ o : Addr, (v = some (.ref o)) ∧ (Fr n0 L) ∧ (Keep h0 h []) ∧ (h0.size ≤ o) ∧ (Exa Z h o "java/util/Optional") ∧ (Fld Z h o "java/util/Optional" "value" "Ljava/lang/Object;" (.ref x2))) (own_opo l Z a0 hw [] x2 h0 n0 Z0 ) hZ (hwi hw 307 rfl) (hwi hw 150 rfl) (by decide) (by decide)) (g := (mkF m 28 #[vR (a1), vI ((2 : Int32)), sU] [(.ref x2)])) rfl (by rw [hml]; rfl) (argsL := [(.ref x2)]) (rest := []) (lenOf own_pd22 rfl) rfl (by show 2 * 0 + _ ≤ _; exact Nat.le_of_eq rfl) (hb hby qao) (fun _ _ => ⟨rfl, e105, (by decide : 0 + 1 ≤ _), (by decide : 0 + 1 ≤ _)⟩)
  dsimp only [Pt.U, Pt.locs, Pt.cells, Pt.slots] at X106 l106 y106 z106 st106 hQ106
  subst l106 y106 z106
  obtain ⟨o_106, rfl, N106q, K106, lt106_0, P106_0, P106_1⟩ := hQ106
  have N106 := Fr.app N104 N106q
  have ne107 : a1 ≠ o_106 := Nat.ne_of_lt (Nat.lt_of_lt_of_le f0.lt lt106_0)
  have ne108 : lst ≠ o_106 := Nat.ne_of_lt (Nat.lt_of_lt_of_le f2.lt lt106_0)
  have ne109 : x2 ≠ o_106 := Nat.ne_of_lt (Nat.lt_of_lt_of_le f7.lt lt106_0)
  have ge110 : n0 ≤ o_106 := Nat.le_trans Z0 lt106_0
  have sz111 : h0.size ≤ o_106 := Nat.le_trans K0.1 lt106_0
  have KK106 := K0.trans K106 all0
  have Z106 : n0 ≤ T106.heap.size := Nat.le_trans Z0 K106.1
  have F112 := f0.keep K106
  have F113 := f1.keep K106 nin0
  have F114 := f2.keep K106
  have F115 := f3.keep K106 nin0
  have F116 := f4.keep K106 nin0
  have F117 := own_sta_keep f5 K106 all0
  have F118 := f7.keep K106
  refine gs m T106 31 #[vR (a1), vI ((2 : Int32)), sU] [(.ref o_106)] (st106) ?_
  refine gs m T106 32 #[vR (a1), vI ((2 : Int32)), vR (o_106)] [] (fun _ k => XS.astoreN X106.here hx rfl (hb hby qap) rfl rfl (l' := #[vR (a1), vI ((2 : Int32)), vR (o_106)]) rfl k) ?_
  refine gs m T106 39 #[vR (a1), vI ((2 : Int32)), vR (o_106)] [] (fun _ k => XS.goto X106.here hx rfl (pc0 := 32) (pc' := 39) rfl (hb hby qaq) (by decide) (by decide) k) ?_
  refine gs m T106 40 #[vR (a1), vI ((2 : Int32)), vR (o_106)] [(.ref o_106)] (fun _ k => XS.aloadN X106.here hx rfl (hb hby qaf) rfl rfl k) ?_
  exact Go.retA X106 hx (t := (.object "java/util/Optional")) hret rfl hlk rfl (hb hby qag) (⟨o_106, rfl, N106, KK106, sz111, P106_0, P106_1⟩) (by decide) (by decide)
theorem own_daf3_gt (l : Launch) (Z : State) (a0 : Array Value) (hw : ∀ d ∈ tables_1, d.before a0 Z = true) (ws : List Jvm.Cond) (a1 : Addr) (kk : Int32) (oe : Addr) (lst : Addr) (b2 : Addr) (k2 : ClassId) (x1 : Addr) (x2 : Addr) (x3 : Addr) (h0 : Heap) (n0 : Nat) (Z0 : n0 ≤ h0.size) (f0 : Exa Z h0 a1 "com/example/nuthatch/nuthatch/RetrySchedule") (f1 : Fld Z h0 a1 "com/example/nuthatch/nuthatch/RetrySchedule" "delays" "Ljava/util/List;" (.ref lst)) (f2 : Exa Z h0 lst "java/util/ImmutableCollections$ListN") (f3 : Fld Z h0 lst "java/util/ImmutableCollections$ListN" "elements" "[Ljava/lang/Object;" (.ref b2)) (f4 : Arv Z h0 b2 k2 (.object "java/lang/Object") (3 : Int32) [(.ref x1), (.ref x2), (.ref x3)] .null) (f5 : Sta Z h0 "java/util/Optional" "EMPTY" "Ljava/util/Optional;" (.ref oe)) (hk : (3 : Int32) < kk) :
    Con l Z (⟨"com/example/nuthatch/nuthatch/RetrySchedule", "delayAfterFailure", "(I)Ljava/util/Optional;"⟩ : MethodName) prog_7_method_4_code 3 (some (.object "java/util/Optional")) ({ frames := 1, cells := 0, slots := 0, locals := 13 } : Room) ws #[(.ref a1), (.int kk)] h0 (Qret (some (.ref oe)) h0 n0) 0 0 := by
  refine Con.of (plainFor_of_name own_pn_RetrySchedule) ?_
  intro pgm e s m below meth c s₁ X0 hx hZ hby hml hown hnm hret hlk e0 hs0
  have N0 := Fr.nil n0
  have hown : s.vm.findClass "com/example/nuthatch/nuthatch/RetrySchedule" = some m.cls := hown
  have hnm : meth.name = "delayAfterFailure" := hnm
  refine Go.cast (own_ef_prog_7_method_4_code_RI m a1 kk) ?_
  refine gs m s₁ 1 #[vR (a1), vI (kk), sU] [(.int kk)] (fun _ k => XS.iloadN X0.here hx rfl (hb hby qa8) rfl  k) ?_
  refine gs m s₁ 2 #[vR (a1), vI (kk), sU] [(.ref a1), (.int kk)] (fun _ k => XS.aloadN X0.here hx rfl (hb hby qa9) rfl rfl k) ?_
  obtain ⟨T101, X101, e101, st101⟩ := getF X0 hx hZ hown (host := "") (Or.inl (hwi hw 135 rfl)) Via.refl e0 f1 (g := (mkF m 2 #[vR (a1), vI (kk), sU] [(.ref a1), (.int kk)])) rfl rfl (hb hby qaa)
  refine gs m T101 5 #[vR (a1), vI (kk), sU] [(.ref lst), (.int kk)] st101 ?_
  obtain ⟨cq102, kq102, q102a, q102b, q102c⟩ := isOf hZ e101 f2
  obtain ⟨_, _, ⟨T102, L102, k102, n102⟩, -, X102, ⟨Lc102, hQ102, l102, y102, z102⟩, st102⟩ := X101.interfaceBack hx (xi := (⟨"java/util/List", "size", "()I"⟩ : MethodName)) (y := (⟨"java/util/ImmutableCollections$ListN", "size", "()I"⟩ : MethodName)) hown (mvT hZ (hwi hw 142 rfl)) (mvT hZ (hwi hw 143 rfl)) (mvT hZ (hwi hw 144 rfl)) (mvT hZ (hwi hw 145 rfl)) (mvT hZ (hwi hw 108 rfl)) (mvT hZ (hwi hw 146 rfl)) (mvT hZ (hwi hw 147 rfl)) (mvT hZ (hwi hw 98 rfl)) (by decide) (backOf (W := 1) (Q := Qret (some (.int (3 : Int32))) h0 n0) (own_siz3 l Z a0 hw [] lst b2 k2 x1 x2 x3 h0 n0 Z0 f2 f3 f4) hZ (hwi hw 110 rfl) (hwi hw 109 rfl) (by decide) (by decide)) q102a q102b q102c (g := (mkF m 5 #[vR (a1), vI (kk), sU] [(.ref lst), (.int kk)])) rfl (by rw [hml]; rfl) (Steps.refl _) (argsL := []) (rest := [(.int kk)]) (lenOf own_pd14 rfl) rfl (by show 2 * 0 + _ ≤ _; exact Nat.le_of_eq rfl) (hb hby qab) (fun _ _ => ⟨rfl, e101, (by decide : 0 + 0 ≤ _), (by decide : 0 + 0 ≤ _)⟩)
  dsimp only [Pt.U, Pt.locs, Pt.cells, Pt.slots] at X102 l102 y102 z102 st102 hQ102
  subst l102 y102 z102
  obtain ⟨rfl, N102q, eh102⟩ := hQ102
  have N102 := Fr.app N0 N102q
  refine gs m T102 10 #[vR (a1), vI (kk), sU] [(.int (3 : Int32)), (.int kk)] (fun _ k => st102.trans k) ?_
  refine gs m T102 35 #[vR (a1), vI (kk), sU] [] (fun _ k => XS.icmpYes X102.here hx rfl (pc0 := 10) (pc' := 35) rfl (hb hby qac) rfl (tlt hk).2.2.1 (by decide) (by decide) k) ?_
  obtain ⟨_, _, ⟨T103, L103, k103, n103⟩, -, X103, ⟨Lc103, hQ103, l103, y103, z103⟩, st103⟩ := Jvm.LawKit.callS X102 hx (y := (⟨"java/util/Optional", "empty", "()Ljava/util/Optional;"⟩ : MethodName)) hown (mvT hZ (hwi hw 148 rfl)) (mvT hZ (hwi hw 149 rfl)) (mvT hZ (hwi hw 150 rfl)) (mvT hZ (hwi hw 151 rfl)) (by decide) (backOf (W := 0) (Q := Qret (some (.ref oe)) h0 n0) (own_ope l Z a0 hw [] oe h0 n0 Z0 f5) hZ (hwi hw 151 rfl) (hwi hw 150 rfl) (by decide) (by decide)) (g := (mkF m 35 #[vR (a1), vI (kk), sU] [])) rfl (by rw [hml]; rfl) (argsL := []) (rest := []) (lenOf own_pd21 rfl) rfl (by show 2 * 0 + _ ≤ _; exact Nat.le_of_eq rfl) (hb hby qad) (fun _ _ => ⟨rfl, eh102, (by decide : 0 + 0 ≤ _), (by decide : 0 + 0 ≤ _)⟩)
  dsimp only [Pt.U, Pt.locs, Pt.cells, Pt.slots] at X103 l103 y103 z103 st103 hQ103
  subst l103 y103 z103
  obtain ⟨rfl, N103q, eh103⟩ := hQ103
  have N103 := Fr.app N102 N103q
  refine gs m T103 38 #[vR (a1), vI (kk), sU] [(.ref oe)] (st103) ?_
  refine gs m T103 39 #[vR (a1), vI (kk), vR (oe)] [] (fun _ k => XS.astoreN X103.here hx rfl (hb hby qae) rfl rfl (l' := #[vR (a1), vI (kk), vR (oe)]) rfl k) ?_
  refine gs m T103 40 #[vR (a1), vI (kk), vR (oe)] [(.ref oe)] (fun _ k => XS.aloadN X103.here hx rfl (hb hby qaf) rfl rfl k) ?_
  exact Go.retA X103 hx (t := (.object "java/util/Optional")) hret rfl hlk rfl (hb hby qag) (⟨rfl, N103, eh103⟩) (by decide) (by decide)
theorem own_daf3_0 (l : Launch) (Z : State) (a0 : Array Value) (hw : ∀ d ∈ tables_1, d.before a0 Z = true) (ws : List Jvm.Cond) (a1 : Addr) (lst : Addr) (b2 : Addr) (k2 : ClassId) (x1 : Addr) (x2 : Addr) (x3 : Addr) (h0 : Heap) (n0 : Nat) (Z0 : n0 ≤ h0.size) (f0 : Exa Z h0 a1 "com/example/nuthatch/nuthatch/RetrySchedule") (f1 : Fld Z h0 a1 "com/example/nuthatch/nuthatch/RetrySchedule" "delays" "Ljava/util/List;" (.ref lst)) (f2 : Exa Z h0 lst "java/util/ImmutableCollections$ListN") (f3 : Fld Z h0 lst "java/util/ImmutableCollections$ListN" "elements" "[Ljava/lang/Object;" (.ref b2)) (f4 : Arv Z h0 b2 k2 (.object "java/lang/Object") (3 : Int32) [(.ref x1), (.ref x2), (.ref x3)] .null) (f5 : Exa Z h0 x1 "java/time/Duration")  :
    Con l Z (⟨"com/example/nuthatch/nuthatch/RetrySchedule", "delayAfterFailure", "(I)Ljava/util/Optional;"⟩ : MethodName) prog_7_method_4_code 3 (some (.object "java/util/Optional")) ({ frames := 3, cells := 1, slots := 1, locals := 38 } : Room) ws #[(.ref a1), (.int (1 : Int32))] h0 (fun v h L => ∃ o : Addr, (v = some (.ref o)) ∧ (Fr n0 L) ∧ (Keep h0 h []) ∧ (h0.size ≤ o) ∧ (Exa Z h o "java/util/Optional") ∧ (Fld Z h o "java/util/Optional" "value" "Ljava/lang/Object;" (.ref x1))) 1 1 := by
  refine Con.of (plainFor_of_name own_pn_RetrySchedule) ?_
  intro pgm e s m below meth c s₁ X0 hx hZ hby hml hown hnm hret hlk e0 hs0
  have N0 := Fr.nil n0
  have hown : s.vm.findClass "com/example/nuthatch/nuthatch/RetrySchedule" = some m.cls := hown
  have hnm : meth.name = "delayAfterFailure" := hnm
  refine Go.cast (own_ef_prog_7_method_4_code_RI m a1 (1 : Int32)) ?_
  have K0 := Keep.refl h0 []
  refine gs m s₁ 1 #[vR (a1), vI ((1 : Int32)), sU] [(.int (1 : Int32))] (fun _ k => XS.iloadN X0.here hx rfl (hb hby qa8) rfl  k) ?_
  refine gs m s₁ 2 #[vR (a1), vI ((1 : Int32)), sU] [(.ref a1), (.int (1 : Int32))] (fun _ k => XS.aloadN X0.here hx rfl (hb hby qa9) rfl rfl k) ?_
  obtain ⟨T101, X101, e101, st101⟩ := getF X0 hx hZ hown (host := "") (Or.inl (hwi hw 135 rfl)) Via.refl e0 f1 (g := (mkF m 2 #[vR (a1), vI ((1 : Int32)), sU] [(.ref a1), (.int (1 : Int32))])) rfl rfl (hb hby qaa)
  refine gs m T101 5 #[vR (a1), vI ((1 : Int32)), sU] [(.ref lst), (.int (1 : Int32))] st101 ?_
  obtain ⟨cq102, kq102, q102a, q102b, q102c⟩ := isOf hZ e101 f2
  obtain ⟨_, _, ⟨T102, L102, k102, n102⟩, -, X102, ⟨Lc102, hQ102, l102, y102, z102⟩, st102⟩ := X101.interfaceBack hx (xi := (⟨"java/util/List", "size", "()I"⟩ : MethodName)) (y := (⟨"java/util/ImmutableCollections$ListN", "size", "()I"⟩ : MethodName)) hown (mvT hZ (hwi hw 142 rfl)) (mvT hZ (hwi hw 143 rfl)) (mvT hZ (hwi hw 144 rfl)) (mvT hZ (hwi hw 145 rfl)) (mvT hZ (hwi hw 108 rfl)) (mvT hZ (hwi hw 146 rfl)) (mvT hZ (hwi hw 147 rfl)) (mvT hZ (hwi hw 98 rfl)) (by decide) (backOf (W := 1) (Q := Qret (some (.int (3 : Int32))) h0 n0) (own_siz3 l Z a0 hw [] lst b2 k2 x1 x2 x3 h0 n0 Z0 f2 f3 f4) hZ (hwi hw 110 rfl) (hwi hw 109 rfl) (by decide) (by decide)) q102a q102b q102c (g := (mkF m 5 #[vR (a1), vI ((1 : Int32)), sU] [(.ref lst), (.int (1 : Int32))])) rfl (by rw [hml]; rfl) (Steps.refl _) (argsL := []) (rest := [(.int (1 : Int32))]) (lenOf own_pd14 rfl) rfl (by show 2 * 0 + _ ≤ _; exact Nat.le_of_eq rfl) (hb hby qab) (fun _ _ => ⟨rfl, e101, (by decide : 0 + 0 ≤ _), (by decide : 0 + 0 ≤ _)⟩)
  dsimp only [Pt.U, Pt.locs, Pt.cells, Pt.slots] at X102 l102 y102 z102 st102 hQ102
  subst l102 y102 z102
  obtain ⟨rfl, N102q, eh102⟩ := hQ102
  have N102 := Fr.app N0 N102q
  refine gs m T102 10 #[vR (a1), vI ((1 : Int32)), sU] [(.int (3 : Int32)), (.int (1 : Int32))] (fun _ k => st102.trans k) ?_
  refine gs m T102 13 #[vR (a1), vI ((1 : Int32)), sU] [] (fun _ k => XS.icmpNo X102.here hx rfl (hb hby qac) rfl (flt (by decide : ¬ ((3 : Int32) < (1 : Int32)))).2.2.1 k) ?_
  refine gs m T102 14 #[vR (a1), vI ((1 : Int32)), sU] [(.ref a1)] (fun _ k => XS.aloadN X102.here hx rfl (hb hby qah) rfl rfl k) ?_
  obtain ⟨T103, X103, e103, st103⟩ := getF X102 hx hZ hown (host := "") (Or.inl (hwi hw 135 rfl)) Via.refl eh102 f1 (g := (mkF m 14 #[vR (a1), vI ((1 : Int32)), sU] [(.ref a1)])) rfl rfl (hb hby qai)
  refine gs m T103 17 #[vR (a1), vI ((1 : Int32)), sU] [(.ref lst)] st103 ?_
  refine gs m T103 18 #[vR (a1), vI ((1 : Int32)), sU] [(.int (1 : Int32)), (.ref lst)] (fun _ k => XS.iloadN X103.here hx rfl (hb hby qaj) rfl  k) ?_
  refine gs m T103 19 #[vR (a1), vI ((1 : Int32)), sU] [(.int (1 : Int32)), (.int (1 : Int32)), (.ref lst)] (fun _ k => XS.iconst X103.here hx rfl (hb hby qak) k) ?_
  refine gs m T103 20 #[vR (a1), vI ((1 : Int32)), sU] [(.int (0 : Int32)), (.ref lst)] (fun _ k => XS.isub X103.here hx rfl (hb hby qal) rfl k) ?_
  obtain ⟨cq104, kq104, q104a, q104b, q104c⟩ := isOf hZ e103 f2
  obtain ⟨_, _, ⟨T104, L104, k104, n104⟩, -, X104, ⟨Lc104, hQ104, l104, y104, z104⟩, st104⟩ := X103.interfaceBack hx (xi := (⟨"java/util/List", "get", "(I)Ljava/lang/Object;"⟩ : MethodName)) (y := (⟨"java/util/ImmutableCollections$ListN", "get", "(I)Ljava/lang/Object;"⟩ : MethodName)) hown (mvT hZ (hwi hw 304 rfl)) (mvT hZ (hwi hw 256 rfl)) (mvT hZ (hwi hw 257 rfl)) (mvT hZ (hwi hw 258 rfl)) (mvT hZ (hwi hw 259 rfl)) (mvT hZ (hwi hw 260 rfl)) (mvT hZ (hwi hw 261 rfl)) (mvT hZ (hwi hw 98 rfl)) (by decide) (backOf (W := 0) (Q := Qret (some (.ref x1)) h0 n0) (own_get3_0 l Z a0 hw [] lst b2 k2 x1 x2 x3 h0 n0 Z0 f2 f3 f4) hZ (hwi hw 262 rfl) (hwi hw 109 rfl) (by decide) (by decide)) q104a q104b q104c (g := (mkF m 20 #[vR (a1), vI ((1 : Int32)), sU] [(.int (0 : Int32)), (.ref lst)])) rfl (by rw [hml]; rfl) (Steps.refl _) (argsL := [(.int (0 : Int32))]) (rest := []) (lenOf own_pd16 rfl) rfl (by show 2 * 0 + _ ≤ _; exact Nat.le_of_eq rfl) (hb hby qam) (fun _ _ => ⟨rfl, e103, (by decide : 0 + 0 ≤ _), (by decide : 0 + 0 ≤ _)⟩)
  dsimp only [Pt.U, Pt.locs, Pt.cells, Pt.slots] at X104 l104 y104 z104 st104 hQ104
  subst l104 y104 z104
  obtain ⟨rfl, N104q, eh104⟩ := hQ104
  have N104 := Fr.app N102 N104q
  refine gs m T104 25 #[vR (a1), vI ((1 : Int32)), sU] [(.ref x1)] (fun _ k => st104.trans k) ?_
  obtain ⟨T105, X105, e105, st105⟩ := castY X104 hx hZ hown (hwi hw 263 rfl) eh104 (Ins.self f5) (g := (mkF m 25 #[vR (a1), vI ((1 : Int32)), sU] [(.ref x1)])) rfl rfl (hb hby qan)
  refine gs m T105 28 #[vR (a1), vI ((1 : Int32)), sU] [(.ref x1)] st105 ?_
  obtain ⟨_, _, ⟨T106, L106, k106, n106⟩, -, X106, ⟨Lc106, hQ106, l106, y106, z106⟩, st106⟩ := Jvm.LawKit.callS X105 hx (y := (⟨"java/util/Optional", "of", "(Ljava/lang/Object;)Ljava/util/Optional;"⟩ : MethodName)) hown (mvT hZ (hwi hw 305 rfl)) (mvT hZ (hwi hw 306 rfl)) (mvT hZ (hwi hw 150 rfl)) (mvT hZ (hwi hw 307 rfl)) (by decide) (backOf (W := 0) (Q := fun v h L => ∃ o : Addr, (v = some (.ref o)) ∧ (Fr n0 L) ∧ (Keep h0 h []) ∧ (h0.size ≤ o) ∧ (Exa Z h o "java/util/Optional") ∧ (Fld Z h o "java/util/Optional" "value" "Ljava/lang/Object;" (.ref x1))) (own_opo l Z a0 hw [] x1 h0 n0 Z0 ) hZ (hwi hw 307 rfl) (hwi hw 150 rfl) (by decide) (by decide)) (g := (mkF m 28 #[vR (a1), vI ((1 : Int32)), sU] [(.ref x1)])) rfl (by rw [hml]; rfl) (argsL := [(.ref x1)]) (rest := []) (lenOf own_pd22 rfl) rfl (by show 2 * 0 + _ ≤ _; exact Nat.le_of_eq rfl) (hb hby qao) (fun _ _ => ⟨rfl, e105, (by decide : 0 + 1 ≤ _), (by decide : 0 + 1 ≤ _)⟩)
  dsimp only [Pt.U, Pt.locs, Pt.cells, Pt.slots] at X106 l106 y106 z106 st106 hQ106
  subst l106 y106 z106
  obtain ⟨o_106, rfl, N106q, K106, lt106_0, P106_0, P106_1⟩ := hQ106
  have N106 := Fr.app N104 N106q
  have ne107 : a1 ≠ o_106 := Nat.ne_of_lt (Nat.lt_of_lt_of_le f0.lt lt106_0)
  have ne108 : lst ≠ o_106 := Nat.ne_of_lt (Nat.lt_of_lt_of_le f2.lt lt106_0)
  have ne109 : b2 ≠ o_106 := Nat.ne_of_lt (Nat.lt_of_lt_of_le f4.lt lt106_0)
  have ne110 : x1 ≠ o_106 := Nat.ne_of_lt (Nat.lt_of_lt_of_le f5.lt lt106_0)
  have ge111 : n0 ≤ o_106 := Nat.le_trans Z0 lt106_0
  have sz112 : h0.size ≤ o_106 := Nat.le_trans K0.1 lt106_0
  have KK106 := K0.trans K106 all0
  have Z106 : n0 ≤ T106.heap.size := Nat.le_trans Z0 K106.1
  have F113 := f0.keep K106
  have F114 := f1.keep K106 nin0
  have F115 := f2.keep K106
  have F116 := f3.keep K106 nin0
  have F117 := f4.keep K106 nin0
  have F118 := f5.keep K106
  refine gs m T106 31 #[vR (a1), vI ((1 : Int32)), sU] [(.ref o_106)] (st106) ?_
  refine gs m T106 32 #[vR (a1), vI ((1 : Int32)), vR (o_106)] [] (fun _ k => XS.astoreN X106.here hx rfl (hb hby qap) rfl rfl (l' := #[vR (a1), vI ((1 : Int32)), vR (o_106)]) rfl k) ?_
  refine gs m T106 39 #[vR (a1), vI ((1 : Int32)), vR (o_106)] [] (fun _ k => XS.goto X106.here hx rfl (pc0 := 32) (pc' := 39) rfl (hb hby qaq) (by decide) (by decide) k) ?_
  refine gs m T106 40 #[vR (a1), vI ((1 : Int32)), vR (o_106)] [(.ref o_106)] (fun _ k => XS.aloadN X106.here hx rfl (hb hby qaf) rfl rfl k) ?_
  exact Go.retA X106 hx (t := (.object "java/util/Optional")) hret rfl hlk rfl (hb hby qag) (⟨o_106, rfl, N106, KK106, sz112, P106_0, P106_1⟩) (by decide) (by decide)
theorem own_daf3_1 (l : Launch) (Z : State) (a0 : Array Value) (hw : ∀ d ∈ tables_1, d.before a0 Z = true) (ws : List Jvm.Cond) (a1 : Addr) (lst : Addr) (b2 : Addr) (k2 : ClassId) (x1 : Addr) (x2 : Addr) (x3 : Addr) (h0 : Heap) (n0 : Nat) (Z0 : n0 ≤ h0.size) (f0 : Exa Z h0 a1 "com/example/nuthatch/nuthatch/RetrySchedule") (f1 : Fld Z h0 a1 "com/example/nuthatch/nuthatch/RetrySchedule" "delays" "Ljava/util/List;" (.ref lst)) (f2 : Exa Z h0 lst "java/util/ImmutableCollections$ListN") (f3 : Fld Z h0 lst "java/util/ImmutableCollections$ListN" "elements" "[Ljava/lang/Object;" (.ref b2)) (f4 : Arv Z h0 b2 k2 (.object "java/lang/Object") (3 : Int32) [(.ref x1), (.ref x2), (.ref x3)] .null) (f5 : Exa Z h0 x2 "java/time/Duration")  :
    Con l Z (⟨"com/example/nuthatch/nuthatch/RetrySchedule", "delayAfterFailure", "(I)Ljava/util/Optional;"⟩ : MethodName) prog_7_method_4_code 3 (some (.object "java/util/Optional")) ({ frames := 3, cells := 1, slots := 1, locals := 38 } : Room) ws #[(.ref a1), (.int (2 : Int32))] h0 (fun v h L => ∃ o : Addr, (v = some (.ref o)) ∧ (Fr n0 L) ∧ (Keep h0 h []) ∧ (h0.size ≤ o) ∧ (Exa Z h o "java/util/Optional") ∧ (Fld Z h o "java/util/Optional" "value" "Ljava/lang/Object;" (.ref x2))) 1 1 := by
  refine Con.of (plainFor_of_name own_pn_RetrySchedule) ?_
  intro pgm e s m below meth c s₁ X0 hx hZ hby hml hown hnm hret hlk e0 hs0
  have N0 := Fr.nil n0
  have hown : s.vm.findClass "com/example/nuthatch/nuthatch/RetrySchedule" = some m.cls := hown
  have hnm : meth.name = "delayAfterFailure" := hnm
  refine Go.cast (own_ef_prog_7_method_4_code_RI m a1 (2 : Int32)) ?_
  have K0 := Keep.refl h0 []
  refine gs m s₁ 1 #[vR (a1), vI ((2 : Int32)), sU] [(.int (2 : Int32))] (fun _ k => XS.iloadN X0.here hx rfl (hb hby qa8) rfl  k) ?_
  refine gs m s₁ 2 #[vR (a1), vI ((2 : Int32)), sU] [(.ref a1), (.int (2 : Int32))] (fun _ k => XS.aloadN X0.here hx rfl (hb hby qa9) rfl rfl k) ?_
  obtain ⟨T101, X101, e101, st101⟩ := getF X0 hx hZ hown (host := "") (Or.inl (hwi hw 135 rfl)) Via.refl e0 f1 (g := (mkF m 2 #[vR (a1), vI ((2 : Int32)), sU] [(.ref a1), (.int (2 : Int32))])) rfl rfl (hb hby qaa)
  refine gs m T101 5 #[vR (a1), vI ((2 : Int32)), sU] [(.ref lst), (.int (2 : Int32))] st101 ?_
  obtain ⟨cq102, kq102, q102a, q102b, q102c⟩ := isOf hZ e101 f2
  obtain ⟨_, _, ⟨T102, L102, k102, n102⟩, -, X102, ⟨Lc102, hQ102, l102, y102, z102⟩, st102⟩ := X101.interfaceBack hx (xi := (⟨"java/util/List", "size", "()I"⟩ : MethodName)) (y := (⟨"java/util/ImmutableCollections$ListN", "size", "()I"⟩ : MethodName)) hown (mvT hZ (hwi hw 142 rfl)) (mvT hZ (hwi hw 143 rfl)) (mvT hZ (hwi hw 144 rfl)) (mvT hZ (hwi hw 145 rfl)) (mvT hZ (hwi hw 108 rfl)) (mvT hZ (hwi hw 146 rfl)) (mvT hZ (hwi hw 147 rfl)) (mvT hZ (hwi hw 98 rfl)) (by decide) (backOf (W := 1) (Q := Qret (some (.int (3 : Int32))) h0 n0) (own_siz3 l Z a0 hw [] lst b2 k2 x1 x2 x3 h0 n0 Z0 f2 f3 f4) hZ (hwi hw 110 rfl) (hwi hw 109 rfl) (by decide) (by decide)) q102a q102b q102c (g := (mkF m 5 #[vR (a1), vI ((2 : Int32)), sU] [(.ref lst), (.int (2 : Int32))])) rfl (by rw [hml]; rfl) (Steps.refl _) (argsL := []) (rest := [(.int (2 : Int32))]) (lenOf own_pd14 rfl) rfl (by show 2 * 0 + _ ≤ _; exact Nat.le_of_eq rfl) (hb hby qab) (fun _ _ => ⟨rfl, e101, (by decide : 0 + 0 ≤ _), (by decide : 0 + 0 ≤ _)⟩)
  dsimp only [Pt.U, Pt.locs, Pt.cells, Pt.slots] at X102 l102 y102 z102 st102 hQ102
  subst l102 y102 z102
  obtain ⟨rfl, N102q, eh102⟩ := hQ102
  have N102 := Fr.app N0 N102q
  refine gs m T102 10 #[vR (a1), vI ((2 : Int32)), sU] [(.int (3 : Int32)), (.int (2 : Int32))] (fun _ k => st102.trans k) ?_
  refine gs m T102 13 #[vR (a1), vI ((2 : Int32)), sU] [] (fun _ k => XS.icmpNo X102.here hx rfl (hb hby qac) rfl (flt (by decide : ¬ ((3 : Int32) < (2 : Int32)))).2.2.1 k) ?_
  refine gs m T102 14 #[vR (a1), vI ((2 : Int32)), sU] [(.ref a1)] (fun _ k => XS.aloadN X102.here hx rfl (hb hby qah) rfl rfl k) ?_
  obtain ⟨T103, X103, e103, st103⟩ := getF X102 hx hZ hown (host := "") (Or.inl (hwi hw 135 rfl)) Via.refl eh102 f1 (g := (mkF m 14 #[vR (a1), vI ((2 : Int32)), sU] [(.ref a1)])) rfl rfl (hb hby qai)
  refine gs m T103 17 #[vR (a1), vI ((2 : Int32)), sU] [(.ref lst)] st103 ?_
  refine gs m T103 18 #[vR (a1), vI ((2 : Int32)), sU] [(.int (2 : Int32)), (.ref lst)] (fun _ k => XS.iloadN X103.here hx rfl (hb hby qaj) rfl  k) ?_
  refine gs m T103 19 #[vR (a1), vI ((2 : Int32)), sU] [(.int (1 : Int32)), (.int (2 : Int32)), (.ref lst)] (fun _ k => XS.iconst X103.here hx rfl (hb hby qak) k) ?_
  refine gs m T103 20 #[vR (a1), vI ((2 : Int32)), sU] [(.int (1 : Int32)), (.ref lst)] (fun _ k => XS.isub X103.here hx rfl (hb hby qal) rfl k) ?_
  obtain ⟨cq104, kq104, q104a, q104b, q104c⟩ := isOf hZ e103 f2
  obtain ⟨_, _, ⟨T104, L104, k104, n104⟩, -, X104, ⟨Lc104, hQ104, l104, y104, z104⟩, st104⟩ := X103.interfaceBack hx (xi := (⟨"java/util/List", "get", "(I)Ljava/lang/Object;"⟩ : MethodName)) (y := (⟨"java/util/ImmutableCollections$ListN", "get", "(I)Ljava/lang/Object;"⟩ : MethodName)) hown (mvT hZ (hwi hw 304 rfl)) (mvT hZ (hwi hw 256 rfl)) (mvT hZ (hwi hw 257 rfl)) (mvT hZ (hwi hw 258 rfl)) (mvT hZ (hwi hw 259 rfl)) (mvT hZ (hwi hw 260 rfl)) (mvT hZ (hwi hw 261 rfl)) (mvT hZ (hwi hw 98 rfl)) (by decide) (backOf (W := 0) (Q := Qret (some (.ref x2)) h0 n0) (own_get3_1 l Z a0 hw [] lst b2 k2 x1 x2 x3 h0 n0 Z0 f2 f3 f4) hZ (hwi hw 262 rfl) (hwi hw 109 rfl) (by decide) (by decide)) q104a q104b q104c (g := (mkF m 20 #[vR (a1), vI ((2 : Int32)), sU] [(.int (1 : Int32)), (.ref lst)])) rfl (by rw [hml]; rfl) (Steps.refl _) (argsL := [(.int (1 : Int32))]) (rest := []) (lenOf own_pd16 rfl) rfl (by show 2 * 0 + _ ≤ _; exact Nat.le_of_eq rfl) (hb hby qam) (fun _ _ => ⟨rfl, e103, (by decide : 0 + 0 ≤ _), (by decide : 0 + 0 ≤ _)⟩)
  dsimp only [Pt.U, Pt.locs, Pt.cells, Pt.slots] at X104 l104 y104 z104 st104 hQ104
  subst l104 y104 z104
  obtain ⟨rfl, N104q, eh104⟩ := hQ104
  have N104 := Fr.app N102 N104q
  refine gs m T104 25 #[vR (a1), vI ((2 : Int32)), sU] [(.ref x2)] (fun _ k => st104.trans k) ?_
  obtain ⟨T105, X105, e105, st105⟩ := castY X104 hx hZ hown (hwi hw 263 rfl) eh104 (Ins.self f5) (g := (mkF m 25 #[vR (a1), vI ((2 : Int32)), sU] [(.ref x2)])) rfl rfl (hb hby qan)
  refine gs m T105 28 #[vR (a1), vI ((2 : Int32)), sU] [(.ref x2)] st105 ?_
  obtain ⟨_, _, ⟨T106, L106, k106, n106⟩, -, X106, ⟨Lc106, hQ106, l106, y106, z106⟩, st106⟩ := Jvm.LawKit.callS X105 hx (y := (⟨"java/util/Optional", "of", "(Ljava/lang/Object;)Ljava/util/Optional;"⟩ : MethodName)) hown (mvT hZ (hwi hw 305 rfl)) (mvT hZ (hwi hw 306 rfl)) (mvT hZ (hwi hw 150 rfl)) (mvT hZ (hwi hw 307 rfl)) (by decide) (backOf (W := 0) (Q := fun v h L => ∃ o : Addr, (v = some (.ref o)) ∧ (Fr n0 L) ∧ (Keep h0 h []) ∧ (h0.size ≤ o) ∧ (Exa Z h o "java/util/Optional") ∧ (Fld Z h o "java/util/Optional" "value" "Ljava/lang/Object;" (.ref x2))) (own_opo l Z a0 hw [] x2 h0 n0 Z0 ) hZ (hwi hw 307 rfl) (hwi hw 150 rfl) (by decide) (by decide)) (g := (mkF m 28 #[vR (a1), vI ((2 : Int32)), sU] [(.ref x2)])) rfl (by rw [hml]; rfl) (argsL := [(.ref x2)]) (rest := []) (lenOf own_pd22 rfl) rfl (by show 2 * 0 + _ ≤ _; exact Nat.le_of_eq rfl) (hb hby qao) (fun _ _ => ⟨rfl, e105, (by decide : 0 + 1 ≤ _), (by decide : 0 + 1 ≤ _)⟩)
  dsimp only [Pt.U, Pt.locs, Pt.cells, Pt.slots] at X106 l106 y106 z106 st106 hQ106
  subst l106 y106 z106
  obtain ⟨o_106, rfl, N106q, K106, lt106_0, P106_0, P106_1⟩ := hQ106
  have N106 := Fr.app N104 N106q
  have ne107 : a1 ≠ o_106 := Nat.ne_of_lt (Nat.lt_of_lt_of_le f0.lt lt106_0)
  have ne108 : lst ≠ o_106 := Nat.ne_of_lt (Nat.lt_of_lt_of_le f2.lt lt106_0)
  have ne109 : b2 ≠ o_106 := Nat.ne_of_lt (Nat.lt_of_lt_of_le f4.lt lt106_0)
  have ne110 : x2 ≠ o_106 := Nat.ne_of_lt (Nat.lt_of_lt_of_le f5.lt lt106_0)
  have ge111 : n0 ≤ o_106 := Nat.le_trans Z0 lt106_0
  have sz112 : h0.size ≤ o_106 := Nat.le_trans K0.1 lt106_0
  have KK106 := K0.trans K106 all0
  have Z106 : n0 ≤ T106.heap.size := Nat.le_trans Z0 K106.1
  have F113 := f0.keep K106
  have F114 := f1.keep K106 nin0
  have F115 := f2.keep K106
  have F116 := f3.keep K106 nin0
  have F117 := f4.keep K106 nin0
  have F118 := f5.keep K106
  refine gs m T106 31 #[vR (a1), vI ((2 : Int32)), sU] [(.ref o_106)] (st106) ?_
  refine gs m T106 32 #[vR (a1), vI ((2 : Int32)), vR (o_106)] [] (fun _ k => XS.astoreN X106.here hx rfl (hb hby qap) rfl rfl (l' := #[vR (a1), vI ((2 : Int32)), vR (o_106)]) rfl k) ?_
  refine gs m T106 39 #[vR (a1), vI ((2 : Int32)), vR (o_106)] [] (fun _ k => XS.goto X106.here hx rfl (pc0 := 32) (pc' := 39) rfl (hb hby qaq) (by decide) (by decide) k) ?_
  refine gs m T106 40 #[vR (a1), vI ((2 : Int32)), vR (o_106)] [(.ref o_106)] (fun _ k => XS.aloadN X106.here hx rfl (hb hby qaf) rfl rfl k) ?_
  exact Go.retA X106 hx (t := (.object "java/util/Optional")) hret rfl hlk rfl (hb hby qag) (⟨o_106, rfl, N106, KK106, sz112, P106_0, P106_1⟩) (by decide) (by decide)
theorem own_daf3_2 (l : Launch) (Z : State) (a0 : Array Value) (hw : ∀ d ∈ tables_1, d.before a0 Z = true) (ws : List Jvm.Cond) (a1 : Addr) (lst : Addr) (b2 : Addr) (k2 : ClassId) (x1 : Addr) (x2 : Addr) (x3 : Addr) (h0 : Heap) (n0 : Nat) (Z0 : n0 ≤ h0.size) (f0 : Exa Z h0 a1 "com/example/nuthatch/nuthatch/RetrySchedule") (f1 : Fld Z h0 a1 "com/example/nuthatch/nuthatch/RetrySchedule" "delays" "Ljava/util/List;" (.ref lst)) (f2 : Exa Z h0 lst "java/util/ImmutableCollections$ListN") (f3 : Fld Z h0 lst "java/util/ImmutableCollections$ListN" "elements" "[Ljava/lang/Object;" (.ref b2)) (f4 : Arv Z h0 b2 k2 (.object "java/lang/Object") (3 : Int32) [(.ref x1), (.ref x2), (.ref x3)] .null) (f5 : Exa Z h0 x3 "java/time/Duration")  :
    Con l Z (⟨"com/example/nuthatch/nuthatch/RetrySchedule", "delayAfterFailure", "(I)Ljava/util/Optional;"⟩ : MethodName) prog_7_method_4_code 3 (some (.object "java/util/Optional")) ({ frames := 3, cells := 1, slots := 1, locals := 38 } : Room) ws #[(.ref a1), (.int (3 : Int32))] h0 (fun v h L => ∃ o : Addr, (v = some (.ref o)) ∧ (Fr n0 L) ∧ (Keep h0 h []) ∧ (h0.size ≤ o) ∧ (Exa Z h o "java/util/Optional") ∧ (Fld Z h o "java/util/Optional" "value" "Ljava/lang/Object;" (.ref x3))) 1 1 := by
  refine Con.of (plainFor_of_name own_pn_RetrySchedule) ?_
  intro pgm e s m below meth c s₁ X0 hx hZ hby hml hown hnm hret hlk e0 hs0
  have N0 := Fr.nil n0
  have hown : s.vm.findClass "com/example/nuthatch/nuthatch/RetrySchedule" = some m.cls := hown
  have hnm : meth.name = "delayAfterFailure" := hnm
  refine Go.cast (own_ef_prog_7_method_4_code_RI m a1 (3 : Int32)) ?_
  have K0 := Keep.refl h0 []
  refine gs m s₁ 1 #[vR (a1), vI ((3 : Int32)), sU] [(.int (3 : Int32))] (fun _ k => XS.iloadN X0.here hx rfl (hb hby qa8) rfl  k) ?_
  refine gs m s₁ 2 #[vR (a1), vI ((3 : Int32)), sU] [(.ref a1), (.int (3 : Int32))] (fun _ k => XS.aloadN X0.here hx rfl (hb hby qa9) rfl rfl k) ?_
  obtain ⟨T101, X101, e101, st101⟩ := getF X0 hx hZ hown (host := "") (Or.inl (hwi hw 135 rfl)) Via.refl e0 f1 (g := (mkF m 2 #[vR (a1), vI ((3 : Int32)), sU] [(.ref a1), (.int (3 : Int32))])) rfl rfl (hb hby qaa)
  refine gs m T101 5 #[vR (a1), vI ((3 : Int32)), sU] [(.ref lst), (.int (3 : Int32))] st101 ?_
  obtain ⟨cq102, kq102, q102a, q102b, q102c⟩ := isOf hZ e101 f2
  obtain ⟨_, _, ⟨T102, L102, k102, n102⟩, -, X102, ⟨Lc102, hQ102, l102, y102, z102⟩, st102⟩ := X101.interfaceBack hx (xi := (⟨"java/util/List", "size", "()I"⟩ : MethodName)) (y := (⟨"java/util/ImmutableCollections$ListN", "size", "()I"⟩ : MethodName)) hown (mvT hZ (hwi hw 142 rfl)) (mvT hZ (hwi hw 143 rfl)) (mvT hZ (hwi hw 144 rfl)) (mvT hZ (hwi hw 145 rfl)) (mvT hZ (hwi hw 108 rfl)) (mvT hZ (hwi hw 146 rfl)) (mvT hZ (hwi hw 147 rfl)) (mvT hZ (hwi hw 98 rfl)) (by decide) (backOf (W := 1) (Q := Qret (some (.int (3 : Int32))) h0 n0) (own_siz3 l Z a0 hw [] lst b2 k2 x1 x2 x3 h0 n0 Z0 f2 f3 f4) hZ (hwi hw 110 rfl) (hwi hw 109 rfl) (by decide) (by decide)) q102a q102b q102c (g := (mkF m 5 #[vR (a1), vI ((3 : Int32)), sU] [(.ref lst), (.int (3 : Int32))])) rfl (by rw [hml]; rfl) (Steps.refl _) (argsL := []) (rest := [(.int (3 : Int32))]) (lenOf own_pd14 rfl) rfl (by show 2 * 0 + _ ≤ _; exact Nat.le_of_eq rfl) (hb hby qab) (fun _ _ => ⟨rfl, e101, (by decide : 0 + 0 ≤ _), (by decide : 0 + 0 ≤ _)⟩)
  dsimp only [Pt.U, Pt.locs, Pt.cells, Pt.slots] at X102 l102 y102 z102 st102 hQ102
  subst l102 y102 z102
  obtain ⟨rfl, N102q, eh102⟩ := hQ102
  have N102 := Fr.app N0 N102q
  refine gs m T102 10 #[vR (a1), vI ((3 : Int32)), sU] [(.int (3 : Int32)), (.int (3 : Int32))] (fun _ k => st102.trans k) ?_
  refine gs m T102 13 #[vR (a1), vI ((3 : Int32)), sU] [] (fun _ k => XS.icmpNo X102.here hx rfl (hb hby qac) rfl (flt (by decide : ¬ ((3 : Int32) < (3 : Int32)))).2.2.1 k) ?_
  refine gs m T102 14 #[vR (a1), vI ((3 : Int32)), sU] [(.ref a1)] (fun _ k => XS.aloadN X102.here hx rfl (hb hby qah) rfl rfl k) ?_
  obtain ⟨T103, X103, e103, st103⟩ := getF X102 hx hZ hown (host := "") (Or.inl (hwi hw 135 rfl)) Via.refl eh102 f1 (g := (mkF m 14 #[vR (a1), vI ((3 : Int32)), sU] [(.ref a1)])) rfl rfl (hb hby qai)
  refine gs m T103 17 #[vR (a1), vI ((3 : Int32)), sU] [(.ref lst)] st103 ?_
  refine gs m T103 18 #[vR (a1), vI ((3 : Int32)), sU] [(.int (3 : Int32)), (.ref lst)] (fun _ k => XS.iloadN X103.here hx rfl (hb hby qaj) rfl  k) ?_
  refine gs m T103 19 #[vR (a1), vI ((3 : Int32)), sU] [(.int (1 : Int32)), (.int (3 : Int32)), (.ref lst)] (fun _ k => XS.iconst X103.here hx rfl (hb hby qak) k) ?_
  refine gs m T103 20 #[vR (a1), vI ((3 : Int32)), sU] [(.int (2 : Int32)), (.ref lst)] (fun _ k => XS.isub X103.here hx rfl (hb hby qal) rfl k) ?_
  obtain ⟨cq104, kq104, q104a, q104b, q104c⟩ := isOf hZ e103 f2
  obtain ⟨_, _, ⟨T104, L104, k104, n104⟩, -, X104, ⟨Lc104, hQ104, l104, y104, z104⟩, st104⟩ := X103.interfaceBack hx (xi := (⟨"java/util/List", "get", "(I)Ljava/lang/Object;"⟩ : MethodName)) (y := (⟨"java/util/ImmutableCollections$ListN", "get", "(I)Ljava/lang/Object;"⟩ : MethodName)) hown (mvT hZ (hwi hw 304 rfl)) (mvT hZ (hwi hw 256 rfl)) (mvT hZ (hwi hw 257 rfl)) (mvT hZ (hwi hw 258 rfl)) (mvT hZ (hwi hw 259 rfl)) (mvT hZ (hwi hw 260 rfl)) (mvT hZ (hwi hw 261 rfl)) (mvT hZ (hwi hw 98 rfl)) (by decide) (backOf (W := 0) (Q := Qret (some (.ref x3)) h0 n0) (own_get3_2 l Z a0 hw [] lst b2 k2 x1 x2 x3 h0 n0 Z0 f2 f3 f4) hZ (hwi hw 262 rfl) (hwi hw 109 rfl) (by decide) (by decide)) q104a q104b q104c (g := (mkF m 20 #[vR (a1), vI ((3 : Int32)), sU] [(.int (2 : Int32)), (.ref lst)])) rfl (by rw [hml]; rfl) (Steps.refl _) (argsL := [(.int (2 : Int32))]) (rest := []) (lenOf own_pd16 rfl) rfl (by show 2 * 0 + _ ≤ _; exact Nat.le_of_eq rfl) (hb hby qam) (fun _ _ => ⟨rfl, e103, (by decide : 0 + 0 ≤ _), (by decide : 0 + 0 ≤ _)⟩)
  dsimp only [Pt.U, Pt.locs, Pt.cells, Pt.slots] at X104 l104 y104 z104 st104 hQ104
  subst l104 y104 z104
  obtain ⟨rfl, N104q, eh104⟩ := hQ104
  have N104 := Fr.app N102 N104q
  refine gs m T104 25 #[vR (a1), vI ((3 : Int32)), sU] [(.ref x3)] (fun _ k => st104.trans k) ?_
  obtain ⟨T105, X105, e105, st105⟩ := castY X104 hx hZ hown (hwi hw 263 rfl) eh104 (Ins.self f5) (g := (mkF m 25 #[vR (a1), vI ((3 : Int32)), sU] [(.ref x3)])) rfl rfl (hb hby qan)
  refine gs m T105 28 #[vR (a1), vI ((3 : Int32)), sU] [(.ref x3)] st105 ?_
  obtain ⟨_, _, ⟨T106, L106, k106, n106⟩, -, X106, ⟨Lc106, hQ106, l106, y106, z106⟩, st106⟩ := Jvm.LawKit.callS X105 hx (y := (⟨"java/util/Optional", "of", "(Ljava/lang/Object;)Ljava/util/Optional;"⟩ : MethodName)) hown (mvT hZ (hwi hw 305 rfl)) (mvT hZ (hwi hw 306 rfl)) (mvT hZ (hwi hw 150 rfl)) (mvT hZ (hwi hw 307 rfl)) (by decide) (backOf (W := 0) (Q := fun v h L => ∃ o : Addr, (v = some (.ref o)) ∧ (Fr n0 L) ∧ (Keep h0 h []) ∧ (h0.size ≤ o) ∧ (Exa Z h o "java/util/Optional") ∧ (Fld Z h o "java/util/Optional" "value" "Ljava/lang/Object;" (.ref x3))) (own_opo l Z a0 hw [] x3 h0 n0 Z0 ) hZ (hwi hw 307 rfl) (hwi hw 150 rfl) (by decide) (by decide)) (g := (mkF m 28 #[vR (a1), vI ((3 : Int32)), sU] [(.ref x3)])) rfl (by rw [hml]; rfl) (argsL := [(.ref x3)]) (rest := []) (lenOf own_pd22 rfl) rfl (by show 2 * 0 + _ ≤ _; exact Nat.le_of_eq rfl) (hb hby qao) (fun _ _ => ⟨rfl, e105, (by decide : 0 + 1 ≤ _), (by decide : 0 + 1 ≤ _)⟩)
  dsimp only [Pt.U, Pt.locs, Pt.cells, Pt.slots] at X106 l106 y106 z106 st106 hQ106
  subst l106 y106 z106
  obtain ⟨o_106, rfl, N106q, K106, lt106_0, P106_0, P106_1⟩ := hQ106
  have N106 := Fr.app N104 N106q
  have ne107 : a1 ≠ o_106 := Nat.ne_of_lt (Nat.lt_of_lt_of_le f0.lt lt106_0)
  have ne108 : lst ≠ o_106 := Nat.ne_of_lt (Nat.lt_of_lt_of_le f2.lt lt106_0)
  have ne109 : b2 ≠ o_106 := Nat.ne_of_lt (Nat.lt_of_lt_of_le f4.lt lt106_0)
  have ne110 : x3 ≠ o_106 := Nat.ne_of_lt (Nat.lt_of_lt_of_le f5.lt lt106_0)
  have ge111 : n0 ≤ o_106 := Nat.le_trans Z0 lt106_0
  have sz112 : h0.size ≤ o_106 := Nat.le_trans K0.1 lt106_0
  have KK106 := K0.trans K106 all0
  have Z106 : n0 ≤ T106.heap.size := Nat.le_trans Z0 K106.1
  have F113 := f0.keep K106
  have F114 := f1.keep K106 nin0
  have F115 := f2.keep K106
  have F116 := f3.keep K106 nin0
  have F117 := f4.keep K106 nin0
  have F118 := f5.keep K106
  refine gs m T106 31 #[vR (a1), vI ((3 : Int32)), sU] [(.ref o_106)] (st106) ?_
  refine gs m T106 32 #[vR (a1), vI ((3 : Int32)), vR (o_106)] [] (fun _ k => XS.astoreN X106.here hx rfl (hb hby qap) rfl rfl (l' := #[vR (a1), vI ((3 : Int32)), vR (o_106)]) rfl k) ?_
  refine gs m T106 39 #[vR (a1), vI ((3 : Int32)), vR (o_106)] [] (fun _ k => XS.goto X106.here hx rfl (pc0 := 32) (pc' := 39) rfl (hb hby qaq) (by decide) (by decide) k) ?_
  refine gs m T106 40 #[vR (a1), vI ((3 : Int32)), vR (o_106)] [(.ref o_106)] (fun _ k => XS.aloadN X106.here hx rfl (hb hby qaf) rfl rfl k) ?_
  exact Go.retA X106 hx (t := (.object "java/util/Optional")) hret rfl hlk rfl (hb hby qag) (⟨o_106, rfl, N106, KK106, sz112, P106_0, P106_1⟩) (by decide) (by decide)
theorem own_pd23 : parseMethodDescriptor "(J)Ljava/time/Duration;" = some ⟨[.long], some (.object "java/time/Duration")⟩ := by decide +kernel
theorem own_pd24 : parseMethodDescriptor "(Ljava/util/List;)V" = some ⟨[(.object "java/util/List")], none⟩ := by decide +kernel
theorem own_pd25 : parseMethodDescriptor "(I)Ljava/util/Optional;" = some ⟨[.int], some (.object "java/util/Optional")⟩ := by decide +kernel
theorem own_pd26 : parseMethodDescriptor "(Ljava/lang/Object;)Z" = some ⟨[(.object "java/lang/Object")], some .boolean⟩ := by decide +kernel
theorem own_law {pgm : Program} {l : Launch} {e : Env} {s : State} {m : MethodId} {args : Array Value} {below : List Frame} {meth : Method} {c : Code} {T0 : State} {locs : List Loc} {cells slots : Nat} {Z : State} {a0 : Array Value} {h0 : Heap} {n0 : Nat} (p0 : Int32) (p1 : Int32) (p2 : Int64) (p3 : Int64) (p4 : Int64) (n : Int32) (kq : Int32) (z0 : Addr) (ea : Addr) (ke : ClassId) (el : Addr) (bz : Addr) (kz : ClassId) (em : Addr) (oe : Addr)
    (X0 : Stand pgm l e room_1 s m args below meth c T0 locs cells slots) (hx : pgm.tables.exec = Jvm.exec) (hZ : Z.Warmed39 s.vm) (hw : ∀ d ∈ tables_1, d.before a0 Z = true) (hby : c.code = code) (hml : c.maxLocals = maxLocals) (hown : s.vm.findClass "com/example/nuthatch/nuthatch/RetryScheduleDelayAfterFailurePinLaw" = some m.cls) (hret : meth.sig.returnType = ret) (hlk : meth.locks = false) (e0 : T0.heap = h0) (N0 : Fr n0 locs) (Z0 : n0 ≤ h0.size) (hcells : cells ≤ 0) (hslots : slots ≤ 0) (f0 : Sta Z h0 "java/time/Duration" "ZERO" "Ljava/time/Duration;" (.ref z0)) (f1 : Exa Z h0 z0 "java/time/Duration") (f2 : Fld Z h0 z0 "java/time/Duration" "seconds" "J" (.long (0 : Int64))) (f3 : Sta Z h0 "java/util/ArrayList" "DEFAULTCAPACITY_EMPTY_ELEMENTDATA" "[Ljava/lang/Object;" (.ref ea)) (f4 : Arv Z h0 ea ke (.object "java/lang/Object") (0 : Int32) [] .null) (f5 : Sta Z h0 "java/util/ImmutableCollections" "EMPTY_LIST" "Ljava/util/ImmutableCollections$ListN;" (.ref el)) (f6 : Exa Z h0 el "java/util/ImmutableCollections$ListN") (f7 : Fld Z h0 el "java/util/ImmutableCollections$ListN" "elements" "[Ljava/lang/Object;" (.ref bz)) (f8 : Arv Z h0 bz kz (.object "java/lang/Object") (0 : Int32) [] .null) (f9 : Sta Z h0 "java/util/ImmutableCollections" "EMPTY" "Ljava/lang/Object;" (.ref em)) (f10 : Exa Z h0 em "java/lang/Object") (f11 : Sta Z h0 "java/util/Optional" "EMPTY" "Ljava/util/Optional;" (.ref oe)) (f12 : Exa Z h0 oe "java/util/Optional") (f13 : Fld Z h0 oe "java/util/Optional" "value" "Ljava/lang/Object;" .null) (hk1 : ¬ kq < (1 : Int32)) (hn : n = 0 ∨ n = 1 ∨ n = 2 ∨ n = 3) (MM : MirrorMade Z "[Ljava/lang/Object;") :
    Go pgm e below s (Q0 n0) 32 192 T0 (mkF m 36 #[vI (p0), vI (p1), vJ (p2), sS, vJ (p3), sS, vJ (p4), sS, vI (n), vI (kq), sU, sU, sU, sU, sU, sU, sU, sU] []) := by
  refine gs m T0 37 #[vI (p0), vI (p1), vJ (p2), sS, vJ (p3), sS, vJ (p4), sS, vI (n), vI (kq), sU, sU, sU, sU, sU, sU, sU, sU] [(.long p2)] (fun _ k => XS.lloadN X0.here hx rfl (hb hby at_36) rfl  k) ?_
  refine gs m T0 40 #[vI (p0), vI (p1), vJ (p2), sS, vJ (p3), sS, vJ (p4), sS, vI (n), vI (kq), sU, sU, sU, sU, sU, sU, sU, sU] [(.long (9223372036854775807 : Int64)), (.long p2)] (fun _ k => Jvm.Stand.ldc2J (g := (mkF m 37 #[vI (p0), vI (p1), vJ (p2), sS, vJ (p3), sS, vJ (p4), sS, vI (n), vI (kq), sU, sU, sU, sU, sU, sU, sU, sU] [(.long p2)])) X0 hx hown (mvT hZ (hwi hw 5 rfl)) rfl (hb hby at_37) k) ?_
  refine gs m T0 41 #[vI (p0), vI (p1), vJ (p2), sS, vJ (p3), sS, vJ (p4), sS, vI (n), vI (kq), sU, sU, sU, sU, sU, sU, sU, sU] [(.long (p2 &&& (9223372036854775807 : Int64)))] (fun _ k => XS.land X0.here hx rfl (hb hby at_40) rfl k) ?_
  obtain ⟨_, _, ⟨T101, L101, k101, n101⟩, -, X101, ⟨Lc101, hQ101, l101, y101, z101⟩, st101⟩ := Jvm.LawKit.callS X0 hx (y := (⟨"java/time/Duration", "ofSeconds", "(J)Ljava/time/Duration;"⟩ : MethodName)) hown (mvT hZ (hwi hw 6 rfl)) (mvT hZ (hwi hw 7 rfl)) (mvT hZ (hwi hw 8 rfl)) (mvT hZ (hwi hw 9 rfl)) (by decide) (backOf (W := 0) (Q := fun v h L => ∃ d : Addr, (v = some (.ref d)) ∧ (Fr n0 L) ∧ (Keep h0 h []) ∧ (Exa Z h d "java/time/Duration") ∧ (Fld Z h d "java/time/Duration" "seconds" "J" (.long (p2 &&& (9223372036854775807 : Int64))))) (own_duo l Z a0 hw [] (p2 &&& (9223372036854775807 : Int64)) z0 h0 n0 Z0 f0 f1 f2) hZ (hwi hw 9 rfl) (hwi hw 8 rfl) (by decide) (by decide)) (g := (mkF m 41 #[vI (p0), vI (p1), vJ (p2), sS, vJ (p3), sS, vJ (p4), sS, vI (n), vI (kq), sU, sU, sU, sU, sU, sU, sU, sU] [(.long (p2 &&& (9223372036854775807 : Int64)))])) rfl (by rw [hml]; rfl) (argsL := [(.long (p2 &&& (9223372036854775807 : Int64)))]) (rest := []) (lenOf own_pd23 rfl) rfl (by show 2 * 0 + _ ≤ _; exact Nat.le_of_eq rfl) (hb hby at_41) (fun _ _ => ⟨rfl, e0, (by dsimp only [Pt.cells, Pt.slots, room_1]; omega), (by dsimp only [Pt.cells, Pt.slots, room_1]; omega)⟩)
  dsimp only [Pt.U, Pt.locs, Pt.cells, Pt.slots] at X101 l101 y101 z101 st101 hQ101
  subst l101 y101 z101
  obtain ⟨d_101, rfl, N101q, K101, P101_0, P101_1⟩ := hQ101
  have N101 := Fr.app N0 N101q
  have Z101 : n0 ≤ T101.heap.size := Nat.le_trans Z0 K101.1
  have F102 := own_sta_keep f0 K101 all0
  have F103 := f1.keep K101
  have F104 := f2.keep K101 nin0
  have F105 := own_sta_keep f3 K101 all0
  have F106 := f4.keep K101 nin0
  have F107 := own_sta_keep f5 K101 all0
  have F108 := f6.keep K101
  have F109 := f7.keep K101 nin0
  have F110 := f8.keep K101 nin0
  have F111 := own_sta_keep f9 K101 all0
  have F112 := f10.keep K101
  have F113 := own_sta_keep f11 K101 all0
  have F114 := f12.keep K101
  have F115 := f13.keep K101 nin0
  refine gs m T101 44 #[vI (p0), vI (p1), vJ (p2), sS, vJ (p3), sS, vJ (p4), sS, vI (n), vI (kq), sU, sU, sU, sU, sU, sU, sU, sU] [(.ref d_101)] (st101) ?_
  refine gs m T101 46 #[vI (p0), vI (p1), vJ (p2), sS, vJ (p3), sS, vJ (p4), sS, vI (n), vI (kq), vR (d_101), sU, sU, sU, sU, sU, sU, sU] [] (fun _ k => XS.astore X101.here hx rfl (hb hby at_44) rfl rfl (l' := #[vI (p0), vI (p1), vJ (p2), sS, vJ (p3), sS, vJ (p4), sS, vI (n), vI (kq), vR (d_101), sU, sU, sU, sU, sU, sU, sU]) rfl k) ?_
  refine gs m T101 48 #[vI (p0), vI (p1), vJ (p2), sS, vJ (p3), sS, vJ (p4), sS, vI (n), vI (kq), vR (d_101), sU, sU, sU, sU, sU, sU, sU] [(.long p3)] (fun _ k => XS.lload X101.here hx rfl (hb hby at_46) rfl  k) ?_
  refine gs m T101 51 #[vI (p0), vI (p1), vJ (p2), sS, vJ (p3), sS, vJ (p4), sS, vI (n), vI (kq), vR (d_101), sU, sU, sU, sU, sU, sU, sU] [(.long (9223372036854775807 : Int64)), (.long p3)] (fun _ k => Jvm.Stand.ldc2J (g := (mkF m 48 #[vI (p0), vI (p1), vJ (p2), sS, vJ (p3), sS, vJ (p4), sS, vI (n), vI (kq), vR (d_101), sU, sU, sU, sU, sU, sU, sU] [(.long p3)])) X101 hx hown (mvT hZ (hwi hw 5 rfl)) rfl (hb hby at_48) k) ?_
  refine gs m T101 52 #[vI (p0), vI (p1), vJ (p2), sS, vJ (p3), sS, vJ (p4), sS, vI (n), vI (kq), vR (d_101), sU, sU, sU, sU, sU, sU, sU] [(.long (p3 &&& (9223372036854775807 : Int64)))] (fun _ k => XS.land X101.here hx rfl (hb hby at_51) rfl k) ?_
  obtain ⟨_, _, ⟨T116, L116, k116, n116⟩, -, X116, ⟨Lc116, hQ116, l116, y116, z116⟩, st116⟩ := Jvm.LawKit.callS X101 hx (y := (⟨"java/time/Duration", "ofSeconds", "(J)Ljava/time/Duration;"⟩ : MethodName)) hown (mvT hZ (hwi hw 6 rfl)) (mvT hZ (hwi hw 7 rfl)) (mvT hZ (hwi hw 8 rfl)) (mvT hZ (hwi hw 9 rfl)) (by decide) (backOf (W := 0) (Q := fun v h L => ∃ d : Addr, (v = some (.ref d)) ∧ (Fr n0 L) ∧ (Keep T101.heap h []) ∧ (Exa Z h d "java/time/Duration") ∧ (Fld Z h d "java/time/Duration" "seconds" "J" (.long (p3 &&& (9223372036854775807 : Int64))))) (own_duo l Z a0 hw [] (p3 &&& (9223372036854775807 : Int64)) z0 T101.heap n0 Z101 F102 F103 F104) hZ (hwi hw 9 rfl) (hwi hw 8 rfl) (by decide) (by decide)) (g := (mkF m 52 #[vI (p0), vI (p1), vJ (p2), sS, vJ (p3), sS, vJ (p4), sS, vI (n), vI (kq), vR (d_101), sU, sU, sU, sU, sU, sU, sU] [(.long (p3 &&& (9223372036854775807 : Int64)))])) rfl (by rw [hml]; rfl) (argsL := [(.long (p3 &&& (9223372036854775807 : Int64)))]) (rest := []) (lenOf own_pd23 rfl) rfl (by show 2 * 0 + _ ≤ _; exact Nat.le_of_eq rfl) (hb hby at_52) (fun _ _ => ⟨rfl, rfl, (by dsimp only [Pt.cells, Pt.slots, room_1]; omega), (by dsimp only [Pt.cells, Pt.slots, room_1]; omega)⟩)
  dsimp only [Pt.U, Pt.locs, Pt.cells, Pt.slots] at X116 l116 y116 z116 st116 hQ116
  subst l116 y116 z116
  obtain ⟨d_116, rfl, N116q, K116, P116_0, P116_1⟩ := hQ116
  have N116 := Fr.app N101 N116q
  have Z116 : n0 ≤ T116.heap.size := Nat.le_trans Z101 K116.1
  have F117 := own_sta_keep F102 K116 all0
  have F118 := F103.keep K116
  have F119 := F104.keep K116 nin0
  have F120 := own_sta_keep F105 K116 all0
  have F121 := F106.keep K116 nin0
  have F122 := own_sta_keep F107 K116 all0
  have F123 := F108.keep K116
  have F124 := F109.keep K116 nin0
  have F125 := F110.keep K116 nin0
  have F126 := own_sta_keep F111 K116 all0
  have F127 := F112.keep K116
  have F128 := own_sta_keep F113 K116 all0
  have F129 := F114.keep K116
  have F130 := F115.keep K116 nin0
  have F131 := P101_0.keep K116
  have F132 := P101_1.keep K116 nin0
  refine gs m T116 55 #[vI (p0), vI (p1), vJ (p2), sS, vJ (p3), sS, vJ (p4), sS, vI (n), vI (kq), vR (d_101), sU, sU, sU, sU, sU, sU, sU] [(.ref d_116)] (st116) ?_
  refine gs m T116 57 #[vI (p0), vI (p1), vJ (p2), sS, vJ (p3), sS, vJ (p4), sS, vI (n), vI (kq), vR (d_101), vR (d_116), sU, sU, sU, sU, sU, sU] [] (fun _ k => XS.astore X116.here hx rfl (hb hby at_55) rfl rfl (l' := #[vI (p0), vI (p1), vJ (p2), sS, vJ (p3), sS, vJ (p4), sS, vI (n), vI (kq), vR (d_101), vR (d_116), sU, sU, sU, sU, sU, sU]) rfl k) ?_
  refine gs m T116 59 #[vI (p0), vI (p1), vJ (p2), sS, vJ (p3), sS, vJ (p4), sS, vI (n), vI (kq), vR (d_101), vR (d_116), sU, sU, sU, sU, sU, sU] [(.long p4)] (fun _ k => XS.lload X116.here hx rfl (hb hby at_57) rfl  k) ?_
  refine gs m T116 62 #[vI (p0), vI (p1), vJ (p2), sS, vJ (p3), sS, vJ (p4), sS, vI (n), vI (kq), vR (d_101), vR (d_116), sU, sU, sU, sU, sU, sU] [(.long (9223372036854775807 : Int64)), (.long p4)] (fun _ k => Jvm.Stand.ldc2J (g := (mkF m 59 #[vI (p0), vI (p1), vJ (p2), sS, vJ (p3), sS, vJ (p4), sS, vI (n), vI (kq), vR (d_101), vR (d_116), sU, sU, sU, sU, sU, sU] [(.long p4)])) X116 hx hown (mvT hZ (hwi hw 5 rfl)) rfl (hb hby at_59) k) ?_
  refine gs m T116 63 #[vI (p0), vI (p1), vJ (p2), sS, vJ (p3), sS, vJ (p4), sS, vI (n), vI (kq), vR (d_101), vR (d_116), sU, sU, sU, sU, sU, sU] [(.long (p4 &&& (9223372036854775807 : Int64)))] (fun _ k => XS.land X116.here hx rfl (hb hby at_62) rfl k) ?_
  obtain ⟨_, _, ⟨T133, L133, k133, n133⟩, -, X133, ⟨Lc133, hQ133, l133, y133, z133⟩, st133⟩ := Jvm.LawKit.callS X116 hx (y := (⟨"java/time/Duration", "ofSeconds", "(J)Ljava/time/Duration;"⟩ : MethodName)) hown (mvT hZ (hwi hw 6 rfl)) (mvT hZ (hwi hw 7 rfl)) (mvT hZ (hwi hw 8 rfl)) (mvT hZ (hwi hw 9 rfl)) (by decide) (backOf (W := 0) (Q := fun v h L => ∃ d : Addr, (v = some (.ref d)) ∧ (Fr n0 L) ∧ (Keep T116.heap h []) ∧ (Exa Z h d "java/time/Duration") ∧ (Fld Z h d "java/time/Duration" "seconds" "J" (.long (p4 &&& (9223372036854775807 : Int64))))) (own_duo l Z a0 hw [] (p4 &&& (9223372036854775807 : Int64)) z0 T116.heap n0 Z116 F117 F118 F119) hZ (hwi hw 9 rfl) (hwi hw 8 rfl) (by decide) (by decide)) (g := (mkF m 63 #[vI (p0), vI (p1), vJ (p2), sS, vJ (p3), sS, vJ (p4), sS, vI (n), vI (kq), vR (d_101), vR (d_116), sU, sU, sU, sU, sU, sU] [(.long (p4 &&& (9223372036854775807 : Int64)))])) rfl (by rw [hml]; rfl) (argsL := [(.long (p4 &&& (9223372036854775807 : Int64)))]) (rest := []) (lenOf own_pd23 rfl) rfl (by show 2 * 0 + _ ≤ _; exact Nat.le_of_eq rfl) (hb hby at_63) (fun _ _ => ⟨rfl, rfl, (by dsimp only [Pt.cells, Pt.slots, room_1]; omega), (by dsimp only [Pt.cells, Pt.slots, room_1]; omega)⟩)
  dsimp only [Pt.U, Pt.locs, Pt.cells, Pt.slots] at X133 l133 y133 z133 st133 hQ133
  subst l133 y133 z133
  obtain ⟨d_133, rfl, N133q, K133, P133_0, P133_1⟩ := hQ133
  have N133 := Fr.app N116 N133q
  have Z133 : n0 ≤ T133.heap.size := Nat.le_trans Z116 K133.1
  have F134 := own_sta_keep F117 K133 all0
  have F135 := F118.keep K133
  have F136 := F119.keep K133 nin0
  have F137 := own_sta_keep F120 K133 all0
  have F138 := F121.keep K133 nin0
  have F139 := own_sta_keep F122 K133 all0
  have F140 := F123.keep K133
  have F141 := F124.keep K133 nin0
  have F142 := F125.keep K133 nin0
  have F143 := own_sta_keep F126 K133 all0
  have F144 := F127.keep K133
  have F145 := own_sta_keep F128 K133 all0
  have F146 := F129.keep K133
  have F147 := F130.keep K133 nin0
  have F148 := F131.keep K133
  have F149 := F132.keep K133 nin0
  have F150 := P116_0.keep K133
  have F151 := P116_1.keep K133 nin0
  refine gs m T133 66 #[vI (p0), vI (p1), vJ (p2), sS, vJ (p3), sS, vJ (p4), sS, vI (n), vI (kq), vR (d_101), vR (d_116), sU, sU, sU, sU, sU, sU] [(.ref d_133)] (st133) ?_
  refine gs m T133 68 #[vI (p0), vI (p1), vJ (p2), sS, vJ (p3), sS, vJ (p4), sS, vI (n), vI (kq), vR (d_101), vR (d_116), vR (d_133), sU, sU, sU, sU, sU] [] (fun _ k => XS.astore X133.here hx rfl (hb hby at_66) rfl rfl (l' := #[vI (p0), vI (p1), vJ (p2), sS, vJ (p3), sS, vJ (p4), sS, vI (n), vI (kq), vR (d_101), vR (d_116), vR (d_133), sU, sU, sU, sU, sU]) rfl k) ?_
  obtain ⟨T152, h152, X152, e152, E152, A152, D152, -, st152⟩ := newO X133 hx hZ hown (hwi hw 26 rfl) (hwi hw 27 rfl) (hwi hw 28 rfl) rfl (g := (mkF m 68 #[vI (p0), vI (p1), vJ (p2), sS, vJ (p3), sS, vJ (p4), sS, vI (n), vI (kq), vR (d_101), vR (d_116), vR (d_133), sU, sU, sU, sU, sU] [])) rfl (hb hby at_68) (by dsimp only [Pt.cells, Pt.slots, room_1]; omega) (by dsimp only [Pt.cells, Pt.slots, room_1]; omega)
  obtain ⟨b152, g152⟩ : ∃ z, z = T133.heap.size := ⟨_, rfl⟩
  rw [← g152] at A152 D152 st152
  have ne153 : ea ≠ b152 := by have q := F138.lt; intro r; rw [r, g152] at q; exact Nat.lt_irrefl _ q
  have ne154 : el ≠ b152 := by have q := F140.lt; intro r; rw [r, g152] at q; exact Nat.lt_irrefl _ q
  have ne155 : bz ≠ b152 := by have q := F142.lt; intro r; rw [r, g152] at q; exact Nat.lt_irrefl _ q
  have ne156 : em ≠ b152 := by have q := F144.lt; intro r; rw [r, g152] at q; exact Nat.lt_irrefl _ q
  have ne157 : oe ≠ b152 := by have q := F146.lt; intro r; rw [r, g152] at q; exact Nat.lt_irrefl _ q
  have ne158 : d_101 ≠ b152 := by have q := F148.lt; intro r; rw [r, g152] at q; exact Nat.lt_irrefl _ q
  have ne159 : d_116 ≠ b152 := by have q := F150.lt; intro r; rw [r, g152] at q; exact Nat.lt_irrefl _ q
  have ne160 : d_133 ≠ b152 := by have q := P133_0.lt; intro r; rw [r, g152] at q; exact Nat.lt_irrefl _ q
  have ge152 : n0 ≤ b152 := Nat.le_trans Z133 (Nat.le_of_eq g152.symm)
  have Z152 : n0 ≤ h152.size := Nat.le_trans Z133 E152.1
  have F161 := F137.ext E152
  have F162 := F138.ext E152
  have F163 := F139.ext E152
  have F164 := F140.ext E152
  have F165 := F141.ext E152
  have F166 := F142.ext E152
  have F167 := F143.ext E152
  have F168 := F144.ext E152
  have F169 := F145.ext E152
  have F170 := F146.ext E152
  have F171 := F147.ext E152
  have F172 := F148.ext E152
  have F173 := F149.ext E152
  have F174 := F150.ext E152
  have F175 := F151.ext E152
  have F176 := P133_0.ext E152
  have F177 := P133_1.ext E152
  have F178 : Fld Z h152 b152 "java/util/AbstractList" "modCount" "I" (.int (0 : Int32)) := D152 (Or.inl (hwi hw 46 rfl)) (ty := .int) (by decide)
  have F179 : Fld Z h152 b152 "java/util/ArrayList" "elementData" "[Ljava/lang/Object;" .null := D152 (Or.inl (hwi hw 49 rfl)) (ty := (.array (.object "java/lang/Object"))) (by decide)
  have F180 : Fld Z h152 b152 "java/util/ArrayList" "size" "I" (.int (0 : Int32)) := D152 (Or.inl (hwi hw 86 rfl)) (ty := .int) (by decide)
  refine gs m T152 71 #[vI (p0), vI (p1), vJ (p2), sS, vJ (p3), sS, vJ (p4), sS, vI (n), vI (kq), vR (d_101), vR (d_116), vR (d_133), sU, sU, sU, sU, sU] [(.ref b152)] st152 ?_
  refine gs m T152 72 #[vI (p0), vI (p1), vJ (p2), sS, vJ (p3), sS, vJ (p4), sS, vI (n), vI (kq), vR (d_101), vR (d_116), vR (d_133), sU, sU, sU, sU, sU] [(.ref b152), (.ref b152)] (fun _ k => XS.dup X152.here hx rfl (hb hby at_71) rfl rfl k) ?_
  obtain ⟨_, _, ⟨T181, L181, k181, n181⟩, -, X181, ⟨Lc181, hQ181, l181, y181, z181⟩, st181⟩ := X152.specialBack hx (y := (⟨"java/util/ArrayList", "<init>", "()V"⟩ : MethodName)) rfl hown (mvT hZ (hwi hw 29 rfl)) (mvT hZ (hwi hw 30 rfl)) (mvT hZ (hwi hw 31 rfl)) (by decide) (backOf (W := 1) (Q := fun v h L => (v = none) ∧ (Fr n0 L) ∧ (Keep h152 h [b152]) ∧ (Exa Z h b152 "java/util/ArrayList") ∧ (Fld Z h b152 "java/util/AbstractList" "modCount" "I" (.int (0 : Int32))) ∧ (Fld Z h b152 "java/util/ArrayList" "elementData" "[Ljava/lang/Object;" (.ref ea)) ∧ (Fld Z h b152 "java/util/ArrayList" "size" "I" (.int (0 : Int32)))) (own_al l Z a0 hw [] b152 (.int (0 : Int32)) .null ea h152 n0 Z152 A152 ge152 F178 F179 F180 F161) hZ (hwi hw 31 rfl) (hwi hw 28 rfl) (by decide) (by decide)) (g := (mkF m 72 #[vI (p0), vI (p1), vJ (p2), sS, vJ (p3), sS, vJ (p4), sS, vI (n), vI (kq), vR (d_101), vR (d_116), vR (d_133), sU, sU, sU, sU, sU] [(.ref b152), (.ref b152)])) rfl (by rw [hml]; rfl) (Steps.refl _) (a := b152) (argsL := []) (rest := [(.ref b152)]) (lenOf own_pd0 rfl) rfl (by show 2 * 0 + _ ≤ _; exact Nat.le_of_eq rfl) (hb hby at_72) (fun _ _ => ⟨rfl, e152, (by dsimp only [Pt.cells, Pt.slots, room_1]; omega), (by dsimp only [Pt.cells, Pt.slots, room_1]; omega)⟩)
  dsimp only [Pt.U, Pt.locs, Pt.cells, Pt.slots] at X181 l181 y181 z181 st181 hQ181
  subst l181 y181 z181
  obtain ⟨rfl, N181q, K181, P181_0, P181_1, P181_2, P181_3⟩ := hQ181
  have N181 := Fr.app N133 N181q
  have Z181 : n0 ≤ T181.heap.size := Nat.le_trans Z152 K181.1
  have F182 := own_sta_keep F161 K181 (allS (own_plain A152) all0)
  have F183 := F162.keep K181 (ninS ne153 nin0)
  have F184 := own_sta_keep F163 K181 (allS (own_plain A152) all0)
  have F185 := F164.keep K181
  have F186 := F165.keep K181 (ninS ne154 nin0)
  have F187 := F166.keep K181 (ninS ne155 nin0)
  have F188 := own_sta_keep F167 K181 (allS (own_plain A152) all0)
  have F189 := F168.keep K181
  have F190 := own_sta_keep F169 K181 (allS (own_plain A152) all0)
  have F191 := F170.keep K181
  have F192 := F171.keep K181 (ninS ne157 nin0)
  have F193 := F172.keep K181
  have F194 := F173.keep K181 (ninS ne158 nin0)
  have F195 := F174.keep K181
  have F196 := F175.keep K181 (ninS ne159 nin0)
  have F197 := F176.keep K181
  have F198 := F177.keep K181 (ninS ne160 nin0)
  have F199 := A152.keep K181
  refine gs m T181 75 #[vI (p0), vI (p1), vJ (p2), sS, vJ (p3), sS, vJ (p4), sS, vI (n), vI (kq), vR (d_101), vR (d_116), vR (d_133), sU, sU, sU, sU, sU] [(.ref b152)] (fun _ k => st181.trans k) ?_
  refine gs m T181 77 #[vI (p0), vI (p1), vJ (p2), sS, vJ (p3), sS, vJ (p4), sS, vI (n), vI (kq), vR (d_101), vR (d_116), vR (d_133), vR (b152), sU, sU, sU, sU] [] (fun _ k => XS.astore X181.here hx rfl (hb hby at_75) rfl rfl (l' := #[vI (p0), vI (p1), vJ (p2), sS, vJ (p3), sS, vJ (p4), sS, vI (n), vI (kq), vR (d_101), vR (d_116), vR (d_133), vR (b152), sU, sU, sU, sU]) rfl k) ?_
  rcases hn with hn | hn | hn | hn
  · skip
    subst hn
    refine gs m T181 79 #[vI (p0), vI (p1), vJ (p2), sS, vJ (p3), sS, vJ (p4), sS, vI ((0 : Int32)), vI (kq), vR (d_101), vR (d_116), vR (d_133), vR (b152), sU, sU, sU, sU] [(.int (0 : Int32))] (fun _ k => XS.iload X181.here hx rfl (hb hby at_77) rfl  k) ?_
    refine gs m T181 80 #[vI (p0), vI (p1), vJ (p2), sS, vJ (p3), sS, vJ (p4), sS, vI ((0 : Int32)), vI (kq), vR (d_101), vR (d_116), vR (d_133), vR (b152), sU, sU, sU, sU] [(.int (1 : Int32)), (.int (0 : Int32))] (fun _ k => XS.iconst X181.here hx rfl (hb hby at_79) k) ?_
    refine gs m T181 91 #[vI (p0), vI (p1), vJ (p2), sS, vJ (p3), sS, vJ (p4), sS, vI ((0 : Int32)), vI (kq), vR (d_101), vR (d_116), vR (d_133), vR (b152), sU, sU, sU, sU] [] (fun _ k => XS.icmpYes X181.here hx rfl (pc0 := 80) (pc' := 91) rfl (hb hby at_80) rfl (tlt (by decide : (0 : Int32) < (1 : Int32))).1 (by decide) (by decide) k) ?_
    refine gs m T181 93 #[vI (p0), vI (p1), vJ (p2), sS, vJ (p3), sS, vJ (p4), sS, vI ((0 : Int32)), vI (kq), vR (d_101), vR (d_116), vR (d_133), vR (b152), sU, sU, sU, sU] [(.int (0 : Int32))] (fun _ k => XS.iload X181.here hx rfl (hb hby at_91) rfl  k) ?_
    refine gs m T181 94 #[vI (p0), vI (p1), vJ (p2), sS, vJ (p3), sS, vJ (p4), sS, vI ((0 : Int32)), vI (kq), vR (d_101), vR (d_116), vR (d_133), vR (b152), sU, sU, sU, sU] [(.int (2 : Int32)), (.int (0 : Int32))] (fun _ k => XS.iconst X181.here hx rfl (hb hby at_93) k) ?_
    refine gs m T181 105 #[vI (p0), vI (p1), vJ (p2), sS, vJ (p3), sS, vJ (p4), sS, vI ((0 : Int32)), vI (kq), vR (d_101), vR (d_116), vR (d_133), vR (b152), sU, sU, sU, sU] [] (fun _ k => XS.icmpYes X181.here hx rfl (pc0 := 94) (pc' := 105) rfl (hb hby at_94) rfl (tlt (by decide : (0 : Int32) < (2 : Int32))).1 (by decide) (by decide) k) ?_
    refine gs m T181 107 #[vI (p0), vI (p1), vJ (p2), sS, vJ (p3), sS, vJ (p4), sS, vI ((0 : Int32)), vI (kq), vR (d_101), vR (d_116), vR (d_133), vR (b152), sU, sU, sU, sU] [(.int (0 : Int32))] (fun _ k => XS.iload X181.here hx rfl (hb hby at_105) rfl  k) ?_
    refine gs m T181 108 #[vI (p0), vI (p1), vJ (p2), sS, vJ (p3), sS, vJ (p4), sS, vI ((0 : Int32)), vI (kq), vR (d_101), vR (d_116), vR (d_133), vR (b152), sU, sU, sU, sU] [(.int (3 : Int32)), (.int (0 : Int32))] (fun _ k => XS.iconst X181.here hx rfl (hb hby at_107) k) ?_
    refine gs m T181 119 #[vI (p0), vI (p1), vJ (p2), sS, vJ (p3), sS, vJ (p4), sS, vI ((0 : Int32)), vI (kq), vR (d_101), vR (d_116), vR (d_133), vR (b152), sU, sU, sU, sU] [] (fun _ k => XS.icmpYes X181.here hx rfl (pc0 := 108) (pc' := 119) rfl (hb hby at_108) rfl (tlt (by decide : (0 : Int32) < (3 : Int32))).1 (by decide) (by decide) k) ?_
    obtain ⟨T200, h200, X200, e200, E200, A200, D200, -, st200⟩ := newO X181 hx hZ hown (hwi hw 50 rfl) (hwi hw 51 rfl) (hwi hw 52 rfl) rfl (g := (mkF m 119 #[vI (p0), vI (p1), vJ (p2), sS, vJ (p3), sS, vJ (p4), sS, vI ((0 : Int32)), vI (kq), vR (d_101), vR (d_116), vR (d_133), vR (b152), sU, sU, sU, sU] [])) rfl (hb hby at_119) (by dsimp only [Pt.cells, Pt.slots, room_1]; omega) (by dsimp only [Pt.cells, Pt.slots, room_1]; omega)
    obtain ⟨b200, g200⟩ : ∃ z, z = T181.heap.size := ⟨_, rfl⟩
    rw [← g200] at A200 D200 st200
    have ne201 : el ≠ b200 := by have q := F185.lt; intro r; rw [r, g200] at q; exact Nat.lt_irrefl _ q
    have ne202 : bz ≠ b200 := by have q := F187.lt; intro r; rw [r, g200] at q; exact Nat.lt_irrefl _ q
    have ne203 : em ≠ b200 := by have q := F189.lt; intro r; rw [r, g200] at q; exact Nat.lt_irrefl _ q
    have ne204 : oe ≠ b200 := by have q := F191.lt; intro r; rw [r, g200] at q; exact Nat.lt_irrefl _ q
    have ne205 : d_101 ≠ b200 := by have q := F193.lt; intro r; rw [r, g200] at q; exact Nat.lt_irrefl _ q
    have ne206 : d_116 ≠ b200 := by have q := F195.lt; intro r; rw [r, g200] at q; exact Nat.lt_irrefl _ q
    have ne207 : d_133 ≠ b200 := by have q := F197.lt; intro r; rw [r, g200] at q; exact Nat.lt_irrefl _ q
    have ne208 : b152 ≠ b200 := by have q := P181_0.lt; intro r; rw [r, g200] at q; exact Nat.lt_irrefl _ q
    have ge200 : n0 ≤ b200 := Nat.le_trans Z181 (Nat.le_of_eq g200.symm)
    have Z200 : n0 ≤ h200.size := Nat.le_trans Z181 E200.1
    have F209 := F184.ext E200
    have F210 := F185.ext E200
    have F211 := F186.ext E200
    have F212 := F187.ext E200
    have F213 := F188.ext E200
    have F214 := F189.ext E200
    have F215 := F190.ext E200
    have F216 := F191.ext E200
    have F217 := F192.ext E200
    have F218 := F193.ext E200
    have F219 := F194.ext E200
    have F220 := F195.ext E200
    have F221 := F196.ext E200
    have F222 := F197.ext E200
    have F223 := F198.ext E200
    have F224 := P181_0.ext E200
    have F225 := P181_2.ext E200
    have F226 := P181_3.ext E200
    have F227 : Fld Z h200 b200 "com/example/nuthatch/nuthatch/RetrySchedule" "delays" "Ljava/util/List;" .null := D200 (Or.inr (hwi hw 136 rfl)) (ty := (.object "java/util/List")) (by decide)
    refine gs m T200 122 #[vI (p0), vI (p1), vJ (p2), sS, vJ (p3), sS, vJ (p4), sS, vI ((0 : Int32)), vI (kq), vR (d_101), vR (d_116), vR (d_133), vR (b152), sU, sU, sU, sU] [(.ref b200)] st200 ?_
    refine gs m T200 123 #[vI (p0), vI (p1), vJ (p2), sS, vJ (p3), sS, vJ (p4), sS, vI ((0 : Int32)), vI (kq), vR (d_101), vR (d_116), vR (d_133), vR (b152), sU, sU, sU, sU] [(.ref b200), (.ref b200)] (fun _ k => XS.dup X200.here hx rfl (hb hby at_122) rfl rfl k) ?_
    refine gs m T200 125 #[vI (p0), vI (p1), vJ (p2), sS, vJ (p3), sS, vJ (p4), sS, vI ((0 : Int32)), vI (kq), vR (d_101), vR (d_116), vR (d_133), vR (b152), sU, sU, sU, sU] [(.ref b152), (.ref b200), (.ref b200)] (fun _ k => XS.aload X200.here hx rfl (hb hby at_123) rfl rfl k) ?_
    obtain ⟨_, _, ⟨T228, L228, k228, n228⟩, -, X228, ⟨Lc228, hQ228, l228, y228, z228⟩, st228⟩ := X200.specialBack hx (y := (⟨"com/example/nuthatch/nuthatch/RetrySchedule", "<init>", "(Ljava/util/List;)V"⟩ : MethodName)) rfl hown (mvT hZ (hwi hw 53 rfl)) (mvT hZ (hwi hw 54 rfl)) (mvT hZ (hwi hw 55 rfl)) (by decide) (backOf (W := 1) (Q := fun v h L => (v = none) ∧ (Fr n0 L) ∧ (Keep h200 h [b200]) ∧ (Exa Z h b200 "com/example/nuthatch/nuthatch/RetrySchedule") ∧ (Fld Z h b200 "com/example/nuthatch/nuthatch/RetrySchedule" "delays" "Ljava/util/List;" (.ref el))) (own_rsi0 l Z a0 hw [] b200 b152 .null el bz kz h200 n0 Z200 A200 ge200 F227 F224 F226 F209 F210 F211 F212 ne208 ne201 ne202) hZ (hwi hw 55 rfl) (hwi hw 52 rfl) (by decide) (by decide)) (g := (mkF m 125 #[vI (p0), vI (p1), vJ (p2), sS, vJ (p3), sS, vJ (p4), sS, vI ((0 : Int32)), vI (kq), vR (d_101), vR (d_116), vR (d_133), vR (b152), sU, sU, sU, sU] [(.ref b152), (.ref b200), (.ref b200)])) rfl (by rw [hml]; rfl) (Steps.refl _) (a := b200) (argsL := [(.ref b152)]) (rest := [(.ref b200)]) (lenOf own_pd24 rfl) rfl (by show 2 * 0 + _ ≤ _; exact Nat.le_of_eq rfl) (hb hby at_125) (fun _ _ => ⟨rfl, e200, (by dsimp only [Pt.cells, Pt.slots, room_1]; omega), (by dsimp only [Pt.cells, Pt.slots, room_1]; omega)⟩)
    dsimp only [Pt.U, Pt.locs, Pt.cells, Pt.slots] at X228 l228 y228 z228 st228 hQ228
    subst l228 y228 z228
    obtain ⟨rfl, N228q, K228, P228_0, P228_1⟩ := hQ228
    have N228 := Fr.app N181 N228q
    have Z228 : n0 ≤ T228.heap.size := Nat.le_trans Z200 K228.1
    have F229 := own_sta_keep F209 K228 (allS (own_plain A200) all0)
    have F230 := F210.keep K228
    have F231 := F211.keep K228 (ninS ne201 nin0)
    have F232 := F212.keep K228 (ninS ne202 nin0)
    have F233 := own_sta_keep F213 K228 (allS (own_plain A200) all0)
    have F234 := F214.keep K228
    have F235 := own_sta_keep F215 K228 (allS (own_plain A200) all0)
    have F236 := F216.keep K228
    have F237 := F217.keep K228 (ninS ne204 nin0)
    have F238 := F218.keep K228
    have F239 := F219.keep K228 (ninS ne205 nin0)
    have F240 := F220.keep K228
    have F241 := F221.keep K228 (ninS ne206 nin0)
    have F242 := F222.keep K228
    have F243 := F223.keep K228 (ninS ne207 nin0)
    have F244 := F224.keep K228
    have F245 := F225.keep K228 (ninS ne208 nin0)
    have F246 := F226.keep K228 (ninS ne208 nin0)
    have F247 := A200.keep K228
    refine gs m T228 128 #[vI (p0), vI (p1), vJ (p2), sS, vJ (p3), sS, vJ (p4), sS, vI ((0 : Int32)), vI (kq), vR (d_101), vR (d_116), vR (d_133), vR (b152), sU, sU, sU, sU] [(.ref b200)] (fun _ k => st228.trans k) ?_
    refine gs m T228 130 #[vI (p0), vI (p1), vJ (p2), sS, vJ (p3), sS, vJ (p4), sS, vI ((0 : Int32)), vI (kq), vR (d_101), vR (d_116), vR (d_133), vR (b152), vR (b200), sU, sU, sU] [] (fun _ k => XS.astore X228.here hx rfl (hb hby at_128) rfl rfl (l' := #[vI (p0), vI (p1), vJ (p2), sS, vJ (p3), sS, vJ (p4), sS, vI ((0 : Int32)), vI (kq), vR (d_101), vR (d_116), vR (d_133), vR (b152), vR (b200), sU, sU, sU]) rfl k) ?_
    have hgt := own_kle0 hk1
    refine gs m T228 132 #[vI (p0), vI (p1), vJ (p2), sS, vJ (p3), sS, vJ (p4), sS, vI ((0 : Int32)), vI (kq), vR (d_101), vR (d_116), vR (d_133), vR (b152), vR (b200), sU, sU, sU] [(.ref b200)] (fun _ k => XS.aload X228.here hx rfl (hb hby at_130) rfl rfl k) ?_
    refine gs m T228 134 #[vI (p0), vI (p1), vJ (p2), sS, vJ (p3), sS, vJ (p4), sS, vI ((0 : Int32)), vI (kq), vR (d_101), vR (d_116), vR (d_133), vR (b152), vR (b200), sU, sU, sU] [(.int kq), (.ref b200)] (fun _ k => XS.iload X228.here hx rfl (hb hby at_132) rfl  k) ?_
    obtain ⟨cq248, kq248, q248a, q248b, q248c⟩ := isOf hZ rfl P228_0
    obtain ⟨_, _, ⟨T248, L248, k248, n248⟩, -, X248, ⟨Lc248, hQ248, l248, y248, z248⟩, st248⟩ := X228.virtualBack hx (y := (⟨"com/example/nuthatch/nuthatch/RetrySchedule", "delayAfterFailure", "(I)Ljava/util/Optional;"⟩ : MethodName)) (z := (⟨"com/example/nuthatch/nuthatch/RetrySchedule", "delayAfterFailure", "(I)Ljava/util/Optional;"⟩ : MethodName)) hown (mvT hZ (hwi hw 137 rfl)) (mvT hZ (hwi hw 138 rfl)) (notFace_of_selects (args := #[]) (mvT hZ (hwi hw 140 rfl))) (mvT hZ (hwi hw 140 rfl)) (mvT hZ (hwi hw 139 rfl)) (by decide) (backOf (W := 0) (Q := Qret (some (.ref oe)) T228.heap n0) (own_daf0_gt l Z a0 hw [] b200 kq oe el bz kz T228.heap n0 Z228 P228_0 P228_1 F230 F231 F232 F235 hgt) hZ (hwi hw 141 rfl) (hwi hw 52 rfl) (by decide) (by decide)) q248a q248c (g := (mkF m 134 #[vI (p0), vI (p1), vJ (p2), sS, vJ (p3), sS, vJ (p4), sS, vI ((0 : Int32)), vI (kq), vR (d_101), vR (d_116), vR (d_133), vR (b152), vR (b200), sU, sU, sU] [(.int kq), (.ref b200)])) rfl (by rw [hml]; rfl) (Steps.refl _) (argsL := [(.int kq)]) (rest := []) (lenOf own_pd25 rfl) rfl (by show 2 * 0 + _ ≤ _; exact Nat.le_of_eq rfl) (hb hby at_134) (fun _ _ => ⟨rfl, rfl, (by dsimp only [Pt.cells, Pt.slots, room_1]; omega), (by dsimp only [Pt.cells, Pt.slots, room_1]; omega)⟩)
    dsimp only [Pt.U, Pt.locs, Pt.cells, Pt.slots] at X248 l248 y248 z248 st248 hQ248
    subst l248 y248 z248
    obtain ⟨rfl, N248q, eh248⟩ := hQ248
    have N248 := Fr.app N228 N248q
    refine gs m T248 137 #[vI (p0), vI (p1), vJ (p2), sS, vJ (p3), sS, vJ (p4), sS, vI ((0 : Int32)), vI (kq), vR (d_101), vR (d_116), vR (d_133), vR (b152), vR (b200), sU, sU, sU] [(.ref oe)] (fun _ k => st248.trans k) ?_
    refine gs m T248 139 #[vI (p0), vI (p1), vJ (p2), sS, vJ (p3), sS, vJ (p4), sS, vI ((0 : Int32)), vI (kq), vR (d_101), vR (d_116), vR (d_133), vR (b152), vR (b200), vR (oe), sU, sU] [] (fun _ k => XS.astore X248.here hx rfl (hb hby at_137) rfl rfl (l' := #[vI (p0), vI (p1), vJ (p2), sS, vJ (p3), sS, vJ (p4), sS, vI ((0 : Int32)), vI (kq), vR (d_101), vR (d_116), vR (d_133), vR (b152), vR (b200), vR (oe), sU, sU]) rfl k) ?_
    refine gs m T248 141 #[vI (p0), vI (p1), vJ (p2), sS, vJ (p3), sS, vJ (p4), sS, vI ((0 : Int32)), vI (kq), vR (d_101), vR (d_116), vR (d_133), vR (b152), vR (b200), vR (oe), sU, sU] [(.ref oe)] (fun _ k => XS.aload X248.here hx rfl (hb hby at_139) rfl rfl k) ?_
    refine gs m T248 142 #[vI (p0), vI (p1), vJ (p2), sS, vJ (p3), sS, vJ (p4), sS, vI ((0 : Int32)), vI (kq), vR (d_101), vR (d_116), vR (d_133), vR (b152), vR (b200), vR (oe), sU, sU] [.null, (.ref oe)] (fun _ k => XS.aconstNull X248.here hx rfl (hb hby at_141) k) ?_
    obtain ⟨cq249, kq249, q249a, q249b, q249c⟩ := isOf hZ eh248 F236
    obtain ⟨_, _, ⟨T249, L249, k249, n249⟩, -, X249, ⟨Lc249, hQ249, l249, y249, z249⟩, st249⟩ := X248.virtualBack hx (y := (⟨"java/util/Optional", "orElse", "(Ljava/lang/Object;)Ljava/lang/Object;"⟩ : MethodName)) (z := (⟨"java/util/Optional", "orElse", "(Ljava/lang/Object;)Ljava/lang/Object;"⟩ : MethodName)) hown (mvT hZ (hwi hw 153 rfl)) (mvT hZ (hwi hw 154 rfl)) (notFace_of_selects (args := #[]) (mvT hZ (hwi hw 156 rfl))) (mvT hZ (hwi hw 156 rfl)) (mvT hZ (hwi hw 155 rfl)) (by decide) (backOf (W := 0) (Q := Qret (some .null) T228.heap n0) (own_oen l Z a0 hw [] oe T228.heap n0 Z228 F237) hZ (hwi hw 157 rfl) (hwi hw 150 rfl) (by decide) (by decide)) q249a q249c (g := (mkF m 142 #[vI (p0), vI (p1), vJ (p2), sS, vJ (p3), sS, vJ (p4), sS, vI ((0 : Int32)), vI (kq), vR (d_101), vR (d_116), vR (d_133), vR (b152), vR (b200), vR (oe), sU, sU] [.null, (.ref oe)])) rfl (by rw [hml]; rfl) (Steps.refl _) (argsL := [.null]) (rest := []) (lenOf own_pd6 rfl) rfl (by show 2 * 0 + _ ≤ _; exact Nat.le_of_eq rfl) (hb hby at_142) (fun _ _ => ⟨rfl, eh248, (by dsimp only [Pt.cells, Pt.slots, room_1]; omega), (by dsimp only [Pt.cells, Pt.slots, room_1]; omega)⟩)
    dsimp only [Pt.U, Pt.locs, Pt.cells, Pt.slots] at X249 l249 y249 z249 st249 hQ249
    subst l249 y249 z249
    obtain ⟨rfl, N249q, eh249⟩ := hQ249
    have N249 := Fr.app N248 N249q
    refine gs m T249 145 #[vI (p0), vI (p1), vJ (p2), sS, vJ (p3), sS, vJ (p4), sS, vI ((0 : Int32)), vI (kq), vR (d_101), vR (d_116), vR (d_133), vR (b152), vR (b200), vR (oe), sU, sU] [.null] (fun _ k => st249.trans k) ?_
    refine gs m T249 148 #[vI (p0), vI (p1), vJ (p2), sS, vJ (p3), sS, vJ (p4), sS, vI ((0 : Int32)), vI (kq), vR (d_101), vR (d_116), vR (d_133), vR (b152), vR (b200), vR (oe), sU, sU] [.null] (fun _ k => X249.checkcastNull hx (g := (mkF m 145 #[vI (p0), vI (p1), vJ (p2), sS, vJ (p3), sS, vJ (p4), sS, vI ((0 : Int32)), vI (kq), vR (d_101), vR (d_116), vR (d_133), vR (b152), vR (b200), vR (oe), sU, sU] [.null])) rfl rfl (hb hby at_145) _ k) ?_
    refine gs m T249 150 #[vI (p0), vI (p1), vJ (p2), sS, vJ (p3), sS, vJ (p4), sS, vI ((0 : Int32)), vI (kq), vR (d_101), vR (d_116), vR (d_133), vR (b152), vR (b200), vR (oe), .val .null, sU] [] (fun _ k => XS.astore X249.here hx rfl (hb hby at_148) rfl rfl (l' := #[vI (p0), vI (p1), vJ (p2), sS, vJ (p3), sS, vJ (p4), sS, vI ((0 : Int32)), vI (kq), vR (d_101), vR (d_116), vR (d_133), vR (b152), vR (b200), vR (oe), .val .null, sU]) rfl k) ?_
    refine gs m T249 151 #[vI (p0), vI (p1), vJ (p2), sS, vJ (p3), sS, vJ (p4), sS, vI ((0 : Int32)), vI (kq), vR (d_101), vR (d_116), vR (d_133), vR (b152), vR (b200), vR (oe), .val .null, sU] [.null] (fun _ k => XS.aconstNull X249.here hx rfl (hb hby at_150) k) ?_
    refine gs m T249 153 #[vI (p0), vI (p1), vJ (p2), sS, vJ (p3), sS, vJ (p4), sS, vI ((0 : Int32)), vI (kq), vR (d_101), vR (d_116), vR (d_133), vR (b152), vR (b200), vR (oe), .val .null, .val .null] [] (fun _ k => XS.astore X249.here hx rfl (hb hby at_151) rfl rfl (l' := #[vI (p0), vI (p1), vJ (p2), sS, vJ (p3), sS, vJ (p4), sS, vI ((0 : Int32)), vI (kq), vR (d_101), vR (d_116), vR (d_133), vR (b152), vR (b200), vR (oe), .val .null, .val .null]) rfl k) ?_
    refine gs m T249 155 #[vI (p0), vI (p1), vJ (p2), sS, vJ (p3), sS, vJ (p4), sS, vI ((0 : Int32)), vI (kq), vR (d_101), vR (d_116), vR (d_133), vR (b152), vR (b200), vR (oe), .val .null, .val .null] [(.int kq)] (fun _ k => XS.iload X249.here hx rfl (hb hby at_153) rfl  k) ?_
    refine gs m T249 157 #[vI (p0), vI (p1), vJ (p2), sS, vJ (p3), sS, vJ (p4), sS, vI ((0 : Int32)), vI (kq), vR (d_101), vR (d_116), vR (d_133), vR (b152), vR (b200), vR (oe), .val .null, .val .null] [(.int (0 : Int32)), (.int kq)] (fun _ k => XS.iload X249.here hx rfl (hb hby at_155) rfl  k) ?_
    refine gs m T249 190 #[vI (p0), vI (p1), vJ (p2), sS, vJ (p3), sS, vJ (p4), sS, vI ((0 : Int32)), vI (kq), vR (d_101), vR (d_116), vR (d_133), vR (b152), vR (b200), vR (oe), .val .null, .val .null] [] (fun _ k => XS.icmpYes X249.here hx rfl (pc0 := 157) (pc' := 190) rfl (hb hby at_157) rfl (tlt hgt).2.2.1 (by decide) (by decide) k) ?_
    refine gs m T249 192 #[vI (p0), vI (p1), vJ (p2), sS, vJ (p3), sS, vJ (p4), sS, vI ((0 : Int32)), vI (kq), vR (d_101), vR (d_116), vR (d_133), vR (b152), vR (b200), vR (oe), .val .null, .val .null] [.null] (fun _ k => XS.aload X249.here hx rfl (hb hby at_190) rfl rfl k) ?_
    refine gs m T249 195 #[vI (p0), vI (p1), vJ (p2), sS, vJ (p3), sS, vJ (p4), sS, vI ((0 : Int32)), vI (kq), vR (d_101), vR (d_116), vR (d_133), vR (b152), vR (b200), vR (oe), .val .null, .val .null] [] (fun _ k => XS.ifnonnullNo X249.here hx rfl (hb hby at_192) rfl k) ?_
    refine gs m T249 197 #[vI (p0), vI (p1), vJ (p2), sS, vJ (p3), sS, vJ (p4), sS, vI ((0 : Int32)), vI (kq), vR (d_101), vR (d_116), vR (d_133), vR (b152), vR (b200), vR (oe), .val .null, .val .null] [.null] (fun _ k => XS.aload X249.here hx rfl (hb hby at_195) rfl rfl k) ?_
    refine gs m T249 200 #[vI (p0), vI (p1), vJ (p2), sS, vJ (p3), sS, vJ (p4), sS, vI ((0 : Int32)), vI (kq), vR (d_101), vR (d_116), vR (d_133), vR (b152), vR (b200), vR (oe), .val .null, .val .null] [] (fun _ k => XS.ifnonnullNo X249.here hx rfl (hb hby at_197) rfl k) ?_
    refine gs m T249 201 #[vI (p0), vI (p1), vJ (p2), sS, vJ (p3), sS, vJ (p4), sS, vI ((0 : Int32)), vI (kq), vR (d_101), vR (d_116), vR (d_133), vR (b152), vR (b200), vR (oe), .val .null, .val .null] [(.int (1 : Int32))] (fun _ k => XS.iconst X249.here hx rfl (hb hby at_200) k) ?_
    refine gs m T249 205 #[vI (p0), vI (p1), vJ (p2), sS, vJ (p3), sS, vJ (p4), sS, vI ((0 : Int32)), vI (kq), vR (d_101), vR (d_116), vR (d_133), vR (b152), vR (b200), vR (oe), .val .null, .val .null] [(.int (1 : Int32))] (fun _ k => XS.goto X249.here hx rfl (pc0 := 201) (pc' := 205) rfl (hb hby at_201) (by decide) (by decide) k) ?_
    exact Go.retN X249 hx (t := .boolean) hret hlk (by simp) (hb hby at_205) (⟨rfl, N249⟩) (by omega) (by omega)
  · skip
    subst hn
    refine gs m T181 79 #[vI (p0), vI (p1), vJ (p2), sS, vJ (p3), sS, vJ (p4), sS, vI ((1 : Int32)), vI (kq), vR (d_101), vR (d_116), vR (d_133), vR (b152), sU, sU, sU, sU] [(.int (1 : Int32))] (fun _ k => XS.iload X181.here hx rfl (hb hby at_77) rfl  k) ?_
    refine gs m T181 80 #[vI (p0), vI (p1), vJ (p2), sS, vJ (p3), sS, vJ (p4), sS, vI ((1 : Int32)), vI (kq), vR (d_101), vR (d_116), vR (d_133), vR (b152), sU, sU, sU, sU] [(.int (1 : Int32)), (.int (1 : Int32))] (fun _ k => XS.iconst X181.here hx rfl (hb hby at_79) k) ?_
    refine gs m T181 83 #[vI (p0), vI (p1), vJ (p2), sS, vJ (p3), sS, vJ (p4), sS, vI ((1 : Int32)), vI (kq), vR (d_101), vR (d_116), vR (d_133), vR (b152), sU, sU, sU, sU] [] (fun _ k => XS.icmpNo X181.here hx rfl (hb hby at_80) rfl (flt (by decide : ¬ ((1 : Int32) < (1 : Int32)))).1 k) ?_
    refine gs m T181 85 #[vI (p0), vI (p1), vJ (p2), sS, vJ (p3), sS, vJ (p4), sS, vI ((1 : Int32)), vI (kq), vR (d_101), vR (d_116), vR (d_133), vR (b152), sU, sU, sU, sU] [(.ref b152)] (fun _ k => XS.aload X181.here hx rfl (hb hby at_83) rfl rfl k) ?_
    refine gs m T181 87 #[vI (p0), vI (p1), vJ (p2), sS, vJ (p3), sS, vJ (p4), sS, vI ((1 : Int32)), vI (kq), vR (d_101), vR (d_116), vR (d_133), vR (b152), sU, sU, sU, sU] [(.ref d_101), (.ref b152)] (fun _ k => XS.aload X181.here hx rfl (hb hby at_85) rfl rfl k) ?_
    obtain ⟨cq250, kq250, q250a, q250b, q250c⟩ := isOf hZ rfl P181_0
    obtain ⟨_, _, ⟨T250, L250, k250, n250⟩, -, X250, ⟨Lc250, hQ250, l250, y250, z250⟩, st250⟩ := X181.virtualBack hx (y := (⟨"java/util/ArrayList", "add", "(Ljava/lang/Object;)Z"⟩ : MethodName)) (z := (⟨"java/util/ArrayList", "add", "(Ljava/lang/Object;)Z"⟩ : MethodName)) hown (mvT hZ (hwi hw 160 rfl)) (mvT hZ (hwi hw 161 rfl)) (notFace_of_selects (args := #[]) (mvT hZ (hwi hw 163 rfl))) (mvT hZ (hwi hw 163 rfl)) (mvT hZ (hwi hw 162 rfl)) (by decide) (backOf (W := 0) (Q := fun v h L => ∃ b : Addr, ∃ kb : ClassId, (v = some (.int (1 : Int32))) ∧ (Fr n0 L) ∧ (Keep T181.heap h [b152]) ∧ (T181.heap.size ≤ b) ∧ (Exa Z h b152 "java/util/ArrayList") ∧ (Fld Z h b152 "java/util/AbstractList" "modCount" "I" (.int ((0 : Int32) + (1 : Int32)))) ∧ (Fld Z h b152 "java/util/ArrayList" "elementData" "[Ljava/lang/Object;" (.ref b)) ∧ (Fld Z h b152 "java/util/ArrayList" "size" "I" (.int (1 : Int32))) ∧ (Exa Z h b "[Ljava/lang/Object;") ∧ (Arv Z h b kb (.object "java/lang/Object") (10 : Int32) [(.ref d_101), .null, .null, .null, .null, .null, .null, .null, .null, .null] .null) ∧ (Ovr Z kb "java/lang/Object")) (own_add0 l Z a0 hw [] b152 d_101 ea ke (0 : Int32) T181.heap n0 Z181 P181_0 ge152 P181_1 P181_2 P181_3 F182 F183 ne153 F193) hZ (hwi hw 164 rfl) (hwi hw 28 rfl) (by decide) (by decide)) q250a q250c (g := (mkF m 87 #[vI (p0), vI (p1), vJ (p2), sS, vJ (p3), sS, vJ (p4), sS, vI ((1 : Int32)), vI (kq), vR (d_101), vR (d_116), vR (d_133), vR (b152), sU, sU, sU, sU] [(.ref d_101), (.ref b152)])) rfl (by rw [hml]; rfl) (Steps.refl _) (argsL := [(.ref d_101)]) (rest := []) (lenOf own_pd26 rfl) rfl (by show 2 * 0 + _ ≤ _; exact Nat.le_of_eq rfl) (hb hby at_87) (fun _ _ => ⟨rfl, rfl, (by dsimp only [Pt.cells, Pt.slots, room_1]; omega), (by dsimp only [Pt.cells, Pt.slots, room_1]; omega)⟩)
    dsimp only [Pt.U, Pt.locs, Pt.cells, Pt.slots] at X250 l250 y250 z250 st250 hQ250
    subst l250 y250 z250
    obtain ⟨b_250, kb_250, rfl, N250q, K250, lt250_0, P250_0, P250_1, P250_2, P250_3, P250_4, P250_5, R250_0⟩ := hQ250
    have N250 := Fr.app N181 N250q
    have ne251 : ea ≠ b_250 := Nat.ne_of_lt (Nat.lt_of_lt_of_le F183.lt lt250_0)
    have ne252 : el ≠ b_250 := Nat.ne_of_lt (Nat.lt_of_lt_of_le F185.lt lt250_0)
    have ne253 : bz ≠ b_250 := Nat.ne_of_lt (Nat.lt_of_lt_of_le F187.lt lt250_0)
    have ne254 : em ≠ b_250 := Nat.ne_of_lt (Nat.lt_of_lt_of_le F189.lt lt250_0)
    have ne255 : oe ≠ b_250 := Nat.ne_of_lt (Nat.lt_of_lt_of_le F191.lt lt250_0)
    have ne256 : d_101 ≠ b_250 := Nat.ne_of_lt (Nat.lt_of_lt_of_le F193.lt lt250_0)
    have ne257 : d_116 ≠ b_250 := Nat.ne_of_lt (Nat.lt_of_lt_of_le F195.lt lt250_0)
    have ne258 : d_133 ≠ b_250 := Nat.ne_of_lt (Nat.lt_of_lt_of_le F197.lt lt250_0)
    have ne259 : b152 ≠ b_250 := Nat.ne_of_lt (Nat.lt_of_lt_of_le P181_0.lt lt250_0)
    have ge260 : n0 ≤ b_250 := Nat.le_trans Z181 lt250_0
    have Z250 : n0 ≤ T250.heap.size := Nat.le_trans Z181 K250.1
    have F261 := own_sta_keep F182 K250 (allS (own_plain P181_0) all0)
    have F262 := F183.keep K250 (ninS ne153 nin0)
    have F263 := own_sta_keep F184 K250 (allS (own_plain P181_0) all0)
    have F264 := F185.keep K250
    have F265 := F186.keep K250 (ninS ne154 nin0)
    have F266 := F187.keep K250 (ninS ne155 nin0)
    have F267 := own_sta_keep F188 K250 (allS (own_plain P181_0) all0)
    have F268 := F189.keep K250
    have F269 := own_sta_keep F190 K250 (allS (own_plain P181_0) all0)
    have F270 := F191.keep K250
    have F271 := F192.keep K250 (ninS ne157 nin0)
    have F272 := F193.keep K250
    have F273 := F194.keep K250 (ninS ne158 nin0)
    have F274 := F195.keep K250
    have F275 := F196.keep K250 (ninS ne159 nin0)
    have F276 := F197.keep K250
    have F277 := F198.keep K250 (ninS ne160 nin0)
    have F278 := P181_0.keep K250
    refine gs m T250 90 #[vI (p0), vI (p1), vJ (p2), sS, vJ (p3), sS, vJ (p4), sS, vI ((1 : Int32)), vI (kq), vR (d_101), vR (d_116), vR (d_133), vR (b152), sU, sU, sU, sU] [(.int (1 : Int32))] (fun _ k => st250.trans k) ?_
    refine gs m T250 91 #[vI (p0), vI (p1), vJ (p2), sS, vJ (p3), sS, vJ (p4), sS, vI ((1 : Int32)), vI (kq), vR (d_101), vR (d_116), vR (d_133), vR (b152), sU, sU, sU, sU] [] (fun _ k => XS.pop X250.here hx rfl (hb hby at_90) rfl rfl k) ?_
    refine gs m T250 93 #[vI (p0), vI (p1), vJ (p2), sS, vJ (p3), sS, vJ (p4), sS, vI ((1 : Int32)), vI (kq), vR (d_101), vR (d_116), vR (d_133), vR (b152), sU, sU, sU, sU] [(.int (1 : Int32))] (fun _ k => XS.iload X250.here hx rfl (hb hby at_91) rfl  k) ?_
    refine gs m T250 94 #[vI (p0), vI (p1), vJ (p2), sS, vJ (p3), sS, vJ (p4), sS, vI ((1 : Int32)), vI (kq), vR (d_101), vR (d_116), vR (d_133), vR (b152), sU, sU, sU, sU] [(.int (2 : Int32)), (.int (1 : Int32))] (fun _ k => XS.iconst X250.here hx rfl (hb hby at_93) k) ?_
    refine gs m T250 105 #[vI (p0), vI (p1), vJ (p2), sS, vJ (p3), sS, vJ (p4), sS, vI ((1 : Int32)), vI (kq), vR (d_101), vR (d_116), vR (d_133), vR (b152), sU, sU, sU, sU] [] (fun _ k => XS.icmpYes X250.here hx rfl (pc0 := 94) (pc' := 105) rfl (hb hby at_94) rfl (tlt (by decide : (1 : Int32) < (2 : Int32))).1 (by decide) (by decide) k) ?_
    refine gs m T250 107 #[vI (p0), vI (p1), vJ (p2), sS, vJ (p3), sS, vJ (p4), sS, vI ((1 : Int32)), vI (kq), vR (d_101), vR (d_116), vR (d_133), vR (b152), sU, sU, sU, sU] [(.int (1 : Int32))] (fun _ k => XS.iload X250.here hx rfl (hb hby at_105) rfl  k) ?_
    refine gs m T250 108 #[vI (p0), vI (p1), vJ (p2), sS, vJ (p3), sS, vJ (p4), sS, vI ((1 : Int32)), vI (kq), vR (d_101), vR (d_116), vR (d_133), vR (b152), sU, sU, sU, sU] [(.int (3 : Int32)), (.int (1 : Int32))] (fun _ k => XS.iconst X250.here hx rfl (hb hby at_107) k) ?_
    refine gs m T250 119 #[vI (p0), vI (p1), vJ (p2), sS, vJ (p3), sS, vJ (p4), sS, vI ((1 : Int32)), vI (kq), vR (d_101), vR (d_116), vR (d_133), vR (b152), sU, sU, sU, sU] [] (fun _ k => XS.icmpYes X250.here hx rfl (pc0 := 108) (pc' := 119) rfl (hb hby at_108) rfl (tlt (by decide : (1 : Int32) < (3 : Int32))).1 (by decide) (by decide) k) ?_
    obtain ⟨T279, h279, X279, e279, E279, A279, D279, -, st279⟩ := newO X250 hx hZ hown (hwi hw 50 rfl) (hwi hw 51 rfl) (hwi hw 52 rfl) rfl (g := (mkF m 119 #[vI (p0), vI (p1), vJ (p2), sS, vJ (p3), sS, vJ (p4), sS, vI ((1 : Int32)), vI (kq), vR (d_101), vR (d_116), vR (d_133), vR (b152), sU, sU, sU, sU] [])) rfl (hb hby at_119) (by dsimp only [Pt.cells, Pt.slots, room_1]; omega) (by dsimp only [Pt.cells, Pt.slots, room_1]; omega)
    obtain ⟨b279, g279⟩ : ∃ z, z = T250.heap.size := ⟨_, rfl⟩
    rw [← g279] at A279 D279 st279
    have ne280 : el ≠ b279 := by have q := F264.lt; intro r; rw [r, g279] at q; exact Nat.lt_irrefl _ q
    have ne281 : bz ≠ b279 := by have q := F266.lt; intro r; rw [r, g279] at q; exact Nat.lt_irrefl _ q
    have ne282 : em ≠ b279 := by have q := F268.lt; intro r; rw [r, g279] at q; exact Nat.lt_irrefl _ q
    have ne283 : oe ≠ b279 := by have q := F270.lt; intro r; rw [r, g279] at q; exact Nat.lt_irrefl _ q
    have ne284 : d_101 ≠ b279 := by have q := F272.lt; intro r; rw [r, g279] at q; exact Nat.lt_irrefl _ q
    have ne285 : d_116 ≠ b279 := by have q := F274.lt; intro r; rw [r, g279] at q; exact Nat.lt_irrefl _ q
    have ne286 : d_133 ≠ b279 := by have q := F276.lt; intro r; rw [r, g279] at q; exact Nat.lt_irrefl _ q
    have ne287 : b152 ≠ b279 := by have q := P250_0.lt; intro r; rw [r, g279] at q; exact Nat.lt_irrefl _ q
    have ne288 : b_250 ≠ b279 := by have q := P250_4.lt; intro r; rw [r, g279] at q; exact Nat.lt_irrefl _ q
    have ge279 : n0 ≤ b279 := Nat.le_trans Z250 (Nat.le_of_eq g279.symm)
    have Z279 : n0 ≤ h279.size := Nat.le_trans Z250 E279.1
    have F289 := F263.ext E279
    have F290 := F264.ext E279
    have F291 := F265.ext E279
    have F292 := F266.ext E279
    have F293 := F267.ext E279
    have F294 := F268.ext E279
    have F295 := F269.ext E279
    have F296 := F270.ext E279
    have F297 := F271.ext E279
    have F298 := F272.ext E279
    have F299 := F273.ext E279
    have F300 := F274.ext E279
    have F301 := F275.ext E279
    have F302 := F276.ext E279
    have F303 := F277.ext E279
    have F304 := P250_0.ext E279
    have F305 := P250_2.ext E279
    have F306 := P250_3.ext E279
    have F307 := P250_4.ext E279
    have F308 := P250_5.ext E279
    have F309 : Fld Z h279 b279 "com/example/nuthatch/nuthatch/RetrySchedule" "delays" "Ljava/util/List;" .null := D279 (Or.inr (hwi hw 136 rfl)) (ty := (.object "java/util/List")) (by decide)
    refine gs m T279 122 #[vI (p0), vI (p1), vJ (p2), sS, vJ (p3), sS, vJ (p4), sS, vI ((1 : Int32)), vI (kq), vR (d_101), vR (d_116), vR (d_133), vR (b152), sU, sU, sU, sU] [(.ref b279)] st279 ?_
    refine gs m T279 123 #[vI (p0), vI (p1), vJ (p2), sS, vJ (p3), sS, vJ (p4), sS, vI ((1 : Int32)), vI (kq), vR (d_101), vR (d_116), vR (d_133), vR (b152), sU, sU, sU, sU] [(.ref b279), (.ref b279)] (fun _ k => XS.dup X279.here hx rfl (hb hby at_122) rfl rfl k) ?_
    refine gs m T279 125 #[vI (p0), vI (p1), vJ (p2), sS, vJ (p3), sS, vJ (p4), sS, vI ((1 : Int32)), vI (kq), vR (d_101), vR (d_116), vR (d_133), vR (b152), sU, sU, sU, sU] [(.ref b152), (.ref b279), (.ref b279)] (fun _ k => XS.aload X279.here hx rfl (hb hby at_123) rfl rfl k) ?_
    obtain ⟨_, _, ⟨T310, L310, k310, n310⟩, -, X310, ⟨Lc310, hQ310, l310, y310, z310⟩, st310⟩ := X279.specialBack hx (y := (⟨"com/example/nuthatch/nuthatch/RetrySchedule", "<init>", "(Ljava/util/List;)V"⟩ : MethodName)) rfl hown (mvT hZ (hwi hw 53 rfl)) (mvT hZ (hwi hw 54 rfl)) (mvT hZ (hwi hw 55 rfl)) (by decide) (backOf (W := 1) (Q := fun v h L => ∃ lst : Addr, (v = none) ∧ (Fr n0 L) ∧ (Keep h279 h [b279]) ∧ (h279.size ≤ lst) ∧ (Exa Z h b279 "com/example/nuthatch/nuthatch/RetrySchedule") ∧ (Fld Z h b279 "com/example/nuthatch/nuthatch/RetrySchedule" "delays" "Ljava/util/List;" (.ref lst)) ∧ (Exa Z h lst "java/util/ImmutableCollections$List12") ∧ (Fld Z h lst "java/util/ImmutableCollections$List12" "e0" "Ljava/lang/Object;" (.ref d_101)) ∧ (Fld Z h lst "java/util/ImmutableCollections$List12" "e1" "Ljava/lang/Object;" (.ref em))) (own_rsi1 l Z a0 hw [] b279 b152 .null b_250 kb_250 d_101 (p2 &&& (9223372036854775807 : Int64)) em h279 n0 Z279 A279 ge279 F309 F304 F305 F306 F307 F308 F298 F299 F293 ne287 ne288 ne284 R250_0 MM (own_nn p2)) hZ (hwi hw 55 rfl) (hwi hw 52 rfl) (by decide) (by decide)) (g := (mkF m 125 #[vI (p0), vI (p1), vJ (p2), sS, vJ (p3), sS, vJ (p4), sS, vI ((1 : Int32)), vI (kq), vR (d_101), vR (d_116), vR (d_133), vR (b152), sU, sU, sU, sU] [(.ref b152), (.ref b279), (.ref b279)])) rfl (by rw [hml]; rfl) (Steps.refl _) (a := b279) (argsL := [(.ref b152)]) (rest := [(.ref b279)]) (lenOf own_pd24 rfl) rfl (by show 2 * 0 + _ ≤ _; exact Nat.le_of_eq rfl) (hb hby at_125) (fun _ _ => ⟨rfl, e279, (by dsimp only [Pt.cells, Pt.slots, room_1]; omega), (by dsimp only [Pt.cells, Pt.slots, room_1]; omega)⟩)
    dsimp only [Pt.U, Pt.locs, Pt.cells, Pt.slots] at X310 l310 y310 z310 st310 hQ310
    subst l310 y310 z310
    obtain ⟨lst_310, rfl, N310q, K310, lt310_0, P310_0, P310_1, P310_2, P310_3, P310_4⟩ := hQ310
    have N310 := Fr.app N250 N310q
    have ne311 : el ≠ lst_310 := Nat.ne_of_lt (Nat.lt_of_lt_of_le F290.lt lt310_0)
    have ne312 : bz ≠ lst_310 := Nat.ne_of_lt (Nat.lt_of_lt_of_le F292.lt lt310_0)
    have ne313 : em ≠ lst_310 := Nat.ne_of_lt (Nat.lt_of_lt_of_le F294.lt lt310_0)
    have ne314 : oe ≠ lst_310 := Nat.ne_of_lt (Nat.lt_of_lt_of_le F296.lt lt310_0)
    have ne315 : d_101 ≠ lst_310 := Nat.ne_of_lt (Nat.lt_of_lt_of_le F298.lt lt310_0)
    have ne316 : d_116 ≠ lst_310 := Nat.ne_of_lt (Nat.lt_of_lt_of_le F300.lt lt310_0)
    have ne317 : d_133 ≠ lst_310 := Nat.ne_of_lt (Nat.lt_of_lt_of_le F302.lt lt310_0)
    have ne318 : b152 ≠ lst_310 := Nat.ne_of_lt (Nat.lt_of_lt_of_le F304.lt lt310_0)
    have ne319 : b_250 ≠ lst_310 := Nat.ne_of_lt (Nat.lt_of_lt_of_le F307.lt lt310_0)
    have ne320 : b279 ≠ lst_310 := Nat.ne_of_lt (Nat.lt_of_lt_of_le A279.lt lt310_0)
    have ge321 : n0 ≤ lst_310 := Nat.le_trans Z279 lt310_0
    have Z310 : n0 ≤ T310.heap.size := Nat.le_trans Z279 K310.1
    have F322 := own_sta_keep F289 K310 (allS (own_plain A279) all0)
    have F323 := F290.keep K310
    have F324 := F291.keep K310 (ninS ne280 nin0)
    have F325 := F292.keep K310 (ninS ne281 nin0)
    have F326 := own_sta_keep F293 K310 (allS (own_plain A279) all0)
    have F327 := F294.keep K310
    have F328 := own_sta_keep F295 K310 (allS (own_plain A279) all0)
    have F329 := F296.keep K310
    have F330 := F297.keep K310 (ninS ne283 nin0)
    have F331 := F298.keep K310
    have F332 := F299.keep K310 (ninS ne284 nin0)
    have F333 := F300.keep K310
    have F334 := F301.keep K310 (ninS ne285 nin0)
    have F335 := F302.keep K310
    have F336 := F303.keep K310 (ninS ne286 nin0)
    have F337 := F304.keep K310
    have F338 := F305.keep K310 (ninS ne287 nin0)
    have F339 := F306.keep K310 (ninS ne287 nin0)
    have F340 := F307.keep K310
    have F341 := F308.keep K310 (ninS ne288 nin0)
    have F342 := A279.keep K310
    refine gs m T310 128 #[vI (p0), vI (p1), vJ (p2), sS, vJ (p3), sS, vJ (p4), sS, vI ((1 : Int32)), vI (kq), vR (d_101), vR (d_116), vR (d_133), vR (b152), sU, sU, sU, sU] [(.ref b279)] (fun _ k => st310.trans k) ?_
    refine gs m T310 130 #[vI (p0), vI (p1), vJ (p2), sS, vJ (p3), sS, vJ (p4), sS, vI ((1 : Int32)), vI (kq), vR (d_101), vR (d_116), vR (d_133), vR (b152), vR (b279), sU, sU, sU] [] (fun _ k => XS.astore X310.here hx rfl (hb hby at_128) rfl rfl (l' := #[vI (p0), vI (p1), vJ (p2), sS, vJ (p3), sS, vJ (p4), sS, vI ((1 : Int32)), vI (kq), vR (d_101), vR (d_116), vR (d_133), vR (b152), vR (b279), sU, sU, sU]) rfl k) ?_
    rcases own_kle (n := (1 : Int32)) (m := 1) hk1 rfl (by decide) with hgt | ⟨j, hj, hkj⟩
    · skip
      refine gs m T310 132 #[vI (p0), vI (p1), vJ (p2), sS, vJ (p3), sS, vJ (p4), sS, vI ((1 : Int32)), vI (kq), vR (d_101), vR (d_116), vR (d_133), vR (b152), vR (b279), sU, sU, sU] [(.ref b279)] (fun _ k => XS.aload X310.here hx rfl (hb hby at_130) rfl rfl k) ?_
      refine gs m T310 134 #[vI (p0), vI (p1), vJ (p2), sS, vJ (p3), sS, vJ (p4), sS, vI ((1 : Int32)), vI (kq), vR (d_101), vR (d_116), vR (d_133), vR (b152), vR (b279), sU, sU, sU] [(.int kq), (.ref b279)] (fun _ k => XS.iload X310.here hx rfl (hb hby at_132) rfl  k) ?_
      obtain ⟨cq343, kq343, q343a, q343b, q343c⟩ := isOf hZ rfl P310_0
      obtain ⟨_, _, ⟨T343, L343, k343, n343⟩, -, X343, ⟨Lc343, hQ343, l343, y343, z343⟩, st343⟩ := X310.virtualBack hx (y := (⟨"com/example/nuthatch/nuthatch/RetrySchedule", "delayAfterFailure", "(I)Ljava/util/Optional;"⟩ : MethodName)) (z := (⟨"com/example/nuthatch/nuthatch/RetrySchedule", "delayAfterFailure", "(I)Ljava/util/Optional;"⟩ : MethodName)) hown (mvT hZ (hwi hw 137 rfl)) (mvT hZ (hwi hw 138 rfl)) (notFace_of_selects (args := #[]) (mvT hZ (hwi hw 140 rfl))) (mvT hZ (hwi hw 140 rfl)) (mvT hZ (hwi hw 139 rfl)) (by decide) (backOf (W := 0) (Q := Qret (some (.ref oe)) T310.heap n0) (own_daf1_gt l Z a0 hw [] b279 kq oe lst_310 d_101 em T310.heap n0 Z310 P310_0 P310_1 P310_2 P310_3 P310_4 F326 F328 hgt) hZ (hwi hw 141 rfl) (hwi hw 52 rfl) (by decide) (by decide)) q343a q343c (g := (mkF m 134 #[vI (p0), vI (p1), vJ (p2), sS, vJ (p3), sS, vJ (p4), sS, vI ((1 : Int32)), vI (kq), vR (d_101), vR (d_116), vR (d_133), vR (b152), vR (b279), sU, sU, sU] [(.int kq), (.ref b279)])) rfl (by rw [hml]; rfl) (Steps.refl _) (argsL := [(.int kq)]) (rest := []) (lenOf own_pd25 rfl) rfl (by show 2 * 0 + _ ≤ _; exact Nat.le_of_eq rfl) (hb hby at_134) (fun _ _ => ⟨rfl, rfl, (by dsimp only [Pt.cells, Pt.slots, room_1]; omega), (by dsimp only [Pt.cells, Pt.slots, room_1]; omega)⟩)
      dsimp only [Pt.U, Pt.locs, Pt.cells, Pt.slots] at X343 l343 y343 z343 st343 hQ343
      subst l343 y343 z343
      obtain ⟨rfl, N343q, eh343⟩ := hQ343
      have N343 := Fr.app N310 N343q
      refine gs m T343 137 #[vI (p0), vI (p1), vJ (p2), sS, vJ (p3), sS, vJ (p4), sS, vI ((1 : Int32)), vI (kq), vR (d_101), vR (d_116), vR (d_133), vR (b152), vR (b279), sU, sU, sU] [(.ref oe)] (fun _ k => st343.trans k) ?_
      refine gs m T343 139 #[vI (p0), vI (p1), vJ (p2), sS, vJ (p3), sS, vJ (p4), sS, vI ((1 : Int32)), vI (kq), vR (d_101), vR (d_116), vR (d_133), vR (b152), vR (b279), vR (oe), sU, sU] [] (fun _ k => XS.astore X343.here hx rfl (hb hby at_137) rfl rfl (l' := #[vI (p0), vI (p1), vJ (p2), sS, vJ (p3), sS, vJ (p4), sS, vI ((1 : Int32)), vI (kq), vR (d_101), vR (d_116), vR (d_133), vR (b152), vR (b279), vR (oe), sU, sU]) rfl k) ?_
      refine gs m T343 141 #[vI (p0), vI (p1), vJ (p2), sS, vJ (p3), sS, vJ (p4), sS, vI ((1 : Int32)), vI (kq), vR (d_101), vR (d_116), vR (d_133), vR (b152), vR (b279), vR (oe), sU, sU] [(.ref oe)] (fun _ k => XS.aload X343.here hx rfl (hb hby at_139) rfl rfl k) ?_
      refine gs m T343 142 #[vI (p0), vI (p1), vJ (p2), sS, vJ (p3), sS, vJ (p4), sS, vI ((1 : Int32)), vI (kq), vR (d_101), vR (d_116), vR (d_133), vR (b152), vR (b279), vR (oe), sU, sU] [.null, (.ref oe)] (fun _ k => XS.aconstNull X343.here hx rfl (hb hby at_141) k) ?_
      obtain ⟨cq344, kq344, q344a, q344b, q344c⟩ := isOf hZ eh343 F329
      obtain ⟨_, _, ⟨T344, L344, k344, n344⟩, -, X344, ⟨Lc344, hQ344, l344, y344, z344⟩, st344⟩ := X343.virtualBack hx (y := (⟨"java/util/Optional", "orElse", "(Ljava/lang/Object;)Ljava/lang/Object;"⟩ : MethodName)) (z := (⟨"java/util/Optional", "orElse", "(Ljava/lang/Object;)Ljava/lang/Object;"⟩ : MethodName)) hown (mvT hZ (hwi hw 153 rfl)) (mvT hZ (hwi hw 154 rfl)) (notFace_of_selects (args := #[]) (mvT hZ (hwi hw 156 rfl))) (mvT hZ (hwi hw 156 rfl)) (mvT hZ (hwi hw 155 rfl)) (by decide) (backOf (W := 0) (Q := Qret (some .null) T310.heap n0) (own_oen l Z a0 hw [] oe T310.heap n0 Z310 F330) hZ (hwi hw 157 rfl) (hwi hw 150 rfl) (by decide) (by decide)) q344a q344c (g := (mkF m 142 #[vI (p0), vI (p1), vJ (p2), sS, vJ (p3), sS, vJ (p4), sS, vI ((1 : Int32)), vI (kq), vR (d_101), vR (d_116), vR (d_133), vR (b152), vR (b279), vR (oe), sU, sU] [.null, (.ref oe)])) rfl (by rw [hml]; rfl) (Steps.refl _) (argsL := [.null]) (rest := []) (lenOf own_pd6 rfl) rfl (by show 2 * 0 + _ ≤ _; exact Nat.le_of_eq rfl) (hb hby at_142) (fun _ _ => ⟨rfl, eh343, (by dsimp only [Pt.cells, Pt.slots, room_1]; omega), (by dsimp only [Pt.cells, Pt.slots, room_1]; omega)⟩)
      dsimp only [Pt.U, Pt.locs, Pt.cells, Pt.slots] at X344 l344 y344 z344 st344 hQ344
      subst l344 y344 z344
      obtain ⟨rfl, N344q, eh344⟩ := hQ344
      have N344 := Fr.app N343 N344q
      refine gs m T344 145 #[vI (p0), vI (p1), vJ (p2), sS, vJ (p3), sS, vJ (p4), sS, vI ((1 : Int32)), vI (kq), vR (d_101), vR (d_116), vR (d_133), vR (b152), vR (b279), vR (oe), sU, sU] [.null] (fun _ k => st344.trans k) ?_
      refine gs m T344 148 #[vI (p0), vI (p1), vJ (p2), sS, vJ (p3), sS, vJ (p4), sS, vI ((1 : Int32)), vI (kq), vR (d_101), vR (d_116), vR (d_133), vR (b152), vR (b279), vR (oe), sU, sU] [.null] (fun _ k => X344.checkcastNull hx (g := (mkF m 145 #[vI (p0), vI (p1), vJ (p2), sS, vJ (p3), sS, vJ (p4), sS, vI ((1 : Int32)), vI (kq), vR (d_101), vR (d_116), vR (d_133), vR (b152), vR (b279), vR (oe), sU, sU] [.null])) rfl rfl (hb hby at_145) _ k) ?_
      refine gs m T344 150 #[vI (p0), vI (p1), vJ (p2), sS, vJ (p3), sS, vJ (p4), sS, vI ((1 : Int32)), vI (kq), vR (d_101), vR (d_116), vR (d_133), vR (b152), vR (b279), vR (oe), .val .null, sU] [] (fun _ k => XS.astore X344.here hx rfl (hb hby at_148) rfl rfl (l' := #[vI (p0), vI (p1), vJ (p2), sS, vJ (p3), sS, vJ (p4), sS, vI ((1 : Int32)), vI (kq), vR (d_101), vR (d_116), vR (d_133), vR (b152), vR (b279), vR (oe), .val .null, sU]) rfl k) ?_
      refine gs m T344 151 #[vI (p0), vI (p1), vJ (p2), sS, vJ (p3), sS, vJ (p4), sS, vI ((1 : Int32)), vI (kq), vR (d_101), vR (d_116), vR (d_133), vR (b152), vR (b279), vR (oe), .val .null, sU] [.null] (fun _ k => XS.aconstNull X344.here hx rfl (hb hby at_150) k) ?_
      refine gs m T344 153 #[vI (p0), vI (p1), vJ (p2), sS, vJ (p3), sS, vJ (p4), sS, vI ((1 : Int32)), vI (kq), vR (d_101), vR (d_116), vR (d_133), vR (b152), vR (b279), vR (oe), .val .null, .val .null] [] (fun _ k => XS.astore X344.here hx rfl (hb hby at_151) rfl rfl (l' := #[vI (p0), vI (p1), vJ (p2), sS, vJ (p3), sS, vJ (p4), sS, vI ((1 : Int32)), vI (kq), vR (d_101), vR (d_116), vR (d_133), vR (b152), vR (b279), vR (oe), .val .null, .val .null]) rfl k) ?_
      refine gs m T344 155 #[vI (p0), vI (p1), vJ (p2), sS, vJ (p3), sS, vJ (p4), sS, vI ((1 : Int32)), vI (kq), vR (d_101), vR (d_116), vR (d_133), vR (b152), vR (b279), vR (oe), .val .null, .val .null] [(.int kq)] (fun _ k => XS.iload X344.here hx rfl (hb hby at_153) rfl  k) ?_
      refine gs m T344 157 #[vI (p0), vI (p1), vJ (p2), sS, vJ (p3), sS, vJ (p4), sS, vI ((1 : Int32)), vI (kq), vR (d_101), vR (d_116), vR (d_133), vR (b152), vR (b279), vR (oe), .val .null, .val .null] [(.int (1 : Int32)), (.int kq)] (fun _ k => XS.iload X344.here hx rfl (hb hby at_155) rfl  k) ?_
      refine gs m T344 190 #[vI (p0), vI (p1), vJ (p2), sS, vJ (p3), sS, vJ (p4), sS, vI ((1 : Int32)), vI (kq), vR (d_101), vR (d_116), vR (d_133), vR (b152), vR (b279), vR (oe), .val .null, .val .null] [] (fun _ k => XS.icmpYes X344.here hx rfl (pc0 := 157) (pc' := 190) rfl (hb hby at_157) rfl (tlt hgt).2.2.1 (by decide) (by decide) k) ?_
      refine gs m T344 192 #[vI (p0), vI (p1), vJ (p2), sS, vJ (p3), sS, vJ (p4), sS, vI ((1 : Int32)), vI (kq), vR (d_101), vR (d_116), vR (d_133), vR (b152), vR (b279), vR (oe), .val .null, .val .null] [.null] (fun _ k => XS.aload X344.here hx rfl (hb hby at_190) rfl rfl k) ?_
      refine gs m T344 195 #[vI (p0), vI (p1), vJ (p2), sS, vJ (p3), sS, vJ (p4), sS, vI ((1 : Int32)), vI (kq), vR (d_101), vR (d_116), vR (d_133), vR (b152), vR (b279), vR (oe), .val .null, .val .null] [] (fun _ k => XS.ifnonnullNo X344.here hx rfl (hb hby at_192) rfl k) ?_
      refine gs m T344 197 #[vI (p0), vI (p1), vJ (p2), sS, vJ (p3), sS, vJ (p4), sS, vI ((1 : Int32)), vI (kq), vR (d_101), vR (d_116), vR (d_133), vR (b152), vR (b279), vR (oe), .val .null, .val .null] [.null] (fun _ k => XS.aload X344.here hx rfl (hb hby at_195) rfl rfl k) ?_
      refine gs m T344 200 #[vI (p0), vI (p1), vJ (p2), sS, vJ (p3), sS, vJ (p4), sS, vI ((1 : Int32)), vI (kq), vR (d_101), vR (d_116), vR (d_133), vR (b152), vR (b279), vR (oe), .val .null, .val .null] [] (fun _ k => XS.ifnonnullNo X344.here hx rfl (hb hby at_197) rfl k) ?_
      refine gs m T344 201 #[vI (p0), vI (p1), vJ (p2), sS, vJ (p3), sS, vJ (p4), sS, vI ((1 : Int32)), vI (kq), vR (d_101), vR (d_116), vR (d_133), vR (b152), vR (b279), vR (oe), .val .null, .val .null] [(.int (1 : Int32))] (fun _ k => XS.iconst X344.here hx rfl (hb hby at_200) k) ?_
      refine gs m T344 205 #[vI (p0), vI (p1), vJ (p2), sS, vJ (p3), sS, vJ (p4), sS, vI ((1 : Int32)), vI (kq), vR (d_101), vR (d_116), vR (d_133), vR (b152), vR (b279), vR (oe), .val .null, .val .null] [(.int (1 : Int32))] (fun _ k => XS.goto X344.here hx rfl (pc0 := 201) (pc' := 205) rfl (hb hby at_201) (by decide) (by decide) k) ?_
      exact Go.retN X344 hx (t := .boolean) hret hlk (by simp) (hb hby at_205) (⟨rfl, N344⟩) (by omega) (by omega)
    · skip
      have hjc : j = 0 := by omega
      rcases hjc with rfl
      · skip
        have hkl : kq = (1 : Int32) := Int32.toInt_inj.mp hkj
        subst hkl
        refine gs m T310 132 #[vI (p0), vI (p1), vJ (p2), sS, vJ (p3), sS, vJ (p4), sS, vI ((1 : Int32)), vI ((1 : Int32)), vR (d_101), vR (d_116), vR (d_133), vR (b152), vR (b279), sU, sU, sU] [(.ref b279)] (fun _ k => XS.aload X310.here hx rfl (hb hby at_130) rfl rfl k) ?_
        refine gs m T310 134 #[vI (p0), vI (p1), vJ (p2), sS, vJ (p3), sS, vJ (p4), sS, vI ((1 : Int32)), vI ((1 : Int32)), vR (d_101), vR (d_116), vR (d_133), vR (b152), vR (b279), sU, sU, sU] [(.int (1 : Int32)), (.ref b279)] (fun _ k => XS.iload X310.here hx rfl (hb hby at_132) rfl  k) ?_
        obtain ⟨cq345, kq345, q345a, q345b, q345c⟩ := isOf hZ rfl P310_0
        obtain ⟨_, _, ⟨T345, L345, k345, n345⟩, -, X345, ⟨Lc345, hQ345, l345, y345, z345⟩, st345⟩ := X310.virtualBack hx (y := (⟨"com/example/nuthatch/nuthatch/RetrySchedule", "delayAfterFailure", "(I)Ljava/util/Optional;"⟩ : MethodName)) (z := (⟨"com/example/nuthatch/nuthatch/RetrySchedule", "delayAfterFailure", "(I)Ljava/util/Optional;"⟩ : MethodName)) hown (mvT hZ (hwi hw 137 rfl)) (mvT hZ (hwi hw 138 rfl)) (notFace_of_selects (args := #[]) (mvT hZ (hwi hw 140 rfl))) (mvT hZ (hwi hw 140 rfl)) (mvT hZ (hwi hw 139 rfl)) (by decide) (backOf (W := 0) (Q := fun v h L => ∃ o : Addr, (v = some (.ref o)) ∧ (Fr n0 L) ∧ (Keep T310.heap h []) ∧ (T310.heap.size ≤ o) ∧ (Exa Z h o "java/util/Optional") ∧ (Fld Z h o "java/util/Optional" "value" "Ljava/lang/Object;" (.ref d_101))) (own_daf1_0 l Z a0 hw [] b279 lst_310 d_101 em T310.heap n0 Z310 P310_0 P310_1 P310_2 P310_3 P310_4 F326 F331) hZ (hwi hw 141 rfl) (hwi hw 52 rfl) (by decide) (by decide)) q345a q345c (g := (mkF m 134 #[vI (p0), vI (p1), vJ (p2), sS, vJ (p3), sS, vJ (p4), sS, vI ((1 : Int32)), vI ((1 : Int32)), vR (d_101), vR (d_116), vR (d_133), vR (b152), vR (b279), sU, sU, sU] [(.int (1 : Int32)), (.ref b279)])) rfl (by rw [hml]; rfl) (Steps.refl _) (argsL := [(.int (1 : Int32))]) (rest := []) (lenOf own_pd25 rfl) rfl (by show 2 * 0 + _ ≤ _; exact Nat.le_of_eq rfl) (hb hby at_134) (fun _ _ => ⟨rfl, rfl, (by dsimp only [Pt.cells, Pt.slots, room_1]; omega), (by dsimp only [Pt.cells, Pt.slots, room_1]; omega)⟩)
        dsimp only [Pt.U, Pt.locs, Pt.cells, Pt.slots] at X345 l345 y345 z345 st345 hQ345
        subst l345 y345 z345
        obtain ⟨o_345, rfl, N345q, K345, lt345_0, P345_0, P345_1⟩ := hQ345
        have N345 := Fr.app N310 N345q
        have ne346 : el ≠ o_345 := Nat.ne_of_lt (Nat.lt_of_lt_of_le F323.lt lt345_0)
        have ne347 : bz ≠ o_345 := Nat.ne_of_lt (Nat.lt_of_lt_of_le F325.lt lt345_0)
        have ne348 : oe ≠ o_345 := Nat.ne_of_lt (Nat.lt_of_lt_of_le F329.lt lt345_0)
        have ne349 : d_101 ≠ o_345 := Nat.ne_of_lt (Nat.lt_of_lt_of_le F331.lt lt345_0)
        have ne350 : d_116 ≠ o_345 := Nat.ne_of_lt (Nat.lt_of_lt_of_le F333.lt lt345_0)
        have ne351 : d_133 ≠ o_345 := Nat.ne_of_lt (Nat.lt_of_lt_of_le F335.lt lt345_0)
        have ne352 : b279 ≠ o_345 := Nat.ne_of_lt (Nat.lt_of_lt_of_le P310_0.lt lt345_0)
        have ne353 : lst_310 ≠ o_345 := Nat.ne_of_lt (Nat.lt_of_lt_of_le P310_2.lt lt345_0)
        have ge354 : n0 ≤ o_345 := Nat.le_trans Z310 lt345_0
        have Z345 : n0 ≤ T345.heap.size := Nat.le_trans Z310 K345.1
        have F355 := F323.keep K345
        have F356 := F324.keep K345 nin0
        have F357 := F325.keep K345 nin0
        have F358 := own_sta_keep F326 K345 all0
        have F359 := own_sta_keep F328 K345 all0
        have F360 := F329.keep K345
        have F361 := F330.keep K345 nin0
        have F362 := F331.keep K345
        have F363 := F333.keep K345
        have F364 := F335.keep K345
        have F365 := P310_0.keep K345
        have F366 := P310_1.keep K345 nin0
        have F367 := P310_2.keep K345
        have F368 := P310_3.keep K345 nin0
        have F369 := P310_4.keep K345 nin0
        refine gs m T345 137 #[vI (p0), vI (p1), vJ (p2), sS, vJ (p3), sS, vJ (p4), sS, vI ((1 : Int32)), vI ((1 : Int32)), vR (d_101), vR (d_116), vR (d_133), vR (b152), vR (b279), sU, sU, sU] [(.ref o_345)] (fun _ k => st345.trans k) ?_
        refine gs m T345 139 #[vI (p0), vI (p1), vJ (p2), sS, vJ (p3), sS, vJ (p4), sS, vI ((1 : Int32)), vI ((1 : Int32)), vR (d_101), vR (d_116), vR (d_133), vR (b152), vR (b279), vR (o_345), sU, sU] [] (fun _ k => XS.astore X345.here hx rfl (hb hby at_137) rfl rfl (l' := #[vI (p0), vI (p1), vJ (p2), sS, vJ (p3), sS, vJ (p4), sS, vI ((1 : Int32)), vI ((1 : Int32)), vR (d_101), vR (d_116), vR (d_133), vR (b152), vR (b279), vR (o_345), sU, sU]) rfl k) ?_
        refine gs m T345 141 #[vI (p0), vI (p1), vJ (p2), sS, vJ (p3), sS, vJ (p4), sS, vI ((1 : Int32)), vI ((1 : Int32)), vR (d_101), vR (d_116), vR (d_133), vR (b152), vR (b279), vR (o_345), sU, sU] [(.ref o_345)] (fun _ k => XS.aload X345.here hx rfl (hb hby at_139) rfl rfl k) ?_
        refine gs m T345 142 #[vI (p0), vI (p1), vJ (p2), sS, vJ (p3), sS, vJ (p4), sS, vI ((1 : Int32)), vI ((1 : Int32)), vR (d_101), vR (d_116), vR (d_133), vR (b152), vR (b279), vR (o_345), sU, sU] [.null, (.ref o_345)] (fun _ k => XS.aconstNull X345.here hx rfl (hb hby at_141) k) ?_
        obtain ⟨cq370, kq370, q370a, q370b, q370c⟩ := isOf hZ rfl P345_0
        obtain ⟨_, _, ⟨T370, L370, k370, n370⟩, -, X370, ⟨Lc370, hQ370, l370, y370, z370⟩, st370⟩ := X345.virtualBack hx (y := (⟨"java/util/Optional", "orElse", "(Ljava/lang/Object;)Ljava/lang/Object;"⟩ : MethodName)) (z := (⟨"java/util/Optional", "orElse", "(Ljava/lang/Object;)Ljava/lang/Object;"⟩ : MethodName)) hown (mvT hZ (hwi hw 153 rfl)) (mvT hZ (hwi hw 154 rfl)) (notFace_of_selects (args := #[]) (mvT hZ (hwi hw 156 rfl))) (mvT hZ (hwi hw 156 rfl)) (mvT hZ (hwi hw 155 rfl)) (by decide) (backOf (W := 0) (Q := Qret (some (.ref d_101)) T345.heap n0) (own_oel l Z a0 hw [] o_345 d_101 T345.heap n0 Z345 P345_1) hZ (hwi hw 157 rfl) (hwi hw 150 rfl) (by decide) (by decide)) q370a q370c (g := (mkF m 142 #[vI (p0), vI (p1), vJ (p2), sS, vJ (p3), sS, vJ (p4), sS, vI ((1 : Int32)), vI ((1 : Int32)), vR (d_101), vR (d_116), vR (d_133), vR (b152), vR (b279), vR (o_345), sU, sU] [.null, (.ref o_345)])) rfl (by rw [hml]; rfl) (Steps.refl _) (argsL := [.null]) (rest := []) (lenOf own_pd6 rfl) rfl (by show 2 * 0 + _ ≤ _; exact Nat.le_of_eq rfl) (hb hby at_142) (fun _ _ => ⟨rfl, rfl, (by dsimp only [Pt.cells, Pt.slots, room_1]; omega), (by dsimp only [Pt.cells, Pt.slots, room_1]; omega)⟩)
        dsimp only [Pt.U, Pt.locs, Pt.cells, Pt.slots] at X370 l370 y370 z370 st370 hQ370
        subst l370 y370 z370
        obtain ⟨rfl, N370q, eh370⟩ := hQ370
        have N370 := Fr.app N345 N370q
        refine gs m T370 145 #[vI (p0), vI (p1), vJ (p2), sS, vJ (p3), sS, vJ (p4), sS, vI ((1 : Int32)), vI ((1 : Int32)), vR (d_101), vR (d_116), vR (d_133), vR (b152), vR (b279), vR (o_345), sU, sU] [(.ref d_101)] (fun _ k => st370.trans k) ?_
        obtain ⟨T371, X371, e371, st371⟩ := castY X370 hx hZ hown (hwi hw 316 rfl) eh370 (Ins.self F362) (g := (mkF m 145 #[vI (p0), vI (p1), vJ (p2), sS, vJ (p3), sS, vJ (p4), sS, vI ((1 : Int32)), vI ((1 : Int32)), vR (d_101), vR (d_116), vR (d_133), vR (b152), vR (b279), vR (o_345), sU, sU] [(.ref d_101)])) rfl rfl (hb hby at_145)
        refine gs m T371 148 #[vI (p0), vI (p1), vJ (p2), sS, vJ (p3), sS, vJ (p4), sS, vI ((1 : Int32)), vI ((1 : Int32)), vR (d_101), vR (d_116), vR (d_133), vR (b152), vR (b279), vR (o_345), sU, sU] [(.ref d_101)] st371 ?_
        refine gs m T371 150 #[vI (p0), vI (p1), vJ (p2), sS, vJ (p3), sS, vJ (p4), sS, vI ((1 : Int32)), vI ((1 : Int32)), vR (d_101), vR (d_116), vR (d_133), vR (b152), vR (b279), vR (o_345), vR (d_101), sU] [] (fun _ k => XS.astore X371.here hx rfl (hb hby at_148) rfl rfl (l' := #[vI (p0), vI (p1), vJ (p2), sS, vJ (p3), sS, vJ (p4), sS, vI ((1 : Int32)), vI ((1 : Int32)), vR (d_101), vR (d_116), vR (d_133), vR (b152), vR (b279), vR (o_345), vR (d_101), sU]) rfl k) ?_
        refine gs m T371 151 #[vI (p0), vI (p1), vJ (p2), sS, vJ (p3), sS, vJ (p4), sS, vI ((1 : Int32)), vI ((1 : Int32)), vR (d_101), vR (d_116), vR (d_133), vR (b152), vR (b279), vR (o_345), vR (d_101), sU] [.null] (fun _ k => XS.aconstNull X371.here hx rfl (hb hby at_150) k) ?_
        refine gs m T371 153 #[vI (p0), vI (p1), vJ (p2), sS, vJ (p3), sS, vJ (p4), sS, vI ((1 : Int32)), vI ((1 : Int32)), vR (d_101), vR (d_116), vR (d_133), vR (b152), vR (b279), vR (o_345), vR (d_101), .val .null] [] (fun _ k => XS.astore X371.here hx rfl (hb hby at_151) rfl rfl (l' := #[vI (p0), vI (p1), vJ (p2), sS, vJ (p3), sS, vJ (p4), sS, vI ((1 : Int32)), vI ((1 : Int32)), vR (d_101), vR (d_116), vR (d_133), vR (b152), vR (b279), vR (o_345), vR (d_101), .val .null]) rfl k) ?_
        refine gs m T371 155 #[vI (p0), vI (p1), vJ (p2), sS, vJ (p3), sS, vJ (p4), sS, vI ((1 : Int32)), vI ((1 : Int32)), vR (d_101), vR (d_116), vR (d_133), vR (b152), vR (b279), vR (o_345), vR (d_101), .val .null] [(.int (1 : Int32))] (fun _ k => XS.iload X371.here hx rfl (hb hby at_153) rfl  k) ?_
        refine gs m T371 157 #[vI (p0), vI (p1), vJ (p2), sS, vJ (p3), sS, vJ (p4), sS, vI ((1 : Int32)), vI ((1 : Int32)), vR (d_101), vR (d_116), vR (d_133), vR (b152), vR (b279), vR (o_345), vR (d_101), .val .null] [(.int (1 : Int32)), (.int (1 : Int32))] (fun _ k => XS.iload X371.here hx rfl (hb hby at_155) rfl  k) ?_
        refine gs m T371 160 #[vI (p0), vI (p1), vJ (p2), sS, vJ (p3), sS, vJ (p4), sS, vI ((1 : Int32)), vI ((1 : Int32)), vR (d_101), vR (d_116), vR (d_133), vR (b152), vR (b279), vR (o_345), vR (d_101), .val .null] [] (fun _ k => XS.icmpNo X371.here hx rfl (hb hby at_157) rfl (flt (by decide : ¬ ((1 : Int32) < (1 : Int32)))).2.2.1 k) ?_
        refine gs m T371 162 #[vI (p0), vI (p1), vJ (p2), sS, vJ (p3), sS, vJ (p4), sS, vI ((1 : Int32)), vI ((1 : Int32)), vR (d_101), vR (d_116), vR (d_133), vR (b152), vR (b279), vR (o_345), vR (d_101), .val .null] [(.int (1 : Int32))] (fun _ k => XS.iload X371.here hx rfl (hb hby at_160) rfl  k) ?_
        refine gs m T371 163 #[vI (p0), vI (p1), vJ (p2), sS, vJ (p3), sS, vJ (p4), sS, vI ((1 : Int32)), vI ((1 : Int32)), vR (d_101), vR (d_116), vR (d_133), vR (b152), vR (b279), vR (o_345), vR (d_101), .val .null] [(.int (1 : Int32)), (.int (1 : Int32))] (fun _ k => XS.iconst X371.here hx rfl (hb hby at_162) k) ?_
        refine gs m T371 166 #[vI (p0), vI (p1), vJ (p2), sS, vJ (p3), sS, vJ (p4), sS, vI ((1 : Int32)), vI ((1 : Int32)), vR (d_101), vR (d_116), vR (d_133), vR (b152), vR (b279), vR (o_345), vR (d_101), .val .null] [] (fun _ k => XS.icmpNo X371.here hx rfl (hb hby at_163) rfl (teq (by decide : (1 : Int32) = (1 : Int32))).2 k) ?_
        refine gs m T371 168 #[vI (p0), vI (p1), vJ (p2), sS, vJ (p3), sS, vJ (p4), sS, vI ((1 : Int32)), vI ((1 : Int32)), vR (d_101), vR (d_116), vR (d_133), vR (b152), vR (b279), vR (o_345), vR (d_101), .val .null] [(.ref d_101)] (fun _ k => XS.aload X371.here hx rfl (hb hby at_166) rfl rfl k) ?_
        refine gs m T371 170 #[vI (p0), vI (p1), vJ (p2), sS, vJ (p3), sS, vJ (p4), sS, vI ((1 : Int32)), vI ((1 : Int32)), vR (d_101), vR (d_116), vR (d_133), vR (b152), vR (b279), vR (o_345), vR (d_101), vR (d_101)] [] (fun _ k => XS.astore X371.here hx rfl (hb hby at_168) rfl rfl (l' := #[vI (p0), vI (p1), vJ (p2), sS, vJ (p3), sS, vJ (p4), sS, vI ((1 : Int32)), vI ((1 : Int32)), vR (d_101), vR (d_116), vR (d_133), vR (b152), vR (b279), vR (o_345), vR (d_101), vR (d_101)]) rfl k) ?_
        refine gs m T371 190 #[vI (p0), vI (p1), vJ (p2), sS, vJ (p3), sS, vJ (p4), sS, vI ((1 : Int32)), vI ((1 : Int32)), vR (d_101), vR (d_116), vR (d_133), vR (b152), vR (b279), vR (o_345), vR (d_101), vR (d_101)] [] (fun _ k => XS.goto X371.here hx rfl (pc0 := 170) (pc' := 190) rfl (hb hby at_170) (by decide) (by decide) k) ?_
        refine gs m T371 192 #[vI (p0), vI (p1), vJ (p2), sS, vJ (p3), sS, vJ (p4), sS, vI ((1 : Int32)), vI ((1 : Int32)), vR (d_101), vR (d_116), vR (d_133), vR (b152), vR (b279), vR (o_345), vR (d_101), vR (d_101)] [(.ref d_101)] (fun _ k => XS.aload X371.here hx rfl (hb hby at_190) rfl rfl k) ?_
        refine gs m T371 206 #[vI (p0), vI (p1), vJ (p2), sS, vJ (p3), sS, vJ (p4), sS, vI ((1 : Int32)), vI ((1 : Int32)), vR (d_101), vR (d_116), vR (d_133), vR (b152), vR (b279), vR (o_345), vR (d_101), vR (d_101)] [] (fun _ k => XS.ifnonnullYes X371.here hx rfl (pc0 := 192) (pc' := 206) rfl (hb hby at_192) rfl (by decide) (by decide) k) ?_
        refine gs m T371 208 #[vI (p0), vI (p1), vJ (p2), sS, vJ (p3), sS, vJ (p4), sS, vI ((1 : Int32)), vI ((1 : Int32)), vR (d_101), vR (d_116), vR (d_133), vR (b152), vR (b279), vR (o_345), vR (d_101), vR (d_101)] [(.ref d_101)] (fun _ k => XS.aload X371.here hx rfl (hb hby at_206) rfl rfl k) ?_
        refine gs m T371 210 #[vI (p0), vI (p1), vJ (p2), sS, vJ (p3), sS, vJ (p4), sS, vI ((1 : Int32)), vI ((1 : Int32)), vR (d_101), vR (d_116), vR (d_133), vR (b152), vR (b279), vR (o_345), vR (d_101), vR (d_101)] [(.ref d_101), (.ref d_101)] (fun _ k => XS.aload X371.here hx rfl (hb hby at_208) rfl rfl k) ?_
        obtain ⟨cq372, kq372, q372a, q372b, q372c⟩ := isOf hZ e371 F362
        obtain ⟨_, _, ⟨T372, L372, k372, n372⟩, -, X372, ⟨Lc372, hQ372, l372, y372, z372⟩, st372⟩ := X371.virtualBack hx (y := (⟨"java/time/Duration", "equals", "(Ljava/lang/Object;)Z"⟩ : MethodName)) (z := (⟨"java/time/Duration", "equals", "(Ljava/lang/Object;)Z"⟩ : MethodName)) hown (mvT hZ (hwi hw 317 rfl)) (mvT hZ (hwi hw 318 rfl)) (notFace_of_selects (args := #[]) (mvT hZ (hwi hw 320 rfl))) (mvT hZ (hwi hw 320 rfl)) (mvT hZ (hwi hw 319 rfl)) (by decide) (backOf (W := 0) (Q := Qret (some (.int (1 : Int32))) T345.heap n0) (own_dueq l Z a0 hw [] d_101 T345.heap n0 Z345 ) hZ (hwi hw 321 rfl) (hwi hw 8 rfl) (by decide) (by decide)) q372a q372c (g := (mkF m 210 #[vI (p0), vI (p1), vJ (p2), sS, vJ (p3), sS, vJ (p4), sS, vI ((1 : Int32)), vI ((1 : Int32)), vR (d_101), vR (d_116), vR (d_133), vR (b152), vR (b279), vR (o_345), vR (d_101), vR (d_101)] [(.ref d_101), (.ref d_101)])) rfl (by rw [hml]; rfl) (Steps.refl _) (argsL := [(.ref d_101)]) (rest := []) (lenOf own_pd26 rfl) rfl (by show 2 * 0 + _ ≤ _; exact Nat.le_of_eq rfl) (hb hby at_210) (fun _ _ => ⟨rfl, e371, (by dsimp only [Pt.cells, Pt.slots, room_1]; omega), (by dsimp only [Pt.cells, Pt.slots, room_1]; omega)⟩)
        dsimp only [Pt.U, Pt.locs, Pt.cells, Pt.slots] at X372 l372 y372 z372 st372 hQ372
        subst l372 y372 z372
        obtain ⟨rfl, N372q, eh372⟩ := hQ372
        have N372 := Fr.app N370 N372q
        refine gs m T372 213 #[vI (p0), vI (p1), vJ (p2), sS, vJ (p3), sS, vJ (p4), sS, vI ((1 : Int32)), vI ((1 : Int32)), vR (d_101), vR (d_116), vR (d_133), vR (b152), vR (b279), vR (o_345), vR (d_101), vR (d_101)] [(.int (1 : Int32))] (fun _ k => st372.trans k) ?_
        exact Go.retN X372 hx (t := .boolean) hret hlk (by simp) (hb hby at_213) (⟨rfl, N372⟩) (by omega) (by omega)
  · skip
    subst hn
    refine gs m T181 79 #[vI (p0), vI (p1), vJ (p2), sS, vJ (p3), sS, vJ (p4), sS, vI ((2 : Int32)), vI (kq), vR (d_101), vR (d_116), vR (d_133), vR (b152), sU, sU, sU, sU] [(.int (2 : Int32))] (fun _ k => XS.iload X181.here hx rfl (hb hby at_77) rfl  k) ?_
    refine gs m T181 80 #[vI (p0), vI (p1), vJ (p2), sS, vJ (p3), sS, vJ (p4), sS, vI ((2 : Int32)), vI (kq), vR (d_101), vR (d_116), vR (d_133), vR (b152), sU, sU, sU, sU] [(.int (1 : Int32)), (.int (2 : Int32))] (fun _ k => XS.iconst X181.here hx rfl (hb hby at_79) k) ?_
    refine gs m T181 83 #[vI (p0), vI (p1), vJ (p2), sS, vJ (p3), sS, vJ (p4), sS, vI ((2 : Int32)), vI (kq), vR (d_101), vR (d_116), vR (d_133), vR (b152), sU, sU, sU, sU] [] (fun _ k => XS.icmpNo X181.here hx rfl (hb hby at_80) rfl (flt (by decide : ¬ ((2 : Int32) < (1 : Int32)))).1 k) ?_
    refine gs m T181 85 #[vI (p0), vI (p1), vJ (p2), sS, vJ (p3), sS, vJ (p4), sS, vI ((2 : Int32)), vI (kq), vR (d_101), vR (d_116), vR (d_133), vR (b152), sU, sU, sU, sU] [(.ref b152)] (fun _ k => XS.aload X181.here hx rfl (hb hby at_83) rfl rfl k) ?_
    refine gs m T181 87 #[vI (p0), vI (p1), vJ (p2), sS, vJ (p3), sS, vJ (p4), sS, vI ((2 : Int32)), vI (kq), vR (d_101), vR (d_116), vR (d_133), vR (b152), sU, sU, sU, sU] [(.ref d_101), (.ref b152)] (fun _ k => XS.aload X181.here hx rfl (hb hby at_85) rfl rfl k) ?_
    obtain ⟨cq373, kq373, q373a, q373b, q373c⟩ := isOf hZ rfl P181_0
    obtain ⟨_, _, ⟨T373, L373, k373, n373⟩, -, X373, ⟨Lc373, hQ373, l373, y373, z373⟩, st373⟩ := X181.virtualBack hx (y := (⟨"java/util/ArrayList", "add", "(Ljava/lang/Object;)Z"⟩ : MethodName)) (z := (⟨"java/util/ArrayList", "add", "(Ljava/lang/Object;)Z"⟩ : MethodName)) hown (mvT hZ (hwi hw 160 rfl)) (mvT hZ (hwi hw 161 rfl)) (notFace_of_selects (args := #[]) (mvT hZ (hwi hw 163 rfl))) (mvT hZ (hwi hw 163 rfl)) (mvT hZ (hwi hw 162 rfl)) (by decide) (backOf (W := 0) (Q := fun v h L => ∃ b : Addr, ∃ kb : ClassId, (v = some (.int (1 : Int32))) ∧ (Fr n0 L) ∧ (Keep T181.heap h [b152]) ∧ (T181.heap.size ≤ b) ∧ (Exa Z h b152 "java/util/ArrayList") ∧ (Fld Z h b152 "java/util/AbstractList" "modCount" "I" (.int ((0 : Int32) + (1 : Int32)))) ∧ (Fld Z h b152 "java/util/ArrayList" "elementData" "[Ljava/lang/Object;" (.ref b)) ∧ (Fld Z h b152 "java/util/ArrayList" "size" "I" (.int (1 : Int32))) ∧ (Exa Z h b "[Ljava/lang/Object;") ∧ (Arv Z h b kb (.object "java/lang/Object") (10 : Int32) [(.ref d_101), .null, .null, .null, .null, .null, .null, .null, .null, .null] .null) ∧ (Ovr Z kb "java/lang/Object")) (own_add0 l Z a0 hw [] b152 d_101 ea ke (0 : Int32) T181.heap n0 Z181 P181_0 ge152 P181_1 P181_2 P181_3 F182 F183 ne153 F193) hZ (hwi hw 164 rfl) (hwi hw 28 rfl) (by decide) (by decide)) q373a q373c (g := (mkF m 87 #[vI (p0), vI (p1), vJ (p2), sS, vJ (p3), sS, vJ (p4), sS, vI ((2 : Int32)), vI (kq), vR (d_101), vR (d_116), vR (d_133), vR (b152), sU, sU, sU, sU] [(.ref d_101), (.ref b152)])) rfl (by rw [hml]; rfl) (Steps.refl _) (argsL := [(.ref d_101)]) (rest := []) (lenOf own_pd26 rfl) rfl (by show 2 * 0 + _ ≤ _; exact Nat.le_of_eq rfl) (hb hby at_87) (fun _ _ => ⟨rfl, rfl, (by dsimp only [Pt.cells, Pt.slots, room_1]; omega), (by dsimp only [Pt.cells, Pt.slots, room_1]; omega)⟩)
    dsimp only [Pt.U, Pt.locs, Pt.cells, Pt.slots] at X373 l373 y373 z373 st373 hQ373
    subst l373 y373 z373
    obtain ⟨b_373, kb_373, rfl, N373q, K373, lt373_0, P373_0, P373_1, P373_2, P373_3, P373_4, P373_5, R373_0⟩ := hQ373
    have N373 := Fr.app N181 N373q
    have ne374 : ea ≠ b_373 := Nat.ne_of_lt (Nat.lt_of_lt_of_le F183.lt lt373_0)
    have ne375 : el ≠ b_373 := Nat.ne_of_lt (Nat.lt_of_lt_of_le F185.lt lt373_0)
    have ne376 : bz ≠ b_373 := Nat.ne_of_lt (Nat.lt_of_lt_of_le F187.lt lt373_0)
    have ne377 : em ≠ b_373 := Nat.ne_of_lt (Nat.lt_of_lt_of_le F189.lt lt373_0)
    have ne378 : oe ≠ b_373 := Nat.ne_of_lt (Nat.lt_of_lt_of_le F191.lt lt373_0)
    have ne379 : d_101 ≠ b_373 := Nat.ne_of_lt (Nat.lt_of_lt_of_le F193.lt lt373_0)
    have ne380 : d_116 ≠ b_373 := Nat.ne_of_lt (Nat.lt_of_lt_of_le F195.lt lt373_0)
    have ne381 : d_133 ≠ b_373 := Nat.ne_of_lt (Nat.lt_of_lt_of_le F197.lt lt373_0)
    have ne382 : b152 ≠ b_373 := Nat.ne_of_lt (Nat.lt_of_lt_of_le P181_0.lt lt373_0)
    have ge383 : n0 ≤ b_373 := Nat.le_trans Z181 lt373_0
    have Z373 : n0 ≤ T373.heap.size := Nat.le_trans Z181 K373.1
    have F384 := own_sta_keep F182 K373 (allS (own_plain P181_0) all0)
    have F385 := F183.keep K373 (ninS ne153 nin0)
    have F386 := own_sta_keep F184 K373 (allS (own_plain P181_0) all0)
    have F387 := F185.keep K373
    have F388 := F186.keep K373 (ninS ne154 nin0)
    have F389 := F187.keep K373 (ninS ne155 nin0)
    have F390 := own_sta_keep F188 K373 (allS (own_plain P181_0) all0)
    have F391 := F189.keep K373
    have F392 := own_sta_keep F190 K373 (allS (own_plain P181_0) all0)
    have F393 := F191.keep K373
    have F394 := F192.keep K373 (ninS ne157 nin0)
    have F395 := F193.keep K373
    have F396 := F194.keep K373 (ninS ne158 nin0)
    have F397 := F195.keep K373
    have F398 := F196.keep K373 (ninS ne159 nin0)
    have F399 := F197.keep K373
    have F400 := F198.keep K373 (ninS ne160 nin0)
    have F401 := P181_0.keep K373
    refine gs m T373 90 #[vI (p0), vI (p1), vJ (p2), sS, vJ (p3), sS, vJ (p4), sS, vI ((2 : Int32)), vI (kq), vR (d_101), vR (d_116), vR (d_133), vR (b152), sU, sU, sU, sU] [(.int (1 : Int32))] (fun _ k => st373.trans k) ?_
    refine gs m T373 91 #[vI (p0), vI (p1), vJ (p2), sS, vJ (p3), sS, vJ (p4), sS, vI ((2 : Int32)), vI (kq), vR (d_101), vR (d_116), vR (d_133), vR (b152), sU, sU, sU, sU] [] (fun _ k => XS.pop X373.here hx rfl (hb hby at_90) rfl rfl k) ?_
    refine gs m T373 93 #[vI (p0), vI (p1), vJ (p2), sS, vJ (p3), sS, vJ (p4), sS, vI ((2 : Int32)), vI (kq), vR (d_101), vR (d_116), vR (d_133), vR (b152), sU, sU, sU, sU] [(.int (2 : Int32))] (fun _ k => XS.iload X373.here hx rfl (hb hby at_91) rfl  k) ?_
    refine gs m T373 94 #[vI (p0), vI (p1), vJ (p2), sS, vJ (p3), sS, vJ (p4), sS, vI ((2 : Int32)), vI (kq), vR (d_101), vR (d_116), vR (d_133), vR (b152), sU, sU, sU, sU] [(.int (2 : Int32)), (.int (2 : Int32))] (fun _ k => XS.iconst X373.here hx rfl (hb hby at_93) k) ?_
    refine gs m T373 97 #[vI (p0), vI (p1), vJ (p2), sS, vJ (p3), sS, vJ (p4), sS, vI ((2 : Int32)), vI (kq), vR (d_101), vR (d_116), vR (d_133), vR (b152), sU, sU, sU, sU] [] (fun _ k => XS.icmpNo X373.here hx rfl (hb hby at_94) rfl (flt (by decide : ¬ ((2 : Int32) < (2 : Int32)))).1 k) ?_
    refine gs m T373 99 #[vI (p0), vI (p1), vJ (p2), sS, vJ (p3), sS, vJ (p4), sS, vI ((2 : Int32)), vI (kq), vR (d_101), vR (d_116), vR (d_133), vR (b152), sU, sU, sU, sU] [(.ref b152)] (fun _ k => XS.aload X373.here hx rfl (hb hby at_97) rfl rfl k) ?_
    refine gs m T373 101 #[vI (p0), vI (p1), vJ (p2), sS, vJ (p3), sS, vJ (p4), sS, vI ((2 : Int32)), vI (kq), vR (d_101), vR (d_116), vR (d_133), vR (b152), sU, sU, sU, sU] [(.ref d_116), (.ref b152)] (fun _ k => XS.aload X373.here hx rfl (hb hby at_99) rfl rfl k) ?_
    obtain ⟨cq402, kq402, q402a, q402b, q402c⟩ := isOf hZ rfl P373_0
    obtain ⟨_, _, ⟨T402, L402, k402, n402⟩, -, X402, ⟨Lc402, hQ402, l402, y402, z402⟩, st402⟩ := X373.virtualBack hx (y := (⟨"java/util/ArrayList", "add", "(Ljava/lang/Object;)Z"⟩ : MethodName)) (z := (⟨"java/util/ArrayList", "add", "(Ljava/lang/Object;)Z"⟩ : MethodName)) hown (mvT hZ (hwi hw 160 rfl)) (mvT hZ (hwi hw 161 rfl)) (notFace_of_selects (args := #[]) (mvT hZ (hwi hw 163 rfl))) (mvT hZ (hwi hw 163 rfl)) (mvT hZ (hwi hw 162 rfl)) (by decide) (backOf (W := 0) (Q := fun v h L => (v = some (.int (1 : Int32))) ∧ (Fr n0 L) ∧ (Keep T373.heap h [b152, b_373]) ∧ (Exa Z h b152 "java/util/ArrayList") ∧ (Fld Z h b152 "java/util/AbstractList" "modCount" "I" (.int (((0 : Int32) + (1 : Int32)) + (1 : Int32)))) ∧ (Fld Z h b152 "java/util/ArrayList" "elementData" "[Ljava/lang/Object;" (.ref b_373)) ∧ (Fld Z h b152 "java/util/ArrayList" "size" "I" (.int (2 : Int32))) ∧ (Exa Z h b_373 "[Ljava/lang/Object;") ∧ (Arv Z h b_373 kb_373 (.object "java/lang/Object") (10 : Int32) [(.ref d_101), (.ref d_116), .null, .null, .null, .null, .null, .null, .null, .null] .null)) (own_add1 l Z a0 hw [] b152 d_116 b_373 kb_373 ((0 : Int32) + (1 : Int32)) d_101 T373.heap n0 Z373 P373_0 ge152 P373_1 P373_2 P373_3 P373_4 ge383 ne382 P373_5 F397 R373_0) hZ (hwi hw 164 rfl) (hwi hw 28 rfl) (by decide) (by decide)) q402a q402c (g := (mkF m 101 #[vI (p0), vI (p1), vJ (p2), sS, vJ (p3), sS, vJ (p4), sS, vI ((2 : Int32)), vI (kq), vR (d_101), vR (d_116), vR (d_133), vR (b152), sU, sU, sU, sU] [(.ref d_116), (.ref b152)])) rfl (by rw [hml]; rfl) (Steps.refl _) (argsL := [(.ref d_116)]) (rest := []) (lenOf own_pd26 rfl) rfl (by show 2 * 0 + _ ≤ _; exact Nat.le_of_eq rfl) (hb hby at_101) (fun _ _ => ⟨rfl, rfl, (by dsimp only [Pt.cells, Pt.slots, room_1]; omega), (by dsimp only [Pt.cells, Pt.slots, room_1]; omega)⟩)
    dsimp only [Pt.U, Pt.locs, Pt.cells, Pt.slots] at X402 l402 y402 z402 st402 hQ402
    subst l402 y402 z402
    obtain ⟨rfl, N402q, K402, P402_0, P402_1, P402_2, P402_3, P402_4, P402_5⟩ := hQ402
    have N402 := Fr.app N373 N402q
    have Z402 : n0 ≤ T402.heap.size := Nat.le_trans Z373 K402.1
    have F403 := own_sta_keep F384 K402 (allS (own_plain P373_0) (allS (own_plain P373_4) all0))
    have F404 := F385.keep K402 (ninS ne153 (ninS ne374 nin0))
    have F405 := own_sta_keep F386 K402 (allS (own_plain P373_0) (allS (own_plain P373_4) all0))
    have F406 := F387.keep K402
    have F407 := F388.keep K402 (ninS ne154 (ninS ne375 nin0))
    have F408 := F389.keep K402 (ninS ne155 (ninS ne376 nin0))
    have F409 := own_sta_keep F390 K402 (allS (own_plain P373_0) (allS (own_plain P373_4) all0))
    have F410 := F391.keep K402
    have F411 := own_sta_keep F392 K402 (allS (own_plain P373_0) (allS (own_plain P373_4) all0))
    have F412 := F393.keep K402
    have F413 := F394.keep K402 (ninS ne157 (ninS ne378 nin0))
    have F414 := F395.keep K402
    have F415 := F396.keep K402 (ninS ne158 (ninS ne379 nin0))
    have F416 := F397.keep K402
    have F417 := F398.keep K402 (ninS ne159 (ninS ne380 nin0))
    have F418 := F399.keep K402
    have F419 := F400.keep K402 (ninS ne160 (ninS ne381 nin0))
    have F420 := P373_0.keep K402
    have F421 := P373_4.keep K402
    refine gs m T402 104 #[vI (p0), vI (p1), vJ (p2), sS, vJ (p3), sS, vJ (p4), sS, vI ((2 : Int32)), vI (kq), vR (d_101), vR (d_116), vR (d_133), vR (b152), sU, sU, sU, sU] [(.int (1 : Int32))] (fun _ k => st402.trans k) ?_
    refine gs m T402 105 #[vI (p0), vI (p1), vJ (p2), sS, vJ (p3), sS, vJ (p4), sS, vI ((2 : Int32)), vI (kq), vR (d_101), vR (d_116), vR (d_133), vR (b152), sU, sU, sU, sU] [] (fun _ k => XS.pop X402.here hx rfl (hb hby at_104) rfl rfl k) ?_
    refine gs m T402 107 #[vI (p0), vI (p1), vJ (p2), sS, vJ (p3), sS, vJ (p4), sS, vI ((2 : Int32)), vI (kq), vR (d_101), vR (d_116), vR (d_133), vR (b152), sU, sU, sU, sU] [(.int (2 : Int32))] (fun _ k => XS.iload X402.here hx rfl (hb hby at_105) rfl  k) ?_
    refine gs m T402 108 #[vI (p0), vI (p1), vJ (p2), sS, vJ (p3), sS, vJ (p4), sS, vI ((2 : Int32)), vI (kq), vR (d_101), vR (d_116), vR (d_133), vR (b152), sU, sU, sU, sU] [(.int (3 : Int32)), (.int (2 : Int32))] (fun _ k => XS.iconst X402.here hx rfl (hb hby at_107) k) ?_
    refine gs m T402 119 #[vI (p0), vI (p1), vJ (p2), sS, vJ (p3), sS, vJ (p4), sS, vI ((2 : Int32)), vI (kq), vR (d_101), vR (d_116), vR (d_133), vR (b152), sU, sU, sU, sU] [] (fun _ k => XS.icmpYes X402.here hx rfl (pc0 := 108) (pc' := 119) rfl (hb hby at_108) rfl (tlt (by decide : (2 : Int32) < (3 : Int32))).1 (by decide) (by decide) k) ?_
    obtain ⟨T422, h422, X422, e422, E422, A422, D422, -, st422⟩ := newO X402 hx hZ hown (hwi hw 50 rfl) (hwi hw 51 rfl) (hwi hw 52 rfl) rfl (g := (mkF m 119 #[vI (p0), vI (p1), vJ (p2), sS, vJ (p3), sS, vJ (p4), sS, vI ((2 : Int32)), vI (kq), vR (d_101), vR (d_116), vR (d_133), vR (b152), sU, sU, sU, sU] [])) rfl (hb hby at_119) (by dsimp only [Pt.cells, Pt.slots, room_1]; omega) (by dsimp only [Pt.cells, Pt.slots, room_1]; omega)
    obtain ⟨b422, g422⟩ : ∃ z, z = T402.heap.size := ⟨_, rfl⟩
    rw [← g422] at A422 D422 st422
    have ne423 : el ≠ b422 := by have q := F406.lt; intro r; rw [r, g422] at q; exact Nat.lt_irrefl _ q
    have ne424 : bz ≠ b422 := by have q := F408.lt; intro r; rw [r, g422] at q; exact Nat.lt_irrefl _ q
    have ne425 : em ≠ b422 := by have q := F410.lt; intro r; rw [r, g422] at q; exact Nat.lt_irrefl _ q
    have ne426 : oe ≠ b422 := by have q := F412.lt; intro r; rw [r, g422] at q; exact Nat.lt_irrefl _ q
    have ne427 : d_101 ≠ b422 := by have q := F414.lt; intro r; rw [r, g422] at q; exact Nat.lt_irrefl _ q
    have ne428 : d_116 ≠ b422 := by have q := F416.lt; intro r; rw [r, g422] at q; exact Nat.lt_irrefl _ q
    have ne429 : d_133 ≠ b422 := by have q := F418.lt; intro r; rw [r, g422] at q; exact Nat.lt_irrefl _ q
    have ne430 : b152 ≠ b422 := by have q := P402_0.lt; intro r; rw [r, g422] at q; exact Nat.lt_irrefl _ q
    have ne431 : b_373 ≠ b422 := by have q := P402_4.lt; intro r; rw [r, g422] at q; exact Nat.lt_irrefl _ q
    have ge422 : n0 ≤ b422 := Nat.le_trans Z402 (Nat.le_of_eq g422.symm)
    have Z422 : n0 ≤ h422.size := Nat.le_trans Z402 E422.1
    have F432 := F405.ext E422
    have F433 := F406.ext E422
    have F434 := F407.ext E422
    have F435 := F408.ext E422
    have F436 := F409.ext E422
    have F437 := F410.ext E422
    have F438 := F411.ext E422
    have F439 := F412.ext E422
    have F440 := F413.ext E422
    have F441 := F414.ext E422
    have F442 := F415.ext E422
    have F443 := F416.ext E422
    have F444 := F417.ext E422
    have F445 := F418.ext E422
    have F446 := F419.ext E422
    have F447 := P402_0.ext E422
    have F448 := P402_4.ext E422
    have F449 := P402_2.ext E422
    have F450 := P402_3.ext E422
    have F451 := P402_5.ext E422
    have F452 : Fld Z h422 b422 "com/example/nuthatch/nuthatch/RetrySchedule" "delays" "Ljava/util/List;" .null := D422 (Or.inr (hwi hw 136 rfl)) (ty := (.object "java/util/List")) (by decide)
    refine gs m T422 122 #[vI (p0), vI (p1), vJ (p2), sS, vJ (p3), sS, vJ (p4), sS, vI ((2 : Int32)), vI (kq), vR (d_101), vR (d_116), vR (d_133), vR (b152), sU, sU, sU, sU] [(.ref b422)] st422 ?_
    refine gs m T422 123 #[vI (p0), vI (p1), vJ (p2), sS, vJ (p3), sS, vJ (p4), sS, vI ((2 : Int32)), vI (kq), vR (d_101), vR (d_116), vR (d_133), vR (b152), sU, sU, sU, sU] [(.ref b422), (.ref b422)] (fun _ k => XS.dup X422.here hx rfl (hb hby at_122) rfl rfl k) ?_
    refine gs m T422 125 #[vI (p0), vI (p1), vJ (p2), sS, vJ (p3), sS, vJ (p4), sS, vI ((2 : Int32)), vI (kq), vR (d_101), vR (d_116), vR (d_133), vR (b152), sU, sU, sU, sU] [(.ref b152), (.ref b422), (.ref b422)] (fun _ k => XS.aload X422.here hx rfl (hb hby at_123) rfl rfl k) ?_
    have ne453 := Exa.ne F443 F437 (by decide)
    obtain ⟨_, _, ⟨T454, L454, k454, n454⟩, -, X454, ⟨Lc454, hQ454, l454, y454, z454⟩, st454⟩ := X422.specialBack hx (y := (⟨"com/example/nuthatch/nuthatch/RetrySchedule", "<init>", "(Ljava/util/List;)V"⟩ : MethodName)) rfl hown (mvT hZ (hwi hw 53 rfl)) (mvT hZ (hwi hw 54 rfl)) (mvT hZ (hwi hw 55 rfl)) (by decide) (backOf (W := 1) (Q := fun v h L => ∃ lst : Addr, (v = none) ∧ (Fr n0 L) ∧ (Keep h422 h [b422]) ∧ (h422.size ≤ lst) ∧ (Exa Z h b422 "com/example/nuthatch/nuthatch/RetrySchedule") ∧ (Fld Z h b422 "com/example/nuthatch/nuthatch/RetrySchedule" "delays" "Ljava/util/List;" (.ref lst)) ∧ (Exa Z h lst "java/util/ImmutableCollections$List12") ∧ (Fld Z h lst "java/util/ImmutableCollections$List12" "e0" "Ljava/lang/Object;" (.ref d_101)) ∧ (Fld Z h lst "java/util/ImmutableCollections$List12" "e1" "Ljava/lang/Object;" (.ref d_116))) (own_rsi2 l Z a0 hw [] b422 b152 .null b_373 kb_373 d_101 d_116 (p2 &&& (9223372036854775807 : Int64)) (p3 &&& (9223372036854775807 : Int64)) em h422 n0 Z422 A422 ge422 F452 F447 F449 F450 F448 F451 F441 F442 F443 F444 ne430 ne431 ne427 ne428 F436 ne453 R373_0 MM (own_nn p2) (own_nn p3)) hZ (hwi hw 55 rfl) (hwi hw 52 rfl) (by decide) (by decide)) (g := (mkF m 125 #[vI (p0), vI (p1), vJ (p2), sS, vJ (p3), sS, vJ (p4), sS, vI ((2 : Int32)), vI (kq), vR (d_101), vR (d_116), vR (d_133), vR (b152), sU, sU, sU, sU] [(.ref b152), (.ref b422), (.ref b422)])) rfl (by rw [hml]; rfl) (Steps.refl _) (a := b422) (argsL := [(.ref b152)]) (rest := [(.ref b422)]) (lenOf own_pd24 rfl) rfl (by show 2 * 0 + _ ≤ _; exact Nat.le_of_eq rfl) (hb hby at_125) (fun _ _ => ⟨rfl, e422, (by dsimp only [Pt.cells, Pt.slots, room_1]; omega), (by dsimp only [Pt.cells, Pt.slots, room_1]; omega)⟩)
    dsimp only [Pt.U, Pt.locs, Pt.cells, Pt.slots] at X454 l454 y454 z454 st454 hQ454
    subst l454 y454 z454
    obtain ⟨lst_454, rfl, N454q, K454, lt454_0, P454_0, P454_1, P454_2, P454_3, P454_4⟩ := hQ454
    have N454 := Fr.app N402 N454q
    have ne455 : el ≠ lst_454 := Nat.ne_of_lt (Nat.lt_of_lt_of_le F433.lt lt454_0)
    have ne456 : bz ≠ lst_454 := Nat.ne_of_lt (Nat.lt_of_lt_of_le F435.lt lt454_0)
    have ne457 : em ≠ lst_454 := Nat.ne_of_lt (Nat.lt_of_lt_of_le F437.lt lt454_0)
    have ne458 : oe ≠ lst_454 := Nat.ne_of_lt (Nat.lt_of_lt_of_le F439.lt lt454_0)
    have ne459 : d_101 ≠ lst_454 := Nat.ne_of_lt (Nat.lt_of_lt_of_le F441.lt lt454_0)
    have ne460 : d_116 ≠ lst_454 := Nat.ne_of_lt (Nat.lt_of_lt_of_le F443.lt lt454_0)
    have ne461 : d_133 ≠ lst_454 := Nat.ne_of_lt (Nat.lt_of_lt_of_le F445.lt lt454_0)
    have ne462 : b152 ≠ lst_454 := Nat.ne_of_lt (Nat.lt_of_lt_of_le F447.lt lt454_0)
    have ne463 : b_373 ≠ lst_454 := Nat.ne_of_lt (Nat.lt_of_lt_of_le F448.lt lt454_0)
    have ne464 : b422 ≠ lst_454 := Nat.ne_of_lt (Nat.lt_of_lt_of_le A422.lt lt454_0)
    have ge465 : n0 ≤ lst_454 := Nat.le_trans Z422 lt454_0
    have Z454 : n0 ≤ T454.heap.size := Nat.le_trans Z422 K454.1
    have F466 := own_sta_keep F432 K454 (allS (own_plain A422) all0)
    have F467 := F433.keep K454
    have F468 := F434.keep K454 (ninS ne423 nin0)
    have F469 := F435.keep K454 (ninS ne424 nin0)
    have F470 := own_sta_keep F436 K454 (allS (own_plain A422) all0)
    have F471 := F437.keep K454
    have F472 := own_sta_keep F438 K454 (allS (own_plain A422) all0)
    have F473 := F439.keep K454
    have F474 := F440.keep K454 (ninS ne426 nin0)
    have F475 := F441.keep K454
    have F476 := F442.keep K454 (ninS ne427 nin0)
    have F477 := F443.keep K454
    have F478 := F444.keep K454 (ninS ne428 nin0)
    have F479 := F445.keep K454
    have F480 := F446.keep K454 (ninS ne429 nin0)
    have F481 := F447.keep K454
    have F482 := F448.keep K454
    have F483 := F449.keep K454 (ninS ne430 nin0)
    have F484 := F450.keep K454 (ninS ne430 nin0)
    have F485 := F451.keep K454 (ninS ne431 nin0)
    have F486 := A422.keep K454
    refine gs m T454 128 #[vI (p0), vI (p1), vJ (p2), sS, vJ (p3), sS, vJ (p4), sS, vI ((2 : Int32)), vI (kq), vR (d_101), vR (d_116), vR (d_133), vR (b152), sU, sU, sU, sU] [(.ref b422)] (fun _ k => st454.trans k) ?_
    refine gs m T454 130 #[vI (p0), vI (p1), vJ (p2), sS, vJ (p3), sS, vJ (p4), sS, vI ((2 : Int32)), vI (kq), vR (d_101), vR (d_116), vR (d_133), vR (b152), vR (b422), sU, sU, sU] [] (fun _ k => XS.astore X454.here hx rfl (hb hby at_128) rfl rfl (l' := #[vI (p0), vI (p1), vJ (p2), sS, vJ (p3), sS, vJ (p4), sS, vI ((2 : Int32)), vI (kq), vR (d_101), vR (d_116), vR (d_133), vR (b152), vR (b422), sU, sU, sU]) rfl k) ?_
    rcases own_kle (n := (2 : Int32)) (m := 2) hk1 rfl (by decide) with hgt | ⟨j, hj, hkj⟩
    · skip
      refine gs m T454 132 #[vI (p0), vI (p1), vJ (p2), sS, vJ (p3), sS, vJ (p4), sS, vI ((2 : Int32)), vI (kq), vR (d_101), vR (d_116), vR (d_133), vR (b152), vR (b422), sU, sU, sU] [(.ref b422)] (fun _ k => XS.aload X454.here hx rfl (hb hby at_130) rfl rfl k) ?_
      refine gs m T454 134 #[vI (p0), vI (p1), vJ (p2), sS, vJ (p3), sS, vJ (p4), sS, vI ((2 : Int32)), vI (kq), vR (d_101), vR (d_116), vR (d_133), vR (b152), vR (b422), sU, sU, sU] [(.int kq), (.ref b422)] (fun _ k => XS.iload X454.here hx rfl (hb hby at_132) rfl  k) ?_
      obtain ⟨cq487, kq487, q487a, q487b, q487c⟩ := isOf hZ rfl P454_0
      obtain ⟨_, _, ⟨T487, L487, k487, n487⟩, -, X487, ⟨Lc487, hQ487, l487, y487, z487⟩, st487⟩ := X454.virtualBack hx (y := (⟨"com/example/nuthatch/nuthatch/RetrySchedule", "delayAfterFailure", "(I)Ljava/util/Optional;"⟩ : MethodName)) (z := (⟨"com/example/nuthatch/nuthatch/RetrySchedule", "delayAfterFailure", "(I)Ljava/util/Optional;"⟩ : MethodName)) hown (mvT hZ (hwi hw 137 rfl)) (mvT hZ (hwi hw 138 rfl)) (notFace_of_selects (args := #[]) (mvT hZ (hwi hw 140 rfl))) (mvT hZ (hwi hw 140 rfl)) (mvT hZ (hwi hw 139 rfl)) (by decide) (backOf (W := 0) (Q := Qret (some (.ref oe)) T454.heap n0) (own_daf2_gt l Z a0 hw [] b422 kq oe lst_454 d_101 d_116 em T454.heap n0 Z454 P454_0 P454_1 P454_2 P454_3 P454_4 F470 ne453 F472 hgt) hZ (hwi hw 141 rfl) (hwi hw 52 rfl) (by decide) (by decide)) q487a q487c (g := (mkF m 134 #[vI (p0), vI (p1), vJ (p2), sS, vJ (p3), sS, vJ (p4), sS, vI ((2 : Int32)), vI (kq), vR (d_101), vR (d_116), vR (d_133), vR (b152), vR (b422), sU, sU, sU] [(.int kq), (.ref b422)])) rfl (by rw [hml]; rfl) (Steps.refl _) (argsL := [(.int kq)]) (rest := []) (lenOf own_pd25 rfl) rfl (by show 2 * 0 + _ ≤ _; exact Nat.le_of_eq rfl) (hb hby at_134) (fun _ _ => ⟨rfl, rfl, (by dsimp only [Pt.cells, Pt.slots, room_1]; omega), (by dsimp only [Pt.cells, Pt.slots, room_1]; omega)⟩)
      dsimp only [Pt.U, Pt.locs, Pt.cells, Pt.slots] at X487 l487 y487 z487 st487 hQ487
      subst l487 y487 z487
      obtain ⟨rfl, N487q, eh487⟩ := hQ487
      have N487 := Fr.app N454 N487q
      refine gs m T487 137 #[vI (p0), vI (p1), vJ (p2), sS, vJ (p3), sS, vJ (p4), sS, vI ((2 : Int32)), vI (kq), vR (d_101), vR (d_116), vR (d_133), vR (b152), vR (b422), sU, sU, sU] [(.ref oe)] (fun _ k => st487.trans k) ?_
      refine gs m T487 139 #[vI (p0), vI (p1), vJ (p2), sS, vJ (p3), sS, vJ (p4), sS, vI ((2 : Int32)), vI (kq), vR (d_101), vR (d_116), vR (d_133), vR (b152), vR (b422), vR (oe), sU, sU] [] (fun _ k => XS.astore X487.here hx rfl (hb hby at_137) rfl rfl (l' := #[vI (p0), vI (p1), vJ (p2), sS, vJ (p3), sS, vJ (p4), sS, vI ((2 : Int32)), vI (kq), vR (d_101), vR (d_116), vR (d_133), vR (b152), vR (b422), vR (oe), sU, sU]) rfl k) ?_
      refine gs m T487 141 #[vI (p0), vI (p1), vJ (p2), sS, vJ (p3), sS, vJ (p4), sS, vI ((2 : Int32)), vI (kq), vR (d_101), vR (d_116), vR (d_133), vR (b152), vR (b422), vR (oe), sU, sU] [(.ref oe)] (fun _ k => XS.aload X487.here hx rfl (hb hby at_139) rfl rfl k) ?_
      refine gs m T487 142 #[vI (p0), vI (p1), vJ (p2), sS, vJ (p3), sS, vJ (p4), sS, vI ((2 : Int32)), vI (kq), vR (d_101), vR (d_116), vR (d_133), vR (b152), vR (b422), vR (oe), sU, sU] [.null, (.ref oe)] (fun _ k => XS.aconstNull X487.here hx rfl (hb hby at_141) k) ?_
      obtain ⟨cq488, kq488, q488a, q488b, q488c⟩ := isOf hZ eh487 F473
      obtain ⟨_, _, ⟨T488, L488, k488, n488⟩, -, X488, ⟨Lc488, hQ488, l488, y488, z488⟩, st488⟩ := X487.virtualBack hx (y := (⟨"java/util/Optional", "orElse", "(Ljava/lang/Object;)Ljava/lang/Object;"⟩ : MethodName)) (z := (⟨"java/util/Optional", "orElse", "(Ljava/lang/Object;)Ljava/lang/Object;"⟩ : MethodName)) hown (mvT hZ (hwi hw 153 rfl)) (mvT hZ (hwi hw 154 rfl)) (notFace_of_selects (args := #[]) (mvT hZ (hwi hw 156 rfl))) (mvT hZ (hwi hw 156 rfl)) (mvT hZ (hwi hw 155 rfl)) (by decide) (backOf (W := 0) (Q := Qret (some .null) T454.heap n0) (own_oen l Z a0 hw [] oe T454.heap n0 Z454 F474) hZ (hwi hw 157 rfl) (hwi hw 150 rfl) (by decide) (by decide)) q488a q488c (g := (mkF m 142 #[vI (p0), vI (p1), vJ (p2), sS, vJ (p3), sS, vJ (p4), sS, vI ((2 : Int32)), vI (kq), vR (d_101), vR (d_116), vR (d_133), vR (b152), vR (b422), vR (oe), sU, sU] [.null, (.ref oe)])) rfl (by rw [hml]; rfl) (Steps.refl _) (argsL := [.null]) (rest := []) (lenOf own_pd6 rfl) rfl (by show 2 * 0 + _ ≤ _; exact Nat.le_of_eq rfl) (hb hby at_142) (fun _ _ => ⟨rfl, eh487, (by dsimp only [Pt.cells, Pt.slots, room_1]; omega), (by dsimp only [Pt.cells, Pt.slots, room_1]; omega)⟩)
      dsimp only [Pt.U, Pt.locs, Pt.cells, Pt.slots] at X488 l488 y488 z488 st488 hQ488
      subst l488 y488 z488
      obtain ⟨rfl, N488q, eh488⟩ := hQ488
      have N488 := Fr.app N487 N488q
      refine gs m T488 145 #[vI (p0), vI (p1), vJ (p2), sS, vJ (p3), sS, vJ (p4), sS, vI ((2 : Int32)), vI (kq), vR (d_101), vR (d_116), vR (d_133), vR (b152), vR (b422), vR (oe), sU, sU] [.null] (fun _ k => st488.trans k) ?_
      refine gs m T488 148 #[vI (p0), vI (p1), vJ (p2), sS, vJ (p3), sS, vJ (p4), sS, vI ((2 : Int32)), vI (kq), vR (d_101), vR (d_116), vR (d_133), vR (b152), vR (b422), vR (oe), sU, sU] [.null] (fun _ k => X488.checkcastNull hx (g := (mkF m 145 #[vI (p0), vI (p1), vJ (p2), sS, vJ (p3), sS, vJ (p4), sS, vI ((2 : Int32)), vI (kq), vR (d_101), vR (d_116), vR (d_133), vR (b152), vR (b422), vR (oe), sU, sU] [.null])) rfl rfl (hb hby at_145) _ k) ?_
      refine gs m T488 150 #[vI (p0), vI (p1), vJ (p2), sS, vJ (p3), sS, vJ (p4), sS, vI ((2 : Int32)), vI (kq), vR (d_101), vR (d_116), vR (d_133), vR (b152), vR (b422), vR (oe), .val .null, sU] [] (fun _ k => XS.astore X488.here hx rfl (hb hby at_148) rfl rfl (l' := #[vI (p0), vI (p1), vJ (p2), sS, vJ (p3), sS, vJ (p4), sS, vI ((2 : Int32)), vI (kq), vR (d_101), vR (d_116), vR (d_133), vR (b152), vR (b422), vR (oe), .val .null, sU]) rfl k) ?_
      refine gs m T488 151 #[vI (p0), vI (p1), vJ (p2), sS, vJ (p3), sS, vJ (p4), sS, vI ((2 : Int32)), vI (kq), vR (d_101), vR (d_116), vR (d_133), vR (b152), vR (b422), vR (oe), .val .null, sU] [.null] (fun _ k => XS.aconstNull X488.here hx rfl (hb hby at_150) k) ?_
      refine gs m T488 153 #[vI (p0), vI (p1), vJ (p2), sS, vJ (p3), sS, vJ (p4), sS, vI ((2 : Int32)), vI (kq), vR (d_101), vR (d_116), vR (d_133), vR (b152), vR (b422), vR (oe), .val .null, .val .null] [] (fun _ k => XS.astore X488.here hx rfl (hb hby at_151) rfl rfl (l' := #[vI (p0), vI (p1), vJ (p2), sS, vJ (p3), sS, vJ (p4), sS, vI ((2 : Int32)), vI (kq), vR (d_101), vR (d_116), vR (d_133), vR (b152), vR (b422), vR (oe), .val .null, .val .null]) rfl k) ?_
      refine gs m T488 155 #[vI (p0), vI (p1), vJ (p2), sS, vJ (p3), sS, vJ (p4), sS, vI ((2 : Int32)), vI (kq), vR (d_101), vR (d_116), vR (d_133), vR (b152), vR (b422), vR (oe), .val .null, .val .null] [(.int kq)] (fun _ k => XS.iload X488.here hx rfl (hb hby at_153) rfl  k) ?_
      refine gs m T488 157 #[vI (p0), vI (p1), vJ (p2), sS, vJ (p3), sS, vJ (p4), sS, vI ((2 : Int32)), vI (kq), vR (d_101), vR (d_116), vR (d_133), vR (b152), vR (b422), vR (oe), .val .null, .val .null] [(.int (2 : Int32)), (.int kq)] (fun _ k => XS.iload X488.here hx rfl (hb hby at_155) rfl  k) ?_
      refine gs m T488 190 #[vI (p0), vI (p1), vJ (p2), sS, vJ (p3), sS, vJ (p4), sS, vI ((2 : Int32)), vI (kq), vR (d_101), vR (d_116), vR (d_133), vR (b152), vR (b422), vR (oe), .val .null, .val .null] [] (fun _ k => XS.icmpYes X488.here hx rfl (pc0 := 157) (pc' := 190) rfl (hb hby at_157) rfl (tlt hgt).2.2.1 (by decide) (by decide) k) ?_
      refine gs m T488 192 #[vI (p0), vI (p1), vJ (p2), sS, vJ (p3), sS, vJ (p4), sS, vI ((2 : Int32)), vI (kq), vR (d_101), vR (d_116), vR (d_133), vR (b152), vR (b422), vR (oe), .val .null, .val .null] [.null] (fun _ k => XS.aload X488.here hx rfl (hb hby at_190) rfl rfl k) ?_
      refine gs m T488 195 #[vI (p0), vI (p1), vJ (p2), sS, vJ (p3), sS, vJ (p4), sS, vI ((2 : Int32)), vI (kq), vR (d_101), vR (d_116), vR (d_133), vR (b152), vR (b422), vR (oe), .val .null, .val .null] [] (fun _ k => XS.ifnonnullNo X488.here hx rfl (hb hby at_192) rfl k) ?_
      refine gs m T488 197 #[vI (p0), vI (p1), vJ (p2), sS, vJ (p3), sS, vJ (p4), sS, vI ((2 : Int32)), vI (kq), vR (d_101), vR (d_116), vR (d_133), vR (b152), vR (b422), vR (oe), .val .null, .val .null] [.null] (fun _ k => XS.aload X488.here hx rfl (hb hby at_195) rfl rfl k) ?_
      refine gs m T488 200 #[vI (p0), vI (p1), vJ (p2), sS, vJ (p3), sS, vJ (p4), sS, vI ((2 : Int32)), vI (kq), vR (d_101), vR (d_116), vR (d_133), vR (b152), vR (b422), vR (oe), .val .null, .val .null] [] (fun _ k => XS.ifnonnullNo X488.here hx rfl (hb hby at_197) rfl k) ?_
      refine gs m T488 201 #[vI (p0), vI (p1), vJ (p2), sS, vJ (p3), sS, vJ (p4), sS, vI ((2 : Int32)), vI (kq), vR (d_101), vR (d_116), vR (d_133), vR (b152), vR (b422), vR (oe), .val .null, .val .null] [(.int (1 : Int32))] (fun _ k => XS.iconst X488.here hx rfl (hb hby at_200) k) ?_
      refine gs m T488 205 #[vI (p0), vI (p1), vJ (p2), sS, vJ (p3), sS, vJ (p4), sS, vI ((2 : Int32)), vI (kq), vR (d_101), vR (d_116), vR (d_133), vR (b152), vR (b422), vR (oe), .val .null, .val .null] [(.int (1 : Int32))] (fun _ k => XS.goto X488.here hx rfl (pc0 := 201) (pc' := 205) rfl (hb hby at_201) (by decide) (by decide) k) ?_
      exact Go.retN X488 hx (t := .boolean) hret hlk (by simp) (hb hby at_205) (⟨rfl, N488⟩) (by omega) (by omega)
    · skip
      have hjc : j = 0 ∨ j = 1 := by omega
      rcases hjc with rfl | rfl
      · skip
        have hkl : kq = (1 : Int32) := Int32.toInt_inj.mp hkj
        subst hkl
        refine gs m T454 132 #[vI (p0), vI (p1), vJ (p2), sS, vJ (p3), sS, vJ (p4), sS, vI ((2 : Int32)), vI ((1 : Int32)), vR (d_101), vR (d_116), vR (d_133), vR (b152), vR (b422), sU, sU, sU] [(.ref b422)] (fun _ k => XS.aload X454.here hx rfl (hb hby at_130) rfl rfl k) ?_
        refine gs m T454 134 #[vI (p0), vI (p1), vJ (p2), sS, vJ (p3), sS, vJ (p4), sS, vI ((2 : Int32)), vI ((1 : Int32)), vR (d_101), vR (d_116), vR (d_133), vR (b152), vR (b422), sU, sU, sU] [(.int (1 : Int32)), (.ref b422)] (fun _ k => XS.iload X454.here hx rfl (hb hby at_132) rfl  k) ?_
        obtain ⟨cq489, kq489, q489a, q489b, q489c⟩ := isOf hZ rfl P454_0
        obtain ⟨_, _, ⟨T489, L489, k489, n489⟩, -, X489, ⟨Lc489, hQ489, l489, y489, z489⟩, st489⟩ := X454.virtualBack hx (y := (⟨"com/example/nuthatch/nuthatch/RetrySchedule", "delayAfterFailure", "(I)Ljava/util/Optional;"⟩ : MethodName)) (z := (⟨"com/example/nuthatch/nuthatch/RetrySchedule", "delayAfterFailure", "(I)Ljava/util/Optional;"⟩ : MethodName)) hown (mvT hZ (hwi hw 137 rfl)) (mvT hZ (hwi hw 138 rfl)) (notFace_of_selects (args := #[]) (mvT hZ (hwi hw 140 rfl))) (mvT hZ (hwi hw 140 rfl)) (mvT hZ (hwi hw 139 rfl)) (by decide) (backOf (W := 0) (Q := fun v h L => ∃ o : Addr, (v = some (.ref o)) ∧ (Fr n0 L) ∧ (Keep T454.heap h []) ∧ (T454.heap.size ≤ o) ∧ (Exa Z h o "java/util/Optional") ∧ (Fld Z h o "java/util/Optional" "value" "Ljava/lang/Object;" (.ref d_101))) (own_daf2_0 l Z a0 hw [] b422 lst_454 d_101 d_116 em T454.heap n0 Z454 P454_0 P454_1 P454_2 P454_3 P454_4 F470 ne453 F475) hZ (hwi hw 141 rfl) (hwi hw 52 rfl) (by decide) (by decide)) q489a q489c (g := (mkF m 134 #[vI (p0), vI (p1), vJ (p2), sS, vJ (p3), sS, vJ (p4), sS, vI ((2 : Int32)), vI ((1 : Int32)), vR (d_101), vR (d_116), vR (d_133), vR (b152), vR (b422), sU, sU, sU] [(.int (1 : Int32)), (.ref b422)])) rfl (by rw [hml]; rfl) (Steps.refl _) (argsL := [(.int (1 : Int32))]) (rest := []) (lenOf own_pd25 rfl) rfl (by show 2 * 0 + _ ≤ _; exact Nat.le_of_eq rfl) (hb hby at_134) (fun _ _ => ⟨rfl, rfl, (by dsimp only [Pt.cells, Pt.slots, room_1]; omega), (by dsimp only [Pt.cells, Pt.slots, room_1]; omega)⟩)
        dsimp only [Pt.U, Pt.locs, Pt.cells, Pt.slots] at X489 l489 y489 z489 st489 hQ489
        subst l489 y489 z489
        obtain ⟨o_489, rfl, N489q, K489, lt489_0, P489_0, P489_1⟩ := hQ489
        have N489 := Fr.app N454 N489q
        have ne490 : el ≠ o_489 := Nat.ne_of_lt (Nat.lt_of_lt_of_le F467.lt lt489_0)
        have ne491 : bz ≠ o_489 := Nat.ne_of_lt (Nat.lt_of_lt_of_le F469.lt lt489_0)
        have ne492 : oe ≠ o_489 := Nat.ne_of_lt (Nat.lt_of_lt_of_le F473.lt lt489_0)
        have ne493 : d_101 ≠ o_489 := Nat.ne_of_lt (Nat.lt_of_lt_of_le F475.lt lt489_0)
        have ne494 : d_116 ≠ o_489 := Nat.ne_of_lt (Nat.lt_of_lt_of_le F477.lt lt489_0)
        have ne495 : d_133 ≠ o_489 := Nat.ne_of_lt (Nat.lt_of_lt_of_le F479.lt lt489_0)
        have ne496 : b422 ≠ o_489 := Nat.ne_of_lt (Nat.lt_of_lt_of_le P454_0.lt lt489_0)
        have ne497 : lst_454 ≠ o_489 := Nat.ne_of_lt (Nat.lt_of_lt_of_le P454_2.lt lt489_0)
        have ge498 : n0 ≤ o_489 := Nat.le_trans Z454 lt489_0
        have Z489 : n0 ≤ T489.heap.size := Nat.le_trans Z454 K489.1
        have F499 := F467.keep K489
        have F500 := F468.keep K489 nin0
        have F501 := F469.keep K489 nin0
        have F502 := own_sta_keep F470 K489 all0
        have F503 := own_sta_keep F472 K489 all0
        have F504 := F473.keep K489
        have F505 := F474.keep K489 nin0
        have F506 := F475.keep K489
        have F507 := F477.keep K489
        have F508 := F479.keep K489
        have F509 := P454_0.keep K489
        have F510 := P454_1.keep K489 nin0
        have F511 := P454_2.keep K489
        have F512 := P454_3.keep K489 nin0
        have F513 := P454_4.keep K489 nin0
        refine gs m T489 137 #[vI (p0), vI (p1), vJ (p2), sS, vJ (p3), sS, vJ (p4), sS, vI ((2 : Int32)), vI ((1 : Int32)), vR (d_101), vR (d_116), vR (d_133), vR (b152), vR (b422), sU, sU, sU] [(.ref o_489)] (fun _ k => st489.trans k) ?_
        refine gs m T489 139 #[vI (p0), vI (p1), vJ (p2), sS, vJ (p3), sS, vJ (p4), sS, vI ((2 : Int32)), vI ((1 : Int32)), vR (d_101), vR (d_116), vR (d_133), vR (b152), vR (b422), vR (o_489), sU, sU] [] (fun _ k => XS.astore X489.here hx rfl (hb hby at_137) rfl rfl (l' := #[vI (p0), vI (p1), vJ (p2), sS, vJ (p3), sS, vJ (p4), sS, vI ((2 : Int32)), vI ((1 : Int32)), vR (d_101), vR (d_116), vR (d_133), vR (b152), vR (b422), vR (o_489), sU, sU]) rfl k) ?_
        refine gs m T489 141 #[vI (p0), vI (p1), vJ (p2), sS, vJ (p3), sS, vJ (p4), sS, vI ((2 : Int32)), vI ((1 : Int32)), vR (d_101), vR (d_116), vR (d_133), vR (b152), vR (b422), vR (o_489), sU, sU] [(.ref o_489)] (fun _ k => XS.aload X489.here hx rfl (hb hby at_139) rfl rfl k) ?_
        refine gs m T489 142 #[vI (p0), vI (p1), vJ (p2), sS, vJ (p3), sS, vJ (p4), sS, vI ((2 : Int32)), vI ((1 : Int32)), vR (d_101), vR (d_116), vR (d_133), vR (b152), vR (b422), vR (o_489), sU, sU] [.null, (.ref o_489)] (fun _ k => XS.aconstNull X489.here hx rfl (hb hby at_141) k) ?_
        obtain ⟨cq514, kq514, q514a, q514b, q514c⟩ := isOf hZ rfl P489_0
        obtain ⟨_, _, ⟨T514, L514, k514, n514⟩, -, X514, ⟨Lc514, hQ514, l514, y514, z514⟩, st514⟩ := X489.virtualBack hx (y := (⟨"java/util/Optional", "orElse", "(Ljava/lang/Object;)Ljava/lang/Object;"⟩ : MethodName)) (z := (⟨"java/util/Optional", "orElse", "(Ljava/lang/Object;)Ljava/lang/Object;"⟩ : MethodName)) hown (mvT hZ (hwi hw 153 rfl)) (mvT hZ (hwi hw 154 rfl)) (notFace_of_selects (args := #[]) (mvT hZ (hwi hw 156 rfl))) (mvT hZ (hwi hw 156 rfl)) (mvT hZ (hwi hw 155 rfl)) (by decide) (backOf (W := 0) (Q := Qret (some (.ref d_101)) T489.heap n0) (own_oel l Z a0 hw [] o_489 d_101 T489.heap n0 Z489 P489_1) hZ (hwi hw 157 rfl) (hwi hw 150 rfl) (by decide) (by decide)) q514a q514c (g := (mkF m 142 #[vI (p0), vI (p1), vJ (p2), sS, vJ (p3), sS, vJ (p4), sS, vI ((2 : Int32)), vI ((1 : Int32)), vR (d_101), vR (d_116), vR (d_133), vR (b152), vR (b422), vR (o_489), sU, sU] [.null, (.ref o_489)])) rfl (by rw [hml]; rfl) (Steps.refl _) (argsL := [.null]) (rest := []) (lenOf own_pd6 rfl) rfl (by show 2 * 0 + _ ≤ _; exact Nat.le_of_eq rfl) (hb hby at_142) (fun _ _ => ⟨rfl, rfl, (by dsimp only [Pt.cells, Pt.slots, room_1]; omega), (by dsimp only [Pt.cells, Pt.slots, room_1]; omega)⟩)
        dsimp only [Pt.U, Pt.locs, Pt.cells, Pt.slots] at X514 l514 y514 z514 st514 hQ514
        subst l514 y514 z514
        obtain ⟨rfl, N514q, eh514⟩ := hQ514
        have N514 := Fr.app N489 N514q
        refine gs m T514 145 #[vI (p0), vI (p1), vJ (p2), sS, vJ (p3), sS, vJ (p4), sS, vI ((2 : Int32)), vI ((1 : Int32)), vR (d_101), vR (d_116), vR (d_133), vR (b152), vR (b422), vR (o_489), sU, sU] [(.ref d_101)] (fun _ k => st514.trans k) ?_
        obtain ⟨T515, X515, e515, st515⟩ := castY X514 hx hZ hown (hwi hw 316 rfl) eh514 (Ins.self F506) (g := (mkF m 145 #[vI (p0), vI (p1), vJ (p2), sS, vJ (p3), sS, vJ (p4), sS, vI ((2 : Int32)), vI ((1 : Int32)), vR (d_101), vR (d_116), vR (d_133), vR (b152), vR (b422), vR (o_489), sU, sU] [(.ref d_101)])) rfl rfl (hb hby at_145)
        refine gs m T515 148 #[vI (p0), vI (p1), vJ (p2), sS, vJ (p3), sS, vJ (p4), sS, vI ((2 : Int32)), vI ((1 : Int32)), vR (d_101), vR (d_116), vR (d_133), vR (b152), vR (b422), vR (o_489), sU, sU] [(.ref d_101)] st515 ?_
        refine gs m T515 150 #[vI (p0), vI (p1), vJ (p2), sS, vJ (p3), sS, vJ (p4), sS, vI ((2 : Int32)), vI ((1 : Int32)), vR (d_101), vR (d_116), vR (d_133), vR (b152), vR (b422), vR (o_489), vR (d_101), sU] [] (fun _ k => XS.astore X515.here hx rfl (hb hby at_148) rfl rfl (l' := #[vI (p0), vI (p1), vJ (p2), sS, vJ (p3), sS, vJ (p4), sS, vI ((2 : Int32)), vI ((1 : Int32)), vR (d_101), vR (d_116), vR (d_133), vR (b152), vR (b422), vR (o_489), vR (d_101), sU]) rfl k) ?_
        refine gs m T515 151 #[vI (p0), vI (p1), vJ (p2), sS, vJ (p3), sS, vJ (p4), sS, vI ((2 : Int32)), vI ((1 : Int32)), vR (d_101), vR (d_116), vR (d_133), vR (b152), vR (b422), vR (o_489), vR (d_101), sU] [.null] (fun _ k => XS.aconstNull X515.here hx rfl (hb hby at_150) k) ?_
        refine gs m T515 153 #[vI (p0), vI (p1), vJ (p2), sS, vJ (p3), sS, vJ (p4), sS, vI ((2 : Int32)), vI ((1 : Int32)), vR (d_101), vR (d_116), vR (d_133), vR (b152), vR (b422), vR (o_489), vR (d_101), .val .null] [] (fun _ k => XS.astore X515.here hx rfl (hb hby at_151) rfl rfl (l' := #[vI (p0), vI (p1), vJ (p2), sS, vJ (p3), sS, vJ (p4), sS, vI ((2 : Int32)), vI ((1 : Int32)), vR (d_101), vR (d_116), vR (d_133), vR (b152), vR (b422), vR (o_489), vR (d_101), .val .null]) rfl k) ?_
        refine gs m T515 155 #[vI (p0), vI (p1), vJ (p2), sS, vJ (p3), sS, vJ (p4), sS, vI ((2 : Int32)), vI ((1 : Int32)), vR (d_101), vR (d_116), vR (d_133), vR (b152), vR (b422), vR (o_489), vR (d_101), .val .null] [(.int (1 : Int32))] (fun _ k => XS.iload X515.here hx rfl (hb hby at_153) rfl  k) ?_
        refine gs m T515 157 #[vI (p0), vI (p1), vJ (p2), sS, vJ (p3), sS, vJ (p4), sS, vI ((2 : Int32)), vI ((1 : Int32)), vR (d_101), vR (d_116), vR (d_133), vR (b152), vR (b422), vR (o_489), vR (d_101), .val .null] [(.int (2 : Int32)), (.int (1 : Int32))] (fun _ k => XS.iload X515.here hx rfl (hb hby at_155) rfl  k) ?_
        refine gs m T515 160 #[vI (p0), vI (p1), vJ (p2), sS, vJ (p3), sS, vJ (p4), sS, vI ((2 : Int32)), vI ((1 : Int32)), vR (d_101), vR (d_116), vR (d_133), vR (b152), vR (b422), vR (o_489), vR (d_101), .val .null] [] (fun _ k => XS.icmpNo X515.here hx rfl (hb hby at_157) rfl (flt (by decide : ¬ ((2 : Int32) < (1 : Int32)))).2.2.1 k) ?_
        refine gs m T515 162 #[vI (p0), vI (p1), vJ (p2), sS, vJ (p3), sS, vJ (p4), sS, vI ((2 : Int32)), vI ((1 : Int32)), vR (d_101), vR (d_116), vR (d_133), vR (b152), vR (b422), vR (o_489), vR (d_101), .val .null] [(.int (1 : Int32))] (fun _ k => XS.iload X515.here hx rfl (hb hby at_160) rfl  k) ?_
        refine gs m T515 163 #[vI (p0), vI (p1), vJ (p2), sS, vJ (p3), sS, vJ (p4), sS, vI ((2 : Int32)), vI ((1 : Int32)), vR (d_101), vR (d_116), vR (d_133), vR (b152), vR (b422), vR (o_489), vR (d_101), .val .null] [(.int (1 : Int32)), (.int (1 : Int32))] (fun _ k => XS.iconst X515.here hx rfl (hb hby at_162) k) ?_
        refine gs m T515 166 #[vI (p0), vI (p1), vJ (p2), sS, vJ (p3), sS, vJ (p4), sS, vI ((2 : Int32)), vI ((1 : Int32)), vR (d_101), vR (d_116), vR (d_133), vR (b152), vR (b422), vR (o_489), vR (d_101), .val .null] [] (fun _ k => XS.icmpNo X515.here hx rfl (hb hby at_163) rfl (teq (by decide : (1 : Int32) = (1 : Int32))).2 k) ?_
        refine gs m T515 168 #[vI (p0), vI (p1), vJ (p2), sS, vJ (p3), sS, vJ (p4), sS, vI ((2 : Int32)), vI ((1 : Int32)), vR (d_101), vR (d_116), vR (d_133), vR (b152), vR (b422), vR (o_489), vR (d_101), .val .null] [(.ref d_101)] (fun _ k => XS.aload X515.here hx rfl (hb hby at_166) rfl rfl k) ?_
        refine gs m T515 170 #[vI (p0), vI (p1), vJ (p2), sS, vJ (p3), sS, vJ (p4), sS, vI ((2 : Int32)), vI ((1 : Int32)), vR (d_101), vR (d_116), vR (d_133), vR (b152), vR (b422), vR (o_489), vR (d_101), vR (d_101)] [] (fun _ k => XS.astore X515.here hx rfl (hb hby at_168) rfl rfl (l' := #[vI (p0), vI (p1), vJ (p2), sS, vJ (p3), sS, vJ (p4), sS, vI ((2 : Int32)), vI ((1 : Int32)), vR (d_101), vR (d_116), vR (d_133), vR (b152), vR (b422), vR (o_489), vR (d_101), vR (d_101)]) rfl k) ?_
        refine gs m T515 190 #[vI (p0), vI (p1), vJ (p2), sS, vJ (p3), sS, vJ (p4), sS, vI ((2 : Int32)), vI ((1 : Int32)), vR (d_101), vR (d_116), vR (d_133), vR (b152), vR (b422), vR (o_489), vR (d_101), vR (d_101)] [] (fun _ k => XS.goto X515.here hx rfl (pc0 := 170) (pc' := 190) rfl (hb hby at_170) (by decide) (by decide) k) ?_
        refine gs m T515 192 #[vI (p0), vI (p1), vJ (p2), sS, vJ (p3), sS, vJ (p4), sS, vI ((2 : Int32)), vI ((1 : Int32)), vR (d_101), vR (d_116), vR (d_133), vR (b152), vR (b422), vR (o_489), vR (d_101), vR (d_101)] [(.ref d_101)] (fun _ k => XS.aload X515.here hx rfl (hb hby at_190) rfl rfl k) ?_
        refine gs m T515 206 #[vI (p0), vI (p1), vJ (p2), sS, vJ (p3), sS, vJ (p4), sS, vI ((2 : Int32)), vI ((1 : Int32)), vR (d_101), vR (d_116), vR (d_133), vR (b152), vR (b422), vR (o_489), vR (d_101), vR (d_101)] [] (fun _ k => XS.ifnonnullYes X515.here hx rfl (pc0 := 192) (pc' := 206) rfl (hb hby at_192) rfl (by decide) (by decide) k) ?_
        refine gs m T515 208 #[vI (p0), vI (p1), vJ (p2), sS, vJ (p3), sS, vJ (p4), sS, vI ((2 : Int32)), vI ((1 : Int32)), vR (d_101), vR (d_116), vR (d_133), vR (b152), vR (b422), vR (o_489), vR (d_101), vR (d_101)] [(.ref d_101)] (fun _ k => XS.aload X515.here hx rfl (hb hby at_206) rfl rfl k) ?_
        refine gs m T515 210 #[vI (p0), vI (p1), vJ (p2), sS, vJ (p3), sS, vJ (p4), sS, vI ((2 : Int32)), vI ((1 : Int32)), vR (d_101), vR (d_116), vR (d_133), vR (b152), vR (b422), vR (o_489), vR (d_101), vR (d_101)] [(.ref d_101), (.ref d_101)] (fun _ k => XS.aload X515.here hx rfl (hb hby at_208) rfl rfl k) ?_
        obtain ⟨cq516, kq516, q516a, q516b, q516c⟩ := isOf hZ e515 F506
        obtain ⟨_, _, ⟨T516, L516, k516, n516⟩, -, X516, ⟨Lc516, hQ516, l516, y516, z516⟩, st516⟩ := X515.virtualBack hx (y := (⟨"java/time/Duration", "equals", "(Ljava/lang/Object;)Z"⟩ : MethodName)) (z := (⟨"java/time/Duration", "equals", "(Ljava/lang/Object;)Z"⟩ : MethodName)) hown (mvT hZ (hwi hw 317 rfl)) (mvT hZ (hwi hw 318 rfl)) (notFace_of_selects (args := #[]) (mvT hZ (hwi hw 320 rfl))) (mvT hZ (hwi hw 320 rfl)) (mvT hZ (hwi hw 319 rfl)) (by decide) (backOf (W := 0) (Q := Qret (some (.int (1 : Int32))) T489.heap n0) (own_dueq l Z a0 hw [] d_101 T489.heap n0 Z489 ) hZ (hwi hw 321 rfl) (hwi hw 8 rfl) (by decide) (by decide)) q516a q516c (g := (mkF m 210 #[vI (p0), vI (p1), vJ (p2), sS, vJ (p3), sS, vJ (p4), sS, vI ((2 : Int32)), vI ((1 : Int32)), vR (d_101), vR (d_116), vR (d_133), vR (b152), vR (b422), vR (o_489), vR (d_101), vR (d_101)] [(.ref d_101), (.ref d_101)])) rfl (by rw [hml]; rfl) (Steps.refl _) (argsL := [(.ref d_101)]) (rest := []) (lenOf own_pd26 rfl) rfl (by show 2 * 0 + _ ≤ _; exact Nat.le_of_eq rfl) (hb hby at_210) (fun _ _ => ⟨rfl, e515, (by dsimp only [Pt.cells, Pt.slots, room_1]; omega), (by dsimp only [Pt.cells, Pt.slots, room_1]; omega)⟩)
        dsimp only [Pt.U, Pt.locs, Pt.cells, Pt.slots] at X516 l516 y516 z516 st516 hQ516
        subst l516 y516 z516
        obtain ⟨rfl, N516q, eh516⟩ := hQ516
        have N516 := Fr.app N514 N516q
        refine gs m T516 213 #[vI (p0), vI (p1), vJ (p2), sS, vJ (p3), sS, vJ (p4), sS, vI ((2 : Int32)), vI ((1 : Int32)), vR (d_101), vR (d_116), vR (d_133), vR (b152), vR (b422), vR (o_489), vR (d_101), vR (d_101)] [(.int (1 : Int32))] (fun _ k => st516.trans k) ?_
        exact Go.retN X516 hx (t := .boolean) hret hlk (by simp) (hb hby at_213) (⟨rfl, N516⟩) (by omega) (by omega)
      · skip
        have hkl : kq = (2 : Int32) := Int32.toInt_inj.mp hkj
        subst hkl
        refine gs m T454 132 #[vI (p0), vI (p1), vJ (p2), sS, vJ (p3), sS, vJ (p4), sS, vI ((2 : Int32)), vI ((2 : Int32)), vR (d_101), vR (d_116), vR (d_133), vR (b152), vR (b422), sU, sU, sU] [(.ref b422)] (fun _ k => XS.aload X454.here hx rfl (hb hby at_130) rfl rfl k) ?_
        refine gs m T454 134 #[vI (p0), vI (p1), vJ (p2), sS, vJ (p3), sS, vJ (p4), sS, vI ((2 : Int32)), vI ((2 : Int32)), vR (d_101), vR (d_116), vR (d_133), vR (b152), vR (b422), sU, sU, sU] [(.int (2 : Int32)), (.ref b422)] (fun _ k => XS.iload X454.here hx rfl (hb hby at_132) rfl  k) ?_
        obtain ⟨cq517, kq517, q517a, q517b, q517c⟩ := isOf hZ rfl P454_0
        obtain ⟨_, _, ⟨T517, L517, k517, n517⟩, -, X517, ⟨Lc517, hQ517, l517, y517, z517⟩, st517⟩ := X454.virtualBack hx (y := (⟨"com/example/nuthatch/nuthatch/RetrySchedule", "delayAfterFailure", "(I)Ljava/util/Optional;"⟩ : MethodName)) (z := (⟨"com/example/nuthatch/nuthatch/RetrySchedule", "delayAfterFailure", "(I)Ljava/util/Optional;"⟩ : MethodName)) hown (mvT hZ (hwi hw 137 rfl)) (mvT hZ (hwi hw 138 rfl)) (notFace_of_selects (args := #[]) (mvT hZ (hwi hw 140 rfl))) (mvT hZ (hwi hw 140 rfl)) (mvT hZ (hwi hw 139 rfl)) (by decide) (backOf (W := 0) (Q := fun v h L => ∃ o : Addr, (v = some (.ref o)) ∧ (Fr n0 L) ∧ (Keep T454.heap h []) ∧ (T454.heap.size ≤ o) ∧ (Exa Z h o "java/util/Optional") ∧ (Fld Z h o "java/util/Optional" "value" "Ljava/lang/Object;" (.ref d_116))) (own_daf2_1 l Z a0 hw [] b422 lst_454 d_101 d_116 em T454.heap n0 Z454 P454_0 P454_1 P454_2 P454_3 P454_4 F470 ne453 F477) hZ (hwi hw 141 rfl) (hwi hw 52 rfl) (by decide) (by decide)) q517a q517c (g := (mkF m 134 #[vI (p0), vI (p1), vJ (p2), sS, vJ (p3), sS, vJ (p4), sS, vI ((2 : Int32)), vI ((2 : Int32)), vR (d_101), vR (d_116), vR (d_133), vR (b152), vR (b422), sU, sU, sU] [(.int (2 : Int32)), (.ref b422)])) rfl (by rw [hml]; rfl) (Steps.refl _) (argsL := [(.int (2 : Int32))]) (rest := []) (lenOf own_pd25 rfl) rfl (by show 2 * 0 + _ ≤ _; exact Nat.le_of_eq rfl) (hb hby at_134) (fun _ _ => ⟨rfl, rfl, (by dsimp only [Pt.cells, Pt.slots, room_1]; omega), (by dsimp only [Pt.cells, Pt.slots, room_1]; omega)⟩)
        dsimp only [Pt.U, Pt.locs, Pt.cells, Pt.slots] at X517 l517 y517 z517 st517 hQ517
        subst l517 y517 z517
        obtain ⟨o_517, rfl, N517q, K517, lt517_0, P517_0, P517_1⟩ := hQ517
        have N517 := Fr.app N454 N517q
        have ne518 : el ≠ o_517 := Nat.ne_of_lt (Nat.lt_of_lt_of_le F467.lt lt517_0)
        have ne519 : bz ≠ o_517 := Nat.ne_of_lt (Nat.lt_of_lt_of_le F469.lt lt517_0)
        have ne520 : oe ≠ o_517 := Nat.ne_of_lt (Nat.lt_of_lt_of_le F473.lt lt517_0)
        have ne521 : d_101 ≠ o_517 := Nat.ne_of_lt (Nat.lt_of_lt_of_le F475.lt lt517_0)
        have ne522 : d_116 ≠ o_517 := Nat.ne_of_lt (Nat.lt_of_lt_of_le F477.lt lt517_0)
        have ne523 : d_133 ≠ o_517 := Nat.ne_of_lt (Nat.lt_of_lt_of_le F479.lt lt517_0)
        have ne524 : b422 ≠ o_517 := Nat.ne_of_lt (Nat.lt_of_lt_of_le P454_0.lt lt517_0)
        have ne525 : lst_454 ≠ o_517 := Nat.ne_of_lt (Nat.lt_of_lt_of_le P454_2.lt lt517_0)
        have ge526 : n0 ≤ o_517 := Nat.le_trans Z454 lt517_0
        have Z517 : n0 ≤ T517.heap.size := Nat.le_trans Z454 K517.1
        have F527 := F467.keep K517
        have F528 := F468.keep K517 nin0
        have F529 := F469.keep K517 nin0
        have F530 := own_sta_keep F470 K517 all0
        have F531 := own_sta_keep F472 K517 all0
        have F532 := F473.keep K517
        have F533 := F474.keep K517 nin0
        have F534 := F475.keep K517
        have F535 := F477.keep K517
        have F536 := F479.keep K517
        have F537 := P454_0.keep K517
        have F538 := P454_1.keep K517 nin0
        have F539 := P454_2.keep K517
        have F540 := P454_3.keep K517 nin0
        have F541 := P454_4.keep K517 nin0
        refine gs m T517 137 #[vI (p0), vI (p1), vJ (p2), sS, vJ (p3), sS, vJ (p4), sS, vI ((2 : Int32)), vI ((2 : Int32)), vR (d_101), vR (d_116), vR (d_133), vR (b152), vR (b422), sU, sU, sU] [(.ref o_517)] (fun _ k => st517.trans k) ?_
        refine gs m T517 139 #[vI (p0), vI (p1), vJ (p2), sS, vJ (p3), sS, vJ (p4), sS, vI ((2 : Int32)), vI ((2 : Int32)), vR (d_101), vR (d_116), vR (d_133), vR (b152), vR (b422), vR (o_517), sU, sU] [] (fun _ k => XS.astore X517.here hx rfl (hb hby at_137) rfl rfl (l' := #[vI (p0), vI (p1), vJ (p2), sS, vJ (p3), sS, vJ (p4), sS, vI ((2 : Int32)), vI ((2 : Int32)), vR (d_101), vR (d_116), vR (d_133), vR (b152), vR (b422), vR (o_517), sU, sU]) rfl k) ?_
        refine gs m T517 141 #[vI (p0), vI (p1), vJ (p2), sS, vJ (p3), sS, vJ (p4), sS, vI ((2 : Int32)), vI ((2 : Int32)), vR (d_101), vR (d_116), vR (d_133), vR (b152), vR (b422), vR (o_517), sU, sU] [(.ref o_517)] (fun _ k => XS.aload X517.here hx rfl (hb hby at_139) rfl rfl k) ?_
        refine gs m T517 142 #[vI (p0), vI (p1), vJ (p2), sS, vJ (p3), sS, vJ (p4), sS, vI ((2 : Int32)), vI ((2 : Int32)), vR (d_101), vR (d_116), vR (d_133), vR (b152), vR (b422), vR (o_517), sU, sU] [.null, (.ref o_517)] (fun _ k => XS.aconstNull X517.here hx rfl (hb hby at_141) k) ?_
        obtain ⟨cq542, kq542, q542a, q542b, q542c⟩ := isOf hZ rfl P517_0
        obtain ⟨_, _, ⟨T542, L542, k542, n542⟩, -, X542, ⟨Lc542, hQ542, l542, y542, z542⟩, st542⟩ := X517.virtualBack hx (y := (⟨"java/util/Optional", "orElse", "(Ljava/lang/Object;)Ljava/lang/Object;"⟩ : MethodName)) (z := (⟨"java/util/Optional", "orElse", "(Ljava/lang/Object;)Ljava/lang/Object;"⟩ : MethodName)) hown (mvT hZ (hwi hw 153 rfl)) (mvT hZ (hwi hw 154 rfl)) (notFace_of_selects (args := #[]) (mvT hZ (hwi hw 156 rfl))) (mvT hZ (hwi hw 156 rfl)) (mvT hZ (hwi hw 155 rfl)) (by decide) (backOf (W := 0) (Q := Qret (some (.ref d_116)) T517.heap n0) (own_oel l Z a0 hw [] o_517 d_116 T517.heap n0 Z517 P517_1) hZ (hwi hw 157 rfl) (hwi hw 150 rfl) (by decide) (by decide)) q542a q542c (g := (mkF m 142 #[vI (p0), vI (p1), vJ (p2), sS, vJ (p3), sS, vJ (p4), sS, vI ((2 : Int32)), vI ((2 : Int32)), vR (d_101), vR (d_116), vR (d_133), vR (b152), vR (b422), vR (o_517), sU, sU] [.null, (.ref o_517)])) rfl (by rw [hml]; rfl) (Steps.refl _) (argsL := [.null]) (rest := []) (lenOf own_pd6 rfl) rfl (by show 2 * 0 + _ ≤ _; exact Nat.le_of_eq rfl) (hb hby at_142) (fun _ _ => ⟨rfl, rfl, (by dsimp only [Pt.cells, Pt.slots, room_1]; omega), (by dsimp only [Pt.cells, Pt.slots, room_1]; omega)⟩)
        dsimp only [Pt.U, Pt.locs, Pt.cells, Pt.slots] at X542 l542 y542 z542 st542 hQ542
        subst l542 y542 z542
        obtain ⟨rfl, N542q, eh542⟩ := hQ542
        have N542 := Fr.app N517 N542q
        refine gs m T542 145 #[vI (p0), vI (p1), vJ (p2), sS, vJ (p3), sS, vJ (p4), sS, vI ((2 : Int32)), vI ((2 : Int32)), vR (d_101), vR (d_116), vR (d_133), vR (b152), vR (b422), vR (o_517), sU, sU] [(.ref d_116)] (fun _ k => st542.trans k) ?_
        obtain ⟨T543, X543, e543, st543⟩ := castY X542 hx hZ hown (hwi hw 316 rfl) eh542 (Ins.self F535) (g := (mkF m 145 #[vI (p0), vI (p1), vJ (p2), sS, vJ (p3), sS, vJ (p4), sS, vI ((2 : Int32)), vI ((2 : Int32)), vR (d_101), vR (d_116), vR (d_133), vR (b152), vR (b422), vR (o_517), sU, sU] [(.ref d_116)])) rfl rfl (hb hby at_145)
        refine gs m T543 148 #[vI (p0), vI (p1), vJ (p2), sS, vJ (p3), sS, vJ (p4), sS, vI ((2 : Int32)), vI ((2 : Int32)), vR (d_101), vR (d_116), vR (d_133), vR (b152), vR (b422), vR (o_517), sU, sU] [(.ref d_116)] st543 ?_
        refine gs m T543 150 #[vI (p0), vI (p1), vJ (p2), sS, vJ (p3), sS, vJ (p4), sS, vI ((2 : Int32)), vI ((2 : Int32)), vR (d_101), vR (d_116), vR (d_133), vR (b152), vR (b422), vR (o_517), vR (d_116), sU] [] (fun _ k => XS.astore X543.here hx rfl (hb hby at_148) rfl rfl (l' := #[vI (p0), vI (p1), vJ (p2), sS, vJ (p3), sS, vJ (p4), sS, vI ((2 : Int32)), vI ((2 : Int32)), vR (d_101), vR (d_116), vR (d_133), vR (b152), vR (b422), vR (o_517), vR (d_116), sU]) rfl k) ?_
        refine gs m T543 151 #[vI (p0), vI (p1), vJ (p2), sS, vJ (p3), sS, vJ (p4), sS, vI ((2 : Int32)), vI ((2 : Int32)), vR (d_101), vR (d_116), vR (d_133), vR (b152), vR (b422), vR (o_517), vR (d_116), sU] [.null] (fun _ k => XS.aconstNull X543.here hx rfl (hb hby at_150) k) ?_
        refine gs m T543 153 #[vI (p0), vI (p1), vJ (p2), sS, vJ (p3), sS, vJ (p4), sS, vI ((2 : Int32)), vI ((2 : Int32)), vR (d_101), vR (d_116), vR (d_133), vR (b152), vR (b422), vR (o_517), vR (d_116), .val .null] [] (fun _ k => XS.astore X543.here hx rfl (hb hby at_151) rfl rfl (l' := #[vI (p0), vI (p1), vJ (p2), sS, vJ (p3), sS, vJ (p4), sS, vI ((2 : Int32)), vI ((2 : Int32)), vR (d_101), vR (d_116), vR (d_133), vR (b152), vR (b422), vR (o_517), vR (d_116), .val .null]) rfl k) ?_
        refine gs m T543 155 #[vI (p0), vI (p1), vJ (p2), sS, vJ (p3), sS, vJ (p4), sS, vI ((2 : Int32)), vI ((2 : Int32)), vR (d_101), vR (d_116), vR (d_133), vR (b152), vR (b422), vR (o_517), vR (d_116), .val .null] [(.int (2 : Int32))] (fun _ k => XS.iload X543.here hx rfl (hb hby at_153) rfl  k) ?_
        refine gs m T543 157 #[vI (p0), vI (p1), vJ (p2), sS, vJ (p3), sS, vJ (p4), sS, vI ((2 : Int32)), vI ((2 : Int32)), vR (d_101), vR (d_116), vR (d_133), vR (b152), vR (b422), vR (o_517), vR (d_116), .val .null] [(.int (2 : Int32)), (.int (2 : Int32))] (fun _ k => XS.iload X543.here hx rfl (hb hby at_155) rfl  k) ?_
        refine gs m T543 160 #[vI (p0), vI (p1), vJ (p2), sS, vJ (p3), sS, vJ (p4), sS, vI ((2 : Int32)), vI ((2 : Int32)), vR (d_101), vR (d_116), vR (d_133), vR (b152), vR (b422), vR (o_517), vR (d_116), .val .null] [] (fun _ k => XS.icmpNo X543.here hx rfl (hb hby at_157) rfl (flt (by decide : ¬ ((2 : Int32) < (2 : Int32)))).2.2.1 k) ?_
        refine gs m T543 162 #[vI (p0), vI (p1), vJ (p2), sS, vJ (p3), sS, vJ (p4), sS, vI ((2 : Int32)), vI ((2 : Int32)), vR (d_101), vR (d_116), vR (d_133), vR (b152), vR (b422), vR (o_517), vR (d_116), .val .null] [(.int (2 : Int32))] (fun _ k => XS.iload X543.here hx rfl (hb hby at_160) rfl  k) ?_
        refine gs m T543 163 #[vI (p0), vI (p1), vJ (p2), sS, vJ (p3), sS, vJ (p4), sS, vI ((2 : Int32)), vI ((2 : Int32)), vR (d_101), vR (d_116), vR (d_133), vR (b152), vR (b422), vR (o_517), vR (d_116), .val .null] [(.int (1 : Int32)), (.int (2 : Int32))] (fun _ k => XS.iconst X543.here hx rfl (hb hby at_162) k) ?_
        refine gs m T543 173 #[vI (p0), vI (p1), vJ (p2), sS, vJ (p3), sS, vJ (p4), sS, vI ((2 : Int32)), vI ((2 : Int32)), vR (d_101), vR (d_116), vR (d_133), vR (b152), vR (b422), vR (o_517), vR (d_116), .val .null] [] (fun _ k => XS.icmpYes X543.here hx rfl (pc0 := 163) (pc' := 173) rfl (hb hby at_163) rfl (feq (by decide : ¬ ((2 : Int32) = (1 : Int32)))).2 (by decide) (by decide) k) ?_
        refine gs m T543 175 #[vI (p0), vI (p1), vJ (p2), sS, vJ (p3), sS, vJ (p4), sS, vI ((2 : Int32)), vI ((2 : Int32)), vR (d_101), vR (d_116), vR (d_133), vR (b152), vR (b422), vR (o_517), vR (d_116), .val .null] [(.int (2 : Int32))] (fun _ k => XS.iload X543.here hx rfl (hb hby at_173) rfl  k) ?_
        refine gs m T543 176 #[vI (p0), vI (p1), vJ (p2), sS, vJ (p3), sS, vJ (p4), sS, vI ((2 : Int32)), vI ((2 : Int32)), vR (d_101), vR (d_116), vR (d_133), vR (b152), vR (b422), vR (o_517), vR (d_116), .val .null] [(.int (2 : Int32)), (.int (2 : Int32))] (fun _ k => XS.iconst X543.here hx rfl (hb hby at_175) k) ?_
        refine gs m T543 179 #[vI (p0), vI (p1), vJ (p2), sS, vJ (p3), sS, vJ (p4), sS, vI ((2 : Int32)), vI ((2 : Int32)), vR (d_101), vR (d_116), vR (d_133), vR (b152), vR (b422), vR (o_517), vR (d_116), .val .null] [] (fun _ k => XS.icmpNo X543.here hx rfl (hb hby at_176) rfl (teq (by decide : (2 : Int32) = (2 : Int32))).2 k) ?_
        refine gs m T543 181 #[vI (p0), vI (p1), vJ (p2), sS, vJ (p3), sS, vJ (p4), sS, vI ((2 : Int32)), vI ((2 : Int32)), vR (d_101), vR (d_116), vR (d_133), vR (b152), vR (b422), vR (o_517), vR (d_116), .val .null] [(.ref d_116)] (fun _ k => XS.aload X543.here hx rfl (hb hby at_179) rfl rfl k) ?_
        refine gs m T543 183 #[vI (p0), vI (p1), vJ (p2), sS, vJ (p3), sS, vJ (p4), sS, vI ((2 : Int32)), vI ((2 : Int32)), vR (d_101), vR (d_116), vR (d_133), vR (b152), vR (b422), vR (o_517), vR (d_116), vR (d_116)] [] (fun _ k => XS.astore X543.here hx rfl (hb hby at_181) rfl rfl (l' := #[vI (p0), vI (p1), vJ (p2), sS, vJ (p3), sS, vJ (p4), sS, vI ((2 : Int32)), vI ((2 : Int32)), vR (d_101), vR (d_116), vR (d_133), vR (b152), vR (b422), vR (o_517), vR (d_116), vR (d_116)]) rfl k) ?_
        refine gs m T543 190 #[vI (p0), vI (p1), vJ (p2), sS, vJ (p3), sS, vJ (p4), sS, vI ((2 : Int32)), vI ((2 : Int32)), vR (d_101), vR (d_116), vR (d_133), vR (b152), vR (b422), vR (o_517), vR (d_116), vR (d_116)] [] (fun _ k => XS.goto X543.here hx rfl (pc0 := 183) (pc' := 190) rfl (hb hby at_183) (by decide) (by decide) k) ?_
        refine gs m T543 192 #[vI (p0), vI (p1), vJ (p2), sS, vJ (p3), sS, vJ (p4), sS, vI ((2 : Int32)), vI ((2 : Int32)), vR (d_101), vR (d_116), vR (d_133), vR (b152), vR (b422), vR (o_517), vR (d_116), vR (d_116)] [(.ref d_116)] (fun _ k => XS.aload X543.here hx rfl (hb hby at_190) rfl rfl k) ?_
        refine gs m T543 206 #[vI (p0), vI (p1), vJ (p2), sS, vJ (p3), sS, vJ (p4), sS, vI ((2 : Int32)), vI ((2 : Int32)), vR (d_101), vR (d_116), vR (d_133), vR (b152), vR (b422), vR (o_517), vR (d_116), vR (d_116)] [] (fun _ k => XS.ifnonnullYes X543.here hx rfl (pc0 := 192) (pc' := 206) rfl (hb hby at_192) rfl (by decide) (by decide) k) ?_
        refine gs m T543 208 #[vI (p0), vI (p1), vJ (p2), sS, vJ (p3), sS, vJ (p4), sS, vI ((2 : Int32)), vI ((2 : Int32)), vR (d_101), vR (d_116), vR (d_133), vR (b152), vR (b422), vR (o_517), vR (d_116), vR (d_116)] [(.ref d_116)] (fun _ k => XS.aload X543.here hx rfl (hb hby at_206) rfl rfl k) ?_
        refine gs m T543 210 #[vI (p0), vI (p1), vJ (p2), sS, vJ (p3), sS, vJ (p4), sS, vI ((2 : Int32)), vI ((2 : Int32)), vR (d_101), vR (d_116), vR (d_133), vR (b152), vR (b422), vR (o_517), vR (d_116), vR (d_116)] [(.ref d_116), (.ref d_116)] (fun _ k => XS.aload X543.here hx rfl (hb hby at_208) rfl rfl k) ?_
        obtain ⟨cq544, kq544, q544a, q544b, q544c⟩ := isOf hZ e543 F535
        obtain ⟨_, _, ⟨T544, L544, k544, n544⟩, -, X544, ⟨Lc544, hQ544, l544, y544, z544⟩, st544⟩ := X543.virtualBack hx (y := (⟨"java/time/Duration", "equals", "(Ljava/lang/Object;)Z"⟩ : MethodName)) (z := (⟨"java/time/Duration", "equals", "(Ljava/lang/Object;)Z"⟩ : MethodName)) hown (mvT hZ (hwi hw 317 rfl)) (mvT hZ (hwi hw 318 rfl)) (notFace_of_selects (args := #[]) (mvT hZ (hwi hw 320 rfl))) (mvT hZ (hwi hw 320 rfl)) (mvT hZ (hwi hw 319 rfl)) (by decide) (backOf (W := 0) (Q := Qret (some (.int (1 : Int32))) T517.heap n0) (own_dueq l Z a0 hw [] d_116 T517.heap n0 Z517 ) hZ (hwi hw 321 rfl) (hwi hw 8 rfl) (by decide) (by decide)) q544a q544c (g := (mkF m 210 #[vI (p0), vI (p1), vJ (p2), sS, vJ (p3), sS, vJ (p4), sS, vI ((2 : Int32)), vI ((2 : Int32)), vR (d_101), vR (d_116), vR (d_133), vR (b152), vR (b422), vR (o_517), vR (d_116), vR (d_116)] [(.ref d_116), (.ref d_116)])) rfl (by rw [hml]; rfl) (Steps.refl _) (argsL := [(.ref d_116)]) (rest := []) (lenOf own_pd26 rfl) rfl (by show 2 * 0 + _ ≤ _; exact Nat.le_of_eq rfl) (hb hby at_210) (fun _ _ => ⟨rfl, e543, (by dsimp only [Pt.cells, Pt.slots, room_1]; omega), (by dsimp only [Pt.cells, Pt.slots, room_1]; omega)⟩)
        dsimp only [Pt.U, Pt.locs, Pt.cells, Pt.slots] at X544 l544 y544 z544 st544 hQ544
        subst l544 y544 z544
        obtain ⟨rfl, N544q, eh544⟩ := hQ544
        have N544 := Fr.app N542 N544q
        refine gs m T544 213 #[vI (p0), vI (p1), vJ (p2), sS, vJ (p3), sS, vJ (p4), sS, vI ((2 : Int32)), vI ((2 : Int32)), vR (d_101), vR (d_116), vR (d_133), vR (b152), vR (b422), vR (o_517), vR (d_116), vR (d_116)] [(.int (1 : Int32))] (fun _ k => st544.trans k) ?_
        exact Go.retN X544 hx (t := .boolean) hret hlk (by simp) (hb hby at_213) (⟨rfl, N544⟩) (by omega) (by omega)
  · skip
    subst hn
    refine gs m T181 79 #[vI (p0), vI (p1), vJ (p2), sS, vJ (p3), sS, vJ (p4), sS, vI ((3 : Int32)), vI (kq), vR (d_101), vR (d_116), vR (d_133), vR (b152), sU, sU, sU, sU] [(.int (3 : Int32))] (fun _ k => XS.iload X181.here hx rfl (hb hby at_77) rfl  k) ?_
    refine gs m T181 80 #[vI (p0), vI (p1), vJ (p2), sS, vJ (p3), sS, vJ (p4), sS, vI ((3 : Int32)), vI (kq), vR (d_101), vR (d_116), vR (d_133), vR (b152), sU, sU, sU, sU] [(.int (1 : Int32)), (.int (3 : Int32))] (fun _ k => XS.iconst X181.here hx rfl (hb hby at_79) k) ?_
    refine gs m T181 83 #[vI (p0), vI (p1), vJ (p2), sS, vJ (p3), sS, vJ (p4), sS, vI ((3 : Int32)), vI (kq), vR (d_101), vR (d_116), vR (d_133), vR (b152), sU, sU, sU, sU] [] (fun _ k => XS.icmpNo X181.here hx rfl (hb hby at_80) rfl (flt (by decide : ¬ ((3 : Int32) < (1 : Int32)))).1 k) ?_
    refine gs m T181 85 #[vI (p0), vI (p1), vJ (p2), sS, vJ (p3), sS, vJ (p4), sS, vI ((3 : Int32)), vI (kq), vR (d_101), vR (d_116), vR (d_133), vR (b152), sU, sU, sU, sU] [(.ref b152)] (fun _ k => XS.aload X181.here hx rfl (hb hby at_83) rfl rfl k) ?_
    refine gs m T181 87 #[vI (p0), vI (p1), vJ (p2), sS, vJ (p3), sS, vJ (p4), sS, vI ((3 : Int32)), vI (kq), vR (d_101), vR (d_116), vR (d_133), vR (b152), sU, sU, sU, sU] [(.ref d_101), (.ref b152)] (fun _ k => XS.aload X181.here hx rfl (hb hby at_85) rfl rfl k) ?_
    obtain ⟨cq545, kq545, q545a, q545b, q545c⟩ := isOf hZ rfl P181_0
    obtain ⟨_, _, ⟨T545, L545, k545, n545⟩, -, X545, ⟨Lc545, hQ545, l545, y545, z545⟩, st545⟩ := X181.virtualBack hx (y := (⟨"java/util/ArrayList", "add", "(Ljava/lang/Object;)Z"⟩ : MethodName)) (z := (⟨"java/util/ArrayList", "add", "(Ljava/lang/Object;)Z"⟩ : MethodName)) hown (mvT hZ (hwi hw 160 rfl)) (mvT hZ (hwi hw 161 rfl)) (notFace_of_selects (args := #[]) (mvT hZ (hwi hw 163 rfl))) (mvT hZ (hwi hw 163 rfl)) (mvT hZ (hwi hw 162 rfl)) (by decide) (backOf (W := 0) (Q := fun v h L => ∃ b : Addr, ∃ kb : ClassId, (v = some (.int (1 : Int32))) ∧ (Fr n0 L) ∧ (Keep T181.heap h [b152]) ∧ (T181.heap.size ≤ b) ∧ (Exa Z h b152 "java/util/ArrayList") ∧ (Fld Z h b152 "java/util/AbstractList" "modCount" "I" (.int ((0 : Int32) + (1 : Int32)))) ∧ (Fld Z h b152 "java/util/ArrayList" "elementData" "[Ljava/lang/Object;" (.ref b)) ∧ (Fld Z h b152 "java/util/ArrayList" "size" "I" (.int (1 : Int32))) ∧ (Exa Z h b "[Ljava/lang/Object;") ∧ (Arv Z h b kb (.object "java/lang/Object") (10 : Int32) [(.ref d_101), .null, .null, .null, .null, .null, .null, .null, .null, .null] .null) ∧ (Ovr Z kb "java/lang/Object")) (own_add0 l Z a0 hw [] b152 d_101 ea ke (0 : Int32) T181.heap n0 Z181 P181_0 ge152 P181_1 P181_2 P181_3 F182 F183 ne153 F193) hZ (hwi hw 164 rfl) (hwi hw 28 rfl) (by decide) (by decide)) q545a q545c (g := (mkF m 87 #[vI (p0), vI (p1), vJ (p2), sS, vJ (p3), sS, vJ (p4), sS, vI ((3 : Int32)), vI (kq), vR (d_101), vR (d_116), vR (d_133), vR (b152), sU, sU, sU, sU] [(.ref d_101), (.ref b152)])) rfl (by rw [hml]; rfl) (Steps.refl _) (argsL := [(.ref d_101)]) (rest := []) (lenOf own_pd26 rfl) rfl (by show 2 * 0 + _ ≤ _; exact Nat.le_of_eq rfl) (hb hby at_87) (fun _ _ => ⟨rfl, rfl, (by dsimp only [Pt.cells, Pt.slots, room_1]; omega), (by dsimp only [Pt.cells, Pt.slots, room_1]; omega)⟩)
    dsimp only [Pt.U, Pt.locs, Pt.cells, Pt.slots] at X545 l545 y545 z545 st545 hQ545
    subst l545 y545 z545
    obtain ⟨b_545, kb_545, rfl, N545q, K545, lt545_0, P545_0, P545_1, P545_2, P545_3, P545_4, P545_5, R545_0⟩ := hQ545
    have N545 := Fr.app N181 N545q
    have ne546 : ea ≠ b_545 := Nat.ne_of_lt (Nat.lt_of_lt_of_le F183.lt lt545_0)
    have ne547 : el ≠ b_545 := Nat.ne_of_lt (Nat.lt_of_lt_of_le F185.lt lt545_0)
    have ne548 : bz ≠ b_545 := Nat.ne_of_lt (Nat.lt_of_lt_of_le F187.lt lt545_0)
    have ne549 : em ≠ b_545 := Nat.ne_of_lt (Nat.lt_of_lt_of_le F189.lt lt545_0)
    have ne550 : oe ≠ b_545 := Nat.ne_of_lt (Nat.lt_of_lt_of_le F191.lt lt545_0)
    have ne551 : d_101 ≠ b_545 := Nat.ne_of_lt (Nat.lt_of_lt_of_le F193.lt lt545_0)
    have ne552 : d_116 ≠ b_545 := Nat.ne_of_lt (Nat.lt_of_lt_of_le F195.lt lt545_0)
    have ne553 : d_133 ≠ b_545 := Nat.ne_of_lt (Nat.lt_of_lt_of_le F197.lt lt545_0)
    have ne554 : b152 ≠ b_545 := Nat.ne_of_lt (Nat.lt_of_lt_of_le P181_0.lt lt545_0)
    have ge555 : n0 ≤ b_545 := Nat.le_trans Z181 lt545_0
    have Z545 : n0 ≤ T545.heap.size := Nat.le_trans Z181 K545.1
    have F556 := own_sta_keep F182 K545 (allS (own_plain P181_0) all0)
    have F557 := F183.keep K545 (ninS ne153 nin0)
    have F558 := own_sta_keep F184 K545 (allS (own_plain P181_0) all0)
    have F559 := F185.keep K545
    have F560 := F186.keep K545 (ninS ne154 nin0)
    have F561 := F187.keep K545 (ninS ne155 nin0)
    have F562 := own_sta_keep F188 K545 (allS (own_plain P181_0) all0)
    have F563 := F189.keep K545
    have F564 := own_sta_keep F190 K545 (allS (own_plain P181_0) all0)
    have F565 := F191.keep K545
    have F566 := F192.keep K545 (ninS ne157 nin0)
    have F567 := F193.keep K545
    have F568 := F194.keep K545 (ninS ne158 nin0)
    have F569 := F195.keep K545
    have F570 := F196.keep K545 (ninS ne159 nin0)
    have F571 := F197.keep K545
    have F572 := F198.keep K545 (ninS ne160 nin0)
    have F573 := P181_0.keep K545
    refine gs m T545 90 #[vI (p0), vI (p1), vJ (p2), sS, vJ (p3), sS, vJ (p4), sS, vI ((3 : Int32)), vI (kq), vR (d_101), vR (d_116), vR (d_133), vR (b152), sU, sU, sU, sU] [(.int (1 : Int32))] (fun _ k => st545.trans k) ?_
    refine gs m T545 91 #[vI (p0), vI (p1), vJ (p2), sS, vJ (p3), sS, vJ (p4), sS, vI ((3 : Int32)), vI (kq), vR (d_101), vR (d_116), vR (d_133), vR (b152), sU, sU, sU, sU] [] (fun _ k => XS.pop X545.here hx rfl (hb hby at_90) rfl rfl k) ?_
    refine gs m T545 93 #[vI (p0), vI (p1), vJ (p2), sS, vJ (p3), sS, vJ (p4), sS, vI ((3 : Int32)), vI (kq), vR (d_101), vR (d_116), vR (d_133), vR (b152), sU, sU, sU, sU] [(.int (3 : Int32))] (fun _ k => XS.iload X545.here hx rfl (hb hby at_91) rfl  k) ?_
    refine gs m T545 94 #[vI (p0), vI (p1), vJ (p2), sS, vJ (p3), sS, vJ (p4), sS, vI ((3 : Int32)), vI (kq), vR (d_101), vR (d_116), vR (d_133), vR (b152), sU, sU, sU, sU] [(.int (2 : Int32)), (.int (3 : Int32))] (fun _ k => XS.iconst X545.here hx rfl (hb hby at_93) k) ?_
    refine gs m T545 97 #[vI (p0), vI (p1), vJ (p2), sS, vJ (p3), sS, vJ (p4), sS, vI ((3 : Int32)), vI (kq), vR (d_101), vR (d_116), vR (d_133), vR (b152), sU, sU, sU, sU] [] (fun _ k => XS.icmpNo X545.here hx rfl (hb hby at_94) rfl (flt (by decide : ¬ ((3 : Int32) < (2 : Int32)))).1 k) ?_
    refine gs m T545 99 #[vI (p0), vI (p1), vJ (p2), sS, vJ (p3), sS, vJ (p4), sS, vI ((3 : Int32)), vI (kq), vR (d_101), vR (d_116), vR (d_133), vR (b152), sU, sU, sU, sU] [(.ref b152)] (fun _ k => XS.aload X545.here hx rfl (hb hby at_97) rfl rfl k) ?_
    refine gs m T545 101 #[vI (p0), vI (p1), vJ (p2), sS, vJ (p3), sS, vJ (p4), sS, vI ((3 : Int32)), vI (kq), vR (d_101), vR (d_116), vR (d_133), vR (b152), sU, sU, sU, sU] [(.ref d_116), (.ref b152)] (fun _ k => XS.aload X545.here hx rfl (hb hby at_99) rfl rfl k) ?_
    obtain ⟨cq574, kq574, q574a, q574b, q574c⟩ := isOf hZ rfl P545_0
    obtain ⟨_, _, ⟨T574, L574, k574, n574⟩, -, X574, ⟨Lc574, hQ574, l574, y574, z574⟩, st574⟩ := X545.virtualBack hx (y := (⟨"java/util/ArrayList", "add", "(Ljava/lang/Object;)Z"⟩ : MethodName)) (z := (⟨"java/util/ArrayList", "add", "(Ljava/lang/Object;)Z"⟩ : MethodName)) hown (mvT hZ (hwi hw 160 rfl)) (mvT hZ (hwi hw 161 rfl)) (notFace_of_selects (args := #[]) (mvT hZ (hwi hw 163 rfl))) (mvT hZ (hwi hw 163 rfl)) (mvT hZ (hwi hw 162 rfl)) (by decide) (backOf (W := 0) (Q := fun v h L => (v = some (.int (1 : Int32))) ∧ (Fr n0 L) ∧ (Keep T545.heap h [b152, b_545]) ∧ (Exa Z h b152 "java/util/ArrayList") ∧ (Fld Z h b152 "java/util/AbstractList" "modCount" "I" (.int (((0 : Int32) + (1 : Int32)) + (1 : Int32)))) ∧ (Fld Z h b152 "java/util/ArrayList" "elementData" "[Ljava/lang/Object;" (.ref b_545)) ∧ (Fld Z h b152 "java/util/ArrayList" "size" "I" (.int (2 : Int32))) ∧ (Exa Z h b_545 "[Ljava/lang/Object;") ∧ (Arv Z h b_545 kb_545 (.object "java/lang/Object") (10 : Int32) [(.ref d_101), (.ref d_116), .null, .null, .null, .null, .null, .null, .null, .null] .null)) (own_add1 l Z a0 hw [] b152 d_116 b_545 kb_545 ((0 : Int32) + (1 : Int32)) d_101 T545.heap n0 Z545 P545_0 ge152 P545_1 P545_2 P545_3 P545_4 ge555 ne554 P545_5 F569 R545_0) hZ (hwi hw 164 rfl) (hwi hw 28 rfl) (by decide) (by decide)) q574a q574c (g := (mkF m 101 #[vI (p0), vI (p1), vJ (p2), sS, vJ (p3), sS, vJ (p4), sS, vI ((3 : Int32)), vI (kq), vR (d_101), vR (d_116), vR (d_133), vR (b152), sU, sU, sU, sU] [(.ref d_116), (.ref b152)])) rfl (by rw [hml]; rfl) (Steps.refl _) (argsL := [(.ref d_116)]) (rest := []) (lenOf own_pd26 rfl) rfl (by show 2 * 0 + _ ≤ _; exact Nat.le_of_eq rfl) (hb hby at_101) (fun _ _ => ⟨rfl, rfl, (by dsimp only [Pt.cells, Pt.slots, room_1]; omega), (by dsimp only [Pt.cells, Pt.slots, room_1]; omega)⟩)
    dsimp only [Pt.U, Pt.locs, Pt.cells, Pt.slots] at X574 l574 y574 z574 st574 hQ574
    subst l574 y574 z574
    obtain ⟨rfl, N574q, K574, P574_0, P574_1, P574_2, P574_3, P574_4, P574_5⟩ := hQ574
    have N574 := Fr.app N545 N574q
    have Z574 : n0 ≤ T574.heap.size := Nat.le_trans Z545 K574.1
    have F575 := own_sta_keep F556 K574 (allS (own_plain P545_0) (allS (own_plain P545_4) all0))
    have F576 := F557.keep K574 (ninS ne153 (ninS ne546 nin0))
    have F577 := own_sta_keep F558 K574 (allS (own_plain P545_0) (allS (own_plain P545_4) all0))
    have F578 := F559.keep K574
    have F579 := F560.keep K574 (ninS ne154 (ninS ne547 nin0))
    have F580 := F561.keep K574 (ninS ne155 (ninS ne548 nin0))
    have F581 := own_sta_keep F562 K574 (allS (own_plain P545_0) (allS (own_plain P545_4) all0))
    have F582 := F563.keep K574
    have F583 := own_sta_keep F564 K574 (allS (own_plain P545_0) (allS (own_plain P545_4) all0))
    have F584 := F565.keep K574
    have F585 := F566.keep K574 (ninS ne157 (ninS ne550 nin0))
    have F586 := F567.keep K574
    have F587 := F568.keep K574 (ninS ne158 (ninS ne551 nin0))
    have F588 := F569.keep K574
    have F589 := F570.keep K574 (ninS ne159 (ninS ne552 nin0))
    have F590 := F571.keep K574
    have F591 := F572.keep K574 (ninS ne160 (ninS ne553 nin0))
    have F592 := P545_0.keep K574
    have F593 := P545_4.keep K574
    refine gs m T574 104 #[vI (p0), vI (p1), vJ (p2), sS, vJ (p3), sS, vJ (p4), sS, vI ((3 : Int32)), vI (kq), vR (d_101), vR (d_116), vR (d_133), vR (b152), sU, sU, sU, sU] [(.int (1 : Int32))] (fun _ k => st574.trans k) ?_
    refine gs m T574 105 #[vI (p0), vI (p1), vJ (p2), sS, vJ (p3), sS, vJ (p4), sS, vI ((3 : Int32)), vI (kq), vR (d_101), vR (d_116), vR (d_133), vR (b152), sU, sU, sU, sU] [] (fun _ k => XS.pop X574.here hx rfl (hb hby at_104) rfl rfl k) ?_
    refine gs m T574 107 #[vI (p0), vI (p1), vJ (p2), sS, vJ (p3), sS, vJ (p4), sS, vI ((3 : Int32)), vI (kq), vR (d_101), vR (d_116), vR (d_133), vR (b152), sU, sU, sU, sU] [(.int (3 : Int32))] (fun _ k => XS.iload X574.here hx rfl (hb hby at_105) rfl  k) ?_
    refine gs m T574 108 #[vI (p0), vI (p1), vJ (p2), sS, vJ (p3), sS, vJ (p4), sS, vI ((3 : Int32)), vI (kq), vR (d_101), vR (d_116), vR (d_133), vR (b152), sU, sU, sU, sU] [(.int (3 : Int32)), (.int (3 : Int32))] (fun _ k => XS.iconst X574.here hx rfl (hb hby at_107) k) ?_
    refine gs m T574 111 #[vI (p0), vI (p1), vJ (p2), sS, vJ (p3), sS, vJ (p4), sS, vI ((3 : Int32)), vI (kq), vR (d_101), vR (d_116), vR (d_133), vR (b152), sU, sU, sU, sU] [] (fun _ k => XS.icmpNo X574.here hx rfl (hb hby at_108) rfl (flt (by decide : ¬ ((3 : Int32) < (3 : Int32)))).1 k) ?_
    refine gs m T574 113 #[vI (p0), vI (p1), vJ (p2), sS, vJ (p3), sS, vJ (p4), sS, vI ((3 : Int32)), vI (kq), vR (d_101), vR (d_116), vR (d_133), vR (b152), sU, sU, sU, sU] [(.ref b152)] (fun _ k => XS.aload X574.here hx rfl (hb hby at_111) rfl rfl k) ?_
    refine gs m T574 115 #[vI (p0), vI (p1), vJ (p2), sS, vJ (p3), sS, vJ (p4), sS, vI ((3 : Int32)), vI (kq), vR (d_101), vR (d_116), vR (d_133), vR (b152), sU, sU, sU, sU] [(.ref d_133), (.ref b152)] (fun _ k => XS.aload X574.here hx rfl (hb hby at_113) rfl rfl k) ?_
    obtain ⟨cq594, kq594, q594a, q594b, q594c⟩ := isOf hZ rfl P574_0
    obtain ⟨_, _, ⟨T594, L594, k594, n594⟩, -, X594, ⟨Lc594, hQ594, l594, y594, z594⟩, st594⟩ := X574.virtualBack hx (y := (⟨"java/util/ArrayList", "add", "(Ljava/lang/Object;)Z"⟩ : MethodName)) (z := (⟨"java/util/ArrayList", "add", "(Ljava/lang/Object;)Z"⟩ : MethodName)) hown (mvT hZ (hwi hw 160 rfl)) (mvT hZ (hwi hw 161 rfl)) (notFace_of_selects (args := #[]) (mvT hZ (hwi hw 163 rfl))) (mvT hZ (hwi hw 163 rfl)) (mvT hZ (hwi hw 162 rfl)) (by decide) (backOf (W := 0) (Q := fun v h L => (v = some (.int (1 : Int32))) ∧ (Fr n0 L) ∧ (Keep T574.heap h [b152, b_545]) ∧ (Exa Z h b152 "java/util/ArrayList") ∧ (Fld Z h b152 "java/util/AbstractList" "modCount" "I" (.int ((((0 : Int32) + (1 : Int32)) + (1 : Int32)) + (1 : Int32)))) ∧ (Fld Z h b152 "java/util/ArrayList" "elementData" "[Ljava/lang/Object;" (.ref b_545)) ∧ (Fld Z h b152 "java/util/ArrayList" "size" "I" (.int (3 : Int32))) ∧ (Exa Z h b_545 "[Ljava/lang/Object;") ∧ (Arv Z h b_545 kb_545 (.object "java/lang/Object") (10 : Int32) [(.ref d_101), (.ref d_116), (.ref d_133), .null, .null, .null, .null, .null, .null, .null] .null)) (own_add2 l Z a0 hw [] b152 d_133 b_545 kb_545 (((0 : Int32) + (1 : Int32)) + (1 : Int32)) d_101 d_116 T574.heap n0 Z574 P574_0 ge152 P574_1 P574_2 P574_3 P574_4 ge555 ne554 P574_5 F590 R545_0) hZ (hwi hw 164 rfl) (hwi hw 28 rfl) (by decide) (by decide)) q594a q594c (g := (mkF m 115 #[vI (p0), vI (p1), vJ (p2), sS, vJ (p3), sS, vJ (p4), sS, vI ((3 : Int32)), vI (kq), vR (d_101), vR (d_116), vR (d_133), vR (b152), sU, sU, sU, sU] [(.ref d_133), (.ref b152)])) rfl (by rw [hml]; rfl) (Steps.refl _) (argsL := [(.ref d_133)]) (rest := []) (lenOf own_pd26 rfl) rfl (by show 2 * 0 + _ ≤ _; exact Nat.le_of_eq rfl) (hb hby at_115) (fun _ _ => ⟨rfl, rfl, (by dsimp only [Pt.cells, Pt.slots, room_1]; omega), (by dsimp only [Pt.cells, Pt.slots, room_1]; omega)⟩)
    dsimp only [Pt.U, Pt.locs, Pt.cells, Pt.slots] at X594 l594 y594 z594 st594 hQ594
    subst l594 y594 z594
    obtain ⟨rfl, N594q, K594, P594_0, P594_1, P594_2, P594_3, P594_4, P594_5⟩ := hQ594
    have N594 := Fr.app N574 N594q
    have Z594 : n0 ≤ T594.heap.size := Nat.le_trans Z574 K594.1
    have F595 := own_sta_keep F575 K594 (allS (own_plain P574_0) (allS (own_plain P574_4) all0))
    have F596 := F576.keep K594 (ninS ne153 (ninS ne546 nin0))
    have F597 := own_sta_keep F577 K594 (allS (own_plain P574_0) (allS (own_plain P574_4) all0))
    have F598 := F578.keep K594
    have F599 := F579.keep K594 (ninS ne154 (ninS ne547 nin0))
    have F600 := F580.keep K594 (ninS ne155 (ninS ne548 nin0))
    have F601 := own_sta_keep F581 K594 (allS (own_plain P574_0) (allS (own_plain P574_4) all0))
    have F602 := F582.keep K594
    have F603 := own_sta_keep F583 K594 (allS (own_plain P574_0) (allS (own_plain P574_4) all0))
    have F604 := F584.keep K594
    have F605 := F585.keep K594 (ninS ne157 (ninS ne550 nin0))
    have F606 := F586.keep K594
    have F607 := F587.keep K594 (ninS ne158 (ninS ne551 nin0))
    have F608 := F588.keep K594
    have F609 := F589.keep K594 (ninS ne159 (ninS ne552 nin0))
    have F610 := F590.keep K594
    have F611 := F591.keep K594 (ninS ne160 (ninS ne553 nin0))
    have F612 := P574_0.keep K594
    have F613 := P574_4.keep K594
    refine gs m T594 118 #[vI (p0), vI (p1), vJ (p2), sS, vJ (p3), sS, vJ (p4), sS, vI ((3 : Int32)), vI (kq), vR (d_101), vR (d_116), vR (d_133), vR (b152), sU, sU, sU, sU] [(.int (1 : Int32))] (fun _ k => st594.trans k) ?_
    refine gs m T594 119 #[vI (p0), vI (p1), vJ (p2), sS, vJ (p3), sS, vJ (p4), sS, vI ((3 : Int32)), vI (kq), vR (d_101), vR (d_116), vR (d_133), vR (b152), sU, sU, sU, sU] [] (fun _ k => XS.pop X594.here hx rfl (hb hby at_118) rfl rfl k) ?_
    obtain ⟨T614, h614, X614, e614, E614, A614, D614, -, st614⟩ := newO X594 hx hZ hown (hwi hw 50 rfl) (hwi hw 51 rfl) (hwi hw 52 rfl) rfl (g := (mkF m 119 #[vI (p0), vI (p1), vJ (p2), sS, vJ (p3), sS, vJ (p4), sS, vI ((3 : Int32)), vI (kq), vR (d_101), vR (d_116), vR (d_133), vR (b152), sU, sU, sU, sU] [])) rfl (hb hby at_119) (by dsimp only [Pt.cells, Pt.slots, room_1]; omega) (by dsimp only [Pt.cells, Pt.slots, room_1]; omega)
    obtain ⟨b614, g614⟩ : ∃ z, z = T594.heap.size := ⟨_, rfl⟩
    rw [← g614] at A614 D614 st614
    have ne615 : el ≠ b614 := by have q := F598.lt; intro r; rw [r, g614] at q; exact Nat.lt_irrefl _ q
    have ne616 : bz ≠ b614 := by have q := F600.lt; intro r; rw [r, g614] at q; exact Nat.lt_irrefl _ q
    have ne617 : em ≠ b614 := by have q := F602.lt; intro r; rw [r, g614] at q; exact Nat.lt_irrefl _ q
    have ne618 : oe ≠ b614 := by have q := F604.lt; intro r; rw [r, g614] at q; exact Nat.lt_irrefl _ q
    have ne619 : d_101 ≠ b614 := by have q := F606.lt; intro r; rw [r, g614] at q; exact Nat.lt_irrefl _ q
    have ne620 : d_116 ≠ b614 := by have q := F608.lt; intro r; rw [r, g614] at q; exact Nat.lt_irrefl _ q
    have ne621 : d_133 ≠ b614 := by have q := F610.lt; intro r; rw [r, g614] at q; exact Nat.lt_irrefl _ q
    have ne622 : b152 ≠ b614 := by have q := P594_0.lt; intro r; rw [r, g614] at q; exact Nat.lt_irrefl _ q
    have ne623 : b_545 ≠ b614 := by have q := P594_4.lt; intro r; rw [r, g614] at q; exact Nat.lt_irrefl _ q
    have ge614 : n0 ≤ b614 := Nat.le_trans Z594 (Nat.le_of_eq g614.symm)
    have Z614 : n0 ≤ h614.size := Nat.le_trans Z594 E614.1
    have F624 := F597.ext E614
    have F625 := F598.ext E614
    have F626 := F599.ext E614
    have F627 := F600.ext E614
    have F628 := F601.ext E614
    have F629 := F602.ext E614
    have F630 := F603.ext E614
    have F631 := F604.ext E614
    have F632 := F605.ext E614
    have F633 := F606.ext E614
    have F634 := F607.ext E614
    have F635 := F608.ext E614
    have F636 := F609.ext E614
    have F637 := F610.ext E614
    have F638 := F611.ext E614
    have F639 := P594_0.ext E614
    have F640 := P594_4.ext E614
    have F641 := P594_2.ext E614
    have F642 := P594_3.ext E614
    have F643 := P594_5.ext E614
    have F644 : Fld Z h614 b614 "com/example/nuthatch/nuthatch/RetrySchedule" "delays" "Ljava/util/List;" .null := D614 (Or.inr (hwi hw 136 rfl)) (ty := (.object "java/util/List")) (by decide)
    refine gs m T614 122 #[vI (p0), vI (p1), vJ (p2), sS, vJ (p3), sS, vJ (p4), sS, vI ((3 : Int32)), vI (kq), vR (d_101), vR (d_116), vR (d_133), vR (b152), sU, sU, sU, sU] [(.ref b614)] st614 ?_
    refine gs m T614 123 #[vI (p0), vI (p1), vJ (p2), sS, vJ (p3), sS, vJ (p4), sS, vI ((3 : Int32)), vI (kq), vR (d_101), vR (d_116), vR (d_133), vR (b152), sU, sU, sU, sU] [(.ref b614), (.ref b614)] (fun _ k => XS.dup X614.here hx rfl (hb hby at_122) rfl rfl k) ?_
    refine gs m T614 125 #[vI (p0), vI (p1), vJ (p2), sS, vJ (p3), sS, vJ (p4), sS, vI ((3 : Int32)), vI (kq), vR (d_101), vR (d_116), vR (d_133), vR (b152), sU, sU, sU, sU] [(.ref b152), (.ref b614), (.ref b614)] (fun _ k => XS.aload X614.here hx rfl (hb hby at_123) rfl rfl k) ?_
    obtain ⟨_, _, ⟨T645, L645, k645, n645⟩, -, X645, ⟨Lc645, hQ645, l645, y645, z645⟩, st645⟩ := X614.specialBack hx (y := (⟨"com/example/nuthatch/nuthatch/RetrySchedule", "<init>", "(Ljava/util/List;)V"⟩ : MethodName)) rfl hown (mvT hZ (hwi hw 53 rfl)) (mvT hZ (hwi hw 54 rfl)) (mvT hZ (hwi hw 55 rfl)) (by decide) (backOf (W := 1) (Q := fun v h L => ∃ lst : Addr, ∃ b2 : Addr, ∃ k2 : ClassId, (v = none) ∧ (Fr n0 L) ∧ (Keep h614 h [b614]) ∧ (h614.size ≤ lst) ∧ (h614.size ≤ b2) ∧ (Exa Z h b614 "com/example/nuthatch/nuthatch/RetrySchedule") ∧ (Fld Z h b614 "com/example/nuthatch/nuthatch/RetrySchedule" "delays" "Ljava/util/List;" (.ref lst)) ∧ (Exa Z h lst "java/util/ImmutableCollections$ListN") ∧ (Fld Z h lst "java/util/ImmutableCollections$ListN" "elements" "[Ljava/lang/Object;" (.ref b2)) ∧ (Arv Z h b2 k2 (.object "java/lang/Object") (3 : Int32) [(.ref d_101), (.ref d_116), (.ref d_133)] .null)) (own_rsi3 l Z a0 hw [] b614 b152 .null b_545 kb_545 d_101 d_116 d_133 (p2 &&& (9223372036854775807 : Int64)) (p3 &&& (9223372036854775807 : Int64)) (p4 &&& (9223372036854775807 : Int64)) h614 n0 Z614 A614 ge614 F644 F639 F641 F642 F640 F643 F633 F634 F635 F636 F637 F638 ne622 ne623 ne619 ne620 ne621 R545_0 MM (own_nn p2) (own_nn p3) (own_nn p4)) hZ (hwi hw 55 rfl) (hwi hw 52 rfl) (by decide) (by decide)) (g := (mkF m 125 #[vI (p0), vI (p1), vJ (p2), sS, vJ (p3), sS, vJ (p4), sS, vI ((3 : Int32)), vI (kq), vR (d_101), vR (d_116), vR (d_133), vR (b152), sU, sU, sU, sU] [(.ref b152), (.ref b614), (.ref b614)])) rfl (by rw [hml]; rfl) (Steps.refl _) (a := b614) (argsL := [(.ref b152)]) (rest := [(.ref b614)]) (lenOf own_pd24 rfl) rfl (by show 2 * 0 + _ ≤ _; exact Nat.le_of_eq rfl) (hb hby at_125) (fun _ _ => ⟨rfl, e614, (by dsimp only [Pt.cells, Pt.slots, room_1]; omega), (by dsimp only [Pt.cells, Pt.slots, room_1]; omega)⟩)
    dsimp only [Pt.U, Pt.locs, Pt.cells, Pt.slots] at X645 l645 y645 z645 st645 hQ645
    subst l645 y645 z645
    obtain ⟨lst_645, b2_645, k2_645, rfl, N645q, K645, lt645_0, lt645_1, P645_0, P645_1, P645_2, P645_3, P645_4⟩ := hQ645
    have N645 := Fr.app N594 N645q
    have ne646 : el ≠ lst_645 := Nat.ne_of_lt (Nat.lt_of_lt_of_le F625.lt lt645_0)
    have ne647 : bz ≠ lst_645 := Nat.ne_of_lt (Nat.lt_of_lt_of_le F627.lt lt645_0)
    have ne648 : em ≠ lst_645 := Nat.ne_of_lt (Nat.lt_of_lt_of_le F629.lt lt645_0)
    have ne649 : oe ≠ lst_645 := Nat.ne_of_lt (Nat.lt_of_lt_of_le F631.lt lt645_0)
    have ne650 : d_101 ≠ lst_645 := Nat.ne_of_lt (Nat.lt_of_lt_of_le F633.lt lt645_0)
    have ne651 : d_116 ≠ lst_645 := Nat.ne_of_lt (Nat.lt_of_lt_of_le F635.lt lt645_0)
    have ne652 : d_133 ≠ lst_645 := Nat.ne_of_lt (Nat.lt_of_lt_of_le F637.lt lt645_0)
    have ne653 : b152 ≠ lst_645 := Nat.ne_of_lt (Nat.lt_of_lt_of_le F639.lt lt645_0)
    have ne654 : b_545 ≠ lst_645 := Nat.ne_of_lt (Nat.lt_of_lt_of_le F640.lt lt645_0)
    have ne655 : b614 ≠ lst_645 := Nat.ne_of_lt (Nat.lt_of_lt_of_le A614.lt lt645_0)
    have ge656 : n0 ≤ lst_645 := Nat.le_trans Z614 lt645_0
    have ne657 : el ≠ b2_645 := Nat.ne_of_lt (Nat.lt_of_lt_of_le F625.lt lt645_1)
    have ne658 : bz ≠ b2_645 := Nat.ne_of_lt (Nat.lt_of_lt_of_le F627.lt lt645_1)
    have ne659 : em ≠ b2_645 := Nat.ne_of_lt (Nat.lt_of_lt_of_le F629.lt lt645_1)
    have ne660 : oe ≠ b2_645 := Nat.ne_of_lt (Nat.lt_of_lt_of_le F631.lt lt645_1)
    have ne661 : d_101 ≠ b2_645 := Nat.ne_of_lt (Nat.lt_of_lt_of_le F633.lt lt645_1)
    have ne662 : d_116 ≠ b2_645 := Nat.ne_of_lt (Nat.lt_of_lt_of_le F635.lt lt645_1)
    have ne663 : d_133 ≠ b2_645 := Nat.ne_of_lt (Nat.lt_of_lt_of_le F637.lt lt645_1)
    have ne664 : b152 ≠ b2_645 := Nat.ne_of_lt (Nat.lt_of_lt_of_le F639.lt lt645_1)
    have ne665 : b_545 ≠ b2_645 := Nat.ne_of_lt (Nat.lt_of_lt_of_le F640.lt lt645_1)
    have ne666 : b614 ≠ b2_645 := Nat.ne_of_lt (Nat.lt_of_lt_of_le A614.lt lt645_1)
    have ge667 : n0 ≤ b2_645 := Nat.le_trans Z614 lt645_1
    have Z645 : n0 ≤ T645.heap.size := Nat.le_trans Z614 K645.1
    have F668 := own_sta_keep F624 K645 (allS (own_plain A614) all0)
    have F669 := F625.keep K645
    have F670 := F626.keep K645 (ninS ne615 nin0)
    have F671 := F627.keep K645 (ninS ne616 nin0)
    have F672 := own_sta_keep F628 K645 (allS (own_plain A614) all0)
    have F673 := F629.keep K645
    have F674 := own_sta_keep F630 K645 (allS (own_plain A614) all0)
    have F675 := F631.keep K645
    have F676 := F632.keep K645 (ninS ne618 nin0)
    have F677 := F633.keep K645
    have F678 := F634.keep K645 (ninS ne619 nin0)
    have F679 := F635.keep K645
    have F680 := F636.keep K645 (ninS ne620 nin0)
    have F681 := F637.keep K645
    have F682 := F638.keep K645 (ninS ne621 nin0)
    have F683 := F639.keep K645
    have F684 := F640.keep K645
    have F685 := F641.keep K645 (ninS ne622 nin0)
    have F686 := F642.keep K645 (ninS ne622 nin0)
    have F687 := F643.keep K645 (ninS ne623 nin0)
    have F688 := A614.keep K645
    refine gs m T645 128 #[vI (p0), vI (p1), vJ (p2), sS, vJ (p3), sS, vJ (p4), sS, vI ((3 : Int32)), vI (kq), vR (d_101), vR (d_116), vR (d_133), vR (b152), sU, sU, sU, sU] [(.ref b614)] (fun _ k => st645.trans k) ?_
    refine gs m T645 130 #[vI (p0), vI (p1), vJ (p2), sS, vJ (p3), sS, vJ (p4), sS, vI ((3 : Int32)), vI (kq), vR (d_101), vR (d_116), vR (d_133), vR (b152), vR (b614), sU, sU, sU] [] (fun _ k => XS.astore X645.here hx rfl (hb hby at_128) rfl rfl (l' := #[vI (p0), vI (p1), vJ (p2), sS, vJ (p3), sS, vJ (p4), sS, vI ((3 : Int32)), vI (kq), vR (d_101), vR (d_116), vR (d_133), vR (b152), vR (b614), sU, sU, sU]) rfl k) ?_
    rcases own_kle (n := (3 : Int32)) (m := 3) hk1 rfl (by decide) with hgt | ⟨j, hj, hkj⟩
    · skip
      refine gs m T645 132 #[vI (p0), vI (p1), vJ (p2), sS, vJ (p3), sS, vJ (p4), sS, vI ((3 : Int32)), vI (kq), vR (d_101), vR (d_116), vR (d_133), vR (b152), vR (b614), sU, sU, sU] [(.ref b614)] (fun _ k => XS.aload X645.here hx rfl (hb hby at_130) rfl rfl k) ?_
      refine gs m T645 134 #[vI (p0), vI (p1), vJ (p2), sS, vJ (p3), sS, vJ (p4), sS, vI ((3 : Int32)), vI (kq), vR (d_101), vR (d_116), vR (d_133), vR (b152), vR (b614), sU, sU, sU] [(.int kq), (.ref b614)] (fun _ k => XS.iload X645.here hx rfl (hb hby at_132) rfl  k) ?_
      obtain ⟨cq689, kq689, q689a, q689b, q689c⟩ := isOf hZ rfl P645_0
      obtain ⟨_, _, ⟨T689, L689, k689, n689⟩, -, X689, ⟨Lc689, hQ689, l689, y689, z689⟩, st689⟩ := X645.virtualBack hx (y := (⟨"com/example/nuthatch/nuthatch/RetrySchedule", "delayAfterFailure", "(I)Ljava/util/Optional;"⟩ : MethodName)) (z := (⟨"com/example/nuthatch/nuthatch/RetrySchedule", "delayAfterFailure", "(I)Ljava/util/Optional;"⟩ : MethodName)) hown (mvT hZ (hwi hw 137 rfl)) (mvT hZ (hwi hw 138 rfl)) (notFace_of_selects (args := #[]) (mvT hZ (hwi hw 140 rfl))) (mvT hZ (hwi hw 140 rfl)) (mvT hZ (hwi hw 139 rfl)) (by decide) (backOf (W := 0) (Q := Qret (some (.ref oe)) T645.heap n0) (own_daf3_gt l Z a0 hw [] b614 kq oe lst_645 b2_645 k2_645 d_101 d_116 d_133 T645.heap n0 Z645 P645_0 P645_1 P645_2 P645_3 P645_4 F674 hgt) hZ (hwi hw 141 rfl) (hwi hw 52 rfl) (by decide) (by decide)) q689a q689c (g := (mkF m 134 #[vI (p0), vI (p1), vJ (p2), sS, vJ (p3), sS, vJ (p4), sS, vI ((3 : Int32)), vI (kq), vR (d_101), vR (d_116), vR (d_133), vR (b152), vR (b614), sU, sU, sU] [(.int kq), (.ref b614)])) rfl (by rw [hml]; rfl) (Steps.refl _) (argsL := [(.int kq)]) (rest := []) (lenOf own_pd25 rfl) rfl (by show 2 * 0 + _ ≤ _; exact Nat.le_of_eq rfl) (hb hby at_134) (fun _ _ => ⟨rfl, rfl, (by dsimp only [Pt.cells, Pt.slots, room_1]; omega), (by dsimp only [Pt.cells, Pt.slots, room_1]; omega)⟩)
      dsimp only [Pt.U, Pt.locs, Pt.cells, Pt.slots] at X689 l689 y689 z689 st689 hQ689
      subst l689 y689 z689
      obtain ⟨rfl, N689q, eh689⟩ := hQ689
      have N689 := Fr.app N645 N689q
      refine gs m T689 137 #[vI (p0), vI (p1), vJ (p2), sS, vJ (p3), sS, vJ (p4), sS, vI ((3 : Int32)), vI (kq), vR (d_101), vR (d_116), vR (d_133), vR (b152), vR (b614), sU, sU, sU] [(.ref oe)] (fun _ k => st689.trans k) ?_
      refine gs m T689 139 #[vI (p0), vI (p1), vJ (p2), sS, vJ (p3), sS, vJ (p4), sS, vI ((3 : Int32)), vI (kq), vR (d_101), vR (d_116), vR (d_133), vR (b152), vR (b614), vR (oe), sU, sU] [] (fun _ k => XS.astore X689.here hx rfl (hb hby at_137) rfl rfl (l' := #[vI (p0), vI (p1), vJ (p2), sS, vJ (p3), sS, vJ (p4), sS, vI ((3 : Int32)), vI (kq), vR (d_101), vR (d_116), vR (d_133), vR (b152), vR (b614), vR (oe), sU, sU]) rfl k) ?_
      refine gs m T689 141 #[vI (p0), vI (p1), vJ (p2), sS, vJ (p3), sS, vJ (p4), sS, vI ((3 : Int32)), vI (kq), vR (d_101), vR (d_116), vR (d_133), vR (b152), vR (b614), vR (oe), sU, sU] [(.ref oe)] (fun _ k => XS.aload X689.here hx rfl (hb hby at_139) rfl rfl k) ?_
      refine gs m T689 142 #[vI (p0), vI (p1), vJ (p2), sS, vJ (p3), sS, vJ (p4), sS, vI ((3 : Int32)), vI (kq), vR (d_101), vR (d_116), vR (d_133), vR (b152), vR (b614), vR (oe), sU, sU] [.null, (.ref oe)] (fun _ k => XS.aconstNull X689.here hx rfl (hb hby at_141) k) ?_
      obtain ⟨cq690, kq690, q690a, q690b, q690c⟩ := isOf hZ eh689 F675
      obtain ⟨_, _, ⟨T690, L690, k690, n690⟩, -, X690, ⟨Lc690, hQ690, l690, y690, z690⟩, st690⟩ := X689.virtualBack hx (y := (⟨"java/util/Optional", "orElse", "(Ljava/lang/Object;)Ljava/lang/Object;"⟩ : MethodName)) (z := (⟨"java/util/Optional", "orElse", "(Ljava/lang/Object;)Ljava/lang/Object;"⟩ : MethodName)) hown (mvT hZ (hwi hw 153 rfl)) (mvT hZ (hwi hw 154 rfl)) (notFace_of_selects (args := #[]) (mvT hZ (hwi hw 156 rfl))) (mvT hZ (hwi hw 156 rfl)) (mvT hZ (hwi hw 155 rfl)) (by decide) (backOf (W := 0) (Q := Qret (some .null) T645.heap n0) (own_oen l Z a0 hw [] oe T645.heap n0 Z645 F676) hZ (hwi hw 157 rfl) (hwi hw 150 rfl) (by decide) (by decide)) q690a q690c (g := (mkF m 142 #[vI (p0), vI (p1), vJ (p2), sS, vJ (p3), sS, vJ (p4), sS, vI ((3 : Int32)), vI (kq), vR (d_101), vR (d_116), vR (d_133), vR (b152), vR (b614), vR (oe), sU, sU] [.null, (.ref oe)])) rfl (by rw [hml]; rfl) (Steps.refl _) (argsL := [.null]) (rest := []) (lenOf own_pd6 rfl) rfl (by show 2 * 0 + _ ≤ _; exact Nat.le_of_eq rfl) (hb hby at_142) (fun _ _ => ⟨rfl, eh689, (by dsimp only [Pt.cells, Pt.slots, room_1]; omega), (by dsimp only [Pt.cells, Pt.slots, room_1]; omega)⟩)
      dsimp only [Pt.U, Pt.locs, Pt.cells, Pt.slots] at X690 l690 y690 z690 st690 hQ690
      subst l690 y690 z690
      obtain ⟨rfl, N690q, eh690⟩ := hQ690
      have N690 := Fr.app N689 N690q
      refine gs m T690 145 #[vI (p0), vI (p1), vJ (p2), sS, vJ (p3), sS, vJ (p4), sS, vI ((3 : Int32)), vI (kq), vR (d_101), vR (d_116), vR (d_133), vR (b152), vR (b614), vR (oe), sU, sU] [.null] (fun _ k => st690.trans k) ?_
      refine gs m T690 148 #[vI (p0), vI (p1), vJ (p2), sS, vJ (p3), sS, vJ (p4), sS, vI ((3 : Int32)), vI (kq), vR (d_101), vR (d_116), vR (d_133), vR (b152), vR (b614), vR (oe), sU, sU] [.null] (fun _ k => X690.checkcastNull hx (g := (mkF m 145 #[vI (p0), vI (p1), vJ (p2), sS, vJ (p3), sS, vJ (p4), sS, vI ((3 : Int32)), vI (kq), vR (d_101), vR (d_116), vR (d_133), vR (b152), vR (b614), vR (oe), sU, sU] [.null])) rfl rfl (hb hby at_145) _ k) ?_
      refine gs m T690 150 #[vI (p0), vI (p1), vJ (p2), sS, vJ (p3), sS, vJ (p4), sS, vI ((3 : Int32)), vI (kq), vR (d_101), vR (d_116), vR (d_133), vR (b152), vR (b614), vR (oe), .val .null, sU] [] (fun _ k => XS.astore X690.here hx rfl (hb hby at_148) rfl rfl (l' := #[vI (p0), vI (p1), vJ (p2), sS, vJ (p3), sS, vJ (p4), sS, vI ((3 : Int32)), vI (kq), vR (d_101), vR (d_116), vR (d_133), vR (b152), vR (b614), vR (oe), .val .null, sU]) rfl k) ?_
      refine gs m T690 151 #[vI (p0), vI (p1), vJ (p2), sS, vJ (p3), sS, vJ (p4), sS, vI ((3 : Int32)), vI (kq), vR (d_101), vR (d_116), vR (d_133), vR (b152), vR (b614), vR (oe), .val .null, sU] [.null] (fun _ k => XS.aconstNull X690.here hx rfl (hb hby at_150) k) ?_
      refine gs m T690 153 #[vI (p0), vI (p1), vJ (p2), sS, vJ (p3), sS, vJ (p4), sS, vI ((3 : Int32)), vI (kq), vR (d_101), vR (d_116), vR (d_133), vR (b152), vR (b614), vR (oe), .val .null, .val .null] [] (fun _ k => XS.astore X690.here hx rfl (hb hby at_151) rfl rfl (l' := #[vI (p0), vI (p1), vJ (p2), sS, vJ (p3), sS, vJ (p4), sS, vI ((3 : Int32)), vI (kq), vR (d_101), vR (d_116), vR (d_133), vR (b152), vR (b614), vR (oe), .val .null, .val .null]) rfl k) ?_
      refine gs m T690 155 #[vI (p0), vI (p1), vJ (p2), sS, vJ (p3), sS, vJ (p4), sS, vI ((3 : Int32)), vI (kq), vR (d_101), vR (d_116), vR (d_133), vR (b152), vR (b614), vR (oe), .val .null, .val .null] [(.int kq)] (fun _ k => XS.iload X690.here hx rfl (hb hby at_153) rfl  k) ?_
      refine gs m T690 157 #[vI (p0), vI (p1), vJ (p2), sS, vJ (p3), sS, vJ (p4), sS, vI ((3 : Int32)), vI (kq), vR (d_101), vR (d_116), vR (d_133), vR (b152), vR (b614), vR (oe), .val .null, .val .null] [(.int (3 : Int32)), (.int kq)] (fun _ k => XS.iload X690.here hx rfl (hb hby at_155) rfl  k) ?_
      refine gs m T690 190 #[vI (p0), vI (p1), vJ (p2), sS, vJ (p3), sS, vJ (p4), sS, vI ((3 : Int32)), vI (kq), vR (d_101), vR (d_116), vR (d_133), vR (b152), vR (b614), vR (oe), .val .null, .val .null] [] (fun _ k => XS.icmpYes X690.here hx rfl (pc0 := 157) (pc' := 190) rfl (hb hby at_157) rfl (tlt hgt).2.2.1 (by decide) (by decide) k) ?_
      refine gs m T690 192 #[vI (p0), vI (p1), vJ (p2), sS, vJ (p3), sS, vJ (p4), sS, vI ((3 : Int32)), vI (kq), vR (d_101), vR (d_116), vR (d_133), vR (b152), vR (b614), vR (oe), .val .null, .val .null] [.null] (fun _ k => XS.aload X690.here hx rfl (hb hby at_190) rfl rfl k) ?_
      refine gs m T690 195 #[vI (p0), vI (p1), vJ (p2), sS, vJ (p3), sS, vJ (p4), sS, vI ((3 : Int32)), vI (kq), vR (d_101), vR (d_116), vR (d_133), vR (b152), vR (b614), vR (oe), .val .null, .val .null] [] (fun _ k => XS.ifnonnullNo X690.here hx rfl (hb hby at_192) rfl k) ?_
      refine gs m T690 197 #[vI (p0), vI (p1), vJ (p2), sS, vJ (p3), sS, vJ (p4), sS, vI ((3 : Int32)), vI (kq), vR (d_101), vR (d_116), vR (d_133), vR (b152), vR (b614), vR (oe), .val .null, .val .null] [.null] (fun _ k => XS.aload X690.here hx rfl (hb hby at_195) rfl rfl k) ?_
      refine gs m T690 200 #[vI (p0), vI (p1), vJ (p2), sS, vJ (p3), sS, vJ (p4), sS, vI ((3 : Int32)), vI (kq), vR (d_101), vR (d_116), vR (d_133), vR (b152), vR (b614), vR (oe), .val .null, .val .null] [] (fun _ k => XS.ifnonnullNo X690.here hx rfl (hb hby at_197) rfl k) ?_
      refine gs m T690 201 #[vI (p0), vI (p1), vJ (p2), sS, vJ (p3), sS, vJ (p4), sS, vI ((3 : Int32)), vI (kq), vR (d_101), vR (d_116), vR (d_133), vR (b152), vR (b614), vR (oe), .val .null, .val .null] [(.int (1 : Int32))] (fun _ k => XS.iconst X690.here hx rfl (hb hby at_200) k) ?_
      refine gs m T690 205 #[vI (p0), vI (p1), vJ (p2), sS, vJ (p3), sS, vJ (p4), sS, vI ((3 : Int32)), vI (kq), vR (d_101), vR (d_116), vR (d_133), vR (b152), vR (b614), vR (oe), .val .null, .val .null] [(.int (1 : Int32))] (fun _ k => XS.goto X690.here hx rfl (pc0 := 201) (pc' := 205) rfl (hb hby at_201) (by decide) (by decide) k) ?_
      exact Go.retN X690 hx (t := .boolean) hret hlk (by simp) (hb hby at_205) (⟨rfl, N690⟩) (by omega) (by omega)
    · skip
      have hjc : j = 0 ∨ j = 1 ∨ j = 2 := by omega
      rcases hjc with rfl | rfl | rfl
      · skip
        have hkl : kq = (1 : Int32) := Int32.toInt_inj.mp hkj
        subst hkl
        refine gs m T645 132 #[vI (p0), vI (p1), vJ (p2), sS, vJ (p3), sS, vJ (p4), sS, vI ((3 : Int32)), vI ((1 : Int32)), vR (d_101), vR (d_116), vR (d_133), vR (b152), vR (b614), sU, sU, sU] [(.ref b614)] (fun _ k => XS.aload X645.here hx rfl (hb hby at_130) rfl rfl k) ?_
        refine gs m T645 134 #[vI (p0), vI (p1), vJ (p2), sS, vJ (p3), sS, vJ (p4), sS, vI ((3 : Int32)), vI ((1 : Int32)), vR (d_101), vR (d_116), vR (d_133), vR (b152), vR (b614), sU, sU, sU] [(.int (1 : Int32)), (.ref b614)] (fun _ k => XS.iload X645.here hx rfl (hb hby at_132) rfl  k) ?_
        obtain ⟨cq691, kq691, q691a, q691b, q691c⟩ := isOf hZ rfl P645_0
        obtain ⟨_, _, ⟨T691, L691, k691, n691⟩, -, X691, ⟨Lc691, hQ691, l691, y691, z691⟩, st691⟩ := X645.virtualBack hx (y := (⟨"com/example/nuthatch/nuthatch/RetrySchedule", "delayAfterFailure", "(I)Ljava/util/Optional;"⟩ : MethodName)) (z := (⟨"com/example/nuthatch/nuthatch/RetrySchedule", "delayAfterFailure", "(I)Ljava/util/Optional;"⟩ : MethodName)) hown (mvT hZ (hwi hw 137 rfl)) (mvT hZ (hwi hw 138 rfl)) (notFace_of_selects (args := #[]) (mvT hZ (hwi hw 140 rfl))) (mvT hZ (hwi hw 140 rfl)) (mvT hZ (hwi hw 139 rfl)) (by decide) (backOf (W := 0) (Q := fun v h L => ∃ o : Addr, (v = some (.ref o)) ∧ (Fr n0 L) ∧ (Keep T645.heap h []) ∧ (T645.heap.size ≤ o) ∧ (Exa Z h o "java/util/Optional") ∧ (Fld Z h o "java/util/Optional" "value" "Ljava/lang/Object;" (.ref d_101))) (own_daf3_0 l Z a0 hw [] b614 lst_645 b2_645 k2_645 d_101 d_116 d_133 T645.heap n0 Z645 P645_0 P645_1 P645_2 P645_3 P645_4 F677) hZ (hwi hw 141 rfl) (hwi hw 52 rfl) (by decide) (by decide)) q691a q691c (g := (mkF m 134 #[vI (p0), vI (p1), vJ (p2), sS, vJ (p3), sS, vJ (p4), sS, vI ((3 : Int32)), vI ((1 : Int32)), vR (d_101), vR (d_116), vR (d_133), vR (b152), vR (b614), sU, sU, sU] [(.int (1 : Int32)), (.ref b614)])) rfl (by rw [hml]; rfl) (Steps.refl _) (argsL := [(.int (1 : Int32))]) (rest := []) (lenOf own_pd25 rfl) rfl (by show 2 * 0 + _ ≤ _; exact Nat.le_of_eq rfl) (hb hby at_134) (fun _ _ => ⟨rfl, rfl, (by dsimp only [Pt.cells, Pt.slots, room_1]; omega), (by dsimp only [Pt.cells, Pt.slots, room_1]; omega)⟩)
        dsimp only [Pt.U, Pt.locs, Pt.cells, Pt.slots] at X691 l691 y691 z691 st691 hQ691
        subst l691 y691 z691
        obtain ⟨o_691, rfl, N691q, K691, lt691_0, P691_0, P691_1⟩ := hQ691
        have N691 := Fr.app N645 N691q
        have ne692 : el ≠ o_691 := Nat.ne_of_lt (Nat.lt_of_lt_of_le F669.lt lt691_0)
        have ne693 : bz ≠ o_691 := Nat.ne_of_lt (Nat.lt_of_lt_of_le F671.lt lt691_0)
        have ne694 : oe ≠ o_691 := Nat.ne_of_lt (Nat.lt_of_lt_of_le F675.lt lt691_0)
        have ne695 : d_101 ≠ o_691 := Nat.ne_of_lt (Nat.lt_of_lt_of_le F677.lt lt691_0)
        have ne696 : d_116 ≠ o_691 := Nat.ne_of_lt (Nat.lt_of_lt_of_le F679.lt lt691_0)
        have ne697 : d_133 ≠ o_691 := Nat.ne_of_lt (Nat.lt_of_lt_of_le F681.lt lt691_0)
        have ne698 : b614 ≠ o_691 := Nat.ne_of_lt (Nat.lt_of_lt_of_le P645_0.lt lt691_0)
        have ne699 : lst_645 ≠ o_691 := Nat.ne_of_lt (Nat.lt_of_lt_of_le P645_2.lt lt691_0)
        have ne700 : b2_645 ≠ o_691 := Nat.ne_of_lt (Nat.lt_of_lt_of_le P645_4.lt lt691_0)
        have ge701 : n0 ≤ o_691 := Nat.le_trans Z645 lt691_0
        have Z691 : n0 ≤ T691.heap.size := Nat.le_trans Z645 K691.1
        have F702 := F669.keep K691
        have F703 := F670.keep K691 nin0
        have F704 := F671.keep K691 nin0
        have F705 := own_sta_keep F672 K691 all0
        have F706 := own_sta_keep F674 K691 all0
        have F707 := F675.keep K691
        have F708 := F676.keep K691 nin0
        have F709 := F677.keep K691
        have F710 := F679.keep K691
        have F711 := F681.keep K691
        have F712 := P645_0.keep K691
        have F713 := P645_1.keep K691 nin0
        have F714 := P645_2.keep K691
        have F715 := P645_3.keep K691 nin0
        have F716 := P645_4.keep K691 nin0
        refine gs m T691 137 #[vI (p0), vI (p1), vJ (p2), sS, vJ (p3), sS, vJ (p4), sS, vI ((3 : Int32)), vI ((1 : Int32)), vR (d_101), vR (d_116), vR (d_133), vR (b152), vR (b614), sU, sU, sU] [(.ref o_691)] (fun _ k => st691.trans k) ?_
        refine gs m T691 139 #[vI (p0), vI (p1), vJ (p2), sS, vJ (p3), sS, vJ (p4), sS, vI ((3 : Int32)), vI ((1 : Int32)), vR (d_101), vR (d_116), vR (d_133), vR (b152), vR (b614), vR (o_691), sU, sU] [] (fun _ k => XS.astore X691.here hx rfl (hb hby at_137) rfl rfl (l' := #[vI (p0), vI (p1), vJ (p2), sS, vJ (p3), sS, vJ (p4), sS, vI ((3 : Int32)), vI ((1 : Int32)), vR (d_101), vR (d_116), vR (d_133), vR (b152), vR (b614), vR (o_691), sU, sU]) rfl k) ?_
        refine gs m T691 141 #[vI (p0), vI (p1), vJ (p2), sS, vJ (p3), sS, vJ (p4), sS, vI ((3 : Int32)), vI ((1 : Int32)), vR (d_101), vR (d_116), vR (d_133), vR (b152), vR (b614), vR (o_691), sU, sU] [(.ref o_691)] (fun _ k => XS.aload X691.here hx rfl (hb hby at_139) rfl rfl k) ?_
        refine gs m T691 142 #[vI (p0), vI (p1), vJ (p2), sS, vJ (p3), sS, vJ (p4), sS, vI ((3 : Int32)), vI ((1 : Int32)), vR (d_101), vR (d_116), vR (d_133), vR (b152), vR (b614), vR (o_691), sU, sU] [.null, (.ref o_691)] (fun _ k => XS.aconstNull X691.here hx rfl (hb hby at_141) k) ?_
        obtain ⟨cq717, kq717, q717a, q717b, q717c⟩ := isOf hZ rfl P691_0
        obtain ⟨_, _, ⟨T717, L717, k717, n717⟩, -, X717, ⟨Lc717, hQ717, l717, y717, z717⟩, st717⟩ := X691.virtualBack hx (y := (⟨"java/util/Optional", "orElse", "(Ljava/lang/Object;)Ljava/lang/Object;"⟩ : MethodName)) (z := (⟨"java/util/Optional", "orElse", "(Ljava/lang/Object;)Ljava/lang/Object;"⟩ : MethodName)) hown (mvT hZ (hwi hw 153 rfl)) (mvT hZ (hwi hw 154 rfl)) (notFace_of_selects (args := #[]) (mvT hZ (hwi hw 156 rfl))) (mvT hZ (hwi hw 156 rfl)) (mvT hZ (hwi hw 155 rfl)) (by decide) (backOf (W := 0) (Q := Qret (some (.ref d_101)) T691.heap n0) (own_oel l Z a0 hw [] o_691 d_101 T691.heap n0 Z691 P691_1) hZ (hwi hw 157 rfl) (hwi hw 150 rfl) (by decide) (by decide)) q717a q717c (g := (mkF m 142 #[vI (p0), vI (p1), vJ (p2), sS, vJ (p3), sS, vJ (p4), sS, vI ((3 : Int32)), vI ((1 : Int32)), vR (d_101), vR (d_116), vR (d_133), vR (b152), vR (b614), vR (o_691), sU, sU] [.null, (.ref o_691)])) rfl (by rw [hml]; rfl) (Steps.refl _) (argsL := [.null]) (rest := []) (lenOf own_pd6 rfl) rfl (by show 2 * 0 + _ ≤ _; exact Nat.le_of_eq rfl) (hb hby at_142) (fun _ _ => ⟨rfl, rfl, (by dsimp only [Pt.cells, Pt.slots, room_1]; omega), (by dsimp only [Pt.cells, Pt.slots, room_1]; omega)⟩)
        dsimp only [Pt.U, Pt.locs, Pt.cells, Pt.slots] at X717 l717 y717 z717 st717 hQ717
        subst l717 y717 z717
        obtain ⟨rfl, N717q, eh717⟩ := hQ717
        have N717 := Fr.app N691 N717q
        refine gs m T717 145 #[vI (p0), vI (p1), vJ (p2), sS, vJ (p3), sS, vJ (p4), sS, vI ((3 : Int32)), vI ((1 : Int32)), vR (d_101), vR (d_116), vR (d_133), vR (b152), vR (b614), vR (o_691), sU, sU] [(.ref d_101)] (fun _ k => st717.trans k) ?_
        obtain ⟨T718, X718, e718, st718⟩ := castY X717 hx hZ hown (hwi hw 316 rfl) eh717 (Ins.self F709) (g := (mkF m 145 #[vI (p0), vI (p1), vJ (p2), sS, vJ (p3), sS, vJ (p4), sS, vI ((3 : Int32)), vI ((1 : Int32)), vR (d_101), vR (d_116), vR (d_133), vR (b152), vR (b614), vR (o_691), sU, sU] [(.ref d_101)])) rfl rfl (hb hby at_145)
        refine gs m T718 148 #[vI (p0), vI (p1), vJ (p2), sS, vJ (p3), sS, vJ (p4), sS, vI ((3 : Int32)), vI ((1 : Int32)), vR (d_101), vR (d_116), vR (d_133), vR (b152), vR (b614), vR (o_691), sU, sU] [(.ref d_101)] st718 ?_
        refine gs m T718 150 #[vI (p0), vI (p1), vJ (p2), sS, vJ (p3), sS, vJ (p4), sS, vI ((3 : Int32)), vI ((1 : Int32)), vR (d_101), vR (d_116), vR (d_133), vR (b152), vR (b614), vR (o_691), vR (d_101), sU] [] (fun _ k => XS.astore X718.here hx rfl (hb hby at_148) rfl rfl (l' := #[vI (p0), vI (p1), vJ (p2), sS, vJ (p3), sS, vJ (p4), sS, vI ((3 : Int32)), vI ((1 : Int32)), vR (d_101), vR (d_116), vR (d_133), vR (b152), vR (b614), vR (o_691), vR (d_101), sU]) rfl k) ?_
        refine gs m T718 151 #[vI (p0), vI (p1), vJ (p2), sS, vJ (p3), sS, vJ (p4), sS, vI ((3 : Int32)), vI ((1 : Int32)), vR (d_101), vR (d_116), vR (d_133), vR (b152), vR (b614), vR (o_691), vR (d_101), sU] [.null] (fun _ k => XS.aconstNull X718.here hx rfl (hb hby at_150) k) ?_
        refine gs m T718 153 #[vI (p0), vI (p1), vJ (p2), sS, vJ (p3), sS, vJ (p4), sS, vI ((3 : Int32)), vI ((1 : Int32)), vR (d_101), vR (d_116), vR (d_133), vR (b152), vR (b614), vR (o_691), vR (d_101), .val .null] [] (fun _ k => XS.astore X718.here hx rfl (hb hby at_151) rfl rfl (l' := #[vI (p0), vI (p1), vJ (p2), sS, vJ (p3), sS, vJ (p4), sS, vI ((3 : Int32)), vI ((1 : Int32)), vR (d_101), vR (d_116), vR (d_133), vR (b152), vR (b614), vR (o_691), vR (d_101), .val .null]) rfl k) ?_
        refine gs m T718 155 #[vI (p0), vI (p1), vJ (p2), sS, vJ (p3), sS, vJ (p4), sS, vI ((3 : Int32)), vI ((1 : Int32)), vR (d_101), vR (d_116), vR (d_133), vR (b152), vR (b614), vR (o_691), vR (d_101), .val .null] [(.int (1 : Int32))] (fun _ k => XS.iload X718.here hx rfl (hb hby at_153) rfl  k) ?_
        refine gs m T718 157 #[vI (p0), vI (p1), vJ (p2), sS, vJ (p3), sS, vJ (p4), sS, vI ((3 : Int32)), vI ((1 : Int32)), vR (d_101), vR (d_116), vR (d_133), vR (b152), vR (b614), vR (o_691), vR (d_101), .val .null] [(.int (3 : Int32)), (.int (1 : Int32))] (fun _ k => XS.iload X718.here hx rfl (hb hby at_155) rfl  k) ?_
        refine gs m T718 160 #[vI (p0), vI (p1), vJ (p2), sS, vJ (p3), sS, vJ (p4), sS, vI ((3 : Int32)), vI ((1 : Int32)), vR (d_101), vR (d_116), vR (d_133), vR (b152), vR (b614), vR (o_691), vR (d_101), .val .null] [] (fun _ k => XS.icmpNo X718.here hx rfl (hb hby at_157) rfl (flt (by decide : ¬ ((3 : Int32) < (1 : Int32)))).2.2.1 k) ?_
        refine gs m T718 162 #[vI (p0), vI (p1), vJ (p2), sS, vJ (p3), sS, vJ (p4), sS, vI ((3 : Int32)), vI ((1 : Int32)), vR (d_101), vR (d_116), vR (d_133), vR (b152), vR (b614), vR (o_691), vR (d_101), .val .null] [(.int (1 : Int32))] (fun _ k => XS.iload X718.here hx rfl (hb hby at_160) rfl  k) ?_
        refine gs m T718 163 #[vI (p0), vI (p1), vJ (p2), sS, vJ (p3), sS, vJ (p4), sS, vI ((3 : Int32)), vI ((1 : Int32)), vR (d_101), vR (d_116), vR (d_133), vR (b152), vR (b614), vR (o_691), vR (d_101), .val .null] [(.int (1 : Int32)), (.int (1 : Int32))] (fun _ k => XS.iconst X718.here hx rfl (hb hby at_162) k) ?_
        refine gs m T718 166 #[vI (p0), vI (p1), vJ (p2), sS, vJ (p3), sS, vJ (p4), sS, vI ((3 : Int32)), vI ((1 : Int32)), vR (d_101), vR (d_116), vR (d_133), vR (b152), vR (b614), vR (o_691), vR (d_101), .val .null] [] (fun _ k => XS.icmpNo X718.here hx rfl (hb hby at_163) rfl (teq (by decide : (1 : Int32) = (1 : Int32))).2 k) ?_
        refine gs m T718 168 #[vI (p0), vI (p1), vJ (p2), sS, vJ (p3), sS, vJ (p4), sS, vI ((3 : Int32)), vI ((1 : Int32)), vR (d_101), vR (d_116), vR (d_133), vR (b152), vR (b614), vR (o_691), vR (d_101), .val .null] [(.ref d_101)] (fun _ k => XS.aload X718.here hx rfl (hb hby at_166) rfl rfl k) ?_
        refine gs m T718 170 #[vI (p0), vI (p1), vJ (p2), sS, vJ (p3), sS, vJ (p4), sS, vI ((3 : Int32)), vI ((1 : Int32)), vR (d_101), vR (d_116), vR (d_133), vR (b152), vR (b614), vR (o_691), vR (d_101), vR (d_101)] [] (fun _ k => XS.astore X718.here hx rfl (hb hby at_168) rfl rfl (l' := #[vI (p0), vI (p1), vJ (p2), sS, vJ (p3), sS, vJ (p4), sS, vI ((3 : Int32)), vI ((1 : Int32)), vR (d_101), vR (d_116), vR (d_133), vR (b152), vR (b614), vR (o_691), vR (d_101), vR (d_101)]) rfl k) ?_
        refine gs m T718 190 #[vI (p0), vI (p1), vJ (p2), sS, vJ (p3), sS, vJ (p4), sS, vI ((3 : Int32)), vI ((1 : Int32)), vR (d_101), vR (d_116), vR (d_133), vR (b152), vR (b614), vR (o_691), vR (d_101), vR (d_101)] [] (fun _ k => XS.goto X718.here hx rfl (pc0 := 170) (pc' := 190) rfl (hb hby at_170) (by decide) (by decide) k) ?_
        refine gs m T718 192 #[vI (p0), vI (p1), vJ (p2), sS, vJ (p3), sS, vJ (p4), sS, vI ((3 : Int32)), vI ((1 : Int32)), vR (d_101), vR (d_116), vR (d_133), vR (b152), vR (b614), vR (o_691), vR (d_101), vR (d_101)] [(.ref d_101)] (fun _ k => XS.aload X718.here hx rfl (hb hby at_190) rfl rfl k) ?_
        refine gs m T718 206 #[vI (p0), vI (p1), vJ (p2), sS, vJ (p3), sS, vJ (p4), sS, vI ((3 : Int32)), vI ((1 : Int32)), vR (d_101), vR (d_116), vR (d_133), vR (b152), vR (b614), vR (o_691), vR (d_101), vR (d_101)] [] (fun _ k => XS.ifnonnullYes X718.here hx rfl (pc0 := 192) (pc' := 206) rfl (hb hby at_192) rfl (by decide) (by decide) k) ?_
        refine gs m T718 208 #[vI (p0), vI (p1), vJ (p2), sS, vJ (p3), sS, vJ (p4), sS, vI ((3 : Int32)), vI ((1 : Int32)), vR (d_101), vR (d_116), vR (d_133), vR (b152), vR (b614), vR (o_691), vR (d_101), vR (d_101)] [(.ref d_101)] (fun _ k => XS.aload X718.here hx rfl (hb hby at_206) rfl rfl k) ?_
        refine gs m T718 210 #[vI (p0), vI (p1), vJ (p2), sS, vJ (p3), sS, vJ (p4), sS, vI ((3 : Int32)), vI ((1 : Int32)), vR (d_101), vR (d_116), vR (d_133), vR (b152), vR (b614), vR (o_691), vR (d_101), vR (d_101)] [(.ref d_101), (.ref d_101)] (fun _ k => XS.aload X718.here hx rfl (hb hby at_208) rfl rfl k) ?_
        obtain ⟨cq719, kq719, q719a, q719b, q719c⟩ := isOf hZ e718 F709
        obtain ⟨_, _, ⟨T719, L719, k719, n719⟩, -, X719, ⟨Lc719, hQ719, l719, y719, z719⟩, st719⟩ := X718.virtualBack hx (y := (⟨"java/time/Duration", "equals", "(Ljava/lang/Object;)Z"⟩ : MethodName)) (z := (⟨"java/time/Duration", "equals", "(Ljava/lang/Object;)Z"⟩ : MethodName)) hown (mvT hZ (hwi hw 317 rfl)) (mvT hZ (hwi hw 318 rfl)) (notFace_of_selects (args := #[]) (mvT hZ (hwi hw 320 rfl))) (mvT hZ (hwi hw 320 rfl)) (mvT hZ (hwi hw 319 rfl)) (by decide) (backOf (W := 0) (Q := Qret (some (.int (1 : Int32))) T691.heap n0) (own_dueq l Z a0 hw [] d_101 T691.heap n0 Z691 ) hZ (hwi hw 321 rfl) (hwi hw 8 rfl) (by decide) (by decide)) q719a q719c (g := (mkF m 210 #[vI (p0), vI (p1), vJ (p2), sS, vJ (p3), sS, vJ (p4), sS, vI ((3 : Int32)), vI ((1 : Int32)), vR (d_101), vR (d_116), vR (d_133), vR (b152), vR (b614), vR (o_691), vR (d_101), vR (d_101)] [(.ref d_101), (.ref d_101)])) rfl (by rw [hml]; rfl) (Steps.refl _) (argsL := [(.ref d_101)]) (rest := []) (lenOf own_pd26 rfl) rfl (by show 2 * 0 + _ ≤ _; exact Nat.le_of_eq rfl) (hb hby at_210) (fun _ _ => ⟨rfl, e718, (by dsimp only [Pt.cells, Pt.slots, room_1]; omega), (by dsimp only [Pt.cells, Pt.slots, room_1]; omega)⟩)
        dsimp only [Pt.U, Pt.locs, Pt.cells, Pt.slots] at X719 l719 y719 z719 st719 hQ719
        subst l719 y719 z719
        obtain ⟨rfl, N719q, eh719⟩ := hQ719
        have N719 := Fr.app N717 N719q
        refine gs m T719 213 #[vI (p0), vI (p1), vJ (p2), sS, vJ (p3), sS, vJ (p4), sS, vI ((3 : Int32)), vI ((1 : Int32)), vR (d_101), vR (d_116), vR (d_133), vR (b152), vR (b614), vR (o_691), vR (d_101), vR (d_101)] [(.int (1 : Int32))] (fun _ k => st719.trans k) ?_
        exact Go.retN X719 hx (t := .boolean) hret hlk (by simp) (hb hby at_213) (⟨rfl, N719⟩) (by omega) (by omega)
      · skip
        have hkl : kq = (2 : Int32) := Int32.toInt_inj.mp hkj
        subst hkl
        refine gs m T645 132 #[vI (p0), vI (p1), vJ (p2), sS, vJ (p3), sS, vJ (p4), sS, vI ((3 : Int32)), vI ((2 : Int32)), vR (d_101), vR (d_116), vR (d_133), vR (b152), vR (b614), sU, sU, sU] [(.ref b614)] (fun _ k => XS.aload X645.here hx rfl (hb hby at_130) rfl rfl k) ?_
        refine gs m T645 134 #[vI (p0), vI (p1), vJ (p2), sS, vJ (p3), sS, vJ (p4), sS, vI ((3 : Int32)), vI ((2 : Int32)), vR (d_101), vR (d_116), vR (d_133), vR (b152), vR (b614), sU, sU, sU] [(.int (2 : Int32)), (.ref b614)] (fun _ k => XS.iload X645.here hx rfl (hb hby at_132) rfl  k) ?_
        obtain ⟨cq720, kq720, q720a, q720b, q720c⟩ := isOf hZ rfl P645_0
        obtain ⟨_, _, ⟨T720, L720, k720, n720⟩, -, X720, ⟨Lc720, hQ720, l720, y720, z720⟩, st720⟩ := X645.virtualBack hx (y := (⟨"com/example/nuthatch/nuthatch/RetrySchedule", "delayAfterFailure", "(I)Ljava/util/Optional;"⟩ : MethodName)) (z := (⟨"com/example/nuthatch/nuthatch/RetrySchedule", "delayAfterFailure", "(I)Ljava/util/Optional;"⟩ : MethodName)) hown (mvT hZ (hwi hw 137 rfl)) (mvT hZ (hwi hw 138 rfl)) (notFace_of_selects (args := #[]) (mvT hZ (hwi hw 140 rfl))) (mvT hZ (hwi hw 140 rfl)) (mvT hZ (hwi hw 139 rfl)) (by decide) (backOf (W := 0) (Q := fun v h L => ∃ o : Addr, (v = some (.ref o)) ∧ (Fr n0 L) ∧ (Keep T645.heap h []) ∧ (T645.heap.size ≤ o) ∧ (Exa Z h o "java/util/Optional") ∧ (Fld Z h o "java/util/Optional" "value" "Ljava/lang/Object;" (.ref d_116))) (own_daf3_1 l Z a0 hw [] b614 lst_645 b2_645 k2_645 d_101 d_116 d_133 T645.heap n0 Z645 P645_0 P645_1 P645_2 P645_3 P645_4 F679) hZ (hwi hw 141 rfl) (hwi hw 52 rfl) (by decide) (by decide)) q720a q720c (g := (mkF m 134 #[vI (p0), vI (p1), vJ (p2), sS, vJ (p3), sS, vJ (p4), sS, vI ((3 : Int32)), vI ((2 : Int32)), vR (d_101), vR (d_116), vR (d_133), vR (b152), vR (b614), sU, sU, sU] [(.int (2 : Int32)), (.ref b614)])) rfl (by rw [hml]; rfl) (Steps.refl _) (argsL := [(.int (2 : Int32))]) (rest := []) (lenOf own_pd25 rfl) rfl (by show 2 * 0 + _ ≤ _; exact Nat.le_of_eq rfl) (hb hby at_134) (fun _ _ => ⟨rfl, rfl, (by dsimp only [Pt.cells, Pt.slots, room_1]; omega), (by dsimp only [Pt.cells, Pt.slots, room_1]; omega)⟩)
        dsimp only [Pt.U, Pt.locs, Pt.cells, Pt.slots] at X720 l720 y720 z720 st720 hQ720
        subst l720 y720 z720
        obtain ⟨o_720, rfl, N720q, K720, lt720_0, P720_0, P720_1⟩ := hQ720
        have N720 := Fr.app N645 N720q
        have ne721 : el ≠ o_720 := Nat.ne_of_lt (Nat.lt_of_lt_of_le F669.lt lt720_0)
        have ne722 : bz ≠ o_720 := Nat.ne_of_lt (Nat.lt_of_lt_of_le F671.lt lt720_0)
        have ne723 : oe ≠ o_720 := Nat.ne_of_lt (Nat.lt_of_lt_of_le F675.lt lt720_0)
        have ne724 : d_101 ≠ o_720 := Nat.ne_of_lt (Nat.lt_of_lt_of_le F677.lt lt720_0)
        have ne725 : d_116 ≠ o_720 := Nat.ne_of_lt (Nat.lt_of_lt_of_le F679.lt lt720_0)
        have ne726 : d_133 ≠ o_720 := Nat.ne_of_lt (Nat.lt_of_lt_of_le F681.lt lt720_0)
        have ne727 : b614 ≠ o_720 := Nat.ne_of_lt (Nat.lt_of_lt_of_le P645_0.lt lt720_0)
        have ne728 : lst_645 ≠ o_720 := Nat.ne_of_lt (Nat.lt_of_lt_of_le P645_2.lt lt720_0)
        have ne729 : b2_645 ≠ o_720 := Nat.ne_of_lt (Nat.lt_of_lt_of_le P645_4.lt lt720_0)
        have ge730 : n0 ≤ o_720 := Nat.le_trans Z645 lt720_0
        have Z720 : n0 ≤ T720.heap.size := Nat.le_trans Z645 K720.1
        have F731 := F669.keep K720
        have F732 := F670.keep K720 nin0
        have F733 := F671.keep K720 nin0
        have F734 := own_sta_keep F672 K720 all0
        have F735 := own_sta_keep F674 K720 all0
        have F736 := F675.keep K720
        have F737 := F676.keep K720 nin0
        have F738 := F677.keep K720
        have F739 := F679.keep K720
        have F740 := F681.keep K720
        have F741 := P645_0.keep K720
        have F742 := P645_1.keep K720 nin0
        have F743 := P645_2.keep K720
        have F744 := P645_3.keep K720 nin0
        have F745 := P645_4.keep K720 nin0
        refine gs m T720 137 #[vI (p0), vI (p1), vJ (p2), sS, vJ (p3), sS, vJ (p4), sS, vI ((3 : Int32)), vI ((2 : Int32)), vR (d_101), vR (d_116), vR (d_133), vR (b152), vR (b614), sU, sU, sU] [(.ref o_720)] (fun _ k => st720.trans k) ?_
        refine gs m T720 139 #[vI (p0), vI (p1), vJ (p2), sS, vJ (p3), sS, vJ (p4), sS, vI ((3 : Int32)), vI ((2 : Int32)), vR (d_101), vR (d_116), vR (d_133), vR (b152), vR (b614), vR (o_720), sU, sU] [] (fun _ k => XS.astore X720.here hx rfl (hb hby at_137) rfl rfl (l' := #[vI (p0), vI (p1), vJ (p2), sS, vJ (p3), sS, vJ (p4), sS, vI ((3 : Int32)), vI ((2 : Int32)), vR (d_101), vR (d_116), vR (d_133), vR (b152), vR (b614), vR (o_720), sU, sU]) rfl k) ?_
        refine gs m T720 141 #[vI (p0), vI (p1), vJ (p2), sS, vJ (p3), sS, vJ (p4), sS, vI ((3 : Int32)), vI ((2 : Int32)), vR (d_101), vR (d_116), vR (d_133), vR (b152), vR (b614), vR (o_720), sU, sU] [(.ref o_720)] (fun _ k => XS.aload X720.here hx rfl (hb hby at_139) rfl rfl k) ?_
        refine gs m T720 142 #[vI (p0), vI (p1), vJ (p2), sS, vJ (p3), sS, vJ (p4), sS, vI ((3 : Int32)), vI ((2 : Int32)), vR (d_101), vR (d_116), vR (d_133), vR (b152), vR (b614), vR (o_720), sU, sU] [.null, (.ref o_720)] (fun _ k => XS.aconstNull X720.here hx rfl (hb hby at_141) k) ?_
        obtain ⟨cq746, kq746, q746a, q746b, q746c⟩ := isOf hZ rfl P720_0
        obtain ⟨_, _, ⟨T746, L746, k746, n746⟩, -, X746, ⟨Lc746, hQ746, l746, y746, z746⟩, st746⟩ := X720.virtualBack hx (y := (⟨"java/util/Optional", "orElse", "(Ljava/lang/Object;)Ljava/lang/Object;"⟩ : MethodName)) (z := (⟨"java/util/Optional", "orElse", "(Ljava/lang/Object;)Ljava/lang/Object;"⟩ : MethodName)) hown (mvT hZ (hwi hw 153 rfl)) (mvT hZ (hwi hw 154 rfl)) (notFace_of_selects (args := #[]) (mvT hZ (hwi hw 156 rfl))) (mvT hZ (hwi hw 156 rfl)) (mvT hZ (hwi hw 155 rfl)) (by decide) (backOf (W := 0) (Q := Qret (some (.ref d_116)) T720.heap n0) (own_oel l Z a0 hw [] o_720 d_116 T720.heap n0 Z720 P720_1) hZ (hwi hw 157 rfl) (hwi hw 150 rfl) (by decide) (by decide)) q746a q746c (g := (mkF m 142 #[vI (p0), vI (p1), vJ (p2), sS, vJ (p3), sS, vJ (p4), sS, vI ((3 : Int32)), vI ((2 : Int32)), vR (d_101), vR (d_116), vR (d_133), vR (b152), vR (b614), vR (o_720), sU, sU] [.null, (.ref o_720)])) rfl (by rw [hml]; rfl) (Steps.refl _) (argsL := [.null]) (rest := []) (lenOf own_pd6 rfl) rfl (by show 2 * 0 + _ ≤ _; exact Nat.le_of_eq rfl) (hb hby at_142) (fun _ _ => ⟨rfl, rfl, (by dsimp only [Pt.cells, Pt.slots, room_1]; omega), (by dsimp only [Pt.cells, Pt.slots, room_1]; omega)⟩)
        dsimp only [Pt.U, Pt.locs, Pt.cells, Pt.slots] at X746 l746 y746 z746 st746 hQ746
        subst l746 y746 z746
        obtain ⟨rfl, N746q, eh746⟩ := hQ746
        have N746 := Fr.app N720 N746q
        refine gs m T746 145 #[vI (p0), vI (p1), vJ (p2), sS, vJ (p3), sS, vJ (p4), sS, vI ((3 : Int32)), vI ((2 : Int32)), vR (d_101), vR (d_116), vR (d_133), vR (b152), vR (b614), vR (o_720), sU, sU] [(.ref d_116)] (fun _ k => st746.trans k) ?_
        obtain ⟨T747, X747, e747, st747⟩ := castY X746 hx hZ hown (hwi hw 316 rfl) eh746 (Ins.self F739) (g := (mkF m 145 #[vI (p0), vI (p1), vJ (p2), sS, vJ (p3), sS, vJ (p4), sS, vI ((3 : Int32)), vI ((2 : Int32)), vR (d_101), vR (d_116), vR (d_133), vR (b152), vR (b614), vR (o_720), sU, sU] [(.ref d_116)])) rfl rfl (hb hby at_145)
        refine gs m T747 148 #[vI (p0), vI (p1), vJ (p2), sS, vJ (p3), sS, vJ (p4), sS, vI ((3 : Int32)), vI ((2 : Int32)), vR (d_101), vR (d_116), vR (d_133), vR (b152), vR (b614), vR (o_720), sU, sU] [(.ref d_116)] st747 ?_
        refine gs m T747 150 #[vI (p0), vI (p1), vJ (p2), sS, vJ (p3), sS, vJ (p4), sS, vI ((3 : Int32)), vI ((2 : Int32)), vR (d_101), vR (d_116), vR (d_133), vR (b152), vR (b614), vR (o_720), vR (d_116), sU] [] (fun _ k => XS.astore X747.here hx rfl (hb hby at_148) rfl rfl (l' := #[vI (p0), vI (p1), vJ (p2), sS, vJ (p3), sS, vJ (p4), sS, vI ((3 : Int32)), vI ((2 : Int32)), vR (d_101), vR (d_116), vR (d_133), vR (b152), vR (b614), vR (o_720), vR (d_116), sU]) rfl k) ?_
        refine gs m T747 151 #[vI (p0), vI (p1), vJ (p2), sS, vJ (p3), sS, vJ (p4), sS, vI ((3 : Int32)), vI ((2 : Int32)), vR (d_101), vR (d_116), vR (d_133), vR (b152), vR (b614), vR (o_720), vR (d_116), sU] [.null] (fun _ k => XS.aconstNull X747.here hx rfl (hb hby at_150) k) ?_
        refine gs m T747 153 #[vI (p0), vI (p1), vJ (p2), sS, vJ (p3), sS, vJ (p4), sS, vI ((3 : Int32)), vI ((2 : Int32)), vR (d_101), vR (d_116), vR (d_133), vR (b152), vR (b614), vR (o_720), vR (d_116), .val .null] [] (fun _ k => XS.astore X747.here hx rfl (hb hby at_151) rfl rfl (l' := #[vI (p0), vI (p1), vJ (p2), sS, vJ (p3), sS, vJ (p4), sS, vI ((3 : Int32)), vI ((2 : Int32)), vR (d_101), vR (d_116), vR (d_133), vR (b152), vR (b614), vR (o_720), vR (d_116), .val .null]) rfl k) ?_
        refine gs m T747 155 #[vI (p0), vI (p1), vJ (p2), sS, vJ (p3), sS, vJ (p4), sS, vI ((3 : Int32)), vI ((2 : Int32)), vR (d_101), vR (d_116), vR (d_133), vR (b152), vR (b614), vR (o_720), vR (d_116), .val .null] [(.int (2 : Int32))] (fun _ k => XS.iload X747.here hx rfl (hb hby at_153) rfl  k) ?_
        refine gs m T747 157 #[vI (p0), vI (p1), vJ (p2), sS, vJ (p3), sS, vJ (p4), sS, vI ((3 : Int32)), vI ((2 : Int32)), vR (d_101), vR (d_116), vR (d_133), vR (b152), vR (b614), vR (o_720), vR (d_116), .val .null] [(.int (3 : Int32)), (.int (2 : Int32))] (fun _ k => XS.iload X747.here hx rfl (hb hby at_155) rfl  k) ?_
        refine gs m T747 160 #[vI (p0), vI (p1), vJ (p2), sS, vJ (p3), sS, vJ (p4), sS, vI ((3 : Int32)), vI ((2 : Int32)), vR (d_101), vR (d_116), vR (d_133), vR (b152), vR (b614), vR (o_720), vR (d_116), .val .null] [] (fun _ k => XS.icmpNo X747.here hx rfl (hb hby at_157) rfl (flt (by decide : ¬ ((3 : Int32) < (2 : Int32)))).2.2.1 k) ?_
        refine gs m T747 162 #[vI (p0), vI (p1), vJ (p2), sS, vJ (p3), sS, vJ (p4), sS, vI ((3 : Int32)), vI ((2 : Int32)), vR (d_101), vR (d_116), vR (d_133), vR (b152), vR (b614), vR (o_720), vR (d_116), .val .null] [(.int (2 : Int32))] (fun _ k => XS.iload X747.here hx rfl (hb hby at_160) rfl  k) ?_
        refine gs m T747 163 #[vI (p0), vI (p1), vJ (p2), sS, vJ (p3), sS, vJ (p4), sS, vI ((3 : Int32)), vI ((2 : Int32)), vR (d_101), vR (d_116), vR (d_133), vR (b152), vR (b614), vR (o_720), vR (d_116), .val .null] [(.int (1 : Int32)), (.int (2 : Int32))] (fun _ k => XS.iconst X747.here hx rfl (hb hby at_162) k) ?_
        refine gs m T747 173 #[vI (p0), vI (p1), vJ (p2), sS, vJ (p3), sS, vJ (p4), sS, vI ((3 : Int32)), vI ((2 : Int32)), vR (d_101), vR (d_116), vR (d_133), vR (b152), vR (b614), vR (o_720), vR (d_116), .val .null] [] (fun _ k => XS.icmpYes X747.here hx rfl (pc0 := 163) (pc' := 173) rfl (hb hby at_163) rfl (feq (by decide : ¬ ((2 : Int32) = (1 : Int32)))).2 (by decide) (by decide) k) ?_
        refine gs m T747 175 #[vI (p0), vI (p1), vJ (p2), sS, vJ (p3), sS, vJ (p4), sS, vI ((3 : Int32)), vI ((2 : Int32)), vR (d_101), vR (d_116), vR (d_133), vR (b152), vR (b614), vR (o_720), vR (d_116), .val .null] [(.int (2 : Int32))] (fun _ k => XS.iload X747.here hx rfl (hb hby at_173) rfl  k) ?_
        refine gs m T747 176 #[vI (p0), vI (p1), vJ (p2), sS, vJ (p3), sS, vJ (p4), sS, vI ((3 : Int32)), vI ((2 : Int32)), vR (d_101), vR (d_116), vR (d_133), vR (b152), vR (b614), vR (o_720), vR (d_116), .val .null] [(.int (2 : Int32)), (.int (2 : Int32))] (fun _ k => XS.iconst X747.here hx rfl (hb hby at_175) k) ?_
        refine gs m T747 179 #[vI (p0), vI (p1), vJ (p2), sS, vJ (p3), sS, vJ (p4), sS, vI ((3 : Int32)), vI ((2 : Int32)), vR (d_101), vR (d_116), vR (d_133), vR (b152), vR (b614), vR (o_720), vR (d_116), .val .null] [] (fun _ k => XS.icmpNo X747.here hx rfl (hb hby at_176) rfl (teq (by decide : (2 : Int32) = (2 : Int32))).2 k) ?_
        refine gs m T747 181 #[vI (p0), vI (p1), vJ (p2), sS, vJ (p3), sS, vJ (p4), sS, vI ((3 : Int32)), vI ((2 : Int32)), vR (d_101), vR (d_116), vR (d_133), vR (b152), vR (b614), vR (o_720), vR (d_116), .val .null] [(.ref d_116)] (fun _ k => XS.aload X747.here hx rfl (hb hby at_179) rfl rfl k) ?_
        refine gs m T747 183 #[vI (p0), vI (p1), vJ (p2), sS, vJ (p3), sS, vJ (p4), sS, vI ((3 : Int32)), vI ((2 : Int32)), vR (d_101), vR (d_116), vR (d_133), vR (b152), vR (b614), vR (o_720), vR (d_116), vR (d_116)] [] (fun _ k => XS.astore X747.here hx rfl (hb hby at_181) rfl rfl (l' := #[vI (p0), vI (p1), vJ (p2), sS, vJ (p3), sS, vJ (p4), sS, vI ((3 : Int32)), vI ((2 : Int32)), vR (d_101), vR (d_116), vR (d_133), vR (b152), vR (b614), vR (o_720), vR (d_116), vR (d_116)]) rfl k) ?_
        refine gs m T747 190 #[vI (p0), vI (p1), vJ (p2), sS, vJ (p3), sS, vJ (p4), sS, vI ((3 : Int32)), vI ((2 : Int32)), vR (d_101), vR (d_116), vR (d_133), vR (b152), vR (b614), vR (o_720), vR (d_116), vR (d_116)] [] (fun _ k => XS.goto X747.here hx rfl (pc0 := 183) (pc' := 190) rfl (hb hby at_183) (by decide) (by decide) k) ?_
        refine gs m T747 192 #[vI (p0), vI (p1), vJ (p2), sS, vJ (p3), sS, vJ (p4), sS, vI ((3 : Int32)), vI ((2 : Int32)), vR (d_101), vR (d_116), vR (d_133), vR (b152), vR (b614), vR (o_720), vR (d_116), vR (d_116)] [(.ref d_116)] (fun _ k => XS.aload X747.here hx rfl (hb hby at_190) rfl rfl k) ?_
        refine gs m T747 206 #[vI (p0), vI (p1), vJ (p2), sS, vJ (p3), sS, vJ (p4), sS, vI ((3 : Int32)), vI ((2 : Int32)), vR (d_101), vR (d_116), vR (d_133), vR (b152), vR (b614), vR (o_720), vR (d_116), vR (d_116)] [] (fun _ k => XS.ifnonnullYes X747.here hx rfl (pc0 := 192) (pc' := 206) rfl (hb hby at_192) rfl (by decide) (by decide) k) ?_
        refine gs m T747 208 #[vI (p0), vI (p1), vJ (p2), sS, vJ (p3), sS, vJ (p4), sS, vI ((3 : Int32)), vI ((2 : Int32)), vR (d_101), vR (d_116), vR (d_133), vR (b152), vR (b614), vR (o_720), vR (d_116), vR (d_116)] [(.ref d_116)] (fun _ k => XS.aload X747.here hx rfl (hb hby at_206) rfl rfl k) ?_
        refine gs m T747 210 #[vI (p0), vI (p1), vJ (p2), sS, vJ (p3), sS, vJ (p4), sS, vI ((3 : Int32)), vI ((2 : Int32)), vR (d_101), vR (d_116), vR (d_133), vR (b152), vR (b614), vR (o_720), vR (d_116), vR (d_116)] [(.ref d_116), (.ref d_116)] (fun _ k => XS.aload X747.here hx rfl (hb hby at_208) rfl rfl k) ?_
        obtain ⟨cq748, kq748, q748a, q748b, q748c⟩ := isOf hZ e747 F739
        obtain ⟨_, _, ⟨T748, L748, k748, n748⟩, -, X748, ⟨Lc748, hQ748, l748, y748, z748⟩, st748⟩ := X747.virtualBack hx (y := (⟨"java/time/Duration", "equals", "(Ljava/lang/Object;)Z"⟩ : MethodName)) (z := (⟨"java/time/Duration", "equals", "(Ljava/lang/Object;)Z"⟩ : MethodName)) hown (mvT hZ (hwi hw 317 rfl)) (mvT hZ (hwi hw 318 rfl)) (notFace_of_selects (args := #[]) (mvT hZ (hwi hw 320 rfl))) (mvT hZ (hwi hw 320 rfl)) (mvT hZ (hwi hw 319 rfl)) (by decide) (backOf (W := 0) (Q := Qret (some (.int (1 : Int32))) T720.heap n0) (own_dueq l Z a0 hw [] d_116 T720.heap n0 Z720 ) hZ (hwi hw 321 rfl) (hwi hw 8 rfl) (by decide) (by decide)) q748a q748c (g := (mkF m 210 #[vI (p0), vI (p1), vJ (p2), sS, vJ (p3), sS, vJ (p4), sS, vI ((3 : Int32)), vI ((2 : Int32)), vR (d_101), vR (d_116), vR (d_133), vR (b152), vR (b614), vR (o_720), vR (d_116), vR (d_116)] [(.ref d_116), (.ref d_116)])) rfl (by rw [hml]; rfl) (Steps.refl _) (argsL := [(.ref d_116)]) (rest := []) (lenOf own_pd26 rfl) rfl (by show 2 * 0 + _ ≤ _; exact Nat.le_of_eq rfl) (hb hby at_210) (fun _ _ => ⟨rfl, e747, (by dsimp only [Pt.cells, Pt.slots, room_1]; omega), (by dsimp only [Pt.cells, Pt.slots, room_1]; omega)⟩)
        dsimp only [Pt.U, Pt.locs, Pt.cells, Pt.slots] at X748 l748 y748 z748 st748 hQ748
        subst l748 y748 z748
        obtain ⟨rfl, N748q, eh748⟩ := hQ748
        have N748 := Fr.app N746 N748q
        refine gs m T748 213 #[vI (p0), vI (p1), vJ (p2), sS, vJ (p3), sS, vJ (p4), sS, vI ((3 : Int32)), vI ((2 : Int32)), vR (d_101), vR (d_116), vR (d_133), vR (b152), vR (b614), vR (o_720), vR (d_116), vR (d_116)] [(.int (1 : Int32))] (fun _ k => st748.trans k) ?_
        exact Go.retN X748 hx (t := .boolean) hret hlk (by simp) (hb hby at_213) (⟨rfl, N748⟩) (by omega) (by omega)
      · skip
        have hkl : kq = (3 : Int32) := Int32.toInt_inj.mp hkj
        subst hkl
        refine gs m T645 132 #[vI (p0), vI (p1), vJ (p2), sS, vJ (p3), sS, vJ (p4), sS, vI ((3 : Int32)), vI ((3 : Int32)), vR (d_101), vR (d_116), vR (d_133), vR (b152), vR (b614), sU, sU, sU] [(.ref b614)] (fun _ k => XS.aload X645.here hx rfl (hb hby at_130) rfl rfl k) ?_
        refine gs m T645 134 #[vI (p0), vI (p1), vJ (p2), sS, vJ (p3), sS, vJ (p4), sS, vI ((3 : Int32)), vI ((3 : Int32)), vR (d_101), vR (d_116), vR (d_133), vR (b152), vR (b614), sU, sU, sU] [(.int (3 : Int32)), (.ref b614)] (fun _ k => XS.iload X645.here hx rfl (hb hby at_132) rfl  k) ?_
        obtain ⟨cq749, kq749, q749a, q749b, q749c⟩ := isOf hZ rfl P645_0
        obtain ⟨_, _, ⟨T749, L749, k749, n749⟩, -, X749, ⟨Lc749, hQ749, l749, y749, z749⟩, st749⟩ := X645.virtualBack hx (y := (⟨"com/example/nuthatch/nuthatch/RetrySchedule", "delayAfterFailure", "(I)Ljava/util/Optional;"⟩ : MethodName)) (z := (⟨"com/example/nuthatch/nuthatch/RetrySchedule", "delayAfterFailure", "(I)Ljava/util/Optional;"⟩ : MethodName)) hown (mvT hZ (hwi hw 137 rfl)) (mvT hZ (hwi hw 138 rfl)) (notFace_of_selects (args := #[]) (mvT hZ (hwi hw 140 rfl))) (mvT hZ (hwi hw 140 rfl)) (mvT hZ (hwi hw 139 rfl)) (by decide) (backOf (W := 0) (Q := fun v h L => ∃ o : Addr, (v = some (.ref o)) ∧ (Fr n0 L) ∧ (Keep T645.heap h []) ∧ (T645.heap.size ≤ o) ∧ (Exa Z h o "java/util/Optional") ∧ (Fld Z h o "java/util/Optional" "value" "Ljava/lang/Object;" (.ref d_133))) (own_daf3_2 l Z a0 hw [] b614 lst_645 b2_645 k2_645 d_101 d_116 d_133 T645.heap n0 Z645 P645_0 P645_1 P645_2 P645_3 P645_4 F681) hZ (hwi hw 141 rfl) (hwi hw 52 rfl) (by decide) (by decide)) q749a q749c (g := (mkF m 134 #[vI (p0), vI (p1), vJ (p2), sS, vJ (p3), sS, vJ (p4), sS, vI ((3 : Int32)), vI ((3 : Int32)), vR (d_101), vR (d_116), vR (d_133), vR (b152), vR (b614), sU, sU, sU] [(.int (3 : Int32)), (.ref b614)])) rfl (by rw [hml]; rfl) (Steps.refl _) (argsL := [(.int (3 : Int32))]) (rest := []) (lenOf own_pd25 rfl) rfl (by show 2 * 0 + _ ≤ _; exact Nat.le_of_eq rfl) (hb hby at_134) (fun _ _ => ⟨rfl, rfl, (by dsimp only [Pt.cells, Pt.slots, room_1]; omega), (by dsimp only [Pt.cells, Pt.slots, room_1]; omega)⟩)
        dsimp only [Pt.U, Pt.locs, Pt.cells, Pt.slots] at X749 l749 y749 z749 st749 hQ749
        subst l749 y749 z749
        obtain ⟨o_749, rfl, N749q, K749, lt749_0, P749_0, P749_1⟩ := hQ749
        have N749 := Fr.app N645 N749q
        have ne750 : el ≠ o_749 := Nat.ne_of_lt (Nat.lt_of_lt_of_le F669.lt lt749_0)
        have ne751 : bz ≠ o_749 := Nat.ne_of_lt (Nat.lt_of_lt_of_le F671.lt lt749_0)
        have ne752 : oe ≠ o_749 := Nat.ne_of_lt (Nat.lt_of_lt_of_le F675.lt lt749_0)
        have ne753 : d_101 ≠ o_749 := Nat.ne_of_lt (Nat.lt_of_lt_of_le F677.lt lt749_0)
        have ne754 : d_116 ≠ o_749 := Nat.ne_of_lt (Nat.lt_of_lt_of_le F679.lt lt749_0)
        have ne755 : d_133 ≠ o_749 := Nat.ne_of_lt (Nat.lt_of_lt_of_le F681.lt lt749_0)
        have ne756 : b614 ≠ o_749 := Nat.ne_of_lt (Nat.lt_of_lt_of_le P645_0.lt lt749_0)
        have ne757 : lst_645 ≠ o_749 := Nat.ne_of_lt (Nat.lt_of_lt_of_le P645_2.lt lt749_0)
        have ne758 : b2_645 ≠ o_749 := Nat.ne_of_lt (Nat.lt_of_lt_of_le P645_4.lt lt749_0)
        have ge759 : n0 ≤ o_749 := Nat.le_trans Z645 lt749_0
        have Z749 : n0 ≤ T749.heap.size := Nat.le_trans Z645 K749.1
        have F760 := F669.keep K749
        have F761 := F670.keep K749 nin0
        have F762 := F671.keep K749 nin0
        have F763 := own_sta_keep F672 K749 all0
        have F764 := own_sta_keep F674 K749 all0
        have F765 := F675.keep K749
        have F766 := F676.keep K749 nin0
        have F767 := F677.keep K749
        have F768 := F679.keep K749
        have F769 := F681.keep K749
        have F770 := P645_0.keep K749
        have F771 := P645_1.keep K749 nin0
        have F772 := P645_2.keep K749
        have F773 := P645_3.keep K749 nin0
        have F774 := P645_4.keep K749 nin0
        refine gs m T749 137 #[vI (p0), vI (p1), vJ (p2), sS, vJ (p3), sS, vJ (p4), sS, vI ((3 : Int32)), vI ((3 : Int32)), vR (d_101), vR (d_116), vR (d_133), vR (b152), vR (b614), sU, sU, sU] [(.ref o_749)] (fun _ k => st749.trans k) ?_
        refine gs m T749 139 #[vI (p0), vI (p1), vJ (p2), sS, vJ (p3), sS, vJ (p4), sS, vI ((3 : Int32)), vI ((3 : Int32)), vR (d_101), vR (d_116), vR (d_133), vR (b152), vR (b614), vR (o_749), sU, sU] [] (fun _ k => XS.astore X749.here hx rfl (hb hby at_137) rfl rfl (l' := #[vI (p0), vI (p1), vJ (p2), sS, vJ (p3), sS, vJ (p4), sS, vI ((3 : Int32)), vI ((3 : Int32)), vR (d_101), vR (d_116), vR (d_133), vR (b152), vR (b614), vR (o_749), sU, sU]) rfl k) ?_
        refine gs m T749 141 #[vI (p0), vI (p1), vJ (p2), sS, vJ (p3), sS, vJ (p4), sS, vI ((3 : Int32)), vI ((3 : Int32)), vR (d_101), vR (d_116), vR (d_133), vR (b152), vR (b614), vR (o_749), sU, sU] [(.ref o_749)] (fun _ k => XS.aload X749.here hx rfl (hb hby at_139) rfl rfl k) ?_
        refine gs m T749 142 #[vI (p0), vI (p1), vJ (p2), sS, vJ (p3), sS, vJ (p4), sS, vI ((3 : Int32)), vI ((3 : Int32)), vR (d_101), vR (d_116), vR (d_133), vR (b152), vR (b614), vR (o_749), sU, sU] [.null, (.ref o_749)] (fun _ k => XS.aconstNull X749.here hx rfl (hb hby at_141) k) ?_
        obtain ⟨cq775, kq775, q775a, q775b, q775c⟩ := isOf hZ rfl P749_0
        obtain ⟨_, _, ⟨T775, L775, k775, n775⟩, -, X775, ⟨Lc775, hQ775, l775, y775, z775⟩, st775⟩ := X749.virtualBack hx (y := (⟨"java/util/Optional", "orElse", "(Ljava/lang/Object;)Ljava/lang/Object;"⟩ : MethodName)) (z := (⟨"java/util/Optional", "orElse", "(Ljava/lang/Object;)Ljava/lang/Object;"⟩ : MethodName)) hown (mvT hZ (hwi hw 153 rfl)) (mvT hZ (hwi hw 154 rfl)) (notFace_of_selects (args := #[]) (mvT hZ (hwi hw 156 rfl))) (mvT hZ (hwi hw 156 rfl)) (mvT hZ (hwi hw 155 rfl)) (by decide) (backOf (W := 0) (Q := Qret (some (.ref d_133)) T749.heap n0) (own_oel l Z a0 hw [] o_749 d_133 T749.heap n0 Z749 P749_1) hZ (hwi hw 157 rfl) (hwi hw 150 rfl) (by decide) (by decide)) q775a q775c (g := (mkF m 142 #[vI (p0), vI (p1), vJ (p2), sS, vJ (p3), sS, vJ (p4), sS, vI ((3 : Int32)), vI ((3 : Int32)), vR (d_101), vR (d_116), vR (d_133), vR (b152), vR (b614), vR (o_749), sU, sU] [.null, (.ref o_749)])) rfl (by rw [hml]; rfl) (Steps.refl _) (argsL := [.null]) (rest := []) (lenOf own_pd6 rfl) rfl (by show 2 * 0 + _ ≤ _; exact Nat.le_of_eq rfl) (hb hby at_142) (fun _ _ => ⟨rfl, rfl, (by dsimp only [Pt.cells, Pt.slots, room_1]; omega), (by dsimp only [Pt.cells, Pt.slots, room_1]; omega)⟩)
        dsimp only [Pt.U, Pt.locs, Pt.cells, Pt.slots] at X775 l775 y775 z775 st775 hQ775
        subst l775 y775 z775
        obtain ⟨rfl, N775q, eh775⟩ := hQ775
        have N775 := Fr.app N749 N775q
        refine gs m T775 145 #[vI (p0), vI (p1), vJ (p2), sS, vJ (p3), sS, vJ (p4), sS, vI ((3 : Int32)), vI ((3 : Int32)), vR (d_101), vR (d_116), vR (d_133), vR (b152), vR (b614), vR (o_749), sU, sU] [(.ref d_133)] (fun _ k => st775.trans k) ?_
        obtain ⟨T776, X776, e776, st776⟩ := castY X775 hx hZ hown (hwi hw 316 rfl) eh775 (Ins.self F769) (g := (mkF m 145 #[vI (p0), vI (p1), vJ (p2), sS, vJ (p3), sS, vJ (p4), sS, vI ((3 : Int32)), vI ((3 : Int32)), vR (d_101), vR (d_116), vR (d_133), vR (b152), vR (b614), vR (o_749), sU, sU] [(.ref d_133)])) rfl rfl (hb hby at_145)
        refine gs m T776 148 #[vI (p0), vI (p1), vJ (p2), sS, vJ (p3), sS, vJ (p4), sS, vI ((3 : Int32)), vI ((3 : Int32)), vR (d_101), vR (d_116), vR (d_133), vR (b152), vR (b614), vR (o_749), sU, sU] [(.ref d_133)] st776 ?_
        refine gs m T776 150 #[vI (p0), vI (p1), vJ (p2), sS, vJ (p3), sS, vJ (p4), sS, vI ((3 : Int32)), vI ((3 : Int32)), vR (d_101), vR (d_116), vR (d_133), vR (b152), vR (b614), vR (o_749), vR (d_133), sU] [] (fun _ k => XS.astore X776.here hx rfl (hb hby at_148) rfl rfl (l' := #[vI (p0), vI (p1), vJ (p2), sS, vJ (p3), sS, vJ (p4), sS, vI ((3 : Int32)), vI ((3 : Int32)), vR (d_101), vR (d_116), vR (d_133), vR (b152), vR (b614), vR (o_749), vR (d_133), sU]) rfl k) ?_
        refine gs m T776 151 #[vI (p0), vI (p1), vJ (p2), sS, vJ (p3), sS, vJ (p4), sS, vI ((3 : Int32)), vI ((3 : Int32)), vR (d_101), vR (d_116), vR (d_133), vR (b152), vR (b614), vR (o_749), vR (d_133), sU] [.null] (fun _ k => XS.aconstNull X776.here hx rfl (hb hby at_150) k) ?_
        refine gs m T776 153 #[vI (p0), vI (p1), vJ (p2), sS, vJ (p3), sS, vJ (p4), sS, vI ((3 : Int32)), vI ((3 : Int32)), vR (d_101), vR (d_116), vR (d_133), vR (b152), vR (b614), vR (o_749), vR (d_133), .val .null] [] (fun _ k => XS.astore X776.here hx rfl (hb hby at_151) rfl rfl (l' := #[vI (p0), vI (p1), vJ (p2), sS, vJ (p3), sS, vJ (p4), sS, vI ((3 : Int32)), vI ((3 : Int32)), vR (d_101), vR (d_116), vR (d_133), vR (b152), vR (b614), vR (o_749), vR (d_133), .val .null]) rfl k) ?_
        refine gs m T776 155 #[vI (p0), vI (p1), vJ (p2), sS, vJ (p3), sS, vJ (p4), sS, vI ((3 : Int32)), vI ((3 : Int32)), vR (d_101), vR (d_116), vR (d_133), vR (b152), vR (b614), vR (o_749), vR (d_133), .val .null] [(.int (3 : Int32))] (fun _ k => XS.iload X776.here hx rfl (hb hby at_153) rfl  k) ?_
        refine gs m T776 157 #[vI (p0), vI (p1), vJ (p2), sS, vJ (p3), sS, vJ (p4), sS, vI ((3 : Int32)), vI ((3 : Int32)), vR (d_101), vR (d_116), vR (d_133), vR (b152), vR (b614), vR (o_749), vR (d_133), .val .null] [(.int (3 : Int32)), (.int (3 : Int32))] (fun _ k => XS.iload X776.here hx rfl (hb hby at_155) rfl  k) ?_
        refine gs m T776 160 #[vI (p0), vI (p1), vJ (p2), sS, vJ (p3), sS, vJ (p4), sS, vI ((3 : Int32)), vI ((3 : Int32)), vR (d_101), vR (d_116), vR (d_133), vR (b152), vR (b614), vR (o_749), vR (d_133), .val .null] [] (fun _ k => XS.icmpNo X776.here hx rfl (hb hby at_157) rfl (flt (by decide : ¬ ((3 : Int32) < (3 : Int32)))).2.2.1 k) ?_
        refine gs m T776 162 #[vI (p0), vI (p1), vJ (p2), sS, vJ (p3), sS, vJ (p4), sS, vI ((3 : Int32)), vI ((3 : Int32)), vR (d_101), vR (d_116), vR (d_133), vR (b152), vR (b614), vR (o_749), vR (d_133), .val .null] [(.int (3 : Int32))] (fun _ k => XS.iload X776.here hx rfl (hb hby at_160) rfl  k) ?_
        refine gs m T776 163 #[vI (p0), vI (p1), vJ (p2), sS, vJ (p3), sS, vJ (p4), sS, vI ((3 : Int32)), vI ((3 : Int32)), vR (d_101), vR (d_116), vR (d_133), vR (b152), vR (b614), vR (o_749), vR (d_133), .val .null] [(.int (1 : Int32)), (.int (3 : Int32))] (fun _ k => XS.iconst X776.here hx rfl (hb hby at_162) k) ?_
        refine gs m T776 173 #[vI (p0), vI (p1), vJ (p2), sS, vJ (p3), sS, vJ (p4), sS, vI ((3 : Int32)), vI ((3 : Int32)), vR (d_101), vR (d_116), vR (d_133), vR (b152), vR (b614), vR (o_749), vR (d_133), .val .null] [] (fun _ k => XS.icmpYes X776.here hx rfl (pc0 := 163) (pc' := 173) rfl (hb hby at_163) rfl (feq (by decide : ¬ ((3 : Int32) = (1 : Int32)))).2 (by decide) (by decide) k) ?_
        refine gs m T776 175 #[vI (p0), vI (p1), vJ (p2), sS, vJ (p3), sS, vJ (p4), sS, vI ((3 : Int32)), vI ((3 : Int32)), vR (d_101), vR (d_116), vR (d_133), vR (b152), vR (b614), vR (o_749), vR (d_133), .val .null] [(.int (3 : Int32))] (fun _ k => XS.iload X776.here hx rfl (hb hby at_173) rfl  k) ?_
        refine gs m T776 176 #[vI (p0), vI (p1), vJ (p2), sS, vJ (p3), sS, vJ (p4), sS, vI ((3 : Int32)), vI ((3 : Int32)), vR (d_101), vR (d_116), vR (d_133), vR (b152), vR (b614), vR (o_749), vR (d_133), .val .null] [(.int (2 : Int32)), (.int (3 : Int32))] (fun _ k => XS.iconst X776.here hx rfl (hb hby at_175) k) ?_
        refine gs m T776 186 #[vI (p0), vI (p1), vJ (p2), sS, vJ (p3), sS, vJ (p4), sS, vI ((3 : Int32)), vI ((3 : Int32)), vR (d_101), vR (d_116), vR (d_133), vR (b152), vR (b614), vR (o_749), vR (d_133), .val .null] [] (fun _ k => XS.icmpYes X776.here hx rfl (pc0 := 176) (pc' := 186) rfl (hb hby at_176) rfl (feq (by decide : ¬ ((3 : Int32) = (2 : Int32)))).2 (by decide) (by decide) k) ?_
        refine gs m T776 188 #[vI (p0), vI (p1), vJ (p2), sS, vJ (p3), sS, vJ (p4), sS, vI ((3 : Int32)), vI ((3 : Int32)), vR (d_101), vR (d_116), vR (d_133), vR (b152), vR (b614), vR (o_749), vR (d_133), .val .null] [(.ref d_133)] (fun _ k => XS.aload X776.here hx rfl (hb hby at_186) rfl rfl k) ?_
        refine gs m T776 190 #[vI (p0), vI (p1), vJ (p2), sS, vJ (p3), sS, vJ (p4), sS, vI ((3 : Int32)), vI ((3 : Int32)), vR (d_101), vR (d_116), vR (d_133), vR (b152), vR (b614), vR (o_749), vR (d_133), vR (d_133)] [] (fun _ k => XS.astore X776.here hx rfl (hb hby at_188) rfl rfl (l' := #[vI (p0), vI (p1), vJ (p2), sS, vJ (p3), sS, vJ (p4), sS, vI ((3 : Int32)), vI ((3 : Int32)), vR (d_101), vR (d_116), vR (d_133), vR (b152), vR (b614), vR (o_749), vR (d_133), vR (d_133)]) rfl k) ?_
        refine gs m T776 192 #[vI (p0), vI (p1), vJ (p2), sS, vJ (p3), sS, vJ (p4), sS, vI ((3 : Int32)), vI ((3 : Int32)), vR (d_101), vR (d_116), vR (d_133), vR (b152), vR (b614), vR (o_749), vR (d_133), vR (d_133)] [(.ref d_133)] (fun _ k => XS.aload X776.here hx rfl (hb hby at_190) rfl rfl k) ?_
        refine gs m T776 206 #[vI (p0), vI (p1), vJ (p2), sS, vJ (p3), sS, vJ (p4), sS, vI ((3 : Int32)), vI ((3 : Int32)), vR (d_101), vR (d_116), vR (d_133), vR (b152), vR (b614), vR (o_749), vR (d_133), vR (d_133)] [] (fun _ k => XS.ifnonnullYes X776.here hx rfl (pc0 := 192) (pc' := 206) rfl (hb hby at_192) rfl (by decide) (by decide) k) ?_
        refine gs m T776 208 #[vI (p0), vI (p1), vJ (p2), sS, vJ (p3), sS, vJ (p4), sS, vI ((3 : Int32)), vI ((3 : Int32)), vR (d_101), vR (d_116), vR (d_133), vR (b152), vR (b614), vR (o_749), vR (d_133), vR (d_133)] [(.ref d_133)] (fun _ k => XS.aload X776.here hx rfl (hb hby at_206) rfl rfl k) ?_
        refine gs m T776 210 #[vI (p0), vI (p1), vJ (p2), sS, vJ (p3), sS, vJ (p4), sS, vI ((3 : Int32)), vI ((3 : Int32)), vR (d_101), vR (d_116), vR (d_133), vR (b152), vR (b614), vR (o_749), vR (d_133), vR (d_133)] [(.ref d_133), (.ref d_133)] (fun _ k => XS.aload X776.here hx rfl (hb hby at_208) rfl rfl k) ?_
        obtain ⟨cq777, kq777, q777a, q777b, q777c⟩ := isOf hZ e776 F769
        obtain ⟨_, _, ⟨T777, L777, k777, n777⟩, -, X777, ⟨Lc777, hQ777, l777, y777, z777⟩, st777⟩ := X776.virtualBack hx (y := (⟨"java/time/Duration", "equals", "(Ljava/lang/Object;)Z"⟩ : MethodName)) (z := (⟨"java/time/Duration", "equals", "(Ljava/lang/Object;)Z"⟩ : MethodName)) hown (mvT hZ (hwi hw 317 rfl)) (mvT hZ (hwi hw 318 rfl)) (notFace_of_selects (args := #[]) (mvT hZ (hwi hw 320 rfl))) (mvT hZ (hwi hw 320 rfl)) (mvT hZ (hwi hw 319 rfl)) (by decide) (backOf (W := 0) (Q := Qret (some (.int (1 : Int32))) T749.heap n0) (own_dueq l Z a0 hw [] d_133 T749.heap n0 Z749 ) hZ (hwi hw 321 rfl) (hwi hw 8 rfl) (by decide) (by decide)) q777a q777c (g := (mkF m 210 #[vI (p0), vI (p1), vJ (p2), sS, vJ (p3), sS, vJ (p4), sS, vI ((3 : Int32)), vI ((3 : Int32)), vR (d_101), vR (d_116), vR (d_133), vR (b152), vR (b614), vR (o_749), vR (d_133), vR (d_133)] [(.ref d_133), (.ref d_133)])) rfl (by rw [hml]; rfl) (Steps.refl _) (argsL := [(.ref d_133)]) (rest := []) (lenOf own_pd26 rfl) rfl (by show 2 * 0 + _ ≤ _; exact Nat.le_of_eq rfl) (hb hby at_210) (fun _ _ => ⟨rfl, e776, (by dsimp only [Pt.cells, Pt.slots, room_1]; omega), (by dsimp only [Pt.cells, Pt.slots, room_1]; omega)⟩)
        dsimp only [Pt.U, Pt.locs, Pt.cells, Pt.slots] at X777 l777 y777 z777 st777 hQ777
        subst l777 y777 z777
        obtain ⟨rfl, N777q, eh777⟩ := hQ777
        have N777 := Fr.app N775 N777q
        refine gs m T777 213 #[vI (p0), vI (p1), vJ (p2), sS, vJ (p3), sS, vJ (p4), sS, vI ((3 : Int32)), vI ((3 : Int32)), vR (d_101), vR (d_116), vR (d_133), vR (b152), vR (b614), vR (o_749), vR (d_133), vR (d_133)] [(.int (1 : Int32))] (fun _ k => st777.trans k) ?_
        exact Go.retN X777 hx (t := .boolean) hret hlk (by simp) (hb hby at_213) (⟨rfl, N777⟩) (by omega) (by omega)
theorem own_ef_code_IIJJJ (m : MethodId) (x0 : Int32) (x1 : Int32) (x2 : Int64) (x3 : Int64) (x4 : Int64) : entryFrame m #[(.int x0), (.int x1), (.long x2), (.long x3), (.long x4)] maxLocals = mkF m 0 #[vI (x0), vI (x1), vJ (x2), sS, vJ (x3), sS, vJ (x4), sS, sU, sU, sU, sU, sU, sU, sU, sU, sU, sU] [] := by first | (simp [entryFrame, mkF, argsToLocals, Value.category, maxLocals]; done) | rfl | (simp [entryFrame, mkF, argsToLocals, own_cI, own_cJ, own_cR, own_cN, maxLocals]; done)
theorem own_pn_RetryScheduleDelayAfterFailurePinLaw : plainName "com/example/nuthatch/nuthatch/RetryScheduleDelayAfterFailurePinLaw" = true := by first | (simp [plainName, overriddenIn]; done) | decide +kernel
theorem rm0 (l : Launch) (Z : State) (a0 : Array Value) (hw : ∀ d ∈ tables_1, d.before a0 Z = true) (ws : List Jvm.Cond) (p0 p1 : Int32) (p2 p3 p4 : Int64) (z0 : Addr) (ea : Addr) (ke : ClassId) (el : Addr) (bz : Addr) (kz : ClassId) (em : Addr) (oe : Addr) (h0 : Heap) (n0 : Nat) (Z0 : n0 ≤ h0.size) (f0 : Sta Z h0 "java/time/Duration" "ZERO" "Ljava/time/Duration;" (.ref z0)) (f1 : Exa Z h0 z0 "java/time/Duration") (f2 : Fld Z h0 z0 "java/time/Duration" "seconds" "J" (.long (0 : Int64))) (f3 : Sta Z h0 "java/util/ArrayList" "DEFAULTCAPACITY_EMPTY_ELEMENTDATA" "[Ljava/lang/Object;" (.ref ea)) (f4 : Arv Z h0 ea ke (.object "java/lang/Object") (0 : Int32) [] .null) (f5 : Sta Z h0 "java/util/ImmutableCollections" "EMPTY_LIST" "Ljava/util/ImmutableCollections$ListN;" (.ref el)) (f6 : Exa Z h0 el "java/util/ImmutableCollections$ListN") (f7 : Fld Z h0 el "java/util/ImmutableCollections$ListN" "elements" "[Ljava/lang/Object;" (.ref bz)) (f8 : Arv Z h0 bz kz (.object "java/lang/Object") (0 : Int32) [] .null) (f9 : Sta Z h0 "java/util/ImmutableCollections" "EMPTY" "Ljava/lang/Object;" (.ref em)) (f10 : Exa Z h0 em "java/lang/Object") (f11 : Sta Z h0 "java/util/Optional" "EMPTY" "Ljava/util/Optional;" (.ref oe)) (f12 : Exa Z h0 oe "java/util/Optional") (f13 : Fld Z h0 oe "java/util/Optional" "value" "Ljava/lang/Object;" .null) (MM : MirrorMade Z "[Ljava/lang/Object;") :
    Con l Z x code maxLocals ret room_1 ws #[(.int p0), (.int p1), (.long p2), (.long p3), (.long p4)] h0 (Q0 n0) 32 192 := by
  refine Con.of (plainFor_of_name own_pn_RetryScheduleDelayAfterFailurePinLaw) ?_
  intro pgm e s m below meth c s₁ X0 hx hZ hby hml hown hnm hret hlk e0 hs0
  have N0 := Fr.nil n0
  have hown : s.vm.findClass "com/example/nuthatch/nuthatch/RetryScheduleDelayAfterFailurePinLaw" = some m.cls := hown
  have hnm : meth.name = "law" := hnm
  refine Go.cast (own_ef_code_IIJJJ m p0 p1 p2 p3 p4) ?_
  refine gs m s₁ 1 #[vI (p0), vI (p1), vJ (p2), sS, vJ (p3), sS, vJ (p4), sS, sU, sU, sU, sU, sU, sU, sU, sU, sU, sU] [(.int p0)] (fun _ k => XS.iloadN X0.here hx rfl (hb hby at_0) rfl  k) ?_
  refine gs m s₁ 2 #[vI (p0), vI (p1), vJ (p2), sS, vJ (p3), sS, vJ (p4), sS, sU, sU, sU, sU, sU, sU, sU, sU, sU, sU] [(.int (3 : Int32)), (.int p0)] (fun _ k => XS.iconst X0.here hx rfl (hb hby at_1) k) ?_
  refine gs m s₁ 3 #[vI (p0), vI (p1), vJ (p2), sS, vJ (p3), sS, vJ (p4), sS, sU, sU, sU, sU, sU, sU, sU, sU, sU, sU] [(.int (p0 &&& (3 : Int32)))] (fun _ k => XS.iand X0.here hx rfl (hb hby at_2) rfl k) ?_
  refine gs m s₁ 5 #[vI (p0), vI (p1), vJ (p2), sS, vJ (p3), sS, vJ (p4), sS, vI ((p0 &&& (3 : Int32))), sU, sU, sU, sU, sU, sU, sU, sU, sU] [] (fun _ k => XS.istore X0.here hx rfl (hb hby at_3) rfl (l' := #[vI (p0), vI (p1), vJ (p2), sS, vJ (p3), sS, vJ (p4), sS, vI ((p0 &&& (3 : Int32))), sU, sU, sU, sU, sU, sU, sU, sU, sU]) rfl k) ?_
  refine gs m s₁ 6 #[vI (p0), vI (p1), vJ (p2), sS, vJ (p3), sS, vJ (p4), sS, vI ((p0 &&& (3 : Int32))), sU, sU, sU, sU, sU, sU, sU, sU, sU] [(.int p0)] (fun _ k => XS.iloadN X0.here hx rfl (hb hby at_5) rfl  k) ?_
  refine gs m s₁ 7 #[vI (p0), vI (p1), vJ (p2), sS, vJ (p3), sS, vJ (p4), sS, vI ((p0 &&& (3 : Int32))), sU, sU, sU, sU, sU, sU, sU, sU, sU] [(.int (2 : Int32)), (.int p0)] (fun _ k => XS.iconst X0.here hx rfl (hb hby at_6) k) ?_
  refine gs m s₁ 8 #[vI (p0), vI (p1), vJ (p2), sS, vJ (p3), sS, vJ (p4), sS, vI ((p0 &&& (3 : Int32))), sU, sU, sU, sU, sU, sU, sU, sU, sU] [(.int (p0 >>> ((2 : Int32) &&& 31)))] (fun _ k => XS.ishr X0.here hx rfl (hb hby at_7) rfl k) ?_
  refine gs m s₁ 9 #[vI (p0), vI (p1), vJ (p2), sS, vJ (p3), sS, vJ (p4), sS, vI ((p0 &&& (3 : Int32))), sU, sU, sU, sU, sU, sU, sU, sU, sU] [(.int (1 : Int32)), (.int (p0 >>> ((2 : Int32) &&& 31)))] (fun _ k => XS.iconst X0.here hx rfl (hb hby at_8) k) ?_
  refine gs m s₁ 10 #[vI (p0), vI (p1), vJ (p2), sS, vJ (p3), sS, vJ (p4), sS, vI ((p0 &&& (3 : Int32))), sU, sU, sU, sU, sU, sU, sU, sU, sU] [(.int ((p0 >>> ((2 : Int32) &&& 31)) &&& (1 : Int32)))] (fun _ k => XS.iand X0.here hx rfl (hb hby at_9) rfl k) ?_
  by_cases hc101 : ((p0 >>> ((2 : Int32) &&& 31)) &&& (1 : Int32)) = (0 : Int32)
  · skip
    refine gs m s₁ 26 #[vI (p0), vI (p1), vJ (p2), sS, vJ (p3), sS, vJ (p4), sS, vI ((p0 &&& (3 : Int32))), sU, sU, sU, sU, sU, sU, sU, sU, sU] [] (fun _ k => XS.ifYes X0.here hx rfl (pc0 := 10) (pc' := 26) rfl (hb hby at_10) rfl ((if0 _ _).trans (teq hc101).1) (by decide) (by decide) k) ?_
    refine gs m s₁ 27 #[vI (p0), vI (p1), vJ (p2), sS, vJ (p3), sS, vJ (p4), sS, vI ((p0 &&& (3 : Int32))), sU, sU, sU, sU, sU, sU, sU, sU, sU] [(.int (1 : Int32))] (fun _ k => XS.iconst X0.here hx rfl (hb hby at_26) k) ?_
    refine gs m s₁ 28 #[vI (p0), vI (p1), vJ (p2), sS, vJ (p3), sS, vJ (p4), sS, vI ((p0 &&& (3 : Int32))), sU, sU, sU, sU, sU, sU, sU, sU, sU] [(.int p1), (.int (1 : Int32))] (fun _ k => XS.iloadN X0.here hx rfl (hb hby at_27) rfl  k) ?_
    refine gs m s₁ 30 #[vI (p0), vI (p1), vJ (p2), sS, vJ (p3), sS, vJ (p4), sS, vI ((p0 &&& (3 : Int32))), sU, sU, sU, sU, sU, sU, sU, sU, sU] [(.int (2147483647 : Int32)), (.int p1), (.int (1 : Int32))] (fun _ k => Jvm.Stand.ldcI (g := (mkF m 28 #[vI (p0), vI (p1), vJ (p2), sS, vJ (p3), sS, vJ (p4), sS, vI ((p0 &&& (3 : Int32))), sU, sU, sU, sU, sU, sU, sU, sU, sU] [(.int p1), (.int (1 : Int32))])) X0 hx hown (mvT hZ (hwi hw 0 rfl)) rfl (hb hby at_28) k) ?_
    refine gs m s₁ 31 #[vI (p0), vI (p1), vJ (p2), sS, vJ (p3), sS, vJ (p4), sS, vI ((p0 &&& (3 : Int32))), sU, sU, sU, sU, sU, sU, sU, sU, sU] [(.int (p1 &&& (2147483647 : Int32))), (.int (1 : Int32))] (fun _ k => XS.iand X0.here hx rfl (hb hby at_30) rfl k) ?_
    obtain ⟨_, _, ⟨T102, L102, k102, n102⟩, -, X102, ⟨Lc102, hQ102, l102, y102, z102⟩, st102⟩ := Jvm.LawKit.callS X0 hx (y := (⟨"java/lang/Math", "max", "(II)I"⟩ : MethodName)) hown (mvT hZ (hwi hw 1 rfl)) (mvT hZ (hwi hw 2 rfl)) (mvT hZ (hwi hw 3 rfl)) (mvT hZ (hwi hw 4 rfl)) (by decide) (backOf (W := 0) (Q := Qret (some (.int (own_mx (1 : Int32) (p1 &&& (2147483647 : Int32))))) h0 n0) (own_max l Z a0 hw [] (1 : Int32) (p1 &&& (2147483647 : Int32)) h0 n0 Z0) hZ (hwi hw 4 rfl) (hwi hw 3 rfl) (by decide) (by decide)) (g := (mkF m 31 #[vI (p0), vI (p1), vJ (p2), sS, vJ (p3), sS, vJ (p4), sS, vI ((p0 &&& (3 : Int32))), sU, sU, sU, sU, sU, sU, sU, sU, sU] [(.int (p1 &&& (2147483647 : Int32))), (.int (1 : Int32))])) rfl (by rw [hml]; rfl) (argsL := [(.int (1 : Int32)), (.int (p1 &&& (2147483647 : Int32)))]) (rest := []) (lenOf own_pd1 rfl) rfl (by show 2 * 0 + _ ≤ _; exact Nat.le_of_eq rfl) (hb hby at_31) (fun _ _ => ⟨rfl, e0, (by decide : 0 + 0 ≤ _), (by decide : 0 + 0 ≤ _)⟩)
    dsimp only [Pt.U, Pt.locs, Pt.cells, Pt.slots] at X102 l102 y102 z102 st102 hQ102
    subst l102 y102 z102
    obtain ⟨rfl, N102q, eh102⟩ := hQ102
    have N102 := Fr.app N0 N102q
    refine gs m T102 34 #[vI (p0), vI (p1), vJ (p2), sS, vJ (p3), sS, vJ (p4), sS, vI ((p0 &&& (3 : Int32))), sU, sU, sU, sU, sU, sU, sU, sU, sU] [(.int (own_mx (1 : Int32) (p1 &&& (2147483647 : Int32))))] (st102) ?_
    refine gs m T102 36 #[vI (p0), vI (p1), vJ (p2), sS, vJ (p3), sS, vJ (p4), sS, vI ((p0 &&& (3 : Int32))), vI ((own_mx (1 : Int32) (p1 &&& (2147483647 : Int32)))), sU, sU, sU, sU, sU, sU, sU, sU] [] (fun _ k => XS.istore X102.here hx rfl (hb hby at_34) rfl (l' := #[vI (p0), vI (p1), vJ (p2), sS, vJ (p3), sS, vJ (p4), sS, vI ((p0 &&& (3 : Int32))), vI ((own_mx (1 : Int32) (p1 &&& (2147483647 : Int32)))), sU, sU, sU, sU, sU, sU, sU, sU]) rfl k) ?_
    exact own_law p0 p1 p2 p3 p4 (p0 &&& (3 : Int32)) (own_mx (1 : Int32) (p1 &&& (2147483647 : Int32))) z0 ea ke el bz kz em oe X102 hx hZ hw hby hml hown hret hlk eh102 N102 Z0 (by decide) (by decide) f0 f1 f2 f3 f4 f5 f6 f7 f8 f9 f10 f11 f12 f13 (own_k2 _) (own_n3 p0) MM
  · skip
    refine gs m s₁ 13 #[vI (p0), vI (p1), vJ (p2), sS, vJ (p3), sS, vJ (p4), sS, vI ((p0 &&& (3 : Int32))), sU, sU, sU, sU, sU, sU, sU, sU, sU] [] (fun _ k => XS.ifNo X0.here hx rfl (hb hby at_10) rfl ((if0 _ _).trans (feq hc101).1) k) ?_
    refine gs m s₁ 14 #[vI (p0), vI (p1), vJ (p2), sS, vJ (p3), sS, vJ (p4), sS, vI ((p0 &&& (3 : Int32))), sU, sU, sU, sU, sU, sU, sU, sU, sU] [(.int (1 : Int32))] (fun _ k => XS.iconst X0.here hx rfl (hb hby at_13) k) ?_
    refine gs m s₁ 15 #[vI (p0), vI (p1), vJ (p2), sS, vJ (p3), sS, vJ (p4), sS, vI ((p0 &&& (3 : Int32))), sU, sU, sU, sU, sU, sU, sU, sU, sU] [(.int p1), (.int (1 : Int32))] (fun _ k => XS.iloadN X0.here hx rfl (hb hby at_14) rfl  k) ?_
    refine gs m s₁ 17 #[vI (p0), vI (p1), vJ (p2), sS, vJ (p3), sS, vJ (p4), sS, vI ((p0 &&& (3 : Int32))), sU, sU, sU, sU, sU, sU, sU, sU, sU] [(.int (2147483647 : Int32)), (.int p1), (.int (1 : Int32))] (fun _ k => Jvm.Stand.ldcI (g := (mkF m 15 #[vI (p0), vI (p1), vJ (p2), sS, vJ (p3), sS, vJ (p4), sS, vI ((p0 &&& (3 : Int32))), sU, sU, sU, sU, sU, sU, sU, sU, sU] [(.int p1), (.int (1 : Int32))])) X0 hx hown (mvT hZ (hwi hw 0 rfl)) rfl (hb hby at_15) k) ?_
    refine gs m s₁ 18 #[vI (p0), vI (p1), vJ (p2), sS, vJ (p3), sS, vJ (p4), sS, vI ((p0 &&& (3 : Int32))), sU, sU, sU, sU, sU, sU, sU, sU, sU] [(.int (p1 &&& (2147483647 : Int32))), (.int (1 : Int32))] (fun _ k => XS.iand X0.here hx rfl (hb hby at_17) rfl k) ?_
    refine gs m s₁ 19 #[vI (p0), vI (p1), vJ (p2), sS, vJ (p3), sS, vJ (p4), sS, vI ((p0 &&& (3 : Int32))), sU, sU, sU, sU, sU, sU, sU, sU, sU] [(.int (5 : Int32)), (.int (p1 &&& (2147483647 : Int32))), (.int (1 : Int32))] (fun _ k => XS.iconst X0.here hx rfl (hb hby at_18) k) ?_
    refine gs m s₁ 20 #[vI (p0), vI (p1), vJ (p2), sS, vJ (p3), sS, vJ (p4), sS, vI ((p0 &&& (3 : Int32))), sU, sU, sU, sU, sU, sU, sU, sU, sU] [(.int ((p1 &&& (2147483647 : Int32)) % (5 : Int32))), (.int (1 : Int32))] (fun _ k => iremM X0 hx (g := (mkF m 19 #[vI (p0), vI (p1), vJ (p2), sS, vJ (p3), sS, vJ (p4), sS, vI ((p0 &&& (3 : Int32))), sU, sU, sU, sU, sU, sU, sU, sU, sU] [(.int (5 : Int32)), (.int (p1 &&& (2147483647 : Int32))), (.int (1 : Int32))])) rfl (hb hby at_19) rfl (by decide) k) ?_
    refine gs m s₁ 21 #[vI (p0), vI (p1), vJ (p2), sS, vJ (p3), sS, vJ (p4), sS, vI ((p0 &&& (3 : Int32))), sU, sU, sU, sU, sU, sU, sU, sU, sU] [(.int ((1 : Int32) + ((p1 &&& (2147483647 : Int32)) % (5 : Int32))))] (fun _ k => XS.iadd X0.here hx rfl (hb hby at_20) rfl k) ?_
    refine gs m s₁ 23 #[vI (p0), vI (p1), vJ (p2), sS, vJ (p3), sS, vJ (p4), sS, vI ((p0 &&& (3 : Int32))), vI (((1 : Int32) + ((p1 &&& (2147483647 : Int32)) % (5 : Int32)))), sU, sU, sU, sU, sU, sU, sU, sU] [] (fun _ k => XS.istore X0.here hx rfl (hb hby at_21) rfl (l' := #[vI (p0), vI (p1), vJ (p2), sS, vJ (p3), sS, vJ (p4), sS, vI ((p0 &&& (3 : Int32))), vI (((1 : Int32) + ((p1 &&& (2147483647 : Int32)) % (5 : Int32)))), sU, sU, sU, sU, sU, sU, sU, sU]) rfl k) ?_
    refine gs m s₁ 36 #[vI (p0), vI (p1), vJ (p2), sS, vJ (p3), sS, vJ (p4), sS, vI ((p0 &&& (3 : Int32))), vI (((1 : Int32) + ((p1 &&& (2147483647 : Int32)) % (5 : Int32)))), sU, sU, sU, sU, sU, sU, sU, sU] [] (fun _ k => XS.goto X0.here hx rfl (pc0 := 23) (pc' := 36) rfl (hb hby at_23) (by decide) (by decide) k) ?_
    exact own_law p0 p1 p2 p3 p4 (p0 &&& (3 : Int32)) ((1 : Int32) + ((p1 &&& (2147483647 : Int32)) % (5 : Int32))) z0 ea ke el bz kz em oe X0 hx hZ hw hby hml hown hret hlk e0 N0 Z0 (by decide) (by decide) f0 f1 f2 f3 f4 f5 f6 f7 f8 f9 f10 f11 f12 f13 (own_k1 p1) (own_n3 p0) MM
theorem own_eqN {args : Array Value} {s : State} {t : Term} (q : (Jvm.Cond.eq t Jvm.Term.null).value args s none s [] = some true) : t.eval args s none [] s = some .null := by
  have hn : (Jvm.Term.null).eval args s none [] s = some .null := rfl
  simp only [Cond.value, hn] at q
  cases ht : t.eval args s none [] s with
  | none => simp [ht] at q
  | some v => rw [ht] at q; cases v <;> simp at q ⊢
theorem own_eqJ {args : Array Value} {s : State} {t : Term} {k : Int64} (q : (Jvm.Cond.eq t (Jvm.Term.long k)).value args s none s [] = some true) : t.eval args s none [] s = some (.long k) := by
  have hn : (Jvm.Term.long k).eval args s none [] s = some (.long k) := rfl
  simp only [Cond.value, hn] at q
  cases ht : t.eval args s none [] s with
  | none => simp [ht] at q
  | some v => rw [ht] at q; cases v <;> simp at q ⊢ <;> exact q
theorem comes_1 {Post : Tables → Env → Array Value → State → Outcome → State → Prop} (hpost : ∀ tb e args s v u, (limb_1_1.after args s (.returned v) u = true ∧ limb_1_2.after args s (.returned v) u = true ∧ True) → FrameEnd s (.returned v) u (Jvm.fieldLocs frame_1_writes args s ++ Jvm.arrayLocs frame_1_arrays args s ++ Jvm.staticLocs frame_1_statics s) 32 192 → Post tb e args s (.returned v) u) :
    ArmFor flags0 classFile x code maxLocals ret World_1 tables_1 room_1 Calls_1 rest_1 Pre_1 Post := by
  intro l hfl _ _ p e ha hc hk s m args below hf hA hF happ hP
  obtain ⟨hcalls, hrest, hpre⟩ := hP
  obtain ⟨-, -, -, hnamed, -, -, -, hat⟩ := (Spec.applies_iff hf).mp happ
  obtain ⟨hg, hn⟩ := and_e (Cond.before_iff.mp (show (Jvm.Cond.and given_1 narrow_1).before args s = true from hpre))
  obtain ⟨g0a, g0b⟩ := and_e hg
  obtain ⟨g1a, g1b⟩ := and_e g0b
  obtain ⟨g2a, g2b⟩ := and_e g1b
  obtain ⟨g3a, g3b⟩ := and_e g2b
  obtain ⟨g4a, g4b⟩ := and_e g3b
  obtain ⟨vw0, vw1, vw2, vw3, vw4, rfl⟩ : ∃ vw0 vw1 vw2 vw3 vw4 : Value, args = #[vw0, vw1, vw2, vw3, vw4] := by
    have hs : args.size = 5 := by simpa [Cond.value, given_1] using g0a
    obtain ⟨L⟩ := args
    match L, hs with
    | [vw0, vw1, vw2, vw3, vw4], _ => exact ⟨vw0, vw1, vw2, vw3, vw4, rfl⟩
  have hw := fun d (hd : d ∈ tables_1) => atoms_spec (ws := Jvm.Cond.code x code maxLocals ret :: tables_1) hat d (List.mem_cons_of_mem _ hd)
  have hfit : Fit s := fun {y c} hc i hi => by
    obtain ⟨ha, rfl⟩ := Array.getElem?_eq_some_iff.mp hc
    have q := List.all_eq_true.mp ((Array.all_eq_true_iff_forall_mem.mp hF) _ (Array.getElem_mem ha)) i (List.mem_range.mpr hi)
    simpa [Array.getElem?_eq_getElem hi] using q
  obtain ⟨hsets, hown0⟩ := atoms_of _ (rest_1_c_eq ▸ (show rest_1_c.before _ s = true from hrest))
  obtain ⟨i0, ei0⟩ := is_v g1a
  obtain rfl : vw0 = (.int i0) := Option.some.inj ei0
  obtain ⟨i1, ei1⟩ := is_v g2a
  obtain rfl : vw1 = (.int i1) := Option.some.inj ei1
  obtain ⟨i2, ei2⟩ := isL_v g3a
  obtain rfl : vw2 = (.long i2) := Option.some.inj ei2
  obtain ⟨i3, ei3⟩ := isL_v g4a
  obtain rfl : vw3 = (.long i3) := Option.some.inj ei3
  obtain ⟨i4, ei4⟩ := isL_v g4b
  obtain rfl : vw4 = (.long i4) := Option.some.inj ei4
  obtain ⟨ea, eva⟩ := exa_v (Cond.before_iff.mp (hsets _ (List.mem_of_getElem? (i := 7) rfl)))
  have Sea := Sta.start eva (Or.inr ⟨(hwi hw 28 rfl), (hsets _ (List.mem_of_getElem? (i := 2) rfl))⟩)
  obtain ⟨cea, Aea⟩ := Arr.start eva (Cond.before_iff.mp (hsets _ (List.mem_of_getElem? (i := 6) rfl)))
  have lea := own_len eva Aea (own_eqI (Cond.before_iff.mp (hsets _ (List.mem_of_getElem? (i := 8) rfl))))
  have Vea : Arv s s.heap ea cea.cls (.object "java/lang/Object") (0 : Int32) [] .null := Arv.start hfit Aea lea.1 lea.2 (by decide) (by decide) trivial
  obtain ⟨el, evl⟩ := exa_v (Cond.before_iff.mp (hsets _ (List.mem_of_getElem? (i := 11) rfl)))
  have Sel := Sta.start evl (Or.inl (hsets _ (List.mem_of_getElem? (i := 10) rfl)))
  have Eel := Exa.start evl (Cond.before_iff.mp (hsets _ (List.mem_of_getElem? (i := 11) rfl)))
  obtain ⟨bz, evb⟩ := exa_v (Cond.before_iff.mp (hsets _ (List.mem_of_getElem? (i := 13) rfl)))
  have Fel := Fld.start ((fld_at evl).symm.trans evb)
  obtain ⟨cbz, Abz⟩ := Arr.start evb (Cond.before_iff.mp (hsets _ (List.mem_of_getElem? (i := 12) rfl)))
  have lbz := own_len evb Abz (own_eqI (Cond.before_iff.mp (hsets _ (List.mem_of_getElem? (i := 14) rfl))))
  have Vbz : Arv s s.heap bz cbz.cls (.object "java/lang/Object") (0 : Int32) [] .null := Arv.start hfit Abz lbz.1 lbz.2 (by decide) (by decide) trivial
  obtain ⟨oe, evo⟩ := exa_v (Cond.before_iff.mp (hsets _ (List.mem_of_getElem? (i := 18) rfl)))
  have Soe := Sta.start evo (Or.inl (hsets _ (List.mem_of_getElem? (i := 17) rfl)))
  have Eoe := Exa.start evo (Cond.before_iff.mp (hsets _ (List.mem_of_getElem? (i := 18) rfl)))
  have Foe := Fld.start ((fld_at evo).symm.trans (own_eqN (Cond.before_iff.mp (hsets _ (List.mem_of_getElem? (i := 19) rfl)))))
  obtain ⟨em, evm⟩ := exa_v (Cond.before_iff.mp (hsets _ (List.mem_of_getElem? (i := 22) rfl)))
  have Sem := Sta.start evm (Or.inl (hsets _ (List.mem_of_getElem? (i := 21) rfl)))
  have Eem := Exa.start evm (Cond.before_iff.mp (hsets _ (List.mem_of_getElem? (i := 22) rfl)))
  obtain ⟨z0, evz⟩ := exa_v (Cond.before_iff.mp (hsets _ (List.mem_of_getElem? (i := 31) rfl)))
  have Sz := Sta.start evz (Or.inl (hsets _ (List.mem_of_getElem? (i := 30) rfl)))
  have Ez := Exa.start evz (Cond.before_iff.mp (hsets _ (List.mem_of_getElem? (i := 31) rfl)))
  have Fz := Fld.start ((fld_at evz).symm.trans (own_eqJ (Cond.before_iff.mp (hsets _ (List.mem_of_getElem? (i := 32) rfl)))))
  obtain ⟨n, o, h1, h2, h3, _, L, rfl, ⟨rfl, N⟩, hq⟩ := rm0 l s _ hw tables_1 i0 i1 i2 i3 i4 z0 ea cea.cls el bz cbz.cls em oe s.heap s.heap.size (Nat.le_refl _) Sz Ez Fz Sea Vea Sel Eel Fel Vbz Sem Eem Soe Eoe Foe hcalls.1 p e ha hc hk s m _ below hf ((Spec.applies_iff_loose hf).mp happ).1 ⟨rfl, State.Warmed39.refl s, rfl⟩ trivial
  refine ⟨n, _, h1, h2, h3, hpost _ _ _ _ _ _ ⟨Cond.after_iff.mpr rfl, Cond.after_iff.mpr (eq_i res_at (Term.int_eval (1)) rfl), trivial⟩ ⟨hq.1, hq.2.1, (hq.2.2.sift fun y hy => Or.inr (N y hy)).mono (by decide) (by decide)⟩⟩
theorem main_1_1 : Claimed_1_1 := comes_1 fun _ _ _ _ _ _ h hF => ⟨h.1, hF⟩
theorem main_1_2 : Claimed_1_2 := comes_1 fun _ _ _ _ _ _ h hF => ⟨h.2.1, hF⟩
end Jvm.Pilot.@@N@@
namespace Jvm.Pilot.@@N@@
open Jvm Jvm.ClassFile Sem Op Lib Jvm.Free Jvm.Stand Jvm.Pilot.@@N@@.Jvm.D
/-! MADE BY PROGRAM (witnessworld.py) out of the Statement's table words and the real class files: 36 classes; the members and pool entries that the words name. The judged class is class 1, her method 1. -/
namespace start1
open Jvm.ClassFile
def u (s : String) : CpInfo := .utf8 (stringToUtf16 s)
/-- a pool by its gaps: so many unusable entries, then the entry; so many at the end -/
def gap : Nat → List CpInfo → List CpInfo
  | 0, r => r
  | n + 1, r => .unusable :: gap n r
def poolList (es : List (Nat × CpInfo)) (last : Nat) : List CpInfo := es.foldr (fun e r => gap e.1 (e.2 :: r)) (gap last [])
def pool (es : List (Nat × CpInfo)) (last : Nat) : Array CpInfo := ⟨poolList es last⟩
def fileOf (pool : Array CpInfo) (this : Nat) (attrs : Array Attribute := #[]) (ms : Array MethodInfo := #[]) (fl : Nat := 33) (sup : Nat := 0) (ifs : Array Nat := #[]) (fds : Array FieldInfo := #[]) : ClassFile where
  minorVersion := 0
  majorVersion := 65
  constantPool := pool
  accessFlags := fl
  thisClass := this
  superClass := sup
  interfaces := ifs
  fields := fds
  methods := ms
  attributes := attrs
def plain (name : String) (sup : Option ClassId) : Class where
  name := name
  kind := .ordinary
  loader := none
  accessFlags := 33
  super := sup
  interfaces := #[]
  cf := none
  fields := #[]
  methods := #[]
  instanceTypes := #[]
  staticTypes := #[]
  resolved := #[]
  callSites := []
  init := .initialized
  statics := none
  mirror := none

def pool0 : Array CpInfo := pool [(5, u "<init>"), (0, u "()V"), (1, .class_ 10), (1, u "java/lang/Object"), (0, u "getClass"), (0, u "()Ljava/lang/Class;")] 111

def k0c0 : Code := { maxStack := 0, maxLocals := 1, code := object_method_1_code, exceptionTable := #[], attributes := #[] }
def k0m0 : Method := { name := "<init>", desc := "()V", sig := { parameters := [], returnType := none }, accessFlags := 1, code := some k0c0 }
def k0m1 : Method := { name := "getClass", desc := "()Ljava/lang/Class;", sig := { parameters := [], returnType := some (.object "java/lang/Class") }, accessFlags := 273, code := none }
/-- java/lang/Object -/
def k0 : Class := { plain "java/lang/Object" none with
  accessFlags := 33
  interfaces := #[]
  cf := some (fileOf pool0 8 #[] #[{ accessFlags := 1, nameIndex := 5, descriptorIndex := 6, attributes := #[] }, { accessFlags := 273, nameIndex := 11, descriptorIndex := 12, attributes := #[] }] 33 0 #[] #[])
  fields := #[]
  methods := #[k0m0, k0m1]
  instanceTypes := #[]
  staticTypes := #[]
  resolved := Array.replicate 124 none
  statics := none }

def pool1 : Array CpInfo := pool [(2, .class_ 4), (0, .nameAndType 5 6), (0, u "java/lang/Object"), (0, u "<init>"), (0, u "()V"), (0, .integer 2147483647), (0, .methodref 9 10), (0, .class_ 11), (0, .nameAndType 12 13), (0, u "java/lang/Math"), (0, u "max"), (0, u "(II)I"), (2, .long 9223372036854775807), (1, .methodref 19 20), (0, .class_ 21), (0, .nameAndType 22 23), (0, u "java/time/Duration"), (0, u "ofSeconds"), (0, u "(J)Ljava/time/Duration;"), (0, .class_ 25), (0, u "java/util/ArrayList"), (0, .methodref 24 3), (0, .methodref 24 28), (0, .nameAndType 29 30), (0, u "add"), (0, u "(Ljava/lang/Object;)Z"), (0, .class_ 32), (0, u "com/example/nuthatch/nuthatch/RetrySchedule"), (0, .methodref 31 34), (0, .nameAndType 5 35), (0, u "(Ljava/util/List;)V"), (0, .methodref 31 37), (0, .nameAndType 38 39), (0, u "delayAfterFailure"), (0, u "(I)Ljava/util/Optional;"), (0, .methodref 41 42), (0, .class_ 43), (0, .nameAndType 44 45), (0, u "java/util/Optional"), (0, u "orElse"), (0, u "(Ljava/lang/Object;)Ljava/lang/Object;"), (0, .methodref 19 47), (0, .nameAndType 48 30), (0, u "equals"), (0, .class_ 50), (0, u "com/example/nuthatch/nuthatch/RetryScheduleDelayAfterFailurePinLaw"), (2, u "law"), (0, u "(IIJJJ)Z")] 3

def k1m0 : Method := { name := "<init>", desc := "()V", sig := { parameters := [], returnType := none }, accessFlags := 1, code := none }
def k1c1 : Code := { maxStack := 4, maxLocals := 18, code := code, exceptionTable := #[], attributes := #[] }
def k1m1 : Method := { name := "law", desc := "(IIJJJ)Z", sig := { parameters := [.int, .int, .long, .long, .long], returnType := some .boolean }, accessFlags := 9, code := some k1c1 }
/-- com/example/nuthatch/nuthatch/RetryScheduleDelayAfterFailurePinLaw -/
def k1 : Class := { plain "com/example/nuthatch/nuthatch/RetryScheduleDelayAfterFailurePinLaw" (some 0) with
  accessFlags := 49
  interfaces := #[]
  cf := some (fileOf pool1 49 #[] #[{ accessFlags := 1, nameIndex := 5, descriptorIndex := 6, attributes := #[] }, { accessFlags := 9, nameIndex := 53, descriptorIndex := 54, attributes := #[] }] 49 2 #[] #[])
  fields := #[]
  methods := #[k1m0, k1m1]
  instanceTypes := #[]
  staticTypes := #[]
  resolved := Array.replicate 58 none
  statics := none }

def pool2 : Array CpInfo := pool [(1, .class_ 2), (0, u "java/lang/Math"), (1, .class_ 6), (1, u "java/lang/Object"), (0, u "<init>"), (0, u "()V"), (89, .class_ 100), (1, u "java/lang/Math$RandomNumberGeneratorHolder"), (71, u "negativeZeroFloatBits"), (0, u "J"), (2, u "negativeZeroDoubleBits"), (21, u "max"), (2, u "min"), (43, u "$assertionsDisabled"), (0, u "Z"), (88, u "(II)I"), (2, u "twoToTheDoubleScaleDown"), (0, u "D"), (4, u "twoToTheDoubleScaleUp"), (9, u "E"), (3, u "PI"), (2, u "TAU"), (2, u "DEGREES_TO_RADIANS"), (0, u "RADIANS_TO_DEGREES")] 94

def k2m0 : Method := { name := "<init>", desc := "()V", sig := { parameters := [], returnType := none }, accessFlags := 2, code := none }
def k2c1 : Code := { maxStack := 2, maxLocals := 2, code := jdk_29_method_65_code, exceptionTable := #[], attributes := #[] }
def k2m1 : Method := { name := "max", desc := "(II)I", sig := { parameters := [.int, .int], returnType := some .int }, accessFlags := 9, code := some k2c1 }
def k2c2 : Code := { maxStack := 2, maxLocals := 2, code := jdk_29_method_69_code, exceptionTable := #[], attributes := #[] }
def k2m2 : Method := { name := "min", desc := "(II)I", sig := { parameters := [.int, .int], returnType := some .int }, accessFlags := 9, code := some k2c2 }
/-- java/lang/Math -/
def k2 : Class := { plain "java/lang/Math" (some 0) with
  accessFlags := 49
  interfaces := #[]
  cf := some (fileOf pool2 1 #[.nestMembers #[98]] #[{ accessFlags := 2, nameIndex := 7, descriptorIndex := 8, attributes := #[] }, { accessFlags := 9, nameIndex := 198, descriptorIndex := 335, attributes := #[] }, { accessFlags := 9, nameIndex := 201, descriptorIndex := 335, attributes := #[] }] 49 4 #[] #[{ accessFlags := 25, nameIndex := 354, descriptorIndex := 339, attributes := #[] }, { accessFlags := 25, nameIndex := 358, descriptorIndex := 339, attributes := #[] }, { accessFlags := 25, nameIndex := 361, descriptorIndex := 339, attributes := #[] }, { accessFlags := 26, nameIndex := 364, descriptorIndex := 339, attributes := #[] }, { accessFlags := 26, nameIndex := 365, descriptorIndex := 339, attributes := #[] }, { accessFlags := 26, nameIndex := 172, descriptorIndex := 173, attributes := #[] }, { accessFlags := 26, nameIndex := 176, descriptorIndex := 173, attributes := #[] }, { accessFlags := 8, nameIndex := 344, descriptorIndex := 339, attributes := #[] }, { accessFlags := 8, nameIndex := 338, descriptorIndex := 339, attributes := #[] }, { accessFlags := 4120, nameIndex := 245, descriptorIndex := 246, attributes := #[] }])
  fields := #[{ name := "E", type := .double, accessFlags := 25, slot := 0, constantValue := 0 }, { name := "PI", type := .double, accessFlags := 25, slot := 1, constantValue := 0 }, { name := "TAU", type := .double, accessFlags := 25, slot := 2, constantValue := 0 }, { name := "DEGREES_TO_RADIANS", type := .double, accessFlags := 26, slot := 3, constantValue := 0 }, { name := "RADIANS_TO_DEGREES", type := .double, accessFlags := 26, slot := 4, constantValue := 0 }, { name := "negativeZeroFloatBits", type := .long, accessFlags := 26, slot := 5, constantValue := 0 }, { name := "negativeZeroDoubleBits", type := .long, accessFlags := 26, slot := 6, constantValue := 0 }, { name := "twoToTheDoubleScaleUp", type := .double, accessFlags := 8, slot := 7, constantValue := 0 }, { name := "twoToTheDoubleScaleDown", type := .double, accessFlags := 8, slot := 8, constantValue := 0 }, { name := "$assertionsDisabled", type := .boolean, accessFlags := 4120, slot := 9, constantValue := 0 }]
  methods := #[k2m0, k2m1, k2m2]
  instanceTypes := #[]
  staticTypes := #[.double, .double, .double, .double, .double, .long, .long, .double, .double, .boolean]
  resolved := Array.replicate 460 none
  statics := none }

def pool3 : Array CpInfo := pool [(1, .class_ 2), (0, u "java/time/temporal/TemporalAmount"), (0, .class_ 4), (0, u "java/lang/Object")] 11

/-- java/time/temporal/TemporalAmount -/
def k3 : Class := { plain "java/time/temporal/TemporalAmount" (some 0) with
  accessFlags := 1537
  interfaces := #[]
  cf := some (fileOf pool3 1 #[] #[] 1537 3 #[] #[])
  fields := #[]
  methods := #[]
  instanceTypes := #[]
  staticTypes := #[]
  resolved := Array.replicate 16 none
  statics := none }

def pool4 : Array CpInfo := pool [(1, .class_ 2), (0, u "java/lang/Comparable"), (0, .class_ 4), (0, u "java/lang/Object")] 7

/-- java/lang/Comparable -/
def k4 : Class := { plain "java/lang/Comparable" (some 0) with
  accessFlags := 1537
  interfaces := #[]
  cf := some (fileOf pool4 1 #[] #[] 1537 3 #[] #[])
  fields := #[]
  methods := #[]
  instanceTypes := #[]
  staticTypes := #[]
  resolved := Array.replicate 12 none
  statics := none }

def pool5 : Array CpInfo := pool [(1, .class_ 2), (0, u "java/io/Serializable"), (0, .class_ 4), (0, u "java/lang/Object")] 2

/-- java/io/Serializable -/
def k5 : Class := { plain "java/io/Serializable" (some 0) with
  accessFlags := 1537
  interfaces := #[]
  cf := some (fileOf pool5 1 #[] #[] 1537 3 #[] #[])
  fields := #[]
  methods := #[]
  instanceTypes := #[]
  staticTypes := #[]
  resolved := Array.replicate 7 none
  statics := none }

def pool6 : Array CpInfo := pool [(10, .methodref 11 12), (0, .class_ 13), (0, .nameAndType 14 15), (0, u "java/time/Duration"), (0, u "create"), (0, u "(JI)Ljava/time/Duration;"), (16, .fieldref 11 33), (0, .nameAndType 34 35), (0, u "ZERO"), (0, u "Ljava/time/Duration;"), (13, .class_ 51), (1, u "java/time/temporal/TemporalAmount"), (13, u "()Z"), (13, .class_ 81), (1, u "java/time/Duration$Lazy"), (35, u "seconds"), (21, u "<init>"), (17, .nameAndType 139 158), (0, u "()V"), (19, u "ofSeconds"), (20, u "(J)Ljava/time/Duration;"), (15, .methodref 11 216), (0, .nameAndType 139 217), (0, u "(JI)V"), (0, .methodref 219 157), (0, .class_ 220), (0, u "java/lang/Object"), (0, .fieldref 11 222), (0, .nameAndType 117 223), (0, u "J"), (0, .fieldref 11 225), (0, .nameAndType 226 227), (0, u "nanos"), (0, u "I"), (11, .class_ 241), (1, u "java/time/Duration$DurationUnits"), (27, .class_ 271), (1, u "java/time/Duration$1"), (91, u "BI_NANOS_PER_SECOND"), (0, u "Ljava/math/BigInteger;"), (21, u "isNegative"), (98, .class_ 486), (0, u "java/lang/Comparable"), (0, .class_ 488), (0, u "java/io/Serializable"), (0, u "serialVersionUID"), (129, u "equals"), (0, u "(Ljava/lang/Object;)Z")] 35

def k6c0 : Code := { maxStack := 3, maxLocals := 2, code := jdk_2316_method_4_code, exceptionTable := #[], attributes := #[] }
def k6m0 : Method := { name := "ofSeconds", desc := "(J)Ljava/time/Duration;", sig := { parameters := [.long], returnType := some (.object "java/time/Duration") }, accessFlags := 9, code := some k6c0 }
def k6c1 : Code := { maxStack := 5, maxLocals := 3, code := jdk_2316_method_16_code, exceptionTable := #[], attributes := #[] }
def k6m1 : Method := { name := "create", desc := "(JI)Ljava/time/Duration;", sig := { parameters := [.long, .int], returnType := some (.object "java/time/Duration") }, accessFlags := 10, code := some k6c1 }
def k6c2 : Code := { maxStack := 3, maxLocals := 4, code := jdk_2316_method_17_code, exceptionTable := #[], attributes := #[] }
def k6m2 : Method := { name := "<init>", desc := "(JI)V", sig := { parameters := [.long, .int], returnType := none }, accessFlags := 2, code := some k6c2 }
def k6c3 : Code := { maxStack := 4, maxLocals := 1, code := jdk_2316_method_22_code, exceptionTable := #[], attributes := #[] }
def k6m3 : Method := { name := "isNegative", desc := "()Z", sig := { parameters := [], returnType := some .boolean }, accessFlags := 1, code := some k6c3 }
def k6c4 : Code := { maxStack := 4, maxLocals := 3, code := jdk_2316_method_67_code, exceptionTable := #[], attributes := #[] }
def k6m4 : Method := { name := "equals", desc := "(Ljava/lang/Object;)Z", sig := { parameters := [(.object "java/lang/Object")], returnType := some .boolean }, accessFlags := 1, code := some k6c4 }
/-- java/time/Duration -/
def k6 : Class := { plain "java/time/Duration" (some 0) with
  accessFlags := 49
  interfaces := #[3, 4, 5]
  cf := some (fileOf pool6 11 #[.nestMembers #[269, 239, 79]] #[{ accessFlags := 9, nameIndex := 178, descriptorIndex := 199, attributes := #[] }, { accessFlags := 10, nameIndex := 14, descriptorIndex := 15, attributes := #[] }, { accessFlags := 2, nameIndex := 139, descriptorIndex := 217, attributes := #[] }, { accessFlags := 1, nameIndex := 386, descriptorIndex := 65, attributes := #[] }, { accessFlags := 1, nameIndex := 619, descriptorIndex := 620, attributes := #[] }] 49 219 #[49, 485, 487] #[{ accessFlags := 25, nameIndex := 34, descriptorIndex := 35, attributes := #[] }, { accessFlags := 26, nameIndex := 489, descriptorIndex := 223, attributes := #[] }, { accessFlags := 26, nameIndex := 363, descriptorIndex := 364, attributes := #[] }, { accessFlags := 18, nameIndex := 117, descriptorIndex := 223, attributes := #[] }, { accessFlags := 18, nameIndex := 226, descriptorIndex := 227, attributes := #[] }])
  fields := #[{ name := "ZERO", type := (.object "java/time/Duration"), accessFlags := 25, slot := 0, constantValue := 0 }, { name := "serialVersionUID", type := .long, accessFlags := 26, slot := 1, constantValue := 0 }, { name := "BI_NANOS_PER_SECOND", type := (.object "java/math/BigInteger"), accessFlags := 26, slot := 2, constantValue := 0 }, { name := "seconds", type := .long, accessFlags := 18, slot := 0, constantValue := 0 }, { name := "nanos", type := .int, accessFlags := 18, slot := 1, constantValue := 0 }]
  methods := #[k6m0, k6m1, k6m2, k6m3, k6m4]
  instanceTypes := #[.long, .int]
  staticTypes := #[(.object "java/time/Duration"), .long, (.object "java/math/BigInteger")]
  resolved := Array.replicate 656 none
  statics := some 0 }

def pool7 : Array CpInfo := pool [(8, .class_ 10), (1, u "java/lang/Iterable"), (24, .class_ 36), (0, u "java/lang/Object")] 25

/-- java/lang/Iterable -/
def k7 : Class := { plain "java/lang/Iterable" (some 0) with
  accessFlags := 1537
  interfaces := #[]
  cf := some (fileOf pool7 8 #[] #[] 1537 35 #[] #[])
  fields := #[]
  methods := #[]
  instanceTypes := #[]
  staticTypes := #[]
  resolved := Array.replicate 62 none
  statics := none }

def pool8 : Array CpInfo := pool [(10, .class_ 12), (1, u "java/util/Collection"), (0, u "toArray"), (16, u "()Z"), (29, .class_ 61), (0, u "java/lang/Object"), (0, .class_ 63), (0, u "java/lang/Iterable"), (2, u "isEmpty"), (3, u "()[Ljava/lang/Object;")] 44

def k8m0 : Method := { name := "isEmpty", desc := "()Z", sig := { parameters := [], returnType := some .boolean }, accessFlags := 1025, code := none }
def k8m1 : Method := { name := "toArray", desc := "()[Ljava/lang/Object;", sig := { parameters := [], returnType := some (.array (.object "java/lang/Object")) }, accessFlags := 1025, code := none }
/-- java/util/Collection -/
def k8 : Class := { plain "java/util/Collection" (some 0) with
  accessFlags := 1537
  interfaces := #[7]
  cf := some (fileOf pool8 10 #[] #[{ accessFlags := 1025, nameIndex := 66, descriptorIndex := 30, attributes := #[] }, { accessFlags := 1025, nameIndex := 13, descriptorIndex := 70, attributes := #[] }] 1537 60 #[62] #[])
  fields := #[]
  methods := #[k8m0, k8m1]
  instanceTypes := #[]
  staticTypes := #[]
  resolved := Array.replicate 115 none
  statics := none }

def pool9 : Array CpInfo := pool [(1, .methodref 2 3), (0, .class_ 4), (0, .nameAndType 5 6), (0, u "java/lang/Object"), (0, u "<init>"), (0, u "()V"), (1, .class_ 10), (1, u "java/util/AbstractCollection"), (0, u "size"), (0, u "()I"), (64, .class_ 78), (0, u "java/util/Collection")] 81

def k9c0 : Code := { maxStack := 1, maxLocals := 1, code := jdk_22_method_1_code, exceptionTable := #[], attributes := #[] }
def k9m0 : Method := { name := "<init>", desc := "()V", sig := { parameters := [], returnType := none }, accessFlags := 4, code := some k9c0 }
def k9m1 : Method := { name := "size", desc := "()I", sig := { parameters := [], returnType := some .int }, accessFlags := 1025, code := none }
/-- java/util/AbstractCollection -/
def k9 : Class := { plain "java/util/AbstractCollection" (some 0) with
  accessFlags := 1057
  interfaces := #[8]
  cf := some (fileOf pool9 8 #[] #[{ accessFlags := 4, nameIndex := 5, descriptorIndex := 6, attributes := #[] }, { accessFlags := 1025, nameIndex := 11, descriptorIndex := 12, attributes := #[] }] 1057 2 #[77] #[])
  fields := #[]
  methods := #[k9m0, k9m1]
  instanceTypes := #[]
  staticTypes := #[]
  resolved := Array.replicate 160 none
  statics := none }

def pool10 : Array CpInfo := pool [(8, .class_ 10), (1, u "java/util/SequencedCollection"), (15, .class_ 27), (0, u "java/lang/Object"), (0, .class_ 29), (0, u "java/util/Collection")] 27

/-- java/util/SequencedCollection -/
def k10 : Class := { plain "java/util/SequencedCollection" (some 0) with
  accessFlags := 1537
  interfaces := #[8]
  cf := some (fileOf pool10 8 #[] #[] 1537 26 #[28] #[])
  fields := #[]
  methods := #[]
  instanceTypes := #[]
  staticTypes := #[]
  resolved := Array.replicate 57 none
  statics := none }

def pool11 : Array CpInfo := pool [(8, .class_ 10), (1, u "java/util/List"), (20, u "(Ljava/lang/Object;)V"), (16, u "<init>"), (26, u "get"), (0, u "(I)Ljava/lang/Object;"), (2, u "size"), (0, u "()I"), (7, u "of"), (1, .fieldref 91 92), (0, .class_ 93), (0, .nameAndType 94 95), (0, u "java/util/ImmutableCollections"), (0, u "EMPTY_LIST"), (0, u "Ljava/util/ImmutableCollections$ListN;"), (0, .class_ 97), (0, u "java/util/ImmutableCollections$List12"), (0, .methodref 96 99), (0, .nameAndType 48 31), (0, .methodref 96 101), (0, .nameAndType 48 102), (0, u "(Ljava/lang/Object;Ljava/lang/Object;)V"), (0, .class_ 104), (0, u "java/lang/Object"), (3, u "([Ljava/lang/Object;)Ljava/util/List;"), (0, .methodref 91 110), (0, .nameAndType 111 108), (0, u "listFromArray"), (0, .methodref 91 113), (0, .nameAndType 114 115), (0, u "listCopy"), (0, u "(Ljava/util/Collection;)Ljava/util/List;"), (3, u "()Ljava/util/List;"), (0, .class_ 121), (0, u "java/util/SequencedCollection"), (1, u "iterator"), (0, u "()Ljava/util/Iterator;"), (109, u "copyOf")] 16

def k11m0 : Method := { name := "size", desc := "()I", sig := { parameters := [], returnType := some .int }, accessFlags := 1025, code := none }
def k11m1 : Method := { name := "iterator", desc := "()Ljava/util/Iterator;", sig := { parameters := [], returnType := some (.object "java/util/Iterator") }, accessFlags := 1025, code := none }
def k11m2 : Method := { name := "get", desc := "(I)Ljava/lang/Object;", sig := { parameters := [.int], returnType := some (.object "java/lang/Object") }, accessFlags := 1025, code := none }
def k11c3 : Code := { maxStack := 1, maxLocals := 0, code := jdk_40_method_36_code, exceptionTable := #[], attributes := #[] }
def k11m3 : Method := { name := "of", desc := "()Ljava/util/List;", sig := { parameters := [], returnType := some (.object "java/util/List") }, accessFlags := 9, code := some k11c3 }
def k11c4 : Code := { maxStack := 5, maxLocals := 2, code := jdk_40_method_47_code, exceptionTable := #[], attributes := #[] }
def k11m4 : Method := { name := "of", desc := "([Ljava/lang/Object;)Ljava/util/List;", sig := { parameters := [(.array (.object "java/lang/Object"))], returnType := some (.object "java/util/List") }, accessFlags := 137, code := some k11c4 }
def k11c5 : Code := { maxStack := 1, maxLocals := 1, code := jdk_40_method_48_code, exceptionTable := #[], attributes := #[] }
def k11m5 : Method := { name := "copyOf", desc := "(Ljava/util/Collection;)Ljava/util/List;", sig := { parameters := [(.object "java/util/Collection")], returnType := some (.object "java/util/List") }, accessFlags := 9, code := some k11c5 }
/-- java/util/List -/
def k11 : Class := { plain "java/util/List" (some 0) with
  accessFlags := 1537
  interfaces := #[10]
  cf := some (fileOf pool11 8 #[] #[{ accessFlags := 1025, nameIndex := 79, descriptorIndex := 80, attributes := #[] }, { accessFlags := 1025, nameIndex := 123, descriptorIndex := 124, attributes := #[] }, { accessFlags := 1025, nameIndex := 75, descriptorIndex := 76, attributes := #[] }, { accessFlags := 9, nameIndex := 88, descriptorIndex := 119, attributes := #[] }, { accessFlags := 137, nameIndex := 88, descriptorIndex := 108, attributes := #[] }, { accessFlags := 9, nameIndex := 234, descriptorIndex := 115, attributes := #[] }] 1537 103 #[120] #[])
  fields := #[]
  methods := #[k11m0, k11m1, k11m2, k11m3, k11m4, k11m5]
  instanceTypes := #[]
  staticTypes := #[]
  resolved := Array.replicate 251 none
  statics := none }

def pool12 : Array CpInfo := pool [(1, .methodref 2 3), (0, .class_ 4), (0, .nameAndType 5 6), (0, u "java/util/AbstractCollection"), (0, u "<init>"), (0, u "()V"), (0, .fieldref 8 9), (0, .class_ 10), (0, .nameAndType 11 12), (0, u "java/util/AbstractList"), (0, u "modCount"), (0, u "I"), (64, .class_ 78), (0, u "java/util/AbstractList$Itr"), (3, .class_ 83), (0, u "java/util/AbstractList$ListItr"), (9, .class_ 94), (0, u "java/util/AbstractList$RandomAccessSubList"), (3, .class_ 99), (0, u "java/util/AbstractList$SubList"), (33, .class_ 134), (0, u "java/util/List"), (73, .class_ 209), (0, u "java/util/AbstractList$SubList$1"), (0, .class_ 211), (0, u "java/util/AbstractList$RandomAccessSpliterator")] 6

def k12c0 : Code := { maxStack := 2, maxLocals := 1, code := jdk_39_method_1_code, exceptionTable := #[], attributes := #[] }
def k12m0 : Method := { name := "<init>", desc := "()V", sig := { parameters := [], returnType := none }, accessFlags := 4, code := some k12c0 }
/-- java/util/AbstractList -/
def k12 : Class := { plain "java/util/AbstractList" (some 9) with
  accessFlags := 1057
  interfaces := #[11]
  cf := some (fileOf pool12 8 #[.nestMembers #[93, 98, 208, 210, 82, 77]] #[{ accessFlags := 4, nameIndex := 5, descriptorIndex := 6, attributes := #[] }] 1057 2 #[133] #[{ accessFlags := 132, nameIndex := 11, descriptorIndex := 12, attributes := #[] }])
  fields := #[{ name := "modCount", type := .int, accessFlags := 132, slot := 0, constantValue := 0 }]
  methods := #[k12m0]
  instanceTypes := #[.int]
  staticTypes := #[]
  resolved := Array.replicate 218 none
  statics := none }

def pool13 : Array CpInfo := pool [(1, .class_ 2), (0, u "java/util/RandomAccess"), (0, .class_ 4), (0, u "java/lang/Object")] 2

/-- java/util/RandomAccess -/
def k13 : Class := { plain "java/util/RandomAccess" (some 0) with
  accessFlags := 1537
  interfaces := #[]
  cf := some (fileOf pool13 1 #[] #[] 1537 3 #[] #[])
  fields := #[]
  methods := #[]
  instanceTypes := #[]
  staticTypes := #[]
  resolved := Array.replicate 7 none
  statics := none }

def pool14 : Array CpInfo := pool [(1, .class_ 2), (0, u "java/lang/Cloneable"), (0, .class_ 4), (0, u "java/lang/Object")] 2

/-- java/lang/Cloneable -/
def k14 : Class := { plain "java/lang/Cloneable" (some 0) with
  accessFlags := 1537
  interfaces := #[]
  cf := some (fileOf pool14 1 #[] #[] 1537 3 #[] #[])
  fields := #[]
  methods := #[]
  instanceTypes := #[]
  staticTypes := #[]
  resolved := Array.replicate 7 none
  statics := none }

def pool15 : Array CpInfo := pool [(1, .methodref 2 3), (0, .class_ 4), (0, .nameAndType 5 6), (0, u "java/util/AbstractList"), (0, u "<init>"), (0, u "()V"), (0, .class_ 8), (0, u "java/lang/Object"), (0, .fieldref 10 11), (0, .class_ 12), (0, .nameAndType 13 14), (0, u "java/util/ArrayList"), (0, u "elementData"), (0, u "[Ljava/lang/Object;"), (2, u "EMPTY_ELEMENTDATA"), (21, .fieldref 10 40), (0, .nameAndType 41 14), (0, u "DEFAULTCAPACITY_EMPTY_ELEMENTDATA"), (4, u "toArray"), (0, u "()[Ljava/lang/Object;"), (0, .fieldref 10 49), (0, .nameAndType 50 51), (0, u "size"), (0, u "I"), (6, .class_ 60), (1, u "java/util/Arrays"), (0, u "copyOf"), (1, .fieldref 10 64), (0, .nameAndType 65 51), (0, u "modCount"), (0, .methodref 58 67), (0, .nameAndType 61 68), (0, u "([Ljava/lang/Object;I)[Ljava/lang/Object;"), (0, .methodref 10 70), (0, .nameAndType 71 72), (0, u "grow"), (0, u "(I)[Ljava/lang/Object;"), (6, .methodref 80 81), (0, .class_ 82), (0, .nameAndType 83 84), (0, u "java/lang/Math"), (0, u "max"), (0, u "(II)I"), (11, u "(Ljava/lang/Object;)Z"), (32, .methodref 10 130), (0, .nameAndType 71 47), (0, .methodref 10 132), (0, .nameAndType 133 134), (0, u "add"), (0, u "(Ljava/lang/Object;[Ljava/lang/Object;I)V"), (13, .class_ 149), (0, u "java/util/List"), (23, u "()Z"), (88, .class_ 263), (0, u "java/util/ArrayList$ListItr"), (3, .class_ 268), (0, u "java/util/ArrayList$Itr"), (7, .class_ 277), (0, u "java/util/ArrayList$SubList"), (12, .class_ 291), (0, u "java/util/ArrayList$ArrayListSpliterator"), (37, .class_ 330), (0, u "java/util/RandomAccess"), (0, .class_ 332), (0, u "java/lang/Cloneable"), (0, .class_ 334), (0, u "java/io/Serializable"), (0, u "serialVersionUID"), (0, u "J"), (3, u "DEFAULT_CAPACITY"), (22, u "isEmpty"), (136, .class_ 501), (0, u "java/util/ArrayList$SubList$2"), (0, .class_ 503), (0, u "java/util/ArrayList$SubList$1")] 5

def k15c0 : Code := { maxStack := 2, maxLocals := 1, code := jdk_38_method_2_code, exceptionTable := #[], attributes := #[] }
def k15m0 : Method := { name := "<init>", desc := "()V", sig := { parameters := [], returnType := none }, accessFlags := 1, code := some k15c0 }
def k15c1 : Code := { maxStack := 4, maxLocals := 4, code := jdk_38_method_6_code, exceptionTable := #[], attributes := #[] }
def k15m1 : Method := { name := "grow", desc := "(I)[Ljava/lang/Object;", sig := { parameters := [.int], returnType := some (.array (.object "java/lang/Object")) }, accessFlags := 2, code := some k15c1 }
def k15c2 : Code := { maxStack := 3, maxLocals := 1, code := jdk_38_method_7_code, exceptionTable := #[], attributes := #[] }
def k15m2 : Method := { name := "grow", desc := "()[Ljava/lang/Object;", sig := { parameters := [], returnType := some (.array (.object "java/lang/Object")) }, accessFlags := 2, code := some k15c2 }
def k15c3 : Code := { maxStack := 1, maxLocals := 1, code := jdk_38_method_9_code, exceptionTable := #[], attributes := #[] }
def k15m3 : Method := { name := "isEmpty", desc := "()Z", sig := { parameters := [], returnType := some .boolean }, accessFlags := 1, code := some k15c3 }
def k15c4 : Code := { maxStack := 2, maxLocals := 1, code := jdk_38_method_16_code, exceptionTable := #[], attributes := #[] }
def k15m4 : Method := { name := "toArray", desc := "()[Ljava/lang/Object;", sig := { parameters := [], returnType := some (.array (.object "java/lang/Object")) }, accessFlags := 1, code := some k15c4 }
def k15c5 : Code := { maxStack := 3, maxLocals := 4, code := jdk_38_method_24_code, exceptionTable := #[], attributes := #[] }
def k15m5 : Method := { name := "add", desc := "(Ljava/lang/Object;[Ljava/lang/Object;I)V", sig := { parameters := [(.object "java/lang/Object"), (.array (.object "java/lang/Object")), .int], returnType := none }, accessFlags := 2, code := some k15c5 }
def k15c6 : Code := { maxStack := 4, maxLocals := 2, code := jdk_38_method_25_code, exceptionTable := #[], attributes := #[] }
def k15m6 : Method := { name := "add", desc := "(Ljava/lang/Object;)Z", sig := { parameters := [(.object "java/lang/Object")], returnType := some .boolean }, accessFlags := 1, code := some k15c6 }
/-- java/util/ArrayList -/
def k15 : Class := { plain "java/util/ArrayList" (some 12) with
  accessFlags := 33
  interfaces := #[11, 13, 14, 5]
  cf := some (fileOf pool15 10 #[.nestMembers #[290, 276, 500, 502, 262, 267]] #[{ accessFlags := 1, nameIndex := 5, descriptorIndex := 6, attributes := #[] }, { accessFlags := 2, nameIndex := 71, descriptorIndex := 72, attributes := #[] }, { accessFlags := 2, nameIndex := 71, descriptorIndex := 47, attributes := #[] }, { accessFlags := 1, nameIndex := 363, descriptorIndex := 173, attributes := #[] }, { accessFlags := 1, nameIndex := 46, descriptorIndex := 47, attributes := #[] }, { accessFlags := 2, nameIndex := 133, descriptorIndex := 134, attributes := #[] }, { accessFlags := 1, nameIndex := 133, descriptorIndex := 96, attributes := #[] }] 33 2 #[148, 329, 331, 333] #[{ accessFlags := 26, nameIndex := 335, descriptorIndex := 336, attributes := #[] }, { accessFlags := 26, nameIndex := 340, descriptorIndex := 51, attributes := #[] }, { accessFlags := 26, nameIndex := 17, descriptorIndex := 14, attributes := #[] }, { accessFlags := 26, nameIndex := 41, descriptorIndex := 14, attributes := #[] }, { accessFlags := 128, nameIndex := 13, descriptorIndex := 14, attributes := #[] }, { accessFlags := 2, nameIndex := 50, descriptorIndex := 51, attributes := #[] }])
  fields := #[{ name := "serialVersionUID", type := .long, accessFlags := 26, slot := 0, constantValue := 0 }, { name := "DEFAULT_CAPACITY", type := .int, accessFlags := 26, slot := 1, constantValue := 0 }, { name := "EMPTY_ELEMENTDATA", type := (.array (.object "java/lang/Object")), accessFlags := 26, slot := 2, constantValue := 0 }, { name := "DEFAULTCAPACITY_EMPTY_ELEMENTDATA", type := (.array (.object "java/lang/Object")), accessFlags := 26, slot := 3, constantValue := 0 }, { name := "elementData", type := (.array (.object "java/lang/Object")), accessFlags := 128, slot := 1, constantValue := 0 }, { name := "size", type := .int, accessFlags := 2, slot := 2, constantValue := 0 }]
  methods := #[k15m0, k15m1, k15m2, k15m3, k15m4, k15m5, k15m6]
  instanceTypes := #[.int, (.array (.object "java/lang/Object")), .int]
  staticTypes := #[.long, .int, (.array (.object "java/lang/Object")), (.array (.object "java/lang/Object"))]
  resolved := Array.replicate 509 none
  statics := some 1 }

def pool16 : Array CpInfo := pool [(1, .methodref 2 3), (0, .class_ 4), (0, .nameAndType 5 6), (0, u "java/lang/Object"), (0, u "<init>"), (0, u "()V"), (0, .class_ 8), (0, u "java/lang/Record")] 13

def k16c0 : Code := { maxStack := 1, maxLocals := 1, code := jdk_30_method_1_code, exceptionTable := #[], attributes := #[] }
def k16m0 : Method := { name := "<init>", desc := "()V", sig := { parameters := [], returnType := none }, accessFlags := 4, code := some k16c0 }
/-- java/lang/Record -/
def k16 : Class := { plain "java/lang/Record" (some 0) with
  accessFlags := 1057
  interfaces := #[]
  cf := some (fileOf pool16 7 #[] #[{ accessFlags := 4, nameIndex := 5, descriptorIndex := 6, attributes := #[] }] 1057 2 #[] #[])
  fields := #[]
  methods := #[k16m0]
  instanceTypes := #[]
  staticTypes := #[]
  resolved := Array.replicate 22 none
  statics := none }

def pool17 : Array CpInfo := pool [(1, .methodref 2 3), (0, .class_ 4), (0, .nameAndType 5 6), (0, u "java/lang/Record"), (0, u "<init>"), (0, u "()V"), (0, .interfaceMethodref 8 9), (0, .class_ 10), (0, .nameAndType 11 12), (0, u "java/util/List"), (0, u "copyOf"), (0, u "(Ljava/util/Collection;)Ljava/util/List;"), (0, .interfaceMethodref 8 14), (0, .nameAndType 15 16), (0, u "iterator"), (0, u "()Ljava/util/Iterator;"), (0, .interfaceMethodref 18 19), (0, .class_ 20), (0, .nameAndType 21 22), (0, u "java/util/Iterator"), (0, u "hasNext"), (0, u "()Z"), (0, .interfaceMethodref 18 24), (0, .nameAndType 25 26), (0, u "next"), (0, u "()Ljava/lang/Object;"), (0, .class_ 28), (0, u "java/time/Duration"), (0, .methodref 27 30), (0, .nameAndType 31 22), (0, u "isNegative"), (15, .fieldref 48 49), (0, .class_ 50), (0, .nameAndType 51 52), (0, u "com/example/nuthatch/nuthatch/RetrySchedule"), (0, u "delays"), (0, u "Ljava/util/List;"), (2, u "of"), (3, u "(Ljava/util/List;)V"), (0, .interfaceMethodref 8 61), (0, .nameAndType 62 63), (0, u "size"), (0, u "()I"), (0, .interfaceMethodref 8 65), (0, .nameAndType 66 67), (0, u "get"), (0, u "(I)Ljava/lang/Object;"), (0, .methodref 69 70), (0, .class_ 71), (0, .nameAndType 55 72), (0, u "java/util/Optional"), (0, u "(Ljava/lang/Object;)Ljava/util/Optional;"), (0, .methodref 69 74), (0, .nameAndType 75 76), (0, u "empty"), (0, u "()Ljava/util/Optional;"), (41, u "DEFAULT"), (0, u "Lcom/example/nuthatch/nuthatch/RetrySchedule;"), (8, u "delayAfterFailure"), (0, u "(I)Ljava/util/Optional;")] 33

def k17c0 : Code := { maxStack := 3, maxLocals := 4, code := prog_7_method_1_code, exceptionTable := #[], attributes := #[] }
def k17m0 : Method := { name := "<init>", desc := "(Ljava/util/List;)V", sig := { parameters := [(.object "java/util/List")], returnType := none }, accessFlags := 1, code := some k17c0 }
def k17c1 : Code := { maxStack := 3, maxLocals := 3, code := prog_7_method_4_code, exceptionTable := #[], attributes := #[] }
def k17m1 : Method := { name := "delayAfterFailure", desc := "(I)Ljava/util/Optional;", sig := { parameters := [.int], returnType := some (.object "java/util/Optional") }, accessFlags := 1, code := some k17c1 }
/-- com/example/nuthatch/nuthatch/RetrySchedule -/
def k17 : Class := { plain "com/example/nuthatch/nuthatch/RetrySchedule" (some 16) with
  accessFlags := 49
  interfaces := #[]
  cf := some (fileOf pool17 48 #[] #[{ accessFlags := 1, nameIndex := 5, descriptorIndex := 59, attributes := #[] }, { accessFlags := 1, nameIndex := 128, descriptorIndex := 129, attributes := #[] }] 49 2 #[] #[{ accessFlags := 18, nameIndex := 51, descriptorIndex := 52, attributes := #[] }, { accessFlags := 25, nameIndex := 118, descriptorIndex := 119, attributes := #[] }])
  fields := #[{ name := "delays", type := (.object "java/util/List"), accessFlags := 18, slot := 0, constantValue := 0 }, { name := "DEFAULT", type := (.object "com/example/nuthatch/nuthatch/RetrySchedule"), accessFlags := 25, slot := 0, constantValue := 0 }]
  methods := #[k17m0, k17m1]
  instanceTypes := #[(.object "java/util/List")]
  staticTypes := #[(.object "com/example/nuthatch/nuthatch/RetrySchedule")]
  resolved := Array.replicate 163 none
  statics := none }

def pool18 : Array CpInfo := pool [(2, .class_ 4), (1, u "java/lang/Object"), (0, u "<init>"), (0, u "()V"), (3, .class_ 11), (0, u "java/util/ImmutableCollections$List12"), (0, .class_ 13), (0, u "java/util/ImmutableCollections$ListN"), (3, u "Z"), (0, .class_ 19), (0, u "java/util/List"), (0, .interfaceMethodref 21 22), (0, .class_ 23), (0, .nameAndType 24 25), (0, u "java/util/Collection"), (0, u "isEmpty"), (0, u "()Z"), (0, .interfaceMethodref 18 27), (0, .nameAndType 28 29), (0, u "of"), (0, u "()Ljava/util/List;"), (0, .interfaceMethodref 21 31), (0, .nameAndType 32 33), (0, u "toArray"), (0, u "()[Ljava/lang/Object;"), (0, .interfaceMethodref 18 35), (0, .nameAndType 28 36), (0, u "([Ljava/lang/Object;)Ljava/util/List;"), (0, .methodref 38 39), (0, .class_ 40), (0, .nameAndType 41 42), (0, u "java/util/Objects"), (0, u "requireNonNull"), (0, u "(Ljava/lang/Object;)Ljava/lang/Object;"), (0, .methodref 12 44), (0, .nameAndType 5 45), (0, u "([Ljava/lang/Object;Z)V"), (1, .class_ 49), (1, u "java/util/ImmutableCollections"), (0, u "$assertionsDisabled"), (5, u "[Ljava/lang/Object;"), (5, u "EMPTY_LIST"), (0, u "Ljava/util/ImmutableCollections$ListN;"), (8, u "EMPTY_LIST_NULLS"), (22, u "SALT32L"), (0, u "J"), (2, u "REVERSE"), (6, u "archivedObjects"), (2, u "EMPTY"), (0, u "Ljava/lang/Object;"), (0, .class_ 112), (0, u "java/util/ImmutableCollections$SetN"), (5, u "EMPTY_SET"), (0, u "Ljava/util/ImmutableCollections$SetN;"), (0, .class_ 121), (0, u "java/util/ImmutableCollections$MapN"), (3, u "EMPTY_MAP"), (0, u "Ljava/util/ImmutableCollections$MapN;"), (4, u "EXPAND_FACTOR"), (0, u "I"), (9, u "listCopy"), (0, u "(Ljava/util/Collection;)Ljava/util/List;"), (7, u "listFromArray"), (17, .class_ 170), (0, u "java/util/ImmutableCollections$MapN$MapNIterator"), (0, .class_ 172), (0, u "java/util/ImmutableCollections$MapN$1"), (0, .class_ 174), (0, u "java/util/ImmutableCollections$Map1"), (0, .class_ 176), (0, u "java/util/ImmutableCollections$AbstractImmutableMap"), (0, .class_ 178), (0, u "java/util/ImmutableCollections$SetN$SetNIterator"), (0, .class_ 180), (0, u "java/util/ImmutableCollections$Set12"), (0, .class_ 182), (0, u "java/util/ImmutableCollections$Set12$1"), (0, .class_ 184), (0, u "java/util/ImmutableCollections$AbstractImmutableSet"), (0, .class_ 186), (0, u "java/util/ImmutableCollections$SubList"), (0, .class_ 188), (0, u "java/util/ImmutableCollections$ListItr"), (0, .class_ 190), (0, u "java/util/ImmutableCollections$AbstractImmutableList"), (0, .class_ 192), (0, u "java/util/ImmutableCollections$AbstractImmutableCollection"), (0, .class_ 194), (0, u "java/util/ImmutableCollections$Access"), (0, .class_ 196), (0, u "java/util/ImmutableCollections$Access$1")] 16

def k18m0 : Method := { name := "<init>", desc := "()V", sig := { parameters := [], returnType := none }, accessFlags := 2, code := none }
def k18c1 : Code := { maxStack := 1, maxLocals := 2, code := jdk_56_method_3_code, exceptionTable := #[], attributes := #[] }
def k18m1 : Method := { name := "listCopy", desc := "(Ljava/util/Collection;)Ljava/util/List;", sig := { parameters := [(.object "java/util/Collection")], returnType := some (.object "java/util/List") }, accessFlags := 8, code := some k18c1 }
def k18c2 : Code := { maxStack := 4, maxLocals := 3, code := jdk_56_method_4_code, exceptionTable := #[], attributes := #[] }
def k18m2 : Method := { name := "listFromArray", desc := "([Ljava/lang/Object;)Ljava/util/List;", sig := { parameters := [(.array (.object "java/lang/Object"))], returnType := some (.object "java/util/List") }, accessFlags := 136, code := some k18c2 }
/-- java/util/ImmutableCollections -/
def k18 : Class := { plain "java/util/ImmutableCollections" (some 0) with
  accessFlags := 32
  interfaces := #[]
  cf := some (fileOf pool18 47 #[.nestMembers #[120, 169, 171, 173, 175, 111, 177, 179, 181, 183, 12, 10, 185, 187, 189, 191, 193, 195]] #[{ accessFlags := 2, nameIndex := 5, descriptorIndex := 6, attributes := #[] }, { accessFlags := 8, nameIndex := 142, descriptorIndex := 143, attributes := #[] }, { accessFlags := 136, nameIndex := 151, descriptorIndex := 36, attributes := #[] }] 32 2 #[] #[{ accessFlags := 26, nameIndex := 95, descriptorIndex := 96, attributes := #[] }, { accessFlags := 26, nameIndex := 99, descriptorIndex := 17, attributes := #[] }, { accessFlags := 10, nameIndex := 106, descriptorIndex := 56, attributes := #[] }, { accessFlags := 26, nameIndex := 109, descriptorIndex := 110, attributes := #[] }, { accessFlags := 24, nameIndex := 62, descriptorIndex := 63, attributes := #[] }, { accessFlags := 24, nameIndex := 72, descriptorIndex := 63, attributes := #[] }, { accessFlags := 24, nameIndex := 118, descriptorIndex := 119, attributes := #[] }, { accessFlags := 24, nameIndex := 125, descriptorIndex := 126, attributes := #[] }, { accessFlags := 24, nameIndex := 131, descriptorIndex := 132, attributes := #[] }, { accessFlags := 4120, nameIndex := 50, descriptorIndex := 17, attributes := #[] }])
  fields := #[{ name := "SALT32L", type := .long, accessFlags := 26, slot := 0, constantValue := 0 }, { name := "REVERSE", type := .boolean, accessFlags := 26, slot := 1, constantValue := 0 }, { name := "archivedObjects", type := (.array (.object "java/lang/Object")), accessFlags := 10, slot := 2, constantValue := 0 }, { name := "EMPTY", type := (.object "java/lang/Object"), accessFlags := 26, slot := 3, constantValue := 0 }, { name := "EMPTY_LIST", type := (.object "java/util/ImmutableCollections$ListN"), accessFlags := 24, slot := 4, constantValue := 0 }, { name := "EMPTY_LIST_NULLS", type := (.object "java/util/ImmutableCollections$ListN"), accessFlags := 24, slot := 5, constantValue := 0 }, { name := "EMPTY_SET", type := (.object "java/util/ImmutableCollections$SetN"), accessFlags := 24, slot := 6, constantValue := 0 }, { name := "EMPTY_MAP", type := (.object "java/util/ImmutableCollections$MapN"), accessFlags := 24, slot := 7, constantValue := 0 }, { name := "EXPAND_FACTOR", type := .int, accessFlags := 24, slot := 8, constantValue := 0 }, { name := "$assertionsDisabled", type := .boolean, accessFlags := 4120, slot := 9, constantValue := 0 }]
  methods := #[k18m0, k18m1, k18m2]
  instanceTypes := #[]
  staticTypes := #[.long, .boolean, (.array (.object "java/lang/Object")), (.object "java/lang/Object"), (.object "java/util/ImmutableCollections$ListN"), (.object "java/util/ImmutableCollections$ListN"), (.object "java/util/ImmutableCollections$SetN"), (.object "java/util/ImmutableCollections$MapN"), .int, .boolean]
  resolved := Array.replicate 213 none
  statics := some 2 }

def pool19 : Array CpInfo := pool [(1, .methodref 2 3), (0, .class_ 4), (0, .nameAndType 5 6), (0, u "java/util/AbstractCollection"), (0, u "<init>"), (0, u "()V"), (1, .class_ 10), (1, u "java/util/ImmutableCollections"), (2, .class_ 14), (0, u "java/util/ImmutableCollections$AbstractImmutableCollection")] 41

def k19c0 : Code := { maxStack := 1, maxLocals := 1, code := jdk_47_method_1_code, exceptionTable := #[], attributes := #[] }
def k19m0 : Method := { name := "<init>", desc := "()V", sig := { parameters := [], returnType := none }, accessFlags := 0, code := some k19c0 }
/-- java/util/ImmutableCollections$AbstractImmutableCollection -/
def k19 : Class := { plain "java/util/ImmutableCollections$AbstractImmutableCollection" (some 9) with
  accessFlags := 1056
  interfaces := #[]
  cf := some (fileOf pool19 13 #[.nestHost 8] #[{ accessFlags := 0, nameIndex := 5, descriptorIndex := 6, attributes := #[] }] 1056 2 #[] #[])
  fields := #[]
  methods := #[k19m0]
  instanceTypes := #[]
  staticTypes := #[]
  resolved := Array.replicate 56 none
  statics := none }

def pool20 : Array CpInfo := pool [(1, .methodref 2 3), (0, .class_ 4), (0, .nameAndType 5 6), (0, u "java/util/ImmutableCollections$AbstractImmutableCollection"), (0, u "<init>"), (0, u "()V"), (1, .class_ 10), (1, u "java/util/ImmutableCollections"), (2, .methodref 14 15), (0, .class_ 16), (0, .nameAndType 17 18), (0, u "java/util/ImmutableCollections$AbstractImmutableList"), (0, u "size"), (0, u "()I"), (42, .class_ 62), (0, u "java/util/ImmutableCollections$ListItr"), (0, .methodref 61 64), (0, .nameAndType 5 65), (0, u "(Ljava/util/List;I)V"), (11, .class_ 78), (0, u "java/util/List"), (2, u "iterator"), (0, u "()Ljava/util/Iterator;"), (41, .class_ 125), (0, u "java/util/RandomAccess")] 70

def k20c0 : Code := { maxStack := 1, maxLocals := 1, code := jdk_46_method_1_code, exceptionTable := #[], attributes := #[] }
def k20m0 : Method := { name := "<init>", desc := "()V", sig := { parameters := [], returnType := none }, accessFlags := 0, code := some k20c0 }
def k20c1 : Code := { maxStack := 4, maxLocals := 1, code := jdk_46_method_10_code, exceptionTable := #[], attributes := #[] }
def k20m1 : Method := { name := "iterator", desc := "()Ljava/util/Iterator;", sig := { parameters := [], returnType := some (.object "java/util/Iterator") }, accessFlags := 1, code := some k20c1 }
/-- java/util/ImmutableCollections$AbstractImmutableList -/
def k20 : Class := { plain "java/util/ImmutableCollections$AbstractImmutableList" (some 19) with
  accessFlags := 1056
  interfaces := #[11, 13]
  cf := some (fileOf pool20 14 #[.nestHost 8] #[{ accessFlags := 0, nameIndex := 5, descriptorIndex := 6, attributes := #[] }, { accessFlags := 1, nameIndex := 81, descriptorIndex := 82, attributes := #[] }] 1056 2 #[77, 124] #[])
  fields := #[]
  methods := #[k20m0, k20m1]
  instanceTypes := #[]
  staticTypes := #[]
  resolved := Array.replicate 196 none
  statics := none }

def pool21 : Array CpInfo := pool [(1, .methodref 2 3), (0, .class_ 4), (0, .nameAndType 5 6), (0, u "java/util/ImmutableCollections$AbstractImmutableList"), (0, u "<init>"), (0, u "()V"), (0, .methodref 8 9), (0, .class_ 10), (0, .nameAndType 11 12), (0, u "java/util/Objects"), (0, u "requireNonNull"), (0, u "(Ljava/lang/Object;)Ljava/lang/Object;"), (0, .fieldref 14 15), (0, .class_ 16), (0, .nameAndType 17 18), (0, u "java/util/ImmutableCollections$List12"), (0, u "e0"), (0, u "Ljava/lang/Object;"), (0, .fieldref 20 21), (0, .class_ 22), (0, .nameAndType 23 18), (0, u "java/util/ImmutableCollections"), (0, u "EMPTY"), (0, .fieldref 14 25), (0, .nameAndType 26 18), (0, u "e1"), (24, u "size"), (0, u "()I"), (17, .class_ 71), (0, u "java/io/Serializable"), (4, u "(Ljava/lang/Object;)V"), (8, u "(Ljava/lang/Object;Ljava/lang/Object;)V"), (4, u "get"), (0, u "(I)Ljava/lang/Object;")] 33

def k21c0 : Code := { maxStack := 2, maxLocals := 2, code := jdk_44_method_1_code, exceptionTable := #[], attributes := #[] }
def k21m0 : Method := { name := "<init>", desc := "(Ljava/lang/Object;)V", sig := { parameters := [(.object "java/lang/Object")], returnType := none }, accessFlags := 0, code := some k21c0 }
def k21c1 : Code := { maxStack := 2, maxLocals := 3, code := jdk_44_method_2_code, exceptionTable := #[], attributes := #[] }
def k21m1 : Method := { name := "<init>", desc := "(Ljava/lang/Object;Ljava/lang/Object;)V", sig := { parameters := [(.object "java/lang/Object"), (.object "java/lang/Object")], returnType := none }, accessFlags := 0, code := some k21c1 }
def k21c2 : Code := { maxStack := 2, maxLocals := 1, code := jdk_44_method_3_code, exceptionTable := #[], attributes := #[] }
def k21m2 : Method := { name := "size", desc := "()I", sig := { parameters := [], returnType := some .int }, accessFlags := 1, code := some k21c2 }
def k21c3 : Code := { maxStack := 2, maxLocals := 2, code := jdk_44_method_5_code, exceptionTable := #[], attributes := #[] }
def k21m3 : Method := { name := "get", desc := "(I)Ljava/lang/Object;", sig := { parameters := [.int], returnType := some (.object "java/lang/Object") }, accessFlags := 1, code := some k21c3 }
/-- java/util/ImmutableCollections$List12 -/
def k21 : Class := { plain "java/util/ImmutableCollections$List12" (some 20) with
  accessFlags := 48
  interfaces := #[5]
  cf := some (fileOf pool21 14 #[.nestHost 20] #[{ accessFlags := 0, nameIndex := 5, descriptorIndex := 76, attributes := #[] }, { accessFlags := 0, nameIndex := 5, descriptorIndex := 85, attributes := #[] }, { accessFlags := 1, nameIndex := 51, descriptorIndex := 52, attributes := #[] }, { accessFlags := 1, nameIndex := 90, descriptorIndex := 91, attributes := #[] }] 48 2 #[70] #[{ accessFlags := 18, nameIndex := 17, descriptorIndex := 18, attributes := #[] }, { accessFlags := 18, nameIndex := 26, descriptorIndex := 18, attributes := #[] }])
  fields := #[{ name := "e0", type := (.object "java/lang/Object"), accessFlags := 18, slot := 0, constantValue := 0 }, { name := "e1", type := (.object "java/lang/Object"), accessFlags := 18, slot := 1, constantValue := 0 }]
  methods := #[k21m0, k21m1, k21m2, k21m3]
  instanceTypes := #[(.object "java/lang/Object"), (.object "java/lang/Object")]
  staticTypes := #[]
  resolved := Array.replicate 125 none
  statics := none }

def pool22 : Array CpInfo := pool [(1, .methodref 2 3), (0, .class_ 4), (0, .nameAndType 5 6), (0, u "java/util/ImmutableCollections$AbstractImmutableList"), (0, u "<init>"), (0, u "()V"), (0, .fieldref 8 9), (0, .class_ 10), (0, .nameAndType 11 12), (0, u "java/util/ImmutableCollections$ListN"), (0, u "elements"), (0, u "[Ljava/lang/Object;"), (0, .fieldref 8 14), (0, .nameAndType 15 16), (0, u "allowNulls"), (0, u "Z"), (42, .class_ 60), (0, u "java/io/Serializable"), (4, u "([Ljava/lang/Object;Z)V"), (11, u "size"), (0, u "()I"), (0, u "get"), (0, u "(I)Ljava/lang/Object;"), (33, .class_ 115), (0, u "java/util/ImmutableCollections")] 3

def k22c0 : Code := { maxStack := 2, maxLocals := 3, code := jdk_45_method_1_code, exceptionTable := #[], attributes := #[] }
def k22m0 : Method := { name := "<init>", desc := "([Ljava/lang/Object;Z)V", sig := { parameters := [(.array (.object "java/lang/Object")), .boolean], returnType := none }, accessFlags := 2, code := some k22c0 }
def k22c1 : Code := { maxStack := 1, maxLocals := 1, code := jdk_45_method_3_code, exceptionTable := #[], attributes := #[] }
def k22m1 : Method := { name := "size", desc := "()I", sig := { parameters := [], returnType := some .int }, accessFlags := 1, code := some k22c1 }
def k22c2 : Code := { maxStack := 2, maxLocals := 2, code := jdk_45_method_4_code, exceptionTable := #[], attributes := #[] }
def k22m2 : Method := { name := "get", desc := "(I)Ljava/lang/Object;", sig := { parameters := [.int], returnType := some (.object "java/lang/Object") }, accessFlags := 1, code := some k22c2 }
/-- java/util/ImmutableCollections$ListN -/
def k22 : Class := { plain "java/util/ImmutableCollections$ListN" (some 20) with
  accessFlags := 48
  interfaces := #[5]
  cf := some (fileOf pool22 8 #[.nestHost 114] #[{ accessFlags := 2, nameIndex := 5, descriptorIndex := 65, attributes := #[] }, { accessFlags := 1, nameIndex := 77, descriptorIndex := 78, attributes := #[] }, { accessFlags := 1, nameIndex := 79, descriptorIndex := 80, attributes := #[] }] 48 2 #[59] #[{ accessFlags := 18, nameIndex := 11, descriptorIndex := 12, attributes := #[] }, { accessFlags := 18, nameIndex := 15, descriptorIndex := 16, attributes := #[] }])
  fields := #[{ name := "elements", type := (.array (.object "java/lang/Object")), accessFlags := 18, slot := 0, constantValue := 0 }, { name := "allowNulls", type := .boolean, accessFlags := 18, slot := 1, constantValue := 0 }]
  methods := #[k22m0, k22m1, k22m2]
  instanceTypes := #[(.array (.object "java/lang/Object")), .boolean]
  staticTypes := #[]
  resolved := Array.replicate 119 none
  statics := none }

def pool23 : Array CpInfo := pool [(16, .class_ 18), (1, u "java/util/Iterator"), (0, u "hasNext"), (0, u "()Z"), (2, u "next"), (0, u "()Ljava/lang/Object;"), (6, .class_ 32), (0, u "java/lang/Object")] 20

def k23m0 : Method := { name := "hasNext", desc := "()Z", sig := { parameters := [], returnType := some .boolean }, accessFlags := 1025, code := none }
def k23m1 : Method := { name := "next", desc := "()Ljava/lang/Object;", sig := { parameters := [], returnType := some (.object "java/lang/Object") }, accessFlags := 1025, code := none }
/-- java/util/Iterator -/
def k23 : Class := { plain "java/util/Iterator" (some 0) with
  accessFlags := 1537
  interfaces := #[]
  cf := some (fileOf pool23 16 #[] #[{ accessFlags := 1025, nameIndex := 19, descriptorIndex := 20, attributes := #[] }, { accessFlags := 1025, nameIndex := 23, descriptorIndex := 24, attributes := #[] }] 1537 31 #[] #[])
  fields := #[]
  methods := #[k23m0, k23m1]
  instanceTypes := #[]
  staticTypes := #[]
  resolved := Array.replicate 53 none
  statics := none }

def pool24 : Array CpInfo := pool [(1, .class_ 2), (0, u "java/util/ListIterator"), (0, .class_ 4), (0, u "java/lang/Object"), (0, .class_ 6), (0, u "java/util/Iterator")] 20

/-- java/util/ListIterator -/
def k24 : Class := { plain "java/util/ListIterator" (some 0) with
  accessFlags := 1537
  interfaces := #[23]
  cf := some (fileOf pool24 1 #[] #[] 1537 3 #[5] #[])
  fields := #[]
  methods := #[]
  instanceTypes := #[]
  staticTypes := #[]
  resolved := Array.replicate 27 none
  statics := none }

def pool25 : Array CpInfo := pool [(1, .methodref 2 3), (0, .class_ 4), (0, .nameAndType 5 6), (0, u "java/lang/Object"), (0, u "<init>"), (0, u "()V"), (0, .fieldref 8 9), (0, .class_ 10), (0, .nameAndType 11 12), (0, u "java/util/ImmutableCollections$ListItr"), (0, u "list"), (0, u "Ljava/util/List;"), (0, .fieldref 8 14), (0, .nameAndType 15 16), (0, u "size"), (0, u "I"), (0, .fieldref 8 18), (0, .nameAndType 19 16), (0, u "cursor"), (0, .fieldref 8 21), (0, .nameAndType 22 23), (0, u "isListIterator"), (0, u "Z"), (0, .interfaceMethodref 25 26), (0, .class_ 27), (0, .nameAndType 28 29), (0, u "java/util/List"), (0, u "get"), (0, u "(I)Ljava/lang/Object;"), (6, .class_ 38), (1, u "java/util/ImmutableCollections"), (2, .class_ 42), (0, u "java/util/ListIterator"), (4, u "(Ljava/util/List;I)V"), (11, u "hasNext"), (0, u "()Z"), (1, u "next"), (0, u "()Ljava/lang/Object;")] 22

def k25c0 : Code := { maxStack := 2, maxLocals := 3, code := jdk_53_method_1_code, exceptionTable := #[], attributes := #[] }
def k25m0 : Method := { name := "<init>", desc := "(Ljava/util/List;I)V", sig := { parameters := [(.object "java/util/List"), .int], returnType := none }, accessFlags := 0, code := some k25c0 }
def k25c1 : Code := { maxStack := 2, maxLocals := 1, code := jdk_53_method_3_code, exceptionTable := #[], attributes := #[] }
def k25m1 : Method := { name := "hasNext", desc := "()Z", sig := { parameters := [], returnType := some .boolean }, accessFlags := 1, code := some k25c1 }
def k25c2 : Code := { maxStack := 3, maxLocals := 3, code := jdk_53_method_4_code, exceptionTable := #[{ startPc := 0, endPc := 24, handlerPc := 25, catchType := 30 }], attributes := #[] }
def k25m2 : Method := { name := "next", desc := "()Ljava/lang/Object;", sig := { parameters := [], returnType := some (.object "java/lang/Object") }, accessFlags := 1, code := some k25c2 }
/-- java/util/ImmutableCollections$ListItr -/
def k25 : Class := { plain "java/util/ImmutableCollections$ListItr" (some 0) with
  accessFlags := 48
  interfaces := #[24]
  cf := some (fileOf pool25 8 #[.nestHost 36] #[{ accessFlags := 0, nameIndex := 5, descriptorIndex := 47, attributes := #[] }, { accessFlags := 1, nameIndex := 59, descriptorIndex := 60, attributes := #[] }, { accessFlags := 1, nameIndex := 62, descriptorIndex := 63, attributes := #[] }] 48 2 #[41] #[{ accessFlags := 18, nameIndex := 11, descriptorIndex := 12, attributes := #[] }, { accessFlags := 18, nameIndex := 15, descriptorIndex := 16, attributes := #[] }, { accessFlags := 18, nameIndex := 22, descriptorIndex := 23, attributes := #[] }, { accessFlags := 2, nameIndex := 19, descriptorIndex := 16, attributes := #[] }])
  fields := #[{ name := "list", type := (.object "java/util/List"), accessFlags := 18, slot := 0, constantValue := 0 }, { name := "size", type := .int, accessFlags := 18, slot := 1, constantValue := 0 }, { name := "isListIterator", type := .boolean, accessFlags := 18, slot := 2, constantValue := 0 }, { name := "cursor", type := .int, accessFlags := 2, slot := 3, constantValue := 0 }]
  methods := #[k25m0, k25m1, k25m2]
  instanceTypes := #[(.object "java/util/List"), .int, .boolean, .int]
  staticTypes := #[]
  resolved := Array.replicate 86 none
  statics := none }

def pool26 : Array CpInfo := pool [(1, .fieldref 2 3), (0, .class_ 4), (0, .nameAndType 5 6), (0, u "java/util/Optional"), (0, u "EMPTY"), (0, u "Ljava/util/Optional;"), (0, .methodref 8 9), (0, .class_ 10), (0, .nameAndType 11 12), (0, u "java/lang/Object"), (0, u "<init>"), (0, u "()V"), (0, .fieldref 2 14), (0, .nameAndType 15 16), (0, u "value"), (0, u "Ljava/lang/Object;"), (0, .methodref 18 19), (0, .class_ 20), (0, .nameAndType 21 22), (0, u "java/util/Objects"), (0, u "requireNonNull"), (0, u "(Ljava/lang/Object;)Ljava/lang/Object;"), (0, .methodref 2 24), (0, .nameAndType 11 25), (0, u "(Ljava/lang/Object;)V"), (29, u "empty"), (0, u "()Ljava/util/Optional;"), (8, u "(Ljava/lang/Object;)Ljava/util/Optional;"), (16, u "of"), (82, u "orElse")] 21

def k26c0 : Code := { maxStack := 1, maxLocals := 1, code := jdk_32_method_1_code, exceptionTable := #[], attributes := #[] }
def k26m0 : Method := { name := "empty", desc := "()Ljava/util/Optional;", sig := { parameters := [], returnType := some (.object "java/util/Optional") }, accessFlags := 9, code := some k26c0 }
def k26c1 : Code := { maxStack := 2, maxLocals := 2, code := jdk_32_method_2_code, exceptionTable := #[], attributes := #[] }
def k26m1 : Method := { name := "<init>", desc := "(Ljava/lang/Object;)V", sig := { parameters := [(.object "java/lang/Object")], returnType := none }, accessFlags := 2, code := some k26c1 }
def k26c2 : Code := { maxStack := 3, maxLocals := 1, code := jdk_32_method_3_code, exceptionTable := #[], attributes := #[] }
def k26m2 : Method := { name := "of", desc := "(Ljava/lang/Object;)Ljava/util/Optional;", sig := { parameters := [(.object "java/lang/Object")], returnType := some (.object "java/util/Optional") }, accessFlags := 9, code := some k26c2 }
def k26c3 : Code := { maxStack := 1, maxLocals := 2, code := jdk_32_method_15_code, exceptionTable := #[], attributes := #[] }
def k26m3 : Method := { name := "orElse", desc := "(Ljava/lang/Object;)Ljava/lang/Object;", sig := { parameters := [(.object "java/lang/Object")], returnType := some (.object "java/lang/Object") }, accessFlags := 1, code := some k26c3 }
/-- java/util/Optional -/
def k26 : Class := { plain "java/util/Optional" (some 0) with
  accessFlags := 49
  interfaces := #[]
  cf := some (fileOf pool26 2 #[] #[{ accessFlags := 9, nameIndex := 55, descriptorIndex := 56, attributes := #[] }, { accessFlags := 2, nameIndex := 11, descriptorIndex := 25, attributes := #[] }, { accessFlags := 9, nameIndex := 82, descriptorIndex := 65, attributes := #[] }, { accessFlags := 1, nameIndex := 165, descriptorIndex := 22, attributes := #[] }] 49 8 #[] #[{ accessFlags := 26, nameIndex := 5, descriptorIndex := 6, attributes := #[] }, { accessFlags := 18, nameIndex := 15, descriptorIndex := 16, attributes := #[] }])
  fields := #[{ name := "EMPTY", type := (.object "java/util/Optional"), accessFlags := 26, slot := 0, constantValue := 0 }, { name := "value", type := (.object "java/lang/Object"), accessFlags := 18, slot := 0, constantValue := 0 }]
  methods := #[k26m0, k26m1, k26m2, k26m3]
  instanceTypes := #[(.object "java/lang/Object")]
  staticTypes := #[(.object "java/util/Optional")]
  resolved := Array.replicate 187 none
  statics := some 3 }

def pool27 : Array CpInfo := pool [(2, .class_ 4), (1, u "java/lang/Object"), (0, u "<init>"), (0, u "()V"), (7, .class_ 16), (1, u "java/util/Arrays"), (57, .class_ 76), (1, u "java/util/Arrays$NaturalOrder"), (9, .methodref 2 87), (0, .nameAndType 88 89), (0, u "getClass"), (0, u "()Ljava/lang/Class;"), (20, .class_ 111), (0, u "[Ljava/lang/Object;"), (1, .class_ 115), (1, u "java/util/Arrays$LegacyMergeSort"), (1, u "Z"), (32, .methodref 151 152), (0, .class_ 153), (0, .nameAndType 154 155), (0, u "java/lang/System"), (0, u "arraycopy"), (0, u "(Ljava/lang/Object;ILjava/lang/Object;II)V"), (144, .methodref 14 301), (0, .nameAndType 302 303), (0, u "copyOf"), (0, u "([Ljava/lang/Object;ILjava/lang/Class;)[Ljava/lang/Object;"), (0, .methodref 305 306), (0, .class_ 307), (0, .nameAndType 308 309), (0, u "java/lang/Math"), (0, u "min"), (0, u "(II)I"), (65, .class_ 376), (0, u "java/util/Arrays$ArrayList"), (68, u "$assertionsDisabled"), (269, u "MIN_ARRAY_SORT_GRAN"), (0, u "I"), (2, u "INSERTIONSORT_THRESHOLD"), (140, u "([Ljava/lang/Object;I)[Ljava/lang/Object;"), (114, .class_ 976), (0, u "java/util/Arrays$ArrayItr")] 52

def k27m0 : Method := { name := "<init>", desc := "()V", sig := { parameters := [], returnType := none }, accessFlags := 2, code := none }
def k27c1 : Code := { maxStack := 3, maxLocals := 2, code := jdk_65_method_119_code, exceptionTable := #[], attributes := #[] }
def k27m1 : Method := { name := "copyOf", desc := "([Ljava/lang/Object;I)[Ljava/lang/Object;", sig := { parameters := [(.array (.object "java/lang/Object")), .int], returnType := some (.array (.object "java/lang/Object")) }, accessFlags := 9, code := some k27c1 }
def k27c2 : Code := { maxStack := 6, maxLocals := 4, code := jdk_65_method_120_code, exceptionTable := #[], attributes := #[] }
def k27m2 : Method := { name := "copyOf", desc := "([Ljava/lang/Object;ILjava/lang/Class;)[Ljava/lang/Object;", sig := { parameters := [(.array (.object "java/lang/Object")), .int, (.object "java/lang/Class")], returnType := some (.array (.object "java/lang/Object")) }, accessFlags := 9, code := some k27c2 }
/-- java/util/Arrays -/
def k27 : Class := { plain "java/util/Arrays" (some 0) with
  accessFlags := 49
  interfaces := #[]
  cf := some (fileOf pool27 14 #[.nestMembers #[975, 375, 113, 74]] #[{ accessFlags := 2, nameIndex := 5, descriptorIndex := 6, attributes := #[] }, { accessFlags := 9, nameIndex := 302, descriptorIndex := 860, attributes := #[] }, { accessFlags := 9, nameIndex := 302, descriptorIndex := 303, attributes := #[] }] 49 2 #[] #[{ accessFlags := 26, nameIndex := 715, descriptorIndex := 716, attributes := #[] }, { accessFlags := 26, nameIndex := 719, descriptorIndex := 716, attributes := #[] }, { accessFlags := 4120, nameIndex := 445, descriptorIndex := 117, attributes := #[] }])
  fields := #[{ name := "MIN_ARRAY_SORT_GRAN", type := .int, accessFlags := 26, slot := 0, constantValue := 0 }, { name := "INSERTIONSORT_THRESHOLD", type := .int, accessFlags := 26, slot := 1, constantValue := 0 }, { name := "$assertionsDisabled", type := .boolean, accessFlags := 4120, slot := 2, constantValue := 0 }]
  methods := #[k27m0, k27m1, k27m2]
  instanceTypes := #[]
  staticTypes := #[.int, .int, .boolean]
  resolved := Array.replicate 1029 none
  statics := none }

def pool28 : Array CpInfo := pool [(2, .class_ 4), (1, u "java/lang/Object"), (0, u "<init>"), (0, u "()V"), (1, .class_ 10), (1, u "java/lang/System"), (0, u "allowSecurityManager"), (0, u "I"), (16, u "cons"), (0, u "Ljava/io/Console;"), (77, .class_ 110), (1, u "java/lang/System$CallersHolder"), (43, u "initialErrStream"), (0, u "Ljava/io/PrintStream;"), (19, u "security"), (0, u "Ljava/lang/SecurityManager;"), (31, .class_ 209), (0, u "java/lang/System$1"), (7, u "props"), (0, u "Ljava/util/Properties;"), (2, u "lineSeparator"), (0, u "Ljava/lang/String;"), (96, .class_ 321), (1, u "java/lang/System$LoggerFinder"), (5, .class_ 328), (0, u "java/lang/System$Logger"), (67, u "err"), (2, u "out"), (91, u "notSupportedJnuEncoding"), (15, u "in"), (17, u "initialIn"), (0, u "Ljava/io/InputStream;"), (35, u "bootLayer"), (0, u "Ljava/lang/ModuleLayer;"), (99, .class_ 664), (0, u "java/lang/System$2"), (9, u "NEVER"), (2, u "MAYBE"), (49, u "arraycopy"), (0, u "(Ljava/lang/Object;ILjava/lang/Object;II)V"), (72, .class_ 802), (0, u "java/lang/System$Logger$Level")] 31

def k28m0 : Method := { name := "<init>", desc := "()V", sig := { parameters := [], returnType := none }, accessFlags := 2, code := none }
def k28m1 : Method := { name := "arraycopy", desc := "(Ljava/lang/Object;ILjava/lang/Object;II)V", sig := { parameters := [(.object "java/lang/Object"), .int, (.object "java/lang/Object"), .int, .int], returnType := none }, accessFlags := 265, code := none }
/-- java/lang/System -/
def k28 : Class := { plain "java/lang/System" (some 0) with
  accessFlags := 49
  interfaces := #[]
  cf := some (fileOf pool28 8 #[.nestMembers #[319, 327, 801, 108, 663, 208]] #[{ accessFlags := 2, nameIndex := 5, descriptorIndex := 6, attributes := #[] }, { accessFlags := 265, nameIndex := 727, descriptorIndex := 728, attributes := #[] }] 49 2 #[] #[{ accessFlags := 25, nameIndex := 507, descriptorIndex := 526, attributes := #[] }, { accessFlags := 25, nameIndex := 399, descriptorIndex := 155, attributes := #[] }, { accessFlags := 25, nameIndex := 396, descriptorIndex := 155, attributes := #[] }, { accessFlags := 10, nameIndex := 525, descriptorIndex := 526, attributes := #[] }, { accessFlags := 26, nameIndex := 674, descriptorIndex := 12, attributes := #[] }, { accessFlags := 26, nameIndex := 677, descriptorIndex := 12, attributes := #[] }, { accessFlags := 10, nameIndex := 11, descriptorIndex := 12, attributes := #[] }, { accessFlags := 74, nameIndex := 175, descriptorIndex := 176, attributes := #[] }, { accessFlags := 10, nameIndex := 491, descriptorIndex := 222, attributes := #[] }, { accessFlags := 74, nameIndex := 29, descriptorIndex := 30, attributes := #[] }, { accessFlags := 74, nameIndex := 154, descriptorIndex := 155, attributes := #[] }, { accessFlags := 10, nameIndex := 217, descriptorIndex := 218, attributes := #[] }, { accessFlags := 10, nameIndex := 221, descriptorIndex := 222, attributes := #[] }, { accessFlags := 8, nameIndex := 562, descriptorIndex := 563, attributes := #[] }])
  fields := #[{ name := "in", type := (.object "java/io/InputStream"), accessFlags := 25, slot := 0, constantValue := 0 }, { name := "out", type := (.object "java/io/PrintStream"), accessFlags := 25, slot := 1, constantValue := 0 }, { name := "err", type := (.object "java/io/PrintStream"), accessFlags := 25, slot := 2, constantValue := 0 }, { name := "initialIn", type := (.object "java/io/InputStream"), accessFlags := 10, slot := 3, constantValue := 0 }, { name := "NEVER", type := .int, accessFlags := 26, slot := 4, constantValue := 0 }, { name := "MAYBE", type := .int, accessFlags := 26, slot := 5, constantValue := 0 }, { name := "allowSecurityManager", type := .int, accessFlags := 10, slot := 6, constantValue := 0 }, { name := "security", type := (.object "java/lang/SecurityManager"), accessFlags := 74, slot := 7, constantValue := 0 }, { name := "notSupportedJnuEncoding", type := (.object "java/lang/String"), accessFlags := 10, slot := 8, constantValue := 0 }, { name := "cons", type := (.object "java/io/Console"), accessFlags := 74, slot := 9, constantValue := 0 }, { name := "initialErrStream", type := (.object "java/io/PrintStream"), accessFlags := 74, slot := 10, constantValue := 0 }, { name := "props", type := (.object "java/util/Properties"), accessFlags := 10, slot := 11, constantValue := 0 }, { name := "lineSeparator", type := (.object "java/lang/String"), accessFlags := 10, slot := 12, constantValue := 0 }, { name := "bootLayer", type := (.object "java/lang/ModuleLayer"), accessFlags := 8, slot := 13, constantValue := 0 }]
  methods := #[k28m0, k28m1]
  instanceTypes := #[]
  staticTypes := #[(.object "java/io/InputStream"), (.object "java/io/PrintStream"), (.object "java/io/PrintStream"), (.object "java/io/InputStream"), .int, .int, .int, (.object "java/lang/SecurityManager"), (.object "java/lang/String"), (.object "java/io/Console"), (.object "java/io/PrintStream"), (.object "java/util/Properties"), (.object "java/lang/String"), (.object "java/lang/ModuleLayer")]
  resolved := Array.replicate 834 none
  statics := none }

def pool29 : Array CpInfo := pool [(2, .class_ 4), (1, u "java/lang/Object"), (0, u "<init>"), (0, u "()V"), (35, .class_ 44), (1, u "java/util/Objects"), (0, u "requireNonNull"), (0, u "(Ljava/lang/Object;)Ljava/lang/Object;")] 137

def k29m0 : Method := { name := "<init>", desc := "()V", sig := { parameters := [], returnType := none }, accessFlags := 2, code := none }
def k29c1 : Code := { maxStack := 2, maxLocals := 1, code := jdk_31_method_10_code, exceptionTable := #[], attributes := #[] }
def k29m1 : Method := { name := "requireNonNull", desc := "(Ljava/lang/Object;)Ljava/lang/Object;", sig := { parameters := [(.object "java/lang/Object")], returnType := some (.object "java/lang/Object") }, accessFlags := 9, code := some k29c1 }
/-- java/util/Objects -/
def k29 : Class := { plain "java/util/Objects" (some 0) with
  accessFlags := 49
  interfaces := #[]
  cf := some (fileOf pool29 42 #[] #[{ accessFlags := 2, nameIndex := 5, descriptorIndex := 6, attributes := #[] }, { accessFlags := 9, nameIndex := 45, descriptorIndex := 46, attributes := #[] }] 49 2 #[] #[])
  fields := #[]
  methods := #[k29m0, k29m1]
  instanceTypes := #[]
  staticTypes := #[]
  resolved := Array.replicate 184 none
  statics := none }

def pool30 : Array CpInfo := pool [(1, u "java/lang/Class"), (0, .class_ 1), (0, u "java/lang/Object"), (0, .class_ 3)] 0

/-- java/lang/Class -/
def k30 : Class := { plain "java/lang/Class" (some 0) with
  accessFlags := 49
  interfaces := #[]
  cf := some (fileOf pool30 2 #[] #[] 49 4 #[] #[])
  fields := #[]
  methods := #[]
  instanceTypes := #[]
  staticTypes := #[]
  resolved := Array.replicate 5 none
  statics := none }

/-- the primitive byte -/
def k31 : Class := { plain "byte" none with kind := .primitive 'B', accessFlags := 0x411 }
/-- [B -/
def k32 : Class := { plain "[B" (some 0) with kind := .array 31 .byte, interfaces := #[14, 5], accessFlags := 1041 }

/-- the primitive int -/
def k33 : Class := { plain "int" none with kind := .primitive 'I', accessFlags := 0x411 }
/-- [I -/
def k34 : Class := { plain "[I" (some 0) with kind := .array 33 .int, interfaces := #[14, 5], accessFlags := 1041 }

/-- [Ljava/lang/Object; -/
def k35 : Class := { plain "[Ljava/lang/Object;" (some 0) with kind := .array 0 (.object "java/lang/Object"), interfaces := #[14, 5], accessFlags := 1041, mirror := some 4 }

def heap : Heap := #[{ cls := 6, slots := #[.ref 11, .long 0, .null], vm := .statics 6 },
  { cls := 15, slots := #[.long 0, .int 0, .ref 7, .ref 5], vm := .statics 15 },
  { cls := 18, slots := #[.long 0, .int 0, .null, .ref 10, .ref 8, .null, .null, .null, .int 0, .int 1], vm := .statics 18 },
  { cls := 26, slots := #[.ref 9], vm := .statics 26 },
  { cls := 30, slots := #[], vm := .mirror 35 },
  { cls := 35, slots := #[], vm := .none },
  { cls := 35, slots := #[], vm := .none },
  { cls := 35, slots := #[], vm := .none },
  { cls := 22, slots := #[.ref 6, .int 0], vm := .none },
  { cls := 26, slots := #[.null], vm := .none },
  { cls := 0, slots := #[], vm := .none },
  { cls := 6, slots := #[.long 0, .int 0], vm := .none }]
def classes : Array Class := #[k0, k1, k2, k3, k4, k5, k6, k7, k8, k9, k10, k11, k12, k13, k14, k15, k16, k17, k18, k19, k20, k21, k22, k23, k24, k25, k26, k27, k28, k29, k30, k31, k32, k33, k34, k35]
def interned : List (Array UInt16 × Addr) := []
def slotsUsed : Nat := 23
def theMethod : MethodId := ⟨1, 1⟩
def args0 : Array Value := #[.int 1, .int 2, .long 3, .long 4, .long 5]
def aboutOver (below : List Frame) : State where
  vm := { classes := classes, interned := interned.toArray }
  heap := heap
  slotsUsed := slotsUsed
  threads := #[{ frames := .invoking theMethod args0 :: below }]
def below0 : List Frame := [.native { method := ⟨0, 0⟩, args := #[] }]
def about1 : State := aboutOver below0
def p0 : Program := .bare "" "" ""
def e0 : Env := launch0.env 0 0 0
theorem w_frames : about1.frames = Frame.invoking theMethod args0 :: below0 := rfl
set_option maxRecDepth 65536 in
theorem w_args : argsFit about1.vm theMethod args0 = true := by decide +kernel
set_option maxRecDepth 65536 in
theorem w_heap : heapFits about1 = true := by decide +kernel
set_option maxRecDepth 65536 in
theorem w_runnable : about1.curStatus? = some .runnable := by decide +kernel
set_option maxRecDepth 65536 in
theorem w_alone : about1.alone = true := by decide +kernel
set_option maxRecDepth 65536 in
theorem w_named : about1.methodNamed? x = some theMethod := by decide +kernel
set_option maxRecDepth 65536 in
theorem w_hears : about1.hears theMethod below0 = true := by decide +kernel
set_option maxRecDepth 65536 in
theorem w_ripe : about1.ripe theMethod args0 below0 = true := by decide +kernel
theorem w_running : about1.status = .running := rfl
set_option maxRecDepth 65536 in
theorem w_room : about1.hasRoom e0.platform room_1 = true :=
  launch0.hasRoom_least _ room_1 (by decide +kernel) (by decide +kernel) (by decide +kernel) (by decide +kernel) (by decide +kernel) (by decide +kernel)
theorem allAtoms_all (ts : List Jvm.Cond) (a : Array Jvm.Value) (st : Jvm.State) : (allAtoms ts).before a st = ts.all (fun c => c.before a st) := by
  induction ts with
  | nil => rfl
  | cons c t ih =>
    show (Jvm.Cond.and c (allAtoms t)).before a st = _
    rw [Jvm.Cond.before_and, ih, List.all_cons]
def words1 : List Jvm.Cond := Jvm.Cond.code x code maxLocals ret :: tables_1
/-- a 'code' word, met by the world's own term for the bytes: nothing is compared byte by byte -/
theorem code_word {y : MethodName} {bytes : ByteArray} {mx : Nat} {rt : Option FieldType} {a : Array Value} {s : State} {m : MethodId} {meth : Method} {c : Code} (h1 : s.methodNamed? y = some m) (h2 : s.vm.method? m = some meth) (h3 : meth.code = some c) (h4 : c.code = bytes)
    (h5 : (c.maxLocals == mx && c.exceptionTable.isEmpty && decide (c.maxStack ≤ mostOperands) && decide (meth.sig.returnType = rt) && !meth.locks && decide (parseMethodDescriptor y.desc = some meth.sig)) = true) : (Jvm.Cond.code y bytes mx rt).before a s = true := by
  simp only [Bool.and_eq_true, beq_iff_eq, Bool.not_eq_true', decide_eq_true_eq] at h5
  obtain ⟨⟨⟨⟨⟨g1, g2⟩, g3⟩, g4⟩, g5⟩, g6⟩ := h5
  simp [Cond.before, Cond.holds, Cond.value, h1, h2, h3, h4, g1, g2, g3, g4, g5, g6]
def isCode : Jvm.Cond → Bool
  | .code _ _ _ _ => true
  | _ => false
theorem all_split {L : List Jvm.Cond} {P : Jvm.Cond → Bool} (h1 : L.all (fun c => isCode c || P c) = true) (h2 : ∀ c ∈ L.filter isCode, P c = true) : L.all P = true := by
  refine List.all_eq_true.mpr fun c hc => ?_
  have h := List.all_eq_true.mp h1 c hc
  rcases Bool.eq_false_or_eq_true (isCode c) with hi | hi
  · exact h2 c (List.mem_filter.mpr ⟨hc, hi⟩)
  · simpa [hi] using h
set_option maxRecDepth 65536 in
theorem w_c0 : (Jvm.Cond.code x code maxLocals ret).before args0 about1 = true := code_word (m := ⟨1, 1⟩) (meth := k1m1) (c := k1c1) (by decide +kernel) rfl rfl rfl (by decide +kernel)
set_option maxRecDepth 65536 in
theorem w_c1 : (Jvm.Cond.code ({ cls := "java/lang/Math", name := "max", desc := "(II)I" } : Jvm.MethodName) jdk_29_method_65_code (2 : Nat) (Option.some Jvm.ClassFile.FieldType.int)).before args0 about1 = true := code_word (m := ⟨2, 1⟩) (meth := k2m1) (c := k2c1) (by decide +kernel) rfl rfl rfl (by decide +kernel)
set_option maxRecDepth 65536 in
theorem w_c2 : (Jvm.Cond.code ({ cls := "java/time/Duration", name := "ofSeconds", desc := "(J)Ljava/time/Duration;" } : Jvm.MethodName) jdk_2316_method_4_code (2 : Nat) (Option.some (Jvm.ClassFile.FieldType.object "java/time/Duration"))).before args0 about1 = true := code_word (m := ⟨6, 0⟩) (meth := k6m0) (c := k6c0) (by decide +kernel) rfl rfl rfl (by decide +kernel)
set_option maxRecDepth 65536 in
theorem w_c3 : (Jvm.Cond.code ({ cls := "java/time/Duration", name := "create", desc := "(JI)Ljava/time/Duration;" } : Jvm.MethodName) jdk_2316_method_16_code (3 : Nat) (Option.some (Jvm.ClassFile.FieldType.object "java/time/Duration"))).before args0 about1 = true := code_word (m := ⟨6, 1⟩) (meth := k6m1) (c := k6c1) (by decide +kernel) rfl rfl rfl (by decide +kernel)
set_option maxRecDepth 65536 in
theorem w_c4 : (Jvm.Cond.code ({ cls := "java/time/Duration", name := "<init>", desc := "(JI)V" } : Jvm.MethodName) jdk_2316_method_17_code (4 : Nat) (Option.none : Option Jvm.ClassFile.FieldType)).before args0 about1 = true := code_word (m := ⟨6, 2⟩) (meth := k6m2) (c := k6c2) (by decide +kernel) rfl rfl rfl (by decide +kernel)
set_option maxRecDepth 65536 in
theorem w_c5 : (Jvm.Cond.code ({ cls := "java/lang/Object", name := "<init>", desc := "()V" } : Jvm.MethodName) object_method_1_code (1 : Nat) (Option.none : Option Jvm.ClassFile.FieldType)).before args0 about1 = true := code_word (m := ⟨0, 0⟩) (meth := k0m0) (c := k0c0) (by decide +kernel) rfl rfl rfl (by decide +kernel)
set_option maxRecDepth 65536 in
theorem w_c6 : (Jvm.Cond.code ({ cls := "java/util/ArrayList", name := "<init>", desc := "()V" } : Jvm.MethodName) jdk_38_method_2_code (1 : Nat) (Option.none : Option Jvm.ClassFile.FieldType)).before args0 about1 = true := code_word (m := ⟨15, 0⟩) (meth := k15m0) (c := k15c0) (by decide +kernel) rfl rfl rfl (by decide +kernel)
set_option maxRecDepth 65536 in
theorem w_c7 : (Jvm.Cond.code ({ cls := "java/util/AbstractList", name := "<init>", desc := "()V" } : Jvm.MethodName) jdk_39_method_1_code (1 : Nat) (Option.none : Option Jvm.ClassFile.FieldType)).before args0 about1 = true := code_word (m := ⟨12, 0⟩) (meth := k12m0) (c := k12c0) (by decide +kernel) rfl rfl rfl (by decide +kernel)
set_option maxRecDepth 65536 in
theorem w_c8 : (Jvm.Cond.code ({ cls := "java/util/AbstractCollection", name := "<init>", desc := "()V" } : Jvm.MethodName) jdk_22_method_1_code (1 : Nat) (Option.none : Option Jvm.ClassFile.FieldType)).before args0 about1 = true := code_word (m := ⟨9, 0⟩) (meth := k9m0) (c := k9c0) (by decide +kernel) rfl rfl rfl (by decide +kernel)
set_option maxRecDepth 65536 in
theorem w_c9 : (Jvm.Cond.code ({ cls := "com/example/nuthatch/nuthatch/RetrySchedule", name := "<init>", desc := "(Ljava/util/List;)V" } : Jvm.MethodName) prog_7_method_1_code (4 : Nat) (Option.none : Option Jvm.ClassFile.FieldType)).before args0 about1 = true := code_word (m := ⟨17, 0⟩) (meth := k17m0) (c := k17c0) (by decide +kernel) rfl rfl rfl (by decide +kernel)
set_option maxRecDepth 65536 in
theorem w_c10 : (Jvm.Cond.code ({ cls := "java/lang/Record", name := "<init>", desc := "()V" } : Jvm.MethodName) jdk_30_method_1_code (1 : Nat) (Option.none : Option Jvm.ClassFile.FieldType)).before args0 about1 = true := code_word (m := ⟨16, 0⟩) (meth := k16m0) (c := k16c0) (by decide +kernel) rfl rfl rfl (by decide +kernel)
set_option maxRecDepth 65536 in
theorem w_c11 : (Jvm.Cond.code ({ cls := "java/util/List", name := "copyOf", desc := "(Ljava/util/Collection;)Ljava/util/List;" } : Jvm.MethodName) jdk_40_method_48_code (1 : Nat) (Option.some (Jvm.ClassFile.FieldType.object "java/util/List"))).before args0 about1 = true := code_word (m := ⟨11, 5⟩) (meth := k11m5) (c := k11c5) (by decide +kernel) rfl rfl rfl (by decide +kernel)
set_option maxRecDepth 65536 in
theorem w_c12 : (Jvm.Cond.code ({ cls := "java/util/ImmutableCollections", name := "listCopy", desc := "(Ljava/util/Collection;)Ljava/util/List;" } : Jvm.MethodName) jdk_56_method_3_code (2 : Nat) (Option.some (Jvm.ClassFile.FieldType.object "java/util/List"))).before args0 about1 = true := code_word (m := ⟨18, 1⟩) (meth := k18m1) (c := k18c1) (by decide +kernel) rfl rfl rfl (by decide +kernel)
set_option maxRecDepth 65536 in
theorem w_c13 : (Jvm.Cond.code ({ cls := "java/util/ArrayList", name := "isEmpty", desc := "()Z" } : Jvm.MethodName) jdk_38_method_9_code (1 : Nat) (Option.some Jvm.ClassFile.FieldType.boolean)).before args0 about1 = true := code_word (m := ⟨15, 3⟩) (meth := k15m3) (c := k15c3) (by decide +kernel) rfl rfl rfl (by decide +kernel)
set_option maxRecDepth 65536 in
theorem w_c14 : (Jvm.Cond.code ({ cls := "java/util/List", name := "of", desc := "()Ljava/util/List;" } : Jvm.MethodName) jdk_40_method_36_code (0 : Nat) (Option.some (Jvm.ClassFile.FieldType.object "java/util/List"))).before args0 about1 = true := code_word (m := ⟨11, 3⟩) (meth := k11m3) (c := k11c3) (by decide +kernel) rfl rfl rfl (by decide +kernel)
set_option maxRecDepth 65536 in
theorem w_c15 : (Jvm.Cond.code ({ cls := "java/util/ImmutableCollections$AbstractImmutableList", name := "iterator", desc := "()Ljava/util/Iterator;" } : Jvm.MethodName) jdk_46_method_10_code (1 : Nat) (Option.some (Jvm.ClassFile.FieldType.object "java/util/Iterator"))).before args0 about1 = true := code_word (m := ⟨20, 1⟩) (meth := k20m1) (c := k20c1) (by decide +kernel) rfl rfl rfl (by decide +kernel)
set_option maxRecDepth 65536 in
theorem w_c16 : (Jvm.Cond.code ({ cls := "java/util/ImmutableCollections$ListN", name := "size", desc := "()I" } : Jvm.MethodName) jdk_45_method_3_code (1 : Nat) (Option.some Jvm.ClassFile.FieldType.int)).before args0 about1 = true := code_word (m := ⟨22, 1⟩) (meth := k22m1) (c := k22c1) (by decide +kernel) rfl rfl rfl (by decide +kernel)
set_option maxRecDepth 65536 in
theorem w_c17 : (Jvm.Cond.code ({ cls := "java/util/ImmutableCollections$ListItr", name := "<init>", desc := "(Ljava/util/List;I)V" } : Jvm.MethodName) jdk_53_method_1_code (3 : Nat) (Option.none : Option Jvm.ClassFile.FieldType)).before args0 about1 = true := code_word (m := ⟨25, 0⟩) (meth := k25m0) (c := k25c0) (by decide +kernel) rfl rfl rfl (by decide +kernel)
set_option maxRecDepth 65536 in
theorem w_c18 : (Jvm.Cond.code ({ cls := "java/util/ImmutableCollections$ListItr", name := "hasNext", desc := "()Z" } : Jvm.MethodName) jdk_53_method_3_code (1 : Nat) (Option.some Jvm.ClassFile.FieldType.boolean)).before args0 about1 = true := code_word (m := ⟨25, 1⟩) (meth := k25m1) (c := k25c1) (by decide +kernel) rfl rfl rfl (by decide +kernel)
set_option maxRecDepth 65536 in
theorem w_c19 : (Jvm.Cond.code ({ cls := "com/example/nuthatch/nuthatch/RetrySchedule", name := "delayAfterFailure", desc := "(I)Ljava/util/Optional;" } : Jvm.MethodName) prog_7_method_4_code (3 : Nat) (Option.some (Jvm.ClassFile.FieldType.object "java/util/Optional"))).before args0 about1 = true := code_word (m := ⟨17, 1⟩) (meth := k17m1) (c := k17c1) (by decide +kernel) rfl rfl rfl (by decide +kernel)
set_option maxRecDepth 65536 in
theorem w_c20 : (Jvm.Cond.code ({ cls := "java/util/Optional", name := "empty", desc := "()Ljava/util/Optional;" } : Jvm.MethodName) jdk_32_method_1_code (1 : Nat) (Option.some (Jvm.ClassFile.FieldType.object "java/util/Optional"))).before args0 about1 = true := code_word (m := ⟨26, 0⟩) (meth := k26m0) (c := k26c0) (by decide +kernel) rfl rfl rfl (by decide +kernel)
set_option maxRecDepth 65536 in
theorem w_c21 : (Jvm.Cond.code ({ cls := "java/util/Optional", name := "orElse", desc := "(Ljava/lang/Object;)Ljava/lang/Object;" } : Jvm.MethodName) jdk_32_method_15_code (2 : Nat) (Option.some (Jvm.ClassFile.FieldType.object "java/lang/Object"))).before args0 about1 = true := code_word (m := ⟨26, 3⟩) (meth := k26m3) (c := k26c3) (by decide +kernel) rfl rfl rfl (by decide +kernel)
set_option maxRecDepth 65536 in
theorem w_c22 : (Jvm.Cond.code ({ cls := "java/util/ArrayList", name := "add", desc := "(Ljava/lang/Object;)Z" } : Jvm.MethodName) jdk_38_method_25_code (2 : Nat) (Option.some Jvm.ClassFile.FieldType.boolean)).before args0 about1 = true := code_word (m := ⟨15, 6⟩) (meth := k15m6) (c := k15c6) (by decide +kernel) rfl rfl rfl (by decide +kernel)
set_option maxRecDepth 65536 in
theorem w_c23 : (Jvm.Cond.code ({ cls := "java/util/ArrayList", name := "add", desc := "(Ljava/lang/Object;[Ljava/lang/Object;I)V" } : Jvm.MethodName) jdk_38_method_24_code (4 : Nat) (Option.none : Option Jvm.ClassFile.FieldType)).before args0 about1 = true := code_word (m := ⟨15, 5⟩) (meth := k15m5) (c := k15c5) (by decide +kernel) rfl rfl rfl (by decide +kernel)
set_option maxRecDepth 65536 in
theorem w_c24 : (Jvm.Cond.code ({ cls := "java/util/ArrayList", name := "grow", desc := "()[Ljava/lang/Object;" } : Jvm.MethodName) jdk_38_method_7_code (1 : Nat) (Option.some (Jvm.ClassFile.FieldType.array (Jvm.ClassFile.FieldType.object "java/lang/Object")))).before args0 about1 = true := code_word (m := ⟨15, 2⟩) (meth := k15m2) (c := k15c2) (by decide +kernel) rfl rfl rfl (by decide +kernel)
set_option maxRecDepth 65536 in
theorem w_c25 : (Jvm.Cond.code ({ cls := "java/util/ArrayList", name := "grow", desc := "(I)[Ljava/lang/Object;" } : Jvm.MethodName) jdk_38_method_6_code (4 : Nat) (Option.some (Jvm.ClassFile.FieldType.array (Jvm.ClassFile.FieldType.object "java/lang/Object")))).before args0 about1 = true := code_word (m := ⟨15, 1⟩) (meth := k15m1) (c := k15c1) (by decide +kernel) rfl rfl rfl (by decide +kernel)
set_option maxRecDepth 65536 in
theorem w_c26 : (Jvm.Cond.code ({ cls := "java/util/ArrayList", name := "toArray", desc := "()[Ljava/lang/Object;" } : Jvm.MethodName) jdk_38_method_16_code (1 : Nat) (Option.some (Jvm.ClassFile.FieldType.array (Jvm.ClassFile.FieldType.object "java/lang/Object")))).before args0 about1 = true := code_word (m := ⟨15, 4⟩) (meth := k15m4) (c := k15c4) (by decide +kernel) rfl rfl rfl (by decide +kernel)
set_option maxRecDepth 65536 in
theorem w_c27 : (Jvm.Cond.code ({ cls := "java/util/Arrays", name := "copyOf", desc := "([Ljava/lang/Object;I)[Ljava/lang/Object;" } : Jvm.MethodName) jdk_65_method_119_code (2 : Nat) (Option.some (Jvm.ClassFile.FieldType.array (Jvm.ClassFile.FieldType.object "java/lang/Object")))).before args0 about1 = true := code_word (m := ⟨27, 1⟩) (meth := k27m1) (c := k27c1) (by decide +kernel) rfl rfl rfl (by decide +kernel)
set_option maxRecDepth 65536 in
theorem w_c28 : (Jvm.Cond.code ({ cls := "java/util/Arrays", name := "copyOf", desc := "([Ljava/lang/Object;ILjava/lang/Class;)[Ljava/lang/Object;" } : Jvm.MethodName) jdk_65_method_120_code (4 : Nat) (Option.some (Jvm.ClassFile.FieldType.array (Jvm.ClassFile.FieldType.object "java/lang/Object")))).before args0 about1 = true := code_word (m := ⟨27, 2⟩) (meth := k27m2) (c := k27c2) (by decide +kernel) rfl rfl rfl (by decide +kernel)
set_option maxRecDepth 65536 in
theorem w_c29 : (Jvm.Cond.code ({ cls := "java/lang/Math", name := "min", desc := "(II)I" } : Jvm.MethodName) jdk_29_method_69_code (2 : Nat) (Option.some Jvm.ClassFile.FieldType.int)).before args0 about1 = true := code_word (m := ⟨2, 2⟩) (meth := k2m2) (c := k2c2) (by decide +kernel) rfl rfl rfl (by decide +kernel)
set_option maxRecDepth 65536 in
theorem w_c30 : (Jvm.Cond.code ({ cls := "java/util/List", name := "of", desc := "([Ljava/lang/Object;)Ljava/util/List;" } : Jvm.MethodName) jdk_40_method_47_code (2 : Nat) (Option.some (Jvm.ClassFile.FieldType.object "java/util/List"))).before args0 about1 = true := code_word (m := ⟨11, 4⟩) (meth := k11m4) (c := k11c4) (by decide +kernel) rfl rfl rfl (by decide +kernel)
set_option maxRecDepth 65536 in
theorem w_c31 : (Jvm.Cond.code ({ cls := "java/util/ImmutableCollections", name := "listFromArray", desc := "([Ljava/lang/Object;)Ljava/util/List;" } : Jvm.MethodName) jdk_56_method_4_code (3 : Nat) (Option.some (Jvm.ClassFile.FieldType.object "java/util/List"))).before args0 about1 = true := code_word (m := ⟨18, 2⟩) (meth := k18m2) (c := k18c2) (by decide +kernel) rfl rfl rfl (by decide +kernel)
set_option maxRecDepth 65536 in
theorem w_c32 : (Jvm.Cond.code ({ cls := "java/util/Objects", name := "requireNonNull", desc := "(Ljava/lang/Object;)Ljava/lang/Object;" } : Jvm.MethodName) jdk_31_method_10_code (1 : Nat) (Option.some (Jvm.ClassFile.FieldType.object "java/lang/Object"))).before args0 about1 = true := code_word (m := ⟨29, 1⟩) (meth := k29m1) (c := k29c1) (by decide +kernel) rfl rfl rfl (by decide +kernel)
set_option maxRecDepth 65536 in
theorem w_c33 : (Jvm.Cond.code ({ cls := "java/util/ImmutableCollections$ListN", name := "<init>", desc := "([Ljava/lang/Object;Z)V" } : Jvm.MethodName) jdk_45_method_1_code (3 : Nat) (Option.none : Option Jvm.ClassFile.FieldType)).before args0 about1 = true := code_word (m := ⟨22, 0⟩) (meth := k22m0) (c := k22c0) (by decide +kernel) rfl rfl rfl (by decide +kernel)
set_option maxRecDepth 65536 in
theorem w_c34 : (Jvm.Cond.code ({ cls := "java/util/ImmutableCollections$AbstractImmutableList", name := "<init>", desc := "()V" } : Jvm.MethodName) jdk_46_method_1_code (1 : Nat) (Option.none : Option Jvm.ClassFile.FieldType)).before args0 about1 = true := code_word (m := ⟨20, 0⟩) (meth := k20m0) (c := k20c0) (by decide +kernel) rfl rfl rfl (by decide +kernel)
set_option maxRecDepth 65536 in
theorem w_c35 : (Jvm.Cond.code ({ cls := "java/util/ImmutableCollections$AbstractImmutableCollection", name := "<init>", desc := "()V" } : Jvm.MethodName) jdk_47_method_1_code (1 : Nat) (Option.none : Option Jvm.ClassFile.FieldType)).before args0 about1 = true := code_word (m := ⟨19, 0⟩) (meth := k19m0) (c := k19c0) (by decide +kernel) rfl rfl rfl (by decide +kernel)
set_option maxRecDepth 65536 in
theorem w_c36 : (Jvm.Cond.code ({ cls := "java/util/ImmutableCollections$ListN", name := "get", desc := "(I)Ljava/lang/Object;" } : Jvm.MethodName) jdk_45_method_4_code (2 : Nat) (Option.some (Jvm.ClassFile.FieldType.object "java/lang/Object"))).before args0 about1 = true := code_word (m := ⟨22, 2⟩) (meth := k22m2) (c := k22c2) (by decide +kernel) rfl rfl rfl (by decide +kernel)
set_option maxRecDepth 65536 in
theorem w_c37 : (Jvm.Cond.code ({ cls := "java/time/Duration", name := "isNegative", desc := "()Z" } : Jvm.MethodName) jdk_2316_method_22_code (1 : Nat) (Option.some Jvm.ClassFile.FieldType.boolean)).before args0 about1 = true := code_word (m := ⟨6, 3⟩) (meth := k6m3) (c := k6c3) (by decide +kernel) rfl rfl rfl (by decide +kernel)
set_option maxRecDepth 65536 in
theorem w_c38 : (Jvm.Cond.code ({ cls := "java/util/ImmutableCollections$List12", name := "<init>", desc := "(Ljava/lang/Object;)V" } : Jvm.MethodName) jdk_44_method_1_code (2 : Nat) (Option.none : Option Jvm.ClassFile.FieldType)).before args0 about1 = true := code_word (m := ⟨21, 0⟩) (meth := k21m0) (c := k21c0) (by decide +kernel) rfl rfl rfl (by decide +kernel)
set_option maxRecDepth 65536 in
theorem w_c39 : (Jvm.Cond.code ({ cls := "java/util/ImmutableCollections$List12", name := "size", desc := "()I" } : Jvm.MethodName) jdk_44_method_3_code (1 : Nat) (Option.some Jvm.ClassFile.FieldType.int)).before args0 about1 = true := code_word (m := ⟨21, 2⟩) (meth := k21m2) (c := k21c2) (by decide +kernel) rfl rfl rfl (by decide +kernel)
set_option maxRecDepth 65536 in
theorem w_c40 : (Jvm.Cond.code ({ cls := "java/util/ImmutableCollections$List12", name := "get", desc := "(I)Ljava/lang/Object;" } : Jvm.MethodName) jdk_44_method_5_code (2 : Nat) (Option.some (Jvm.ClassFile.FieldType.object "java/lang/Object"))).before args0 about1 = true := code_word (m := ⟨21, 3⟩) (meth := k21m3) (c := k21c3) (by decide +kernel) rfl rfl rfl (by decide +kernel)
set_option maxRecDepth 65536 in
theorem w_c41 : (Jvm.Cond.code ({ cls := "java/util/ImmutableCollections$List12", name := "<init>", desc := "(Ljava/lang/Object;Ljava/lang/Object;)V" } : Jvm.MethodName) jdk_44_method_2_code (3 : Nat) (Option.none : Option Jvm.ClassFile.FieldType)).before args0 about1 = true := code_word (m := ⟨21, 1⟩) (meth := k21m1) (c := k21c1) (by decide +kernel) rfl rfl rfl (by decide +kernel)
set_option maxRecDepth 65536 in
theorem w_c42 : (Jvm.Cond.code ({ cls := "java/util/Optional", name := "of", desc := "(Ljava/lang/Object;)Ljava/util/Optional;" } : Jvm.MethodName) jdk_32_method_3_code (1 : Nat) (Option.some (Jvm.ClassFile.FieldType.object "java/util/Optional"))).before args0 about1 = true := code_word (m := ⟨26, 2⟩) (meth := k26m2) (c := k26c2) (by decide +kernel) rfl rfl rfl (by decide +kernel)
set_option maxRecDepth 65536 in
theorem w_c43 : (Jvm.Cond.code ({ cls := "java/util/Optional", name := "<init>", desc := "(Ljava/lang/Object;)V" } : Jvm.MethodName) jdk_32_method_2_code (2 : Nat) (Option.none : Option Jvm.ClassFile.FieldType)).before args0 about1 = true := code_word (m := ⟨26, 1⟩) (meth := k26m1) (c := k26c1) (by decide +kernel) rfl rfl rfl (by decide +kernel)
set_option maxRecDepth 65536 in
theorem w_c44 : (Jvm.Cond.code ({ cls := "java/time/Duration", name := "equals", desc := "(Ljava/lang/Object;)Z" } : Jvm.MethodName) jdk_2316_method_67_code (3 : Nat) (Option.some Jvm.ClassFile.FieldType.boolean)).before args0 about1 = true := code_word (m := ⟨6, 4⟩) (meth := k6m4) (c := k6c4) (by decide +kernel) rfl rfl rfl (by decide +kernel)
def codes1 : List Jvm.Cond := [Jvm.Cond.code x code maxLocals ret, Jvm.Cond.code ({ cls := "java/lang/Math", name := "max", desc := "(II)I" } : Jvm.MethodName) jdk_29_method_65_code (2 : Nat) (Option.some Jvm.ClassFile.FieldType.int), Jvm.Cond.code ({ cls := "java/time/Duration", name := "ofSeconds", desc := "(J)Ljava/time/Duration;" } : Jvm.MethodName) jdk_2316_method_4_code (2 : Nat) (Option.some (Jvm.ClassFile.FieldType.object "java/time/Duration")), Jvm.Cond.code ({ cls := "java/time/Duration", name := "create", desc := "(JI)Ljava/time/Duration;" } : Jvm.MethodName) jdk_2316_method_16_code (3 : Nat) (Option.some (Jvm.ClassFile.FieldType.object "java/time/Duration")), Jvm.Cond.code ({ cls := "java/time/Duration", name := "<init>", desc := "(JI)V" } : Jvm.MethodName) jdk_2316_method_17_code (4 : Nat) (Option.none : Option Jvm.ClassFile.FieldType), Jvm.Cond.code ({ cls := "java/lang/Object", name := "<init>", desc := "()V" } : Jvm.MethodName) object_method_1_code (1 : Nat) (Option.none : Option Jvm.ClassFile.FieldType), Jvm.Cond.code ({ cls := "java/util/ArrayList", name := "<init>", desc := "()V" } : Jvm.MethodName) jdk_38_method_2_code (1 : Nat) (Option.none : Option Jvm.ClassFile.FieldType), Jvm.Cond.code ({ cls := "java/util/AbstractList", name := "<init>", desc := "()V" } : Jvm.MethodName) jdk_39_method_1_code (1 : Nat) (Option.none : Option Jvm.ClassFile.FieldType), Jvm.Cond.code ({ cls := "java/util/AbstractCollection", name := "<init>", desc := "()V" } : Jvm.MethodName) jdk_22_method_1_code (1 : Nat) (Option.none : Option Jvm.ClassFile.FieldType), Jvm.Cond.code ({ cls := "com/example/nuthatch/nuthatch/RetrySchedule", name := "<init>", desc := "(Ljava/util/List;)V" } : Jvm.MethodName) prog_7_method_1_code (4 : Nat) (Option.none : Option Jvm.ClassFile.FieldType), Jvm.Cond.code ({ cls := "java/lang/Record", name := "<init>", desc := "()V" } : Jvm.MethodName) jdk_30_method_1_code (1 : Nat) (Option.none : Option Jvm.ClassFile.FieldType), Jvm.Cond.code ({ cls := "java/util/List", name := "copyOf", desc := "(Ljava/util/Collection;)Ljava/util/List;" } : Jvm.MethodName) jdk_40_method_48_code (1 : Nat) (Option.some (Jvm.ClassFile.FieldType.object "java/util/List")), Jvm.Cond.code ({ cls := "java/util/ImmutableCollections", name := "listCopy", desc := "(Ljava/util/Collection;)Ljava/util/List;" } : Jvm.MethodName) jdk_56_method_3_code (2 : Nat) (Option.some (Jvm.ClassFile.FieldType.object "java/util/List")), Jvm.Cond.code ({ cls := "java/util/ArrayList", name := "isEmpty", desc := "()Z" } : Jvm.MethodName) jdk_38_method_9_code (1 : Nat) (Option.some Jvm.ClassFile.FieldType.boolean), Jvm.Cond.code ({ cls := "java/util/List", name := "of", desc := "()Ljava/util/List;" } : Jvm.MethodName) jdk_40_method_36_code (0 : Nat) (Option.some (Jvm.ClassFile.FieldType.object "java/util/List")), Jvm.Cond.code ({ cls := "java/util/ImmutableCollections$AbstractImmutableList", name := "iterator", desc := "()Ljava/util/Iterator;" } : Jvm.MethodName) jdk_46_method_10_code (1 : Nat) (Option.some (Jvm.ClassFile.FieldType.object "java/util/Iterator")), Jvm.Cond.code ({ cls := "java/util/ImmutableCollections$ListN", name := "size", desc := "()I" } : Jvm.MethodName) jdk_45_method_3_code (1 : Nat) (Option.some Jvm.ClassFile.FieldType.int), Jvm.Cond.code ({ cls := "java/util/ImmutableCollections$ListItr", name := "<init>", desc := "(Ljava/util/List;I)V" } : Jvm.MethodName) jdk_53_method_1_code (3 : Nat) (Option.none : Option Jvm.ClassFile.FieldType), Jvm.Cond.code ({ cls := "java/util/ImmutableCollections$ListItr", name := "hasNext", desc := "()Z" } : Jvm.MethodName) jdk_53_method_3_code (1 : Nat) (Option.some Jvm.ClassFile.FieldType.boolean), Jvm.Cond.code ({ cls := "com/example/nuthatch/nuthatch/RetrySchedule", name := "delayAfterFailure", desc := "(I)Ljava/util/Optional;" } : Jvm.MethodName) prog_7_method_4_code (3 : Nat) (Option.some (Jvm.ClassFile.FieldType.object "java/util/Optional")), Jvm.Cond.code ({ cls := "java/util/Optional", name := "empty", desc := "()Ljava/util/Optional;" } : Jvm.MethodName) jdk_32_method_1_code (1 : Nat) (Option.some (Jvm.ClassFile.FieldType.object "java/util/Optional")), Jvm.Cond.code ({ cls := "java/util/Optional", name := "orElse", desc := "(Ljava/lang/Object;)Ljava/lang/Object;" } : Jvm.MethodName) jdk_32_method_15_code (2 : Nat) (Option.some (Jvm.ClassFile.FieldType.object "java/lang/Object")), Jvm.Cond.code ({ cls := "java/util/ArrayList", name := "add", desc := "(Ljava/lang/Object;)Z" } : Jvm.MethodName) jdk_38_method_25_code (2 : Nat) (Option.some Jvm.ClassFile.FieldType.boolean), Jvm.Cond.code ({ cls := "java/util/ArrayList", name := "add", desc := "(Ljava/lang/Object;[Ljava/lang/Object;I)V" } : Jvm.MethodName) jdk_38_method_24_code (4 : Nat) (Option.none : Option Jvm.ClassFile.FieldType), Jvm.Cond.code ({ cls := "java/util/ArrayList", name := "grow", desc := "()[Ljava/lang/Object;" } : Jvm.MethodName) jdk_38_method_7_code (1 : Nat) (Option.some (Jvm.ClassFile.FieldType.array (Jvm.ClassFile.FieldType.object "java/lang/Object"))), Jvm.Cond.code ({ cls := "java/util/ArrayList", name := "grow", desc := "(I)[Ljava/lang/Object;" } : Jvm.MethodName) jdk_38_method_6_code (4 : Nat) (Option.some (Jvm.ClassFile.FieldType.array (Jvm.ClassFile.FieldType.object "java/lang/Object"))), Jvm.Cond.code ({ cls := "java/util/ArrayList", name := "toArray", desc := "()[Ljava/lang/Object;" } : Jvm.MethodName) jdk_38_method_16_code (1 : Nat) (Option.some (Jvm.ClassFile.FieldType.array (Jvm.ClassFile.FieldType.object "java/lang/Object"))), Jvm.Cond.code ({ cls := "java/util/Arrays", name := "copyOf", desc := "([Ljava/lang/Object;I)[Ljava/lang/Object;" } : Jvm.MethodName) jdk_65_method_119_code (2 : Nat) (Option.some (Jvm.ClassFile.FieldType.array (Jvm.ClassFile.FieldType.object "java/lang/Object"))), Jvm.Cond.code ({ cls := "java/util/Arrays", name := "copyOf", desc := "([Ljava/lang/Object;ILjava/lang/Class;)[Ljava/lang/Object;" } : Jvm.MethodName) jdk_65_method_120_code (4 : Nat) (Option.some (Jvm.ClassFile.FieldType.array (Jvm.ClassFile.FieldType.object "java/lang/Object"))), Jvm.Cond.code ({ cls := "java/lang/Math", name := "min", desc := "(II)I" } : Jvm.MethodName) jdk_29_method_69_code (2 : Nat) (Option.some Jvm.ClassFile.FieldType.int), Jvm.Cond.code ({ cls := "java/util/List", name := "of", desc := "([Ljava/lang/Object;)Ljava/util/List;" } : Jvm.MethodName) jdk_40_method_47_code (2 : Nat) (Option.some (Jvm.ClassFile.FieldType.object "java/util/List")), Jvm.Cond.code ({ cls := "java/util/ImmutableCollections", name := "listFromArray", desc := "([Ljava/lang/Object;)Ljava/util/List;" } : Jvm.MethodName) jdk_56_method_4_code (3 : Nat) (Option.some (Jvm.ClassFile.FieldType.object "java/util/List")), Jvm.Cond.code ({ cls := "java/util/Objects", name := "requireNonNull", desc := "(Ljava/lang/Object;)Ljava/lang/Object;" } : Jvm.MethodName) jdk_31_method_10_code (1 : Nat) (Option.some (Jvm.ClassFile.FieldType.object "java/lang/Object")), Jvm.Cond.code ({ cls := "java/util/ImmutableCollections$ListN", name := "<init>", desc := "([Ljava/lang/Object;Z)V" } : Jvm.MethodName) jdk_45_method_1_code (3 : Nat) (Option.none : Option Jvm.ClassFile.FieldType), Jvm.Cond.code ({ cls := "java/util/ImmutableCollections$AbstractImmutableList", name := "<init>", desc := "()V" } : Jvm.MethodName) jdk_46_method_1_code (1 : Nat) (Option.none : Option Jvm.ClassFile.FieldType), Jvm.Cond.code ({ cls := "java/util/ImmutableCollections$AbstractImmutableCollection", name := "<init>", desc := "()V" } : Jvm.MethodName) jdk_47_method_1_code (1 : Nat) (Option.none : Option Jvm.ClassFile.FieldType), Jvm.Cond.code ({ cls := "java/util/ImmutableCollections$ListN", name := "get", desc := "(I)Ljava/lang/Object;" } : Jvm.MethodName) jdk_45_method_4_code (2 : Nat) (Option.some (Jvm.ClassFile.FieldType.object "java/lang/Object")), Jvm.Cond.code ({ cls := "java/time/Duration", name := "isNegative", desc := "()Z" } : Jvm.MethodName) jdk_2316_method_22_code (1 : Nat) (Option.some Jvm.ClassFile.FieldType.boolean), Jvm.Cond.code ({ cls := "java/util/ImmutableCollections$List12", name := "<init>", desc := "(Ljava/lang/Object;)V" } : Jvm.MethodName) jdk_44_method_1_code (2 : Nat) (Option.none : Option Jvm.ClassFile.FieldType), Jvm.Cond.code ({ cls := "java/util/ImmutableCollections$List12", name := "size", desc := "()I" } : Jvm.MethodName) jdk_44_method_3_code (1 : Nat) (Option.some Jvm.ClassFile.FieldType.int), Jvm.Cond.code ({ cls := "java/util/ImmutableCollections$List12", name := "get", desc := "(I)Ljava/lang/Object;" } : Jvm.MethodName) jdk_44_method_5_code (2 : Nat) (Option.some (Jvm.ClassFile.FieldType.object "java/lang/Object")), Jvm.Cond.code ({ cls := "java/util/ImmutableCollections$List12", name := "<init>", desc := "(Ljava/lang/Object;Ljava/lang/Object;)V" } : Jvm.MethodName) jdk_44_method_2_code (3 : Nat) (Option.none : Option Jvm.ClassFile.FieldType), Jvm.Cond.code ({ cls := "java/util/Optional", name := "of", desc := "(Ljava/lang/Object;)Ljava/util/Optional;" } : Jvm.MethodName) jdk_32_method_3_code (1 : Nat) (Option.some (Jvm.ClassFile.FieldType.object "java/util/Optional")), Jvm.Cond.code ({ cls := "java/util/Optional", name := "<init>", desc := "(Ljava/lang/Object;)V" } : Jvm.MethodName) jdk_32_method_2_code (2 : Nat) (Option.none : Option Jvm.ClassFile.FieldType), Jvm.Cond.code ({ cls := "java/time/Duration", name := "equals", desc := "(Ljava/lang/Object;)Z" } : Jvm.MethodName) jdk_2316_method_67_code (3 : Nat) (Option.some Jvm.ClassFile.FieldType.boolean)]
set_option maxRecDepth 65536 in
theorem codes_eq : words1.filter isCode = codes1 := rfl
theorem w_codes : ∀ c ∈ words1.filter isCode, c.before args0 about1 = true := by
  rw [codes_eq]
  intro c hc
  simp only [codes1, List.mem_cons, List.not_mem_nil, or_false] at hc
  rcases hc with rfl | rfl | rfl | rfl | rfl | rfl | rfl | rfl | rfl | rfl | rfl | rfl | rfl | rfl | rfl | rfl | rfl | rfl | rfl | rfl | rfl | rfl | rfl | rfl | rfl | rfl | rfl | rfl | rfl | rfl | rfl | rfl | rfl | rfl | rfl | rfl | rfl | rfl | rfl | rfl | rfl | rfl | rfl | rfl | rfl
  · exact w_c0
  · exact w_c1
  · exact w_c2
  · exact w_c3
  · exact w_c4
  · exact w_c5
  · exact w_c6
  · exact w_c7
  · exact w_c8
  · exact w_c9
  · exact w_c10
  · exact w_c11
  · exact w_c12
  · exact w_c13
  · exact w_c14
  · exact w_c15
  · exact w_c16
  · exact w_c17
  · exact w_c18
  · exact w_c19
  · exact w_c20
  · exact w_c21
  · exact w_c22
  · exact w_c23
  · exact w_c24
  · exact w_c25
  · exact w_c26
  · exact w_c27
  · exact w_c28
  · exact w_c29
  · exact w_c30
  · exact w_c31
  · exact w_c32
  · exact w_c33
  · exact w_c34
  · exact w_c35
  · exact w_c36
  · exact w_c37
  · exact w_c38
  · exact w_c39
  · exact w_c40
  · exact w_c41
  · exact w_c42
  · exact w_c43
  · exact w_c44
set_option maxRecDepth 65536 in
theorem w_t1 : (words1.take 24).all (fun c => isCode c || c.before args0 about1) = true := by decide +kernel
set_option maxRecDepth 65536 in
theorem w_t2 : ((words1.drop 24).take 24).all (fun c => isCode c || c.before args0 about1) = true := by decide +kernel
set_option maxRecDepth 65536 in
theorem w_t3 : (((words1.drop 24).drop 24).take 24).all (fun c => isCode c || c.before args0 about1) = true := by decide +kernel
set_option maxRecDepth 65536 in
theorem w_t4 : ((((words1.drop 24).drop 24).drop 24).take 24).all (fun c => isCode c || c.before args0 about1) = true := by decide +kernel
set_option maxRecDepth 65536 in
theorem w_t5 : (((((words1.drop 24).drop 24).drop 24).drop 24).take 24).all (fun c => isCode c || c.before args0 about1) = true := by decide +kernel
set_option maxRecDepth 65536 in
theorem w_t6 : ((((((words1.drop 24).drop 24).drop 24).drop 24).drop 24).take 24).all (fun c => isCode c || c.before args0 about1) = true := by decide +kernel
set_option maxRecDepth 65536 in
theorem w_t7 : (((((((words1.drop 24).drop 24).drop 24).drop 24).drop 24).drop 24).take 24).all (fun c => isCode c || c.before args0 about1) = true := by decide +kernel
set_option maxRecDepth 65536 in
theorem w_t8 : ((((((((words1.drop 24).drop 24).drop 24).drop 24).drop 24).drop 24).drop 24).take 24).all (fun c => isCode c || c.before args0 about1) = true := by decide +kernel
set_option maxRecDepth 65536 in
theorem w_t9 : (((((((((words1.drop 24).drop 24).drop 24).drop 24).drop 24).drop 24).drop 24).drop 24).take 24).all (fun c => isCode c || c.before args0 about1) = true := by decide +kernel
set_option maxRecDepth 65536 in
theorem w_t10 : ((((((((((words1.drop 24).drop 24).drop 24).drop 24).drop 24).drop 24).drop 24).drop 24).drop 24).take 24).all (fun c => isCode c || c.before args0 about1) = true := by decide +kernel
set_option maxRecDepth 65536 in
theorem w_t11 : (((((((((((words1.drop 24).drop 24).drop 24).drop 24).drop 24).drop 24).drop 24).drop 24).drop 24).drop 24).take 24).all (fun c => isCode c || c.before args0 about1) = true := by decide +kernel
set_option maxRecDepth 65536 in
theorem w_t12 : ((((((((((((words1.drop 24).drop 24).drop 24).drop 24).drop 24).drop 24).drop 24).drop 24).drop 24).drop 24).drop 24).take 24).all (fun c => isCode c || c.before args0 about1) = true := by decide +kernel
set_option maxRecDepth 65536 in
theorem w_t13 : (((((((((((((words1.drop 24).drop 24).drop 24).drop 24).drop 24).drop 24).drop 24).drop 24).drop 24).drop 24).drop 24).drop 24).take 24).all (fun c => isCode c || c.before args0 about1) = true := by decide +kernel
set_option maxRecDepth 65536 in
theorem w_t14 : (((((((((((((words1.drop 24).drop 24).drop 24).drop 24).drop 24).drop 24).drop 24).drop 24).drop 24).drop 24).drop 24).drop 24).drop 24).all (fun c => isCode c || c.before args0 about1) = true := by decide +kernel
theorem w_tables : (allAtoms (Jvm.Cond.code x code maxLocals ret :: tables_1)).before args0 about1 = true := by
  rw [allAtoms_all]
  show words1.all (fun c => c.before args0 about1) = true
  refine all_split ?_ w_codes
  rw [← List.take_append_drop 24 words1, List.all_append, w_t1, ← List.take_append_drop 24 (words1.drop 24), List.all_append, w_t2, ← List.take_append_drop 24 ((words1.drop 24).drop 24), List.all_append, w_t3, ← List.take_append_drop 24 (((words1.drop 24).drop 24).drop 24), List.all_append, w_t4, ← List.take_append_drop 24 ((((words1.drop 24).drop 24).drop 24).drop 24), List.all_append, w_t5, ← List.take_append_drop 24 (((((words1.drop 24).drop 24).drop 24).drop 24).drop 24), List.all_append, w_t6, ← List.take_append_drop 24 ((((((words1.drop 24).drop 24).drop 24).drop 24).drop 24).drop 24), List.all_append, w_t7, ← List.take_append_drop 24 (((((((words1.drop 24).drop 24).drop 24).drop 24).drop 24).drop 24).drop 24), List.all_append, w_t8, ← List.take_append_drop 24 ((((((((words1.drop 24).drop 24).drop 24).drop 24).drop 24).drop 24).drop 24).drop 24), List.all_append, w_t9, ← List.take_append_drop 24 (((((((((words1.drop 24).drop 24).drop 24).drop 24).drop 24).drop 24).drop 24).drop 24).drop 24), List.all_append, w_t10, ← List.take_append_drop 24 ((((((((((words1.drop 24).drop 24).drop 24).drop 24).drop 24).drop 24).drop 24).drop 24).drop 24).drop 24), List.all_append, w_t11, ← List.take_append_drop 24 (((((((((((words1.drop 24).drop 24).drop 24).drop 24).drop 24).drop 24).drop 24).drop 24).drop 24).drop 24).drop 24), List.all_append, w_t12, ← List.take_append_drop 24 ((((((((((((words1.drop 24).drop 24).drop 24).drop 24).drop 24).drop 24).drop 24).drop 24).drop 24).drop 24).drop 24).drop 24), List.all_append, w_t13, w_t14]
  rfl
set_option maxRecDepth 65536 in
theorem w_rest : rest_1_c.before args0 about1 = true := by decide +kernel
set_option maxRecDepth 65536 in
theorem w_case : (Jvm.Cond.and given_1 narrow_1).before args0 about1 = true := by decide +kernel
theorem w_applies : (headSpec (Jvm.Cond.code x code maxLocals ret :: tables_1) room_1).applies x e0.platform about1 = true :=
  (Spec.applies_iff w_frames).mpr ⟨w_running, w_runnable, w_alone, w_named, w_hears, w_ripe, w_room, w_tables⟩
theorem atStart : AtStart classFile x code maxLocals ret World_1 tables_1 room_1 Calls_1 rest_1 Pre_1 launch0 p0 e0 about1 theMethod args0 below0 :=
  ⟨lists_1, trivial, launch0.admits_env _ _ _, launch0.least_env, fairChoices_fair.cas, fairChoices_fair.clock, w_frames, w_args, w_heap, w_applies, ⟨⟨35, k35, 4, by decide +kernel, rfl, rfl, _, rfl, rfl⟩, trivial⟩, w_rest, w_case⟩
end start1
theorem witness_1 : WitnessClaimed_1 := ⟨start1.p0, start1.e0, start1.about1, start1.theMethod, start1.args0, start1.below0, start1.atStart⟩
end Jvm.Pilot.@@N@@
