import JvmDerived
import JvmDerived.Pilot.@@N@@Statement
import JvmDerived.Pilot.@@N@@Code
set_option linter.unusedVariables false
set_option linter.unusedSimpArgs false
namespace Jvm.Pilot.@@N@@
open Jvm Jvm.ClassFile Sem Op Lib Jvm.Free Jvm.Stand Jvm.LawKit Jvm.RoadKit Bundle Jvm.Pilot.@@N@@.Jvm.D
/-- from the frame g over the state T the run comes to a return that Q allows, with at most kc new cells and ks new slots -/
def Go (p : Program) (e : Env) (below : List Frame) (s : State) (Q : Option Value → Heap → List Loc → Prop) (kc ks : Nat) (T : State) (g : JFrame) : Prop :=
  ∃ s₂ o, Steps p.tables e below (T.setTop g) s₂ ∧ s₂.status = .running ∧ Ended s₂ below o ∧ ∃ v L, o = .returned v ∧ Q v s₂.heap L ∧ FrameEnd s o s₂ L kc ks
/-- a body's contract in this family: called with these arguments over the heap h0 it returns what Q says -/
def Con (l : Launch) (Z : State) (y : MethodName) (bytes : ByteArray) (maxL : Nat) (ret : Option FieldType) (rm : Room) (ws : List Jvm.Cond) (as' : Array Value) (h0 : Heap) (Q : Option Value → Heap → List Loc → Prop) (kc ks : Nat) : Prop :=
  MetFree l y (head1 (Jvm.Cond.code y bytes maxL ret :: ws) rm) (fun a U => a = as' ∧ Z.Warmed39 U.vm ∧ U.heap = h0) (fun _ _ _ _ _ => True) (fun _ U o U' => ∃ v L, o = .returned v ∧ Q v U'.heap L ∧ FrameEnd U o U' L kc ks)
/-- it returns r and leaves the heap as it was -/
def Qret (r : Option Value) (h0 : Heap) (n0 : Nat) (v : Option Value) (h : Heap) (L : List Loc) : Prop := v = r ∧ Fr n0 L ∧ h = h0
/-- the law's own end: true; nothing old written -/
def Q0 (n0 : Nat) (v : Option Value) (h : Heap) (L : List Loc) : Prop := v = some (.int 1) ∧ Fr n0 L
section Own
variable {p : Program} {l : Launch} {e : Env} {R : Room} {s Z : State} {m : MethodId} {args : Array Value} {below : List Frame} {meth : Method} {c : Code} {T T' : State} {locs : List Loc} {cells slots kc ks : Nat} {Q : Option Value → Heap → List Loc → Prop} {g g' : JFrame} {h h' : Heap} {a : Addr} {C n d : String} {v : Value} {ws : List Addr}
theorem Con.of {y : MethodName} {bytes : ByteArray} {maxL : Nat} {ret : Option FieldType} {rm : Room} {cs : List Jvm.Cond} {as' : Array Value} {h0 : Heap} (hp : plainFor y = true)
    (body : ∀ p e s m below meth c s₁, Stand p l e rm s m as' below meth c s₁ [] 0 0 → p.tables.exec = Jvm.exec → Z.Warmed39 s.vm → c.code = bytes → c.maxLocals = maxL → s.vm.findClass y.cls = some m.cls → meth.name = y.name → meth.sig.returnType = ret → meth.locks = false → s₁.heap = h0 → s.heap = h0 → Go p e below s Q kc ks s₁ (entryFrame m as' maxL)) :
    Con l Z y bytes maxL ret rm cs as' h0 Q kc ks := by
  refine MetFree.of_bodySF hp hisR ?_
  intro p e s m args below meth c s₁ Bd hml0 hP hK
  obtain ⟨rfl, hZ, hh⟩ := hP
  exact body p e s m below meth c s₁ (Stand.of_body Bd) Bd.exec hZ Bd.bytes hml0 (findClass_of_methodNamed Bd.named) (name_of_methodNamed Bd.named Bd.method).1 Bd.returns Bd.notSynchronized (by rw [← hh, Bd.state]; rfl) hh
theorem Go.step (st : ∀ target, Steps p.tables e below (T'.setTop g') target → Steps p.tables e below (T.setTop g) target) (k : Go p e below s Q kc ks T' g') : Go p e below s Q kc ks T g := by
  obtain ⟨s₂, o, h1, h2⟩ := k
  exact ⟨s₂, o, st _ h1, h2⟩
theorem Go.cast (q : g = g') (k : Go p e below s Q kc ks T g') : Go p e below s Q kc ks T g := q ▸ k
theorem Go.ret (X : Stand p l e R s m args below meth c T locs cells slots) {v : Option Value} (hv : meth.sig.returnType = none → v = none) (hlk : meth.locks = false) (hq : Q v T.heap locs) (hc : cells ≤ kc) (hs : slots ≤ ks)
    (st : ∀ fs, (∀ (f : JFrame) (acts : List Action), f.method = m → f.locked = none → f.entered = [] → (doReturn e (T.setTop f) acts v).1 = T.setFrames fs) → Steps p.tables e below (T.setTop g) (T.setFrames fs)) : Go p e below s Q kc ks T g := by
  obtain ⟨fs, hr, hrun, hended, hW, hsame⟩ := X.leave (v := v) hv hlk
  exact ⟨_, _, st fs hr, hrun, hended, v, locs, rfl, hq, ⟨_, rfl⟩, hW, hsame.mono hc hs⟩
theorem Go.retN (X : Stand p l e R s m args below meth c T locs cells slots) (hx : p.tables.exec = Jvm.exec) {pc : Nat} {Ls : Array Slot} {z : Int32} {t : FieldType} {rest : List Value} (hret : meth.sig.returnType = some t) (hlk : meth.locks = false) (ht : t = .boolean ∨ t = .byte ∨ t = .char ∨ t = .short)
    (hd : decode c.code pc = .ok (.ireturn, 1)) (hq : Q (some (.int (nar t z))) T.heap locs) (hc : cells ≤ kc) (hs : slots ≤ ks) : Go p e below s Q kc ks T (mkF m pc Ls (.int z :: rest)) :=
  Go.ret X (fun q => by rw [hret] at q; cases q) hlk hq hc hs fun fs hr => Jvm.RoadKit.retN X hx hret ht hd hr
theorem Go.retI (X : Stand p l e R s m args below meth c T locs cells slots) (hx : p.tables.exec = Jvm.exec) {pc : Nat} {Ls : Array Slot} {z : Int32} {rest : List Value} (hret : meth.sig.returnType = some .int) (hlk : meth.locks = false)
    (hd : decode c.code pc = .ok (.ireturn, 1)) (hq : Q (some (.int z)) T.heap locs) (hc : cells ≤ kc) (hs : slots ≤ ks) : Go p e below s Q kc ks T (mkF m pc Ls (.int z :: rest)) :=
  Go.ret X (fun q => by rw [hret] at q; cases q) hlk hq hc hs fun fs hr => retOut X hx hret rfl (Or.inl ⟨rfl, Or.inl rfl, z, rfl⟩) hd hr
theorem Go.retJ (X : Stand p l e R s m args below meth c T locs cells slots) (hx : p.tables.exec = Jvm.exec) {pc : Nat} {Ls : Array Slot} {z : Int64} {rest : List Value} (hret : meth.sig.returnType = some .long) (hlk : meth.locks = false)
    (hd : decode c.code pc = .ok (.lreturn, 1)) (hq : Q (some (.long z)) T.heap locs) (hc : cells ≤ kc) (hs : slots ≤ ks) : Go p e below s Q kc ks T (mkF m pc Ls (.long z :: rest)) :=
  Go.ret X (fun q => by rw [hret] at q; cases q) hlk hq hc hs fun fs hr => retOut X hx hret rfl (Or.inr (Or.inl ⟨rfl, rfl, z, rfl⟩)) hd hr
theorem Go.retA (X : Stand p l e R s m args below meth c T locs cells slots) (hx : p.tables.exec = Jvm.exec) {pc : Nat} {Ls : Array Slot} {w : Value} {t : FieldType} {rest : List Value} (hret : meth.sig.returnType = some t) (ht : t.isReference = true) (hlk : meth.locks = false) (hw : w.isRef = true)
    (hd : decode c.code pc = .ok (.areturn, 1)) (hq : Q (some w) T.heap locs) (hc : cells ≤ kc) (hs : slots ≤ ks) : Go p e below s Q kc ks T (mkF m pc Ls (w :: rest)) :=
  Go.ret X (fun q => by rw [hret] at q; cases q) hlk hq hc hs fun fs hr => retOut X hx hret (by cases t <;> first | (cases ht; done) | (cases w <;> first | rfl | (cases hw; done))) (Or.inr (Or.inr (Or.inr (Or.inr ⟨rfl, ht, hw⟩)))) hd hr
theorem Go.retV (X : Stand p l e R s m args below meth c T locs cells slots) (hx : p.tables.exec = Jvm.exec) {pc : Nat} {Ls : Array Slot} (hret : meth.sig.returnType = none) (hlk : meth.locks = false)
    (hd : decode c.code pc = .ok (.return_, 1)) (hq : Q none T.heap locs) (hc : cells ≤ kc) (hs : slots ≤ ks) : Go p e below s Q kc ks T (mkF m pc Ls []) :=
  Go.ret X (fun _ => rfl) hlk hq hc hs fun fs hr => X.returnOut hx hret hd hr
theorem own_sta_keep (F : Sta Z h C n d v) (K : Keep h h' ws) (q : ∀ x ∈ ws, ∀ c : Cell, h[x]? = some c → c.vm.isStatics = false) : Sta Z h' C n d v := by
  obtain ⟨cf, i, k, f, st, cell, h1, h2, h3, h4, h5, h6, h7⟩ := F
  refine ⟨cf, i, k, f, st, cell, h1, h2, h3, h4, K.2.1 _ _ h5 (fun hm => ?_), h6, h7⟩
  have := q _ hm _ h5
  rw [h6] at this; cases this
theorem own_plain (E : Exa Z h a C) : ∀ c : Cell, h[a]? = some c → c.vm.isStatics = false := fun c hc => by
  obtain ⟨cell, k, h1, -, -, h4, -⟩ := E
  cases h1.symm.trans hc; exact h4
theorem own_eqI {args : Array Value} {s : State} {t : Term} {k : Int32} (q : (Jvm.Cond.eq t (Jvm.Term.int k)).value args s none s [] = some true) : t.eval args s none [] s = some (.int k) := by
  obtain ⟨x, y, hx, hy, kin, kin'⟩ := cmp_v (Or.inl q)
  have hy' : y = .int k := (Option.some.inj hy).symm
  subst hy'
  obtain ⟨z, rfl⟩ := kin'
  have e : (Jvm.Cond.eq t (Jvm.Term.int k)).value args s none s [] = some (decide (z = k)) := by simp [Cond.value, hx, hy]
  rw [hx, gotT e q]
theorem Con.ret {y : MethodName} {bytes : ByteArray} {maxL n0 : Nat} {ret : Option FieldType} {rm : Room} {cs : List Jvm.Cond} {as' : Array Value} {h0 h1 : Heap} {r r' : Int32} (q : r = r') (k : Con l Z y bytes maxL ret rm cs as' h0 (Qret (some (.int r)) h1 n0) kc ks) : Con l Z y bytes maxL ret rm cs as' h0 (Qret (some (.int r')) h1 n0) kc ks := q ▸ k
theorem own_arr_keep {cl : Cell} {ty : FieldType} (F : Arr Z h a cl ty) (K : Keep h h' ws) (q : a ∉ ws) : Arr Z h' a cl ty := ⟨K.2.1 a cl F.1 q, F.2⟩
/-- an object whose chain of classes lacks the class K is no K -/
theorem own_noins {a0 : Array Value} {K : String} {t : List String} {k : Nat} (E : Exa Z h a C) (hw : ∀ w ∈ Cond.chainWords (C :: t), w.before a0 Z = true) (wi : (Jvm.Cond.instantiable K k).before a0 Z = true) (hn : K ∉ C :: t) : Ins Z h a K false := by
  obtain ⟨cell, kc, h1, h2, -, h4, -⟩ := E
  obtain ⟨cy, ky, y1, y2, y3, y4, -⟩ := Cond.instantiable_spec wi
  have y5 : ky.isInterface = false := by simp only [Bool.or_eq_false_iff] at y4; exact y4.1
  exact ⟨cell, cy, h1, y1, by rw [Vm.notAssignable_of_chain h2 y1 y2 y3 y5 hw hn]; simp⟩
theorem own_len {args : Array Value} {t : Term} {cl : Cell} {ty : FieldType} {z : Int32} (ev : t.eval args Z none [] Z = some (.ref a)) (A : Arr Z Z.heap a cl ty) (el : (Jvm.Term.length t).eval args Z none [] Z = some (.int z)) : cl.slots.size < 2 ^ 31 ∧ cl.slots.size.toInt32 = z := by
  have ha := A.fin (Vm.Alike.refl _)
  by_cases q : cl.slots.size < 2 ^ 31
  · rw [len_f ev ha q] at el
    exact ⟨q, Value.int.inj (Option.some.inj el)⟩
  · simp [Term.eval, ev, ha, q] at el
theorem own_sub_at {args : Array Value} {t : Term} {idx : List Nat} {y k : Int32} (q : t.eval args Z none idx Z = some (.int y)) : (Jvm.Term.sub t (Jvm.Term.int k)).eval args Z none idx Z = some (.int (y - k)) := by simp [Term.eval, q]
end Own
theorem own_ef_prog_131_method_9_code_R (m : MethodId) (x0 : Addr) : entryFrame m #[(.ref x0)] 1 = mkF m 0 #[.val (.ref x0)] [] := by first | (simp [entryFrame, mkF, argsToLocals, Value.category]; done) | rfl
theorem own_pn_SqlType : plainName "com/example/tuples_under_lock/tuplesunderlock/SqlType" = true := by first | (simp [plainName, overriddenIn]; done) | decide +kernel
theorem d_prog_131_method_9_0 : decode prog_131_method_9_code 0 = .ok (.aload_n 0, 1) := by decide +kernel
theorem d_prog_131_method_9_1 : decode prog_131_method_9_code 1 = .ok (.getstatic 28, 3) := by decide +kernel
theorem d_prog_131_method_9_4 : decode prog_131_method_9_code 4 = .ok (.if_acmp .eq 7, 3) := by decide +kernel
theorem d_prog_131_method_9_11 : decode prog_131_method_9_code 11 = .ok (.iconst 0, 1) := by decide +kernel
theorem d_prog_131_method_9_12 : decode prog_131_method_9_code 12 = .ok (.ireturn, 1) := by decide +kernel
theorem d_prog_131_method_9_7 : decode prog_131_method_9_code 7 = .ok (.iconst 1, 1) := by decide +kernel
theorem d_prog_131_method_9_8 : decode prog_131_method_9_code 8 = .ok (.goto 4, 3) := by decide +kernel
set_option maxRecDepth 65536 in
set_option maxHeartbeats 40000000 in
theorem own_iso (l : Launch) (Z : State) (a0 : Array Value) (hw : ∀ d ∈ tables_1, d.before a0 Z = true) (ws : List Jvm.Cond) (a1 w8 : Addr) (h0 : Heap) (n0 : Nat) (Z0 : n0 ≤ h0.size) (S8 : Sta Z h0 "com/example/tuples_under_lock/tuplesunderlock/SqlType" "VOID" "Lcom/example/tuples_under_lock/tuplesunderlock/SqlType;" (.ref w8)) :
    Con l Z (⟨"com/example/tuples_under_lock/tuplesunderlock/SqlType", "isOrdered", "()Z"⟩ : MethodName) prog_131_method_9_code 1 (some .boolean) ({ frames := 0, cells := 0, slots := 0, locals := 0 } : Room) ws #[(.ref a1)] h0 (Qret (some (.int (if a1 = w8 then 0 else 1))) h0 n0) 0 0 := by
  refine Con.of (plainFor_of_name own_pn_SqlType) ?_
  intro p e s m below meth c s₁ X0 hx hZ hby hml hown hnm hret hlk e0 hs0
  have N0 := Fr.nil n0
  have hown : s.vm.findClass "com/example/tuples_under_lock/tuplesunderlock/SqlType" = some m.cls := hown
  have hnm : meth.name = "isOrdered" := hnm
  refine Go.cast (own_ef_prog_131_method_9_code_R m a1) ?_
  refine Go.step (T' := s₁) (g' := (mkF m 1 #[.val (.ref a1)] [(.ref a1)])) (fun _ k => XS.aloadN X0.here hx rfl (hb hby d_prog_131_method_9_0) rfl rfl k) ?_
  obtain ⟨T101, X101, e101, st101⟩ := getS2 X0 hx hZ hown (host := "") (Or.inl (hw _ (List.mem_of_getElem? (i := 9) rfl))) Via.refl e0 S8 (g := (mkF m 1 #[.val (.ref a1)] [(.ref a1)])) rfl (hb hby d_prog_131_method_9_1)
  refine Go.step (T' := T101) (g' := (mkF m 4 #[.val (.ref a1)] [(.ref w8), (.ref a1)])) st101 ?_
  by_cases ha102 : a1 = w8
  · skip
    refine Go.step (T' := T101) (g' := (mkF m 11 #[.val (.ref a1)] [])) (fun _ k => Jvm.RoadKit.acmp (g := (mkF m 4 #[.val (.ref a1)] [(.ref w8), (.ref a1)])) X101 hx rfl rfl rfl (pc0 := 4) (pc' := 11) (same := true) rfl (hb hby d_prog_131_method_9_4) rfl (decide_eq_true (congrArg Value.ref ha102)) (by decide) (by decide) k) ?_
    refine Go.step (T' := T101) (g' := (mkF m 12 #[.val (.ref a1)] [(.int (0 : Int32))])) (fun _ k => XS.iconst X101.here hx rfl (hb hby d_prog_131_method_9_11) k) ?_
    exact Go.retN X101 hx (t := .boolean) hret hlk (by simp) (hb hby d_prog_131_method_9_12) (⟨by simp [nar, *], N0, e101⟩) (by decide) (by decide)
  · skip
    refine Go.step (T' := T101) (g' := (mkF m 7 #[.val (.ref a1)] [])) (fun _ k => Jvm.RoadKit.acmp (g := (mkF m 4 #[.val (.ref a1)] [(.ref w8), (.ref a1)])) X101 hx rfl rfl rfl (pc0 := 4) (pc' := 7) (same := false) rfl (hb hby d_prog_131_method_9_4) rfl (decide_eq_false fun q => ha102 (Value.ref.inj q)) (by decide) (by decide) k) ?_
    refine Go.step (T' := T101) (g' := (mkF m 8 #[.val (.ref a1)] [(.int (1 : Int32))])) (fun _ k => XS.iconst X101.here hx rfl (hb hby d_prog_131_method_9_7) k) ?_
    refine Go.step (T' := T101) (g' := (mkF m 12 #[.val (.ref a1)] [(.int (1 : Int32))])) (fun _ k => XS.goto X101.here hx rfl (pc0 := 8) (pc' := 12) rfl (hb hby d_prog_131_method_9_8) (by decide) (by decide) k) ?_
    exact Go.retN X101 hx (t := .boolean) hret hlk (by simp) (hb hby d_prog_131_method_9_12) (⟨by simp [nar, *], N0, e101⟩) (by decide) (by decide)
theorem own_ef_code_I (m : MethodId) (x0 : Int32) : entryFrame m #[(.int x0)] maxLocals = mkF m 0 #[.val (.int x0), .unset, .unset, .unset] [] := by first | (simp [entryFrame, mkF, argsToLocals, Value.category, maxLocals]; done) | rfl
theorem own_pn_SqlTypeIsOrderedPinLaw : plainName "com/example/tuples_under_lock/tuplesunderlock/SqlTypeIsOrderedPinLaw" = true := by first | (simp [plainName, overriddenIn]; done) | decide +kernel
theorem own_pd0 : parseMethodDescriptor "()Z" = some ⟨[], some .boolean⟩ := by decide +kernel
set_option maxRecDepth 65536 in
set_option maxHeartbeats 40000000 in
theorem rm0 (l : Launch) (Z : State) (a0 : Array Value) (hw : ∀ d ∈ tables_1, d.before a0 Z = true) (ws : List Jvm.Cond) (p1 : Int32) (w0 w1 w2 w3 w4 w5 w6 w7 w8 w9 : Addr) (h0 : Heap) (n0 : Nat) (Z0 : n0 ≤ h0.size) (S0 : Sta Z h0 "com/example/tuples_under_lock/tuplesunderlock/SqlType" "INTEGER" "Lcom/example/tuples_under_lock/tuplesunderlock/SqlType;" (.ref w0)) (S1 : Sta Z h0 "com/example/tuples_under_lock/tuplesunderlock/SqlType" "BIGINT" "Lcom/example/tuples_under_lock/tuplesunderlock/SqlType;" (.ref w1)) (S2 : Sta Z h0 "com/example/tuples_under_lock/tuplesunderlock/SqlType" "NUMERIC" "Lcom/example/tuples_under_lock/tuplesunderlock/SqlType;" (.ref w2)) (S3 : Sta Z h0 "com/example/tuples_under_lock/tuplesunderlock/SqlType" "TEXT" "Lcom/example/tuples_under_lock/tuplesunderlock/SqlType;" (.ref w3)) (S4 : Sta Z h0 "com/example/tuples_under_lock/tuplesunderlock/SqlType" "BOOLEAN" "Lcom/example/tuples_under_lock/tuplesunderlock/SqlType;" (.ref w4)) (S5 : Sta Z h0 "com/example/tuples_under_lock/tuplesunderlock/SqlType" "INTEGER_ARRAY" "Lcom/example/tuples_under_lock/tuplesunderlock/SqlType;" (.ref w5)) (S6 : Sta Z h0 "com/example/tuples_under_lock/tuplesunderlock/SqlType" "BIGINT_ARRAY" "Lcom/example/tuples_under_lock/tuplesunderlock/SqlType;" (.ref w6)) (S7 : Sta Z h0 "com/example/tuples_under_lock/tuplesunderlock/SqlType" "TEXT_ARRAY" "Lcom/example/tuples_under_lock/tuplesunderlock/SqlType;" (.ref w7)) (S8 : Sta Z h0 "com/example/tuples_under_lock/tuplesunderlock/SqlType" "VOID" "Lcom/example/tuples_under_lock/tuplesunderlock/SqlType;" (.ref w8)) (S9 : Sta Z h0 "com/example/tuples_under_lock/tuplesunderlock/SqlType" "UNKNOWN" "Lcom/example/tuples_under_lock/tuplesunderlock/SqlType;" (.ref w9)) (E0 : Exa Z h0 w0 "com/example/tuples_under_lock/tuplesunderlock/SqlType$1") (E1 : Exa Z h0 w1 "com/example/tuples_under_lock/tuplesunderlock/SqlType$2") (E2 : Exa Z h0 w2 "com/example/tuples_under_lock/tuplesunderlock/SqlType$3") (E3 : Exa Z h0 w3 "com/example/tuples_under_lock/tuplesunderlock/SqlType$4") (E4 : Exa Z h0 w4 "com/example/tuples_under_lock/tuplesunderlock/SqlType$5") (E5 : Exa Z h0 w5 "com/example/tuples_under_lock/tuplesunderlock/SqlType") (E6 : Exa Z h0 w6 "com/example/tuples_under_lock/tuplesunderlock/SqlType") (E7 : Exa Z h0 w7 "com/example/tuples_under_lock/tuplesunderlock/SqlType") (E8 : Exa Z h0 w8 "com/example/tuples_under_lock/tuplesunderlock/SqlType$6") (E9 : Exa Z h0 w9 "com/example/tuples_under_lock/tuplesunderlock/SqlType$7") (nv0 : w0 ≠ w8) (nv1 : w1 ≠ w8) (nv2 : w2 ≠ w8) (nv3 : w3 ≠ w8) (nv4 : w4 ≠ w8) (nv5 : w5 ≠ w8) (nv6 : w6 ≠ w8) (nv7 : w7 ≠ w8) (nv9 : w9 ≠ w8) :
    Con l Z x code maxLocals ret room_1 ws #[(.int p1)] h0 (Q0 n0) 0 0 := by
  refine Con.of (plainFor_of_name own_pn_SqlTypeIsOrderedPinLaw) ?_
  intro p e s m below meth c s₁ X0 hx hZ hby hml hown hnm hret hlk e0 hs0
  have N0 := Fr.nil n0
  have hown : s.vm.findClass "com/example/tuples_under_lock/tuplesunderlock/SqlTypeIsOrderedPinLaw" = some m.cls := hown
  have hnm : meth.name = "law" := hnm
  refine Go.cast (own_ef_code_I m p1) ?_
  refine Go.step (T' := s₁) (g' := (mkF m 1 #[.val (.int p1), .unset, .unset, .unset] [(.int p1)])) (fun _ k => XS.iloadN X0.here hx rfl (hb hby at_0) rfl  k) ?_
  refine Go.step (T' := s₁) (g' := (mkF m 3 #[.val (.int p1), .unset, .unset, .unset] [(.int (2147483647 : Int32)), (.int p1)])) (fun _ k => Jvm.Stand.ldcI (g := (mkF m 1 #[.val (.int p1), .unset, .unset, .unset] [(.int p1)])) X0 hx hown (mvT hZ (hw _ (List.mem_of_getElem? (i := 0) rfl))) rfl (hb hby at_1) k) ?_
  refine Go.step (T' := s₁) (g' := (mkF m 4 #[.val (.int p1), .unset, .unset, .unset] [(.int (p1 &&& (2147483647 : Int32)))])) (fun _ k => XS.iand X0.here hx rfl (hb hby at_3) rfl k) ?_
  refine Go.step (T' := s₁) (g' := (mkF m 6 #[.val (.int p1), .unset, .unset, .unset] [(.int (10 : Int32)), (.int (p1 &&& (2147483647 : Int32)))])) (fun _ k => XS.bipush X0.here hx rfl (hb hby at_4) k) ?_
  refine Go.step (T' := s₁) (g' := (mkF m 7 #[.val (.int p1), .unset, .unset, .unset] [(.int ((p1 &&& (2147483647 : Int32)) % (10 : Int32)))])) (fun _ k => iremM X0 hx (g := (mkF m 6 #[.val (.int p1), .unset, .unset, .unset] [(.int (10 : Int32)), (.int (p1 &&& (2147483647 : Int32)))])) rfl (hb hby at_6) rfl (by decide) k) ?_
  refine Go.step (T' := s₁) (g' := (mkF m 8 #[.val (.int p1), .val (.int ((p1 &&& (2147483647 : Int32)) % (10 : Int32))), .unset, .unset] [])) (fun _ k => XS.istoreN X0.here hx rfl (hb hby at_7) rfl (l' := #[.val (.int p1), .val (.int ((p1 &&& (2147483647 : Int32)) % (10 : Int32))), .unset, .unset]) rfl k) ?_
  obtain ⟨kk, hkk⟩ : ∃ z, z = ((p1 &&& (2147483647 : Int32)) % (10 : Int32)) := ⟨_, rfl⟩
  rw [← hkk]
  refine Go.step (T' := s₁) (g' := (mkF m 9 #[.val (.int p1), .val (.int kk), .unset, .unset] [(.int kk)])) (fun _ k => XS.iloadN X0.here hx rfl (hb hby at_8) rfl  k) ?_
  by_cases hc101 : kk = (0 : Int32)
  · skip
    refine Go.step (T' := s₁) (g' := (mkF m 12 #[.val (.int p1), .val (.int kk), .unset, .unset] [])) (fun _ k => XS.ifNo X0.here hx rfl (hb hby at_9) rfl ((if0 _ _).trans (teq hc101).2) k) ?_
    obtain ⟨T102, X102, e102, st102⟩ := getS2 X0 hx hZ hown (host := "") (Or.inl (hw _ (List.mem_of_getElem? (i := 1) rfl))) Via.refl e0 S0 (g := (mkF m 12 #[.val (.int p1), .val (.int kk), .unset, .unset] [])) rfl (hb hby at_12)
    refine Go.step (T' := T102) (g' := (mkF m 15 #[.val (.int p1), .val (.int kk), .unset, .unset] [(.ref w0)])) st102 ?_
    refine Go.step (T' := T102) (g' := (mkF m 16 #[.val (.int p1), .val (.int kk), .val (.ref w0), .unset] [])) (fun _ k => XS.astoreN X102.here hx rfl (hb hby at_15) rfl rfl (l' := #[.val (.int p1), .val (.int kk), .val (.ref w0), .unset]) rfl k) ?_
    refine Go.step (T' := T102) (g' := (mkF m 17 #[.val (.int p1), .val (.int kk), .val (.ref w0), .unset] [(.int (1 : Int32))])) (fun _ k => XS.iconst X102.here hx rfl (hb hby at_16) k) ?_
    refine Go.step (T' := T102) (g' := (mkF m 18 #[.val (.int p1), .val (.int kk), .val (.ref w0), .val (.int (1 : Int32))] [])) (fun _ k => XS.istoreN X102.here hx rfl (hb hby at_17) rfl (l' := #[.val (.int p1), .val (.int kk), .val (.ref w0), .val (.int (1 : Int32))]) rfl k) ?_
    refine Go.step (T' := T102) (g' := (mkF m 142 #[.val (.int p1), .val (.int kk), .val (.ref w0), .val (.int (1 : Int32))] [])) (fun _ k => XS.goto X102.here hx rfl (pc0 := 18) (pc' := 142) rfl (hb hby at_18) (by decide) (by decide) k) ?_
    refine Go.step (T' := T102) (g' := (mkF m 143 #[.val (.int p1), .val (.int kk), .val (.ref w0), .val (.int (1 : Int32))] [(.ref w0)])) (fun _ k => XS.aloadN X102.here hx rfl (hb hby at_142) rfl rfl k) ?_
    have hr : (if w0 = w8 then (0 : Int32) else 1) = (1 : Int32) := by rw [if_neg nv0]
    obtain ⟨cq103, kq103, q103a, q103b, q103c⟩ := isOf hZ e102 E0
    obtain ⟨_, _, ⟨T103, L103, k103, n103⟩, -, X103, ⟨Lc103, hQ103, l103, y103, z103⟩, st103⟩ := X102.virtualBack hx (y := (⟨"com/example/tuples_under_lock/tuplesunderlock/SqlType", "isOrdered", "()Z"⟩ : MethodName)) (z := (⟨"com/example/tuples_under_lock/tuplesunderlock/SqlType", "isOrdered", "()Z"⟩ : MethodName)) hown (mvT hZ (hw _ (List.mem_of_getElem? (i := 4) rfl))) (mvT hZ (hw _ (List.mem_of_getElem? (i := 5) rfl))) (notFace_of_selects (args := #[]) (mvT hZ (hw _ (List.mem_of_getElem? (i := 7) rfl)))) (mvT hZ (hw _ (List.mem_of_getElem? (i := 7) rfl))) (mvT hZ (hw _ (List.mem_of_getElem? (i := 6) rfl))) (by decide) (backOf (W := 0) (Q := Qret (some (.int (1 : Int32))) h0 n0) (Con.ret hr (own_iso l Z a0 hw [] w0 w8 h0 n0 Z0 S8)) hZ (hw _ (List.mem_of_getElem? (i := 8) rfl)) (hw _ (List.mem_of_getElem? (i := 2) rfl)) (by decide) (by decide)) q103a q103c (g := (mkF m 143 #[.val (.int p1), .val (.int kk), .val (.ref w0), .val (.int (1 : Int32))] [(.ref w0)])) rfl (by rw [hml]; rfl) (Steps.refl _) (argsL := []) (rest := []) (lenOf own_pd0 rfl) rfl (by show 2 * 0 + _ ≤ _; exact Nat.le_of_eq rfl) (hb hby at_143) (fun _ _ => ⟨rfl, e102, (by decide : 0 + 0 ≤ _), (by decide : 0 + 0 ≤ _)⟩)
    dsimp only [Pt.U, Pt.locs, Pt.cells, Pt.slots] at X103 l103 y103 z103 st103 hQ103
    subst l103 y103 z103
    obtain ⟨rfl, N103q, eh103⟩ := hQ103
    have N103 := Fr.app N0 N103q
    refine Go.step (T' := T103) (g' := (mkF m 146 #[.val (.int p1), .val (.int kk), .val (.ref w0), .val (.int (1 : Int32))] [(.int (1 : Int32))])) (fun _ k => st103.trans k) ?_
    refine Go.step (T' := T103) (g' := (mkF m 147 #[.val (.int p1), .val (.int kk), .val (.ref w0), .val (.int (1 : Int32))] [(.int (1 : Int32)), (.int (1 : Int32))])) (fun _ k => XS.iloadN X103.here hx rfl (hb hby at_146) rfl  k) ?_
    refine Go.step (T' := T103) (g' := (mkF m 150 #[.val (.int p1), .val (.int kk), .val (.ref w0), .val (.int (1 : Int32))] [])) (fun _ k => XS.icmpNo X103.here hx rfl (hb hby at_147) rfl (teq (by decide : (1 : Int32) = (1 : Int32))).2 k) ?_
    refine Go.step (T' := T103) (g' := (mkF m 151 #[.val (.int p1), .val (.int kk), .val (.ref w0), .val (.int (1 : Int32))] [(.int (1 : Int32))])) (fun _ k => XS.iconst X103.here hx rfl (hb hby at_150) k) ?_
    refine Go.step (T' := T103) (g' := (mkF m 155 #[.val (.int p1), .val (.int kk), .val (.ref w0), .val (.int (1 : Int32))] [(.int (1 : Int32))])) (fun _ k => XS.goto X103.here hx rfl (pc0 := 151) (pc' := 155) rfl (hb hby at_151) (by decide) (by decide) k) ?_
    exact Go.retN X103 hx (t := .boolean) hret hlk (by simp) (hb hby at_155) (⟨rfl, N103⟩) (by decide) (by decide)
  · skip
    refine Go.step (T' := s₁) (g' := (mkF m 21 #[.val (.int p1), .val (.int kk), .unset, .unset] [])) (fun _ k => XS.ifYes X0.here hx rfl (pc0 := 9) (pc' := 21) rfl (hb hby at_9) rfl ((if0 _ _).trans (feq hc101).2) (by decide) (by decide) k) ?_
    refine Go.step (T' := s₁) (g' := (mkF m 22 #[.val (.int p1), .val (.int kk), .unset, .unset] [(.int kk)])) (fun _ k => XS.iloadN X0.here hx rfl (hb hby at_21) rfl  k) ?_
    refine Go.step (T' := s₁) (g' := (mkF m 23 #[.val (.int p1), .val (.int kk), .unset, .unset] [(.int (1 : Int32)), (.int kk)])) (fun _ k => XS.iconst X0.here hx rfl (hb hby at_22) k) ?_
    by_cases hc104 : kk = (1 : Int32)
    · skip
      refine Go.step (T' := s₁) (g' := (mkF m 26 #[.val (.int p1), .val (.int kk), .unset, .unset] [])) (fun _ k => XS.icmpNo X0.here hx rfl (hb hby at_23) rfl (teq hc104).2 k) ?_
      obtain ⟨T105, X105, e105, st105⟩ := getS2 X0 hx hZ hown (host := "") (Or.inl (hw _ (List.mem_of_getElem? (i := 14) rfl))) Via.refl e0 S1 (g := (mkF m 26 #[.val (.int p1), .val (.int kk), .unset, .unset] [])) rfl (hb hby at_26)
      refine Go.step (T' := T105) (g' := (mkF m 29 #[.val (.int p1), .val (.int kk), .unset, .unset] [(.ref w1)])) st105 ?_
      refine Go.step (T' := T105) (g' := (mkF m 30 #[.val (.int p1), .val (.int kk), .val (.ref w1), .unset] [])) (fun _ k => XS.astoreN X105.here hx rfl (hb hby at_29) rfl rfl (l' := #[.val (.int p1), .val (.int kk), .val (.ref w1), .unset]) rfl k) ?_
      refine Go.step (T' := T105) (g' := (mkF m 31 #[.val (.int p1), .val (.int kk), .val (.ref w1), .unset] [(.int (1 : Int32))])) (fun _ k => XS.iconst X105.here hx rfl (hb hby at_30) k) ?_
      refine Go.step (T' := T105) (g' := (mkF m 32 #[.val (.int p1), .val (.int kk), .val (.ref w1), .val (.int (1 : Int32))] [])) (fun _ k => XS.istoreN X105.here hx rfl (hb hby at_31) rfl (l' := #[.val (.int p1), .val (.int kk), .val (.ref w1), .val (.int (1 : Int32))]) rfl k) ?_
      refine Go.step (T' := T105) (g' := (mkF m 142 #[.val (.int p1), .val (.int kk), .val (.ref w1), .val (.int (1 : Int32))] [])) (fun _ k => XS.goto X105.here hx rfl (pc0 := 32) (pc' := 142) rfl (hb hby at_32) (by decide) (by decide) k) ?_
      refine Go.step (T' := T105) (g' := (mkF m 143 #[.val (.int p1), .val (.int kk), .val (.ref w1), .val (.int (1 : Int32))] [(.ref w1)])) (fun _ k => XS.aloadN X105.here hx rfl (hb hby at_142) rfl rfl k) ?_
      have hr : (if w1 = w8 then (0 : Int32) else 1) = (1 : Int32) := by rw [if_neg nv1]
      obtain ⟨cq106, kq106, q106a, q106b, q106c⟩ := isOf hZ e105 E1
      obtain ⟨_, _, ⟨T106, L106, k106, n106⟩, -, X106, ⟨Lc106, hQ106, l106, y106, z106⟩, st106⟩ := X105.virtualBack hx (y := (⟨"com/example/tuples_under_lock/tuplesunderlock/SqlType", "isOrdered", "()Z"⟩ : MethodName)) (z := (⟨"com/example/tuples_under_lock/tuplesunderlock/SqlType", "isOrdered", "()Z"⟩ : MethodName)) hown (mvT hZ (hw _ (List.mem_of_getElem? (i := 4) rfl))) (mvT hZ (hw _ (List.mem_of_getElem? (i := 5) rfl))) (notFace_of_selects (args := #[]) (mvT hZ (hw _ (List.mem_of_getElem? (i := 16) rfl)))) (mvT hZ (hw _ (List.mem_of_getElem? (i := 16) rfl))) (mvT hZ (hw _ (List.mem_of_getElem? (i := 6) rfl))) (by decide) (backOf (W := 0) (Q := Qret (some (.int (1 : Int32))) h0 n0) (Con.ret hr (own_iso l Z a0 hw [] w1 w8 h0 n0 Z0 S8)) hZ (hw _ (List.mem_of_getElem? (i := 8) rfl)) (hw _ (List.mem_of_getElem? (i := 2) rfl)) (by decide) (by decide)) q106a q106c (g := (mkF m 143 #[.val (.int p1), .val (.int kk), .val (.ref w1), .val (.int (1 : Int32))] [(.ref w1)])) rfl (by rw [hml]; rfl) (Steps.refl _) (argsL := []) (rest := []) (lenOf own_pd0 rfl) rfl (by show 2 * 0 + _ ≤ _; exact Nat.le_of_eq rfl) (hb hby at_143) (fun _ _ => ⟨rfl, e105, (by decide : 0 + 0 ≤ _), (by decide : 0 + 0 ≤ _)⟩)
      dsimp only [Pt.U, Pt.locs, Pt.cells, Pt.slots] at X106 l106 y106 z106 st106 hQ106
      subst l106 y106 z106
      obtain ⟨rfl, N106q, eh106⟩ := hQ106
      have N106 := Fr.app N0 N106q
      refine Go.step (T' := T106) (g' := (mkF m 146 #[.val (.int p1), .val (.int kk), .val (.ref w1), .val (.int (1 : Int32))] [(.int (1 : Int32))])) (fun _ k => st106.trans k) ?_
      refine Go.step (T' := T106) (g' := (mkF m 147 #[.val (.int p1), .val (.int kk), .val (.ref w1), .val (.int (1 : Int32))] [(.int (1 : Int32)), (.int (1 : Int32))])) (fun _ k => XS.iloadN X106.here hx rfl (hb hby at_146) rfl  k) ?_
      refine Go.step (T' := T106) (g' := (mkF m 150 #[.val (.int p1), .val (.int kk), .val (.ref w1), .val (.int (1 : Int32))] [])) (fun _ k => XS.icmpNo X106.here hx rfl (hb hby at_147) rfl (teq (by decide : (1 : Int32) = (1 : Int32))).2 k) ?_
      refine Go.step (T' := T106) (g' := (mkF m 151 #[.val (.int p1), .val (.int kk), .val (.ref w1), .val (.int (1 : Int32))] [(.int (1 : Int32))])) (fun _ k => XS.iconst X106.here hx rfl (hb hby at_150) k) ?_
      refine Go.step (T' := T106) (g' := (mkF m 155 #[.val (.int p1), .val (.int kk), .val (.ref w1), .val (.int (1 : Int32))] [(.int (1 : Int32))])) (fun _ k => XS.goto X106.here hx rfl (pc0 := 151) (pc' := 155) rfl (hb hby at_151) (by decide) (by decide) k) ?_
      exact Go.retN X106 hx (t := .boolean) hret hlk (by simp) (hb hby at_155) (⟨rfl, N106⟩) (by decide) (by decide)
    · skip
      refine Go.step (T' := s₁) (g' := (mkF m 35 #[.val (.int p1), .val (.int kk), .unset, .unset] [])) (fun _ k => XS.icmpYes X0.here hx rfl (pc0 := 23) (pc' := 35) rfl (hb hby at_23) rfl (feq hc104).2 (by decide) (by decide) k) ?_
      refine Go.step (T' := s₁) (g' := (mkF m 36 #[.val (.int p1), .val (.int kk), .unset, .unset] [(.int kk)])) (fun _ k => XS.iloadN X0.here hx rfl (hb hby at_35) rfl  k) ?_
      refine Go.step (T' := s₁) (g' := (mkF m 37 #[.val (.int p1), .val (.int kk), .unset, .unset] [(.int (2 : Int32)), (.int kk)])) (fun _ k => XS.iconst X0.here hx rfl (hb hby at_36) k) ?_
      by_cases hc107 : kk = (2 : Int32)
      · skip
        refine Go.step (T' := s₁) (g' := (mkF m 40 #[.val (.int p1), .val (.int kk), .unset, .unset] [])) (fun _ k => XS.icmpNo X0.here hx rfl (hb hby at_37) rfl (teq hc107).2 k) ?_
        obtain ⟨T108, X108, e108, st108⟩ := getS2 X0 hx hZ hown (host := "") (Or.inl (hw _ (List.mem_of_getElem? (i := 23) rfl))) Via.refl e0 S2 (g := (mkF m 40 #[.val (.int p1), .val (.int kk), .unset, .unset] [])) rfl (hb hby at_40)
        refine Go.step (T' := T108) (g' := (mkF m 43 #[.val (.int p1), .val (.int kk), .unset, .unset] [(.ref w2)])) st108 ?_
        refine Go.step (T' := T108) (g' := (mkF m 44 #[.val (.int p1), .val (.int kk), .val (.ref w2), .unset] [])) (fun _ k => XS.astoreN X108.here hx rfl (hb hby at_43) rfl rfl (l' := #[.val (.int p1), .val (.int kk), .val (.ref w2), .unset]) rfl k) ?_
        refine Go.step (T' := T108) (g' := (mkF m 45 #[.val (.int p1), .val (.int kk), .val (.ref w2), .unset] [(.int (1 : Int32))])) (fun _ k => XS.iconst X108.here hx rfl (hb hby at_44) k) ?_
        refine Go.step (T' := T108) (g' := (mkF m 46 #[.val (.int p1), .val (.int kk), .val (.ref w2), .val (.int (1 : Int32))] [])) (fun _ k => XS.istoreN X108.here hx rfl (hb hby at_45) rfl (l' := #[.val (.int p1), .val (.int kk), .val (.ref w2), .val (.int (1 : Int32))]) rfl k) ?_
        refine Go.step (T' := T108) (g' := (mkF m 142 #[.val (.int p1), .val (.int kk), .val (.ref w2), .val (.int (1 : Int32))] [])) (fun _ k => XS.goto X108.here hx rfl (pc0 := 46) (pc' := 142) rfl (hb hby at_46) (by decide) (by decide) k) ?_
        refine Go.step (T' := T108) (g' := (mkF m 143 #[.val (.int p1), .val (.int kk), .val (.ref w2), .val (.int (1 : Int32))] [(.ref w2)])) (fun _ k => XS.aloadN X108.here hx rfl (hb hby at_142) rfl rfl k) ?_
        have hr : (if w2 = w8 then (0 : Int32) else 1) = (1 : Int32) := by rw [if_neg nv2]
        obtain ⟨cq109, kq109, q109a, q109b, q109c⟩ := isOf hZ e108 E2
        obtain ⟨_, _, ⟨T109, L109, k109, n109⟩, -, X109, ⟨Lc109, hQ109, l109, y109, z109⟩, st109⟩ := X108.virtualBack hx (y := (⟨"com/example/tuples_under_lock/tuplesunderlock/SqlType", "isOrdered", "()Z"⟩ : MethodName)) (z := (⟨"com/example/tuples_under_lock/tuplesunderlock/SqlType", "isOrdered", "()Z"⟩ : MethodName)) hown (mvT hZ (hw _ (List.mem_of_getElem? (i := 4) rfl))) (mvT hZ (hw _ (List.mem_of_getElem? (i := 5) rfl))) (notFace_of_selects (args := #[]) (mvT hZ (hw _ (List.mem_of_getElem? (i := 25) rfl)))) (mvT hZ (hw _ (List.mem_of_getElem? (i := 25) rfl))) (mvT hZ (hw _ (List.mem_of_getElem? (i := 6) rfl))) (by decide) (backOf (W := 0) (Q := Qret (some (.int (1 : Int32))) h0 n0) (Con.ret hr (own_iso l Z a0 hw [] w2 w8 h0 n0 Z0 S8)) hZ (hw _ (List.mem_of_getElem? (i := 8) rfl)) (hw _ (List.mem_of_getElem? (i := 2) rfl)) (by decide) (by decide)) q109a q109c (g := (mkF m 143 #[.val (.int p1), .val (.int kk), .val (.ref w2), .val (.int (1 : Int32))] [(.ref w2)])) rfl (by rw [hml]; rfl) (Steps.refl _) (argsL := []) (rest := []) (lenOf own_pd0 rfl) rfl (by show 2 * 0 + _ ≤ _; exact Nat.le_of_eq rfl) (hb hby at_143) (fun _ _ => ⟨rfl, e108, (by decide : 0 + 0 ≤ _), (by decide : 0 + 0 ≤ _)⟩)
        dsimp only [Pt.U, Pt.locs, Pt.cells, Pt.slots] at X109 l109 y109 z109 st109 hQ109
        subst l109 y109 z109
        obtain ⟨rfl, N109q, eh109⟩ := hQ109
        have N109 := Fr.app N0 N109q
        refine Go.step (T' := T109) (g' := (mkF m 146 #[.val (.int p1), .val (.int kk), .val (.ref w2), .val (.int (1 : Int32))] [(.int (1 : Int32))])) (fun _ k => st109.trans k) ?_
        refine Go.step (T' := T109) (g' := (mkF m 147 #[.val (.int p1), .val (.int kk), .val (.ref w2), .val (.int (1 : Int32))] [(.int (1 : Int32)), (.int (1 : Int32))])) (fun _ k => XS.iloadN X109.here hx rfl (hb hby at_146) rfl  k) ?_
        refine Go.step (T' := T109) (g' := (mkF m 150 #[.val (.int p1), .val (.int kk), .val (.ref w2), .val (.int (1 : Int32))] [])) (fun _ k => XS.icmpNo X109.here hx rfl (hb hby at_147) rfl (teq (by decide : (1 : Int32) = (1 : Int32))).2 k) ?_
        refine Go.step (T' := T109) (g' := (mkF m 151 #[.val (.int p1), .val (.int kk), .val (.ref w2), .val (.int (1 : Int32))] [(.int (1 : Int32))])) (fun _ k => XS.iconst X109.here hx rfl (hb hby at_150) k) ?_
        refine Go.step (T' := T109) (g' := (mkF m 155 #[.val (.int p1), .val (.int kk), .val (.ref w2), .val (.int (1 : Int32))] [(.int (1 : Int32))])) (fun _ k => XS.goto X109.here hx rfl (pc0 := 151) (pc' := 155) rfl (hb hby at_151) (by decide) (by decide) k) ?_
        exact Go.retN X109 hx (t := .boolean) hret hlk (by simp) (hb hby at_155) (⟨rfl, N109⟩) (by decide) (by decide)
      · skip
        refine Go.step (T' := s₁) (g' := (mkF m 49 #[.val (.int p1), .val (.int kk), .unset, .unset] [])) (fun _ k => XS.icmpYes X0.here hx rfl (pc0 := 37) (pc' := 49) rfl (hb hby at_37) rfl (feq hc107).2 (by decide) (by decide) k) ?_
        refine Go.step (T' := s₁) (g' := (mkF m 50 #[.val (.int p1), .val (.int kk), .unset, .unset] [(.int kk)])) (fun _ k => XS.iloadN X0.here hx rfl (hb hby at_49) rfl  k) ?_
        refine Go.step (T' := s₁) (g' := (mkF m 51 #[.val (.int p1), .val (.int kk), .unset, .unset] [(.int (3 : Int32)), (.int kk)])) (fun _ k => XS.iconst X0.here hx rfl (hb hby at_50) k) ?_
        by_cases hc110 : kk = (3 : Int32)
        · skip
          refine Go.step (T' := s₁) (g' := (mkF m 54 #[.val (.int p1), .val (.int kk), .unset, .unset] [])) (fun _ k => XS.icmpNo X0.here hx rfl (hb hby at_51) rfl (teq hc110).2 k) ?_
          obtain ⟨T111, X111, e111, st111⟩ := getS2 X0 hx hZ hown (host := "") (Or.inl (hw _ (List.mem_of_getElem? (i := 11) rfl))) Via.refl e0 S3 (g := (mkF m 54 #[.val (.int p1), .val (.int kk), .unset, .unset] [])) rfl (hb hby at_54)
          refine Go.step (T' := T111) (g' := (mkF m 57 #[.val (.int p1), .val (.int kk), .unset, .unset] [(.ref w3)])) st111 ?_
          refine Go.step (T' := T111) (g' := (mkF m 58 #[.val (.int p1), .val (.int kk), .val (.ref w3), .unset] [])) (fun _ k => XS.astoreN X111.here hx rfl (hb hby at_57) rfl rfl (l' := #[.val (.int p1), .val (.int kk), .val (.ref w3), .unset]) rfl k) ?_
          refine Go.step (T' := T111) (g' := (mkF m 59 #[.val (.int p1), .val (.int kk), .val (.ref w3), .unset] [(.int (1 : Int32))])) (fun _ k => XS.iconst X111.here hx rfl (hb hby at_58) k) ?_
          refine Go.step (T' := T111) (g' := (mkF m 60 #[.val (.int p1), .val (.int kk), .val (.ref w3), .val (.int (1 : Int32))] [])) (fun _ k => XS.istoreN X111.here hx rfl (hb hby at_59) rfl (l' := #[.val (.int p1), .val (.int kk), .val (.ref w3), .val (.int (1 : Int32))]) rfl k) ?_
          refine Go.step (T' := T111) (g' := (mkF m 142 #[.val (.int p1), .val (.int kk), .val (.ref w3), .val (.int (1 : Int32))] [])) (fun _ k => XS.goto X111.here hx rfl (pc0 := 60) (pc' := 142) rfl (hb hby at_60) (by decide) (by decide) k) ?_
          refine Go.step (T' := T111) (g' := (mkF m 143 #[.val (.int p1), .val (.int kk), .val (.ref w3), .val (.int (1 : Int32))] [(.ref w3)])) (fun _ k => XS.aloadN X111.here hx rfl (hb hby at_142) rfl rfl k) ?_
          have hr : (if w3 = w8 then (0 : Int32) else 1) = (1 : Int32) := by rw [if_neg nv3]
          obtain ⟨cq112, kq112, q112a, q112b, q112c⟩ := isOf hZ e111 E3
          obtain ⟨_, _, ⟨T112, L112, k112, n112⟩, -, X112, ⟨Lc112, hQ112, l112, y112, z112⟩, st112⟩ := X111.virtualBack hx (y := (⟨"com/example/tuples_under_lock/tuplesunderlock/SqlType", "isOrdered", "()Z"⟩ : MethodName)) (z := (⟨"com/example/tuples_under_lock/tuplesunderlock/SqlType", "isOrdered", "()Z"⟩ : MethodName)) hown (mvT hZ (hw _ (List.mem_of_getElem? (i := 4) rfl))) (mvT hZ (hw _ (List.mem_of_getElem? (i := 5) rfl))) (notFace_of_selects (args := #[]) (mvT hZ (hw _ (List.mem_of_getElem? (i := 13) rfl)))) (mvT hZ (hw _ (List.mem_of_getElem? (i := 13) rfl))) (mvT hZ (hw _ (List.mem_of_getElem? (i := 6) rfl))) (by decide) (backOf (W := 0) (Q := Qret (some (.int (1 : Int32))) h0 n0) (Con.ret hr (own_iso l Z a0 hw [] w3 w8 h0 n0 Z0 S8)) hZ (hw _ (List.mem_of_getElem? (i := 8) rfl)) (hw _ (List.mem_of_getElem? (i := 2) rfl)) (by decide) (by decide)) q112a q112c (g := (mkF m 143 #[.val (.int p1), .val (.int kk), .val (.ref w3), .val (.int (1 : Int32))] [(.ref w3)])) rfl (by rw [hml]; rfl) (Steps.refl _) (argsL := []) (rest := []) (lenOf own_pd0 rfl) rfl (by show 2 * 0 + _ ≤ _; exact Nat.le_of_eq rfl) (hb hby at_143) (fun _ _ => ⟨rfl, e111, (by decide : 0 + 0 ≤ _), (by decide : 0 + 0 ≤ _)⟩)
          dsimp only [Pt.U, Pt.locs, Pt.cells, Pt.slots] at X112 l112 y112 z112 st112 hQ112
          subst l112 y112 z112
          obtain ⟨rfl, N112q, eh112⟩ := hQ112
          have N112 := Fr.app N0 N112q
          refine Go.step (T' := T112) (g' := (mkF m 146 #[.val (.int p1), .val (.int kk), .val (.ref w3), .val (.int (1 : Int32))] [(.int (1 : Int32))])) (fun _ k => st112.trans k) ?_
          refine Go.step (T' := T112) (g' := (mkF m 147 #[.val (.int p1), .val (.int kk), .val (.ref w3), .val (.int (1 : Int32))] [(.int (1 : Int32)), (.int (1 : Int32))])) (fun _ k => XS.iloadN X112.here hx rfl (hb hby at_146) rfl  k) ?_
          refine Go.step (T' := T112) (g' := (mkF m 150 #[.val (.int p1), .val (.int kk), .val (.ref w3), .val (.int (1 : Int32))] [])) (fun _ k => XS.icmpNo X112.here hx rfl (hb hby at_147) rfl (teq (by decide : (1 : Int32) = (1 : Int32))).2 k) ?_
          refine Go.step (T' := T112) (g' := (mkF m 151 #[.val (.int p1), .val (.int kk), .val (.ref w3), .val (.int (1 : Int32))] [(.int (1 : Int32))])) (fun _ k => XS.iconst X112.here hx rfl (hb hby at_150) k) ?_
          refine Go.step (T' := T112) (g' := (mkF m 155 #[.val (.int p1), .val (.int kk), .val (.ref w3), .val (.int (1 : Int32))] [(.int (1 : Int32))])) (fun _ k => XS.goto X112.here hx rfl (pc0 := 151) (pc' := 155) rfl (hb hby at_151) (by decide) (by decide) k) ?_
          exact Go.retN X112 hx (t := .boolean) hret hlk (by simp) (hb hby at_155) (⟨rfl, N112⟩) (by decide) (by decide)
        · skip
          refine Go.step (T' := s₁) (g' := (mkF m 63 #[.val (.int p1), .val (.int kk), .unset, .unset] [])) (fun _ k => XS.icmpYes X0.here hx rfl (pc0 := 51) (pc' := 63) rfl (hb hby at_51) rfl (feq hc110).2 (by decide) (by decide) k) ?_
          refine Go.step (T' := s₁) (g' := (mkF m 64 #[.val (.int p1), .val (.int kk), .unset, .unset] [(.int kk)])) (fun _ k => XS.iloadN X0.here hx rfl (hb hby at_63) rfl  k) ?_
          refine Go.step (T' := s₁) (g' := (mkF m 65 #[.val (.int p1), .val (.int kk), .unset, .unset] [(.int (4 : Int32)), (.int kk)])) (fun _ k => XS.iconst X0.here hx rfl (hb hby at_64) k) ?_
          by_cases hc113 : kk = (4 : Int32)
          · skip
            refine Go.step (T' := s₁) (g' := (mkF m 68 #[.val (.int p1), .val (.int kk), .unset, .unset] [])) (fun _ k => XS.icmpNo X0.here hx rfl (hb hby at_65) rfl (teq hc113).2 k) ?_
            obtain ⟨T114, X114, e114, st114⟩ := getS2 X0 hx hZ hown (host := "") (Or.inl (hw _ (List.mem_of_getElem? (i := 17) rfl))) Via.refl e0 S4 (g := (mkF m 68 #[.val (.int p1), .val (.int kk), .unset, .unset] [])) rfl (hb hby at_68)
            refine Go.step (T' := T114) (g' := (mkF m 71 #[.val (.int p1), .val (.int kk), .unset, .unset] [(.ref w4)])) st114 ?_
            refine Go.step (T' := T114) (g' := (mkF m 72 #[.val (.int p1), .val (.int kk), .val (.ref w4), .unset] [])) (fun _ k => XS.astoreN X114.here hx rfl (hb hby at_71) rfl rfl (l' := #[.val (.int p1), .val (.int kk), .val (.ref w4), .unset]) rfl k) ?_
            refine Go.step (T' := T114) (g' := (mkF m 73 #[.val (.int p1), .val (.int kk), .val (.ref w4), .unset] [(.int (1 : Int32))])) (fun _ k => XS.iconst X114.here hx rfl (hb hby at_72) k) ?_
            refine Go.step (T' := T114) (g' := (mkF m 74 #[.val (.int p1), .val (.int kk), .val (.ref w4), .val (.int (1 : Int32))] [])) (fun _ k => XS.istoreN X114.here hx rfl (hb hby at_73) rfl (l' := #[.val (.int p1), .val (.int kk), .val (.ref w4), .val (.int (1 : Int32))]) rfl k) ?_
            refine Go.step (T' := T114) (g' := (mkF m 142 #[.val (.int p1), .val (.int kk), .val (.ref w4), .val (.int (1 : Int32))] [])) (fun _ k => XS.goto X114.here hx rfl (pc0 := 74) (pc' := 142) rfl (hb hby at_74) (by decide) (by decide) k) ?_
            refine Go.step (T' := T114) (g' := (mkF m 143 #[.val (.int p1), .val (.int kk), .val (.ref w4), .val (.int (1 : Int32))] [(.ref w4)])) (fun _ k => XS.aloadN X114.here hx rfl (hb hby at_142) rfl rfl k) ?_
            have hr : (if w4 = w8 then (0 : Int32) else 1) = (1 : Int32) := by rw [if_neg nv4]
            obtain ⟨cq115, kq115, q115a, q115b, q115c⟩ := isOf hZ e114 E4
            obtain ⟨_, _, ⟨T115, L115, k115, n115⟩, -, X115, ⟨Lc115, hQ115, l115, y115, z115⟩, st115⟩ := X114.virtualBack hx (y := (⟨"com/example/tuples_under_lock/tuplesunderlock/SqlType", "isOrdered", "()Z"⟩ : MethodName)) (z := (⟨"com/example/tuples_under_lock/tuplesunderlock/SqlType", "isOrdered", "()Z"⟩ : MethodName)) hown (mvT hZ (hw _ (List.mem_of_getElem? (i := 4) rfl))) (mvT hZ (hw _ (List.mem_of_getElem? (i := 5) rfl))) (notFace_of_selects (args := #[]) (mvT hZ (hw _ (List.mem_of_getElem? (i := 19) rfl)))) (mvT hZ (hw _ (List.mem_of_getElem? (i := 19) rfl))) (mvT hZ (hw _ (List.mem_of_getElem? (i := 6) rfl))) (by decide) (backOf (W := 0) (Q := Qret (some (.int (1 : Int32))) h0 n0) (Con.ret hr (own_iso l Z a0 hw [] w4 w8 h0 n0 Z0 S8)) hZ (hw _ (List.mem_of_getElem? (i := 8) rfl)) (hw _ (List.mem_of_getElem? (i := 2) rfl)) (by decide) (by decide)) q115a q115c (g := (mkF m 143 #[.val (.int p1), .val (.int kk), .val (.ref w4), .val (.int (1 : Int32))] [(.ref w4)])) rfl (by rw [hml]; rfl) (Steps.refl _) (argsL := []) (rest := []) (lenOf own_pd0 rfl) rfl (by show 2 * 0 + _ ≤ _; exact Nat.le_of_eq rfl) (hb hby at_143) (fun _ _ => ⟨rfl, e114, (by decide : 0 + 0 ≤ _), (by decide : 0 + 0 ≤ _)⟩)
            dsimp only [Pt.U, Pt.locs, Pt.cells, Pt.slots] at X115 l115 y115 z115 st115 hQ115
            subst l115 y115 z115
            obtain ⟨rfl, N115q, eh115⟩ := hQ115
            have N115 := Fr.app N0 N115q
            refine Go.step (T' := T115) (g' := (mkF m 146 #[.val (.int p1), .val (.int kk), .val (.ref w4), .val (.int (1 : Int32))] [(.int (1 : Int32))])) (fun _ k => st115.trans k) ?_
            refine Go.step (T' := T115) (g' := (mkF m 147 #[.val (.int p1), .val (.int kk), .val (.ref w4), .val (.int (1 : Int32))] [(.int (1 : Int32)), (.int (1 : Int32))])) (fun _ k => XS.iloadN X115.here hx rfl (hb hby at_146) rfl  k) ?_
            refine Go.step (T' := T115) (g' := (mkF m 150 #[.val (.int p1), .val (.int kk), .val (.ref w4), .val (.int (1 : Int32))] [])) (fun _ k => XS.icmpNo X115.here hx rfl (hb hby at_147) rfl (teq (by decide : (1 : Int32) = (1 : Int32))).2 k) ?_
            refine Go.step (T' := T115) (g' := (mkF m 151 #[.val (.int p1), .val (.int kk), .val (.ref w4), .val (.int (1 : Int32))] [(.int (1 : Int32))])) (fun _ k => XS.iconst X115.here hx rfl (hb hby at_150) k) ?_
            refine Go.step (T' := T115) (g' := (mkF m 155 #[.val (.int p1), .val (.int kk), .val (.ref w4), .val (.int (1 : Int32))] [(.int (1 : Int32))])) (fun _ k => XS.goto X115.here hx rfl (pc0 := 151) (pc' := 155) rfl (hb hby at_151) (by decide) (by decide) k) ?_
            exact Go.retN X115 hx (t := .boolean) hret hlk (by simp) (hb hby at_155) (⟨rfl, N115⟩) (by decide) (by decide)
          · skip
            refine Go.step (T' := s₁) (g' := (mkF m 77 #[.val (.int p1), .val (.int kk), .unset, .unset] [])) (fun _ k => XS.icmpYes X0.here hx rfl (pc0 := 65) (pc' := 77) rfl (hb hby at_65) rfl (feq hc113).2 (by decide) (by decide) k) ?_
            refine Go.step (T' := s₁) (g' := (mkF m 78 #[.val (.int p1), .val (.int kk), .unset, .unset] [(.int kk)])) (fun _ k => XS.iloadN X0.here hx rfl (hb hby at_77) rfl  k) ?_
            refine Go.step (T' := s₁) (g' := (mkF m 79 #[.val (.int p1), .val (.int kk), .unset, .unset] [(.int (5 : Int32)), (.int kk)])) (fun _ k => XS.iconst X0.here hx rfl (hb hby at_78) k) ?_
            by_cases hc116 : kk = (5 : Int32)
            · skip
              refine Go.step (T' := s₁) (g' := (mkF m 82 #[.val (.int p1), .val (.int kk), .unset, .unset] [])) (fun _ k => XS.icmpNo X0.here hx rfl (hb hby at_79) rfl (teq hc116).2 k) ?_
              obtain ⟨T117, X117, e117, st117⟩ := getS2 X0 hx hZ hown (host := "") (Or.inl (hw _ (List.mem_of_getElem? (i := 31) rfl))) Via.refl e0 S5 (g := (mkF m 82 #[.val (.int p1), .val (.int kk), .unset, .unset] [])) rfl (hb hby at_82)
              refine Go.step (T' := T117) (g' := (mkF m 85 #[.val (.int p1), .val (.int kk), .unset, .unset] [(.ref w5)])) st117 ?_
              refine Go.step (T' := T117) (g' := (mkF m 86 #[.val (.int p1), .val (.int kk), .val (.ref w5), .unset] [])) (fun _ k => XS.astoreN X117.here hx rfl (hb hby at_85) rfl rfl (l' := #[.val (.int p1), .val (.int kk), .val (.ref w5), .unset]) rfl k) ?_
              refine Go.step (T' := T117) (g' := (mkF m 87 #[.val (.int p1), .val (.int kk), .val (.ref w5), .unset] [(.int (1 : Int32))])) (fun _ k => XS.iconst X117.here hx rfl (hb hby at_86) k) ?_
              refine Go.step (T' := T117) (g' := (mkF m 88 #[.val (.int p1), .val (.int kk), .val (.ref w5), .val (.int (1 : Int32))] [])) (fun _ k => XS.istoreN X117.here hx rfl (hb hby at_87) rfl (l' := #[.val (.int p1), .val (.int kk), .val (.ref w5), .val (.int (1 : Int32))]) rfl k) ?_
              refine Go.step (T' := T117) (g' := (mkF m 142 #[.val (.int p1), .val (.int kk), .val (.ref w5), .val (.int (1 : Int32))] [])) (fun _ k => XS.goto X117.here hx rfl (pc0 := 88) (pc' := 142) rfl (hb hby at_88) (by decide) (by decide) k) ?_
              refine Go.step (T' := T117) (g' := (mkF m 143 #[.val (.int p1), .val (.int kk), .val (.ref w5), .val (.int (1 : Int32))] [(.ref w5)])) (fun _ k => XS.aloadN X117.here hx rfl (hb hby at_142) rfl rfl k) ?_
              have hr : (if w5 = w8 then (0 : Int32) else 1) = (1 : Int32) := by rw [if_neg nv5]
              obtain ⟨cq118, kq118, q118a, q118b, q118c⟩ := isOf hZ e117 E5
              obtain ⟨_, _, ⟨T118, L118, k118, n118⟩, -, X118, ⟨Lc118, hQ118, l118, y118, z118⟩, st118⟩ := X117.virtualBack hx (y := (⟨"com/example/tuples_under_lock/tuplesunderlock/SqlType", "isOrdered", "()Z"⟩ : MethodName)) (z := (⟨"com/example/tuples_under_lock/tuplesunderlock/SqlType", "isOrdered", "()Z"⟩ : MethodName)) hown (mvT hZ (hw _ (List.mem_of_getElem? (i := 4) rfl))) (mvT hZ (hw _ (List.mem_of_getElem? (i := 5) rfl))) (notFace_of_selects (args := #[]) (mvT hZ (hw _ (List.mem_of_getElem? (i := 22) rfl)))) (mvT hZ (hw _ (List.mem_of_getElem? (i := 22) rfl))) (mvT hZ (hw _ (List.mem_of_getElem? (i := 6) rfl))) (by decide) (backOf (W := 0) (Q := Qret (some (.int (1 : Int32))) h0 n0) (Con.ret hr (own_iso l Z a0 hw [] w5 w8 h0 n0 Z0 S8)) hZ (hw _ (List.mem_of_getElem? (i := 8) rfl)) (hw _ (List.mem_of_getElem? (i := 2) rfl)) (by decide) (by decide)) q118a q118c (g := (mkF m 143 #[.val (.int p1), .val (.int kk), .val (.ref w5), .val (.int (1 : Int32))] [(.ref w5)])) rfl (by rw [hml]; rfl) (Steps.refl _) (argsL := []) (rest := []) (lenOf own_pd0 rfl) rfl (by show 2 * 0 + _ ≤ _; exact Nat.le_of_eq rfl) (hb hby at_143) (fun _ _ => ⟨rfl, e117, (by decide : 0 + 0 ≤ _), (by decide : 0 + 0 ≤ _)⟩)
              dsimp only [Pt.U, Pt.locs, Pt.cells, Pt.slots] at X118 l118 y118 z118 st118 hQ118
              subst l118 y118 z118
              obtain ⟨rfl, N118q, eh118⟩ := hQ118
              have N118 := Fr.app N0 N118q
              refine Go.step (T' := T118) (g' := (mkF m 146 #[.val (.int p1), .val (.int kk), .val (.ref w5), .val (.int (1 : Int32))] [(.int (1 : Int32))])) (fun _ k => st118.trans k) ?_
              refine Go.step (T' := T118) (g' := (mkF m 147 #[.val (.int p1), .val (.int kk), .val (.ref w5), .val (.int (1 : Int32))] [(.int (1 : Int32)), (.int (1 : Int32))])) (fun _ k => XS.iloadN X118.here hx rfl (hb hby at_146) rfl  k) ?_
              refine Go.step (T' := T118) (g' := (mkF m 150 #[.val (.int p1), .val (.int kk), .val (.ref w5), .val (.int (1 : Int32))] [])) (fun _ k => XS.icmpNo X118.here hx rfl (hb hby at_147) rfl (teq (by decide : (1 : Int32) = (1 : Int32))).2 k) ?_
              refine Go.step (T' := T118) (g' := (mkF m 151 #[.val (.int p1), .val (.int kk), .val (.ref w5), .val (.int (1 : Int32))] [(.int (1 : Int32))])) (fun _ k => XS.iconst X118.here hx rfl (hb hby at_150) k) ?_
              refine Go.step (T' := T118) (g' := (mkF m 155 #[.val (.int p1), .val (.int kk), .val (.ref w5), .val (.int (1 : Int32))] [(.int (1 : Int32))])) (fun _ k => XS.goto X118.here hx rfl (pc0 := 151) (pc' := 155) rfl (hb hby at_151) (by decide) (by decide) k) ?_
              exact Go.retN X118 hx (t := .boolean) hret hlk (by simp) (hb hby at_155) (⟨rfl, N118⟩) (by decide) (by decide)
            · skip
              refine Go.step (T' := s₁) (g' := (mkF m 91 #[.val (.int p1), .val (.int kk), .unset, .unset] [])) (fun _ k => XS.icmpYes X0.here hx rfl (pc0 := 79) (pc' := 91) rfl (hb hby at_79) rfl (feq hc116).2 (by decide) (by decide) k) ?_
              refine Go.step (T' := s₁) (g' := (mkF m 92 #[.val (.int p1), .val (.int kk), .unset, .unset] [(.int kk)])) (fun _ k => XS.iloadN X0.here hx rfl (hb hby at_91) rfl  k) ?_
              refine Go.step (T' := s₁) (g' := (mkF m 94 #[.val (.int p1), .val (.int kk), .unset, .unset] [(.int (6 : Int32)), (.int kk)])) (fun _ k => XS.bipush X0.here hx rfl (hb hby at_92) k) ?_
              by_cases hc119 : kk = (6 : Int32)
              · skip
                refine Go.step (T' := s₁) (g' := (mkF m 97 #[.val (.int p1), .val (.int kk), .unset, .unset] [])) (fun _ k => XS.icmpNo X0.here hx rfl (hb hby at_94) rfl (teq hc119).2 k) ?_
                obtain ⟨T120, X120, e120, st120⟩ := getS2 X0 hx hZ hown (host := "") (Or.inl (hw _ (List.mem_of_getElem? (i := 33) rfl))) Via.refl e0 S6 (g := (mkF m 97 #[.val (.int p1), .val (.int kk), .unset, .unset] [])) rfl (hb hby at_97)
                refine Go.step (T' := T120) (g' := (mkF m 100 #[.val (.int p1), .val (.int kk), .unset, .unset] [(.ref w6)])) st120 ?_
                refine Go.step (T' := T120) (g' := (mkF m 101 #[.val (.int p1), .val (.int kk), .val (.ref w6), .unset] [])) (fun _ k => XS.astoreN X120.here hx rfl (hb hby at_100) rfl rfl (l' := #[.val (.int p1), .val (.int kk), .val (.ref w6), .unset]) rfl k) ?_
                refine Go.step (T' := T120) (g' := (mkF m 102 #[.val (.int p1), .val (.int kk), .val (.ref w6), .unset] [(.int (1 : Int32))])) (fun _ k => XS.iconst X120.here hx rfl (hb hby at_101) k) ?_
                refine Go.step (T' := T120) (g' := (mkF m 103 #[.val (.int p1), .val (.int kk), .val (.ref w6), .val (.int (1 : Int32))] [])) (fun _ k => XS.istoreN X120.here hx rfl (hb hby at_102) rfl (l' := #[.val (.int p1), .val (.int kk), .val (.ref w6), .val (.int (1 : Int32))]) rfl k) ?_
                refine Go.step (T' := T120) (g' := (mkF m 142 #[.val (.int p1), .val (.int kk), .val (.ref w6), .val (.int (1 : Int32))] [])) (fun _ k => XS.goto X120.here hx rfl (pc0 := 103) (pc' := 142) rfl (hb hby at_103) (by decide) (by decide) k) ?_
                refine Go.step (T' := T120) (g' := (mkF m 143 #[.val (.int p1), .val (.int kk), .val (.ref w6), .val (.int (1 : Int32))] [(.ref w6)])) (fun _ k => XS.aloadN X120.here hx rfl (hb hby at_142) rfl rfl k) ?_
                have hr : (if w6 = w8 then (0 : Int32) else 1) = (1 : Int32) := by rw [if_neg nv6]
                obtain ⟨cq121, kq121, q121a, q121b, q121c⟩ := isOf hZ e120 E6
                obtain ⟨_, _, ⟨T121, L121, k121, n121⟩, -, X121, ⟨Lc121, hQ121, l121, y121, z121⟩, st121⟩ := X120.virtualBack hx (y := (⟨"com/example/tuples_under_lock/tuplesunderlock/SqlType", "isOrdered", "()Z"⟩ : MethodName)) (z := (⟨"com/example/tuples_under_lock/tuplesunderlock/SqlType", "isOrdered", "()Z"⟩ : MethodName)) hown (mvT hZ (hw _ (List.mem_of_getElem? (i := 4) rfl))) (mvT hZ (hw _ (List.mem_of_getElem? (i := 5) rfl))) (notFace_of_selects (args := #[]) (mvT hZ (hw _ (List.mem_of_getElem? (i := 22) rfl)))) (mvT hZ (hw _ (List.mem_of_getElem? (i := 22) rfl))) (mvT hZ (hw _ (List.mem_of_getElem? (i := 6) rfl))) (by decide) (backOf (W := 0) (Q := Qret (some (.int (1 : Int32))) h0 n0) (Con.ret hr (own_iso l Z a0 hw [] w6 w8 h0 n0 Z0 S8)) hZ (hw _ (List.mem_of_getElem? (i := 8) rfl)) (hw _ (List.mem_of_getElem? (i := 2) rfl)) (by decide) (by decide)) q121a q121c (g := (mkF m 143 #[.val (.int p1), .val (.int kk), .val (.ref w6), .val (.int (1 : Int32))] [(.ref w6)])) rfl (by rw [hml]; rfl) (Steps.refl _) (argsL := []) (rest := []) (lenOf own_pd0 rfl) rfl (by show 2 * 0 + _ ≤ _; exact Nat.le_of_eq rfl) (hb hby at_143) (fun _ _ => ⟨rfl, e120, (by decide : 0 + 0 ≤ _), (by decide : 0 + 0 ≤ _)⟩)
                dsimp only [Pt.U, Pt.locs, Pt.cells, Pt.slots] at X121 l121 y121 z121 st121 hQ121
                subst l121 y121 z121
                obtain ⟨rfl, N121q, eh121⟩ := hQ121
                have N121 := Fr.app N0 N121q
                refine Go.step (T' := T121) (g' := (mkF m 146 #[.val (.int p1), .val (.int kk), .val (.ref w6), .val (.int (1 : Int32))] [(.int (1 : Int32))])) (fun _ k => st121.trans k) ?_
                refine Go.step (T' := T121) (g' := (mkF m 147 #[.val (.int p1), .val (.int kk), .val (.ref w6), .val (.int (1 : Int32))] [(.int (1 : Int32)), (.int (1 : Int32))])) (fun _ k => XS.iloadN X121.here hx rfl (hb hby at_146) rfl  k) ?_
                refine Go.step (T' := T121) (g' := (mkF m 150 #[.val (.int p1), .val (.int kk), .val (.ref w6), .val (.int (1 : Int32))] [])) (fun _ k => XS.icmpNo X121.here hx rfl (hb hby at_147) rfl (teq (by decide : (1 : Int32) = (1 : Int32))).2 k) ?_
                refine Go.step (T' := T121) (g' := (mkF m 151 #[.val (.int p1), .val (.int kk), .val (.ref w6), .val (.int (1 : Int32))] [(.int (1 : Int32))])) (fun _ k => XS.iconst X121.here hx rfl (hb hby at_150) k) ?_
                refine Go.step (T' := T121) (g' := (mkF m 155 #[.val (.int p1), .val (.int kk), .val (.ref w6), .val (.int (1 : Int32))] [(.int (1 : Int32))])) (fun _ k => XS.goto X121.here hx rfl (pc0 := 151) (pc' := 155) rfl (hb hby at_151) (by decide) (by decide) k) ?_
                exact Go.retN X121 hx (t := .boolean) hret hlk (by simp) (hb hby at_155) (⟨rfl, N121⟩) (by decide) (by decide)
              · skip
                refine Go.step (T' := s₁) (g' := (mkF m 106 #[.val (.int p1), .val (.int kk), .unset, .unset] [])) (fun _ k => XS.icmpYes X0.here hx rfl (pc0 := 94) (pc' := 106) rfl (hb hby at_94) rfl (feq hc119).2 (by decide) (by decide) k) ?_
                refine Go.step (T' := s₁) (g' := (mkF m 107 #[.val (.int p1), .val (.int kk), .unset, .unset] [(.int kk)])) (fun _ k => XS.iloadN X0.here hx rfl (hb hby at_106) rfl  k) ?_
                refine Go.step (T' := s₁) (g' := (mkF m 109 #[.val (.int p1), .val (.int kk), .unset, .unset] [(.int (7 : Int32)), (.int kk)])) (fun _ k => XS.bipush X0.here hx rfl (hb hby at_107) k) ?_
                by_cases hc122 : kk = (7 : Int32)
                · skip
                  refine Go.step (T' := s₁) (g' := (mkF m 112 #[.val (.int p1), .val (.int kk), .unset, .unset] [])) (fun _ k => XS.icmpNo X0.here hx rfl (hb hby at_109) rfl (teq hc122).2 k) ?_
                  obtain ⟨T123, X123, e123, st123⟩ := getS2 X0 hx hZ hown (host := "") (Or.inl (hw _ (List.mem_of_getElem? (i := 20) rfl))) Via.refl e0 S7 (g := (mkF m 112 #[.val (.int p1), .val (.int kk), .unset, .unset] [])) rfl (hb hby at_112)
                  refine Go.step (T' := T123) (g' := (mkF m 115 #[.val (.int p1), .val (.int kk), .unset, .unset] [(.ref w7)])) st123 ?_
                  refine Go.step (T' := T123) (g' := (mkF m 116 #[.val (.int p1), .val (.int kk), .val (.ref w7), .unset] [])) (fun _ k => XS.astoreN X123.here hx rfl (hb hby at_115) rfl rfl (l' := #[.val (.int p1), .val (.int kk), .val (.ref w7), .unset]) rfl k) ?_
                  refine Go.step (T' := T123) (g' := (mkF m 117 #[.val (.int p1), .val (.int kk), .val (.ref w7), .unset] [(.int (1 : Int32))])) (fun _ k => XS.iconst X123.here hx rfl (hb hby at_116) k) ?_
                  refine Go.step (T' := T123) (g' := (mkF m 118 #[.val (.int p1), .val (.int kk), .val (.ref w7), .val (.int (1 : Int32))] [])) (fun _ k => XS.istoreN X123.here hx rfl (hb hby at_117) rfl (l' := #[.val (.int p1), .val (.int kk), .val (.ref w7), .val (.int (1 : Int32))]) rfl k) ?_
                  refine Go.step (T' := T123) (g' := (mkF m 142 #[.val (.int p1), .val (.int kk), .val (.ref w7), .val (.int (1 : Int32))] [])) (fun _ k => XS.goto X123.here hx rfl (pc0 := 118) (pc' := 142) rfl (hb hby at_118) (by decide) (by decide) k) ?_
                  refine Go.step (T' := T123) (g' := (mkF m 143 #[.val (.int p1), .val (.int kk), .val (.ref w7), .val (.int (1 : Int32))] [(.ref w7)])) (fun _ k => XS.aloadN X123.here hx rfl (hb hby at_142) rfl rfl k) ?_
                  have hr : (if w7 = w8 then (0 : Int32) else 1) = (1 : Int32) := by rw [if_neg nv7]
                  obtain ⟨cq124, kq124, q124a, q124b, q124c⟩ := isOf hZ e123 E7
                  obtain ⟨_, _, ⟨T124, L124, k124, n124⟩, -, X124, ⟨Lc124, hQ124, l124, y124, z124⟩, st124⟩ := X123.virtualBack hx (y := (⟨"com/example/tuples_under_lock/tuplesunderlock/SqlType", "isOrdered", "()Z"⟩ : MethodName)) (z := (⟨"com/example/tuples_under_lock/tuplesunderlock/SqlType", "isOrdered", "()Z"⟩ : MethodName)) hown (mvT hZ (hw _ (List.mem_of_getElem? (i := 4) rfl))) (mvT hZ (hw _ (List.mem_of_getElem? (i := 5) rfl))) (notFace_of_selects (args := #[]) (mvT hZ (hw _ (List.mem_of_getElem? (i := 22) rfl)))) (mvT hZ (hw _ (List.mem_of_getElem? (i := 22) rfl))) (mvT hZ (hw _ (List.mem_of_getElem? (i := 6) rfl))) (by decide) (backOf (W := 0) (Q := Qret (some (.int (1 : Int32))) h0 n0) (Con.ret hr (own_iso l Z a0 hw [] w7 w8 h0 n0 Z0 S8)) hZ (hw _ (List.mem_of_getElem? (i := 8) rfl)) (hw _ (List.mem_of_getElem? (i := 2) rfl)) (by decide) (by decide)) q124a q124c (g := (mkF m 143 #[.val (.int p1), .val (.int kk), .val (.ref w7), .val (.int (1 : Int32))] [(.ref w7)])) rfl (by rw [hml]; rfl) (Steps.refl _) (argsL := []) (rest := []) (lenOf own_pd0 rfl) rfl (by show 2 * 0 + _ ≤ _; exact Nat.le_of_eq rfl) (hb hby at_143) (fun _ _ => ⟨rfl, e123, (by decide : 0 + 0 ≤ _), (by decide : 0 + 0 ≤ _)⟩)
                  dsimp only [Pt.U, Pt.locs, Pt.cells, Pt.slots] at X124 l124 y124 z124 st124 hQ124
                  subst l124 y124 z124
                  obtain ⟨rfl, N124q, eh124⟩ := hQ124
                  have N124 := Fr.app N0 N124q
                  refine Go.step (T' := T124) (g' := (mkF m 146 #[.val (.int p1), .val (.int kk), .val (.ref w7), .val (.int (1 : Int32))] [(.int (1 : Int32))])) (fun _ k => st124.trans k) ?_
                  refine Go.step (T' := T124) (g' := (mkF m 147 #[.val (.int p1), .val (.int kk), .val (.ref w7), .val (.int (1 : Int32))] [(.int (1 : Int32)), (.int (1 : Int32))])) (fun _ k => XS.iloadN X124.here hx rfl (hb hby at_146) rfl  k) ?_
                  refine Go.step (T' := T124) (g' := (mkF m 150 #[.val (.int p1), .val (.int kk), .val (.ref w7), .val (.int (1 : Int32))] [])) (fun _ k => XS.icmpNo X124.here hx rfl (hb hby at_147) rfl (teq (by decide : (1 : Int32) = (1 : Int32))).2 k) ?_
                  refine Go.step (T' := T124) (g' := (mkF m 151 #[.val (.int p1), .val (.int kk), .val (.ref w7), .val (.int (1 : Int32))] [(.int (1 : Int32))])) (fun _ k => XS.iconst X124.here hx rfl (hb hby at_150) k) ?_
                  refine Go.step (T' := T124) (g' := (mkF m 155 #[.val (.int p1), .val (.int kk), .val (.ref w7), .val (.int (1 : Int32))] [(.int (1 : Int32))])) (fun _ k => XS.goto X124.here hx rfl (pc0 := 151) (pc' := 155) rfl (hb hby at_151) (by decide) (by decide) k) ?_
                  exact Go.retN X124 hx (t := .boolean) hret hlk (by simp) (hb hby at_155) (⟨rfl, N124⟩) (by decide) (by decide)
                · skip
                  refine Go.step (T' := s₁) (g' := (mkF m 121 #[.val (.int p1), .val (.int kk), .unset, .unset] [])) (fun _ k => XS.icmpYes X0.here hx rfl (pc0 := 109) (pc' := 121) rfl (hb hby at_109) rfl (feq hc122).2 (by decide) (by decide) k) ?_
                  refine Go.step (T' := s₁) (g' := (mkF m 122 #[.val (.int p1), .val (.int kk), .unset, .unset] [(.int kk)])) (fun _ k => XS.iloadN X0.here hx rfl (hb hby at_121) rfl  k) ?_
                  refine Go.step (T' := s₁) (g' := (mkF m 124 #[.val (.int p1), .val (.int kk), .unset, .unset] [(.int (8 : Int32)), (.int kk)])) (fun _ k => XS.bipush X0.here hx rfl (hb hby at_122) k) ?_
                  by_cases hc125 : kk = (8 : Int32)
                  · skip
                    refine Go.step (T' := s₁) (g' := (mkF m 127 #[.val (.int p1), .val (.int kk), .unset, .unset] [])) (fun _ k => XS.icmpNo X0.here hx rfl (hb hby at_124) rfl (teq hc125).2 k) ?_
                    obtain ⟨T126, X126, e126, st126⟩ := getS2 X0 hx hZ hown (host := "") (Or.inl (hw _ (List.mem_of_getElem? (i := 26) rfl))) Via.refl e0 S8 (g := (mkF m 127 #[.val (.int p1), .val (.int kk), .unset, .unset] [])) rfl (hb hby at_127)
                    refine Go.step (T' := T126) (g' := (mkF m 130 #[.val (.int p1), .val (.int kk), .unset, .unset] [(.ref w8)])) st126 ?_
                    refine Go.step (T' := T126) (g' := (mkF m 131 #[.val (.int p1), .val (.int kk), .val (.ref w8), .unset] [])) (fun _ k => XS.astoreN X126.here hx rfl (hb hby at_130) rfl rfl (l' := #[.val (.int p1), .val (.int kk), .val (.ref w8), .unset]) rfl k) ?_
                    refine Go.step (T' := T126) (g' := (mkF m 132 #[.val (.int p1), .val (.int kk), .val (.ref w8), .unset] [(.int (0 : Int32))])) (fun _ k => XS.iconst X126.here hx rfl (hb hby at_131) k) ?_
                    refine Go.step (T' := T126) (g' := (mkF m 133 #[.val (.int p1), .val (.int kk), .val (.ref w8), .val (.int (0 : Int32))] [])) (fun _ k => XS.istoreN X126.here hx rfl (hb hby at_132) rfl (l' := #[.val (.int p1), .val (.int kk), .val (.ref w8), .val (.int (0 : Int32))]) rfl k) ?_
                    refine Go.step (T' := T126) (g' := (mkF m 142 #[.val (.int p1), .val (.int kk), .val (.ref w8), .val (.int (0 : Int32))] [])) (fun _ k => XS.goto X126.here hx rfl (pc0 := 133) (pc' := 142) rfl (hb hby at_133) (by decide) (by decide) k) ?_
                    refine Go.step (T' := T126) (g' := (mkF m 143 #[.val (.int p1), .val (.int kk), .val (.ref w8), .val (.int (0 : Int32))] [(.ref w8)])) (fun _ k => XS.aloadN X126.here hx rfl (hb hby at_142) rfl rfl k) ?_
                    have hr : (if w8 = w8 then (0 : Int32) else 1) = (0 : Int32) := by simp
                    obtain ⟨cq127, kq127, q127a, q127b, q127c⟩ := isOf hZ e126 E8
                    obtain ⟨_, _, ⟨T127, L127, k127, n127⟩, -, X127, ⟨Lc127, hQ127, l127, y127, z127⟩, st127⟩ := X126.virtualBack hx (y := (⟨"com/example/tuples_under_lock/tuplesunderlock/SqlType", "isOrdered", "()Z"⟩ : MethodName)) (z := (⟨"com/example/tuples_under_lock/tuplesunderlock/SqlType", "isOrdered", "()Z"⟩ : MethodName)) hown (mvT hZ (hw _ (List.mem_of_getElem? (i := 4) rfl))) (mvT hZ (hw _ (List.mem_of_getElem? (i := 5) rfl))) (notFace_of_selects (args := #[]) (mvT hZ (hw _ (List.mem_of_getElem? (i := 27) rfl)))) (mvT hZ (hw _ (List.mem_of_getElem? (i := 27) rfl))) (mvT hZ (hw _ (List.mem_of_getElem? (i := 6) rfl))) (by decide) (backOf (W := 0) (Q := Qret (some (.int (0 : Int32))) h0 n0) (Con.ret hr (own_iso l Z a0 hw [] w8 w8 h0 n0 Z0 S8)) hZ (hw _ (List.mem_of_getElem? (i := 8) rfl)) (hw _ (List.mem_of_getElem? (i := 2) rfl)) (by decide) (by decide)) q127a q127c (g := (mkF m 143 #[.val (.int p1), .val (.int kk), .val (.ref w8), .val (.int (0 : Int32))] [(.ref w8)])) rfl (by rw [hml]; rfl) (Steps.refl _) (argsL := []) (rest := []) (lenOf own_pd0 rfl) rfl (by show 2 * 0 + _ ≤ _; exact Nat.le_of_eq rfl) (hb hby at_143) (fun _ _ => ⟨rfl, e126, (by decide : 0 + 0 ≤ _), (by decide : 0 + 0 ≤ _)⟩)
                    dsimp only [Pt.U, Pt.locs, Pt.cells, Pt.slots] at X127 l127 y127 z127 st127 hQ127
                    subst l127 y127 z127
                    obtain ⟨rfl, N127q, eh127⟩ := hQ127
                    have N127 := Fr.app N0 N127q
                    refine Go.step (T' := T127) (g' := (mkF m 146 #[.val (.int p1), .val (.int kk), .val (.ref w8), .val (.int (0 : Int32))] [(.int (0 : Int32))])) (fun _ k => st127.trans k) ?_
                    refine Go.step (T' := T127) (g' := (mkF m 147 #[.val (.int p1), .val (.int kk), .val (.ref w8), .val (.int (0 : Int32))] [(.int (0 : Int32)), (.int (0 : Int32))])) (fun _ k => XS.iloadN X127.here hx rfl (hb hby at_146) rfl  k) ?_
                    refine Go.step (T' := T127) (g' := (mkF m 150 #[.val (.int p1), .val (.int kk), .val (.ref w8), .val (.int (0 : Int32))] [])) (fun _ k => XS.icmpNo X127.here hx rfl (hb hby at_147) rfl (teq (by decide : (0 : Int32) = (0 : Int32))).2 k) ?_
                    refine Go.step (T' := T127) (g' := (mkF m 151 #[.val (.int p1), .val (.int kk), .val (.ref w8), .val (.int (0 : Int32))] [(.int (1 : Int32))])) (fun _ k => XS.iconst X127.here hx rfl (hb hby at_150) k) ?_
                    refine Go.step (T' := T127) (g' := (mkF m 155 #[.val (.int p1), .val (.int kk), .val (.ref w8), .val (.int (0 : Int32))] [(.int (1 : Int32))])) (fun _ k => XS.goto X127.here hx rfl (pc0 := 151) (pc' := 155) rfl (hb hby at_151) (by decide) (by decide) k) ?_
                    exact Go.retN X127 hx (t := .boolean) hret hlk (by simp) (hb hby at_155) (⟨rfl, N127⟩) (by decide) (by decide)
                  · skip
                    refine Go.step (T' := s₁) (g' := (mkF m 136 #[.val (.int p1), .val (.int kk), .unset, .unset] [])) (fun _ k => XS.icmpYes X0.here hx rfl (pc0 := 124) (pc' := 136) rfl (hb hby at_124) rfl (feq hc125).2 (by decide) (by decide) k) ?_
                    obtain ⟨T128, X128, e128, st128⟩ := getS2 X0 hx hZ hown (host := "") (Or.inl (hw _ (List.mem_of_getElem? (i := 28) rfl))) Via.refl e0 S9 (g := (mkF m 136 #[.val (.int p1), .val (.int kk), .unset, .unset] [])) rfl (hb hby at_136)
                    refine Go.step (T' := T128) (g' := (mkF m 139 #[.val (.int p1), .val (.int kk), .unset, .unset] [(.ref w9)])) st128 ?_
                    refine Go.step (T' := T128) (g' := (mkF m 140 #[.val (.int p1), .val (.int kk), .val (.ref w9), .unset] [])) (fun _ k => XS.astoreN X128.here hx rfl (hb hby at_139) rfl rfl (l' := #[.val (.int p1), .val (.int kk), .val (.ref w9), .unset]) rfl k) ?_
                    refine Go.step (T' := T128) (g' := (mkF m 141 #[.val (.int p1), .val (.int kk), .val (.ref w9), .unset] [(.int (1 : Int32))])) (fun _ k => XS.iconst X128.here hx rfl (hb hby at_140) k) ?_
                    refine Go.step (T' := T128) (g' := (mkF m 142 #[.val (.int p1), .val (.int kk), .val (.ref w9), .val (.int (1 : Int32))] [])) (fun _ k => XS.istoreN X128.here hx rfl (hb hby at_141) rfl (l' := #[.val (.int p1), .val (.int kk), .val (.ref w9), .val (.int (1 : Int32))]) rfl k) ?_
                    refine Go.step (T' := T128) (g' := (mkF m 143 #[.val (.int p1), .val (.int kk), .val (.ref w9), .val (.int (1 : Int32))] [(.ref w9)])) (fun _ k => XS.aloadN X128.here hx rfl (hb hby at_142) rfl rfl k) ?_
                    have hr : (if w9 = w8 then (0 : Int32) else 1) = (1 : Int32) := by rw [if_neg nv9]
                    obtain ⟨cq129, kq129, q129a, q129b, q129c⟩ := isOf hZ e128 E9
                    obtain ⟨_, _, ⟨T129, L129, k129, n129⟩, -, X129, ⟨Lc129, hQ129, l129, y129, z129⟩, st129⟩ := X128.virtualBack hx (y := (⟨"com/example/tuples_under_lock/tuplesunderlock/SqlType", "isOrdered", "()Z"⟩ : MethodName)) (z := (⟨"com/example/tuples_under_lock/tuplesunderlock/SqlType", "isOrdered", "()Z"⟩ : MethodName)) hown (mvT hZ (hw _ (List.mem_of_getElem? (i := 4) rfl))) (mvT hZ (hw _ (List.mem_of_getElem? (i := 5) rfl))) (notFace_of_selects (args := #[]) (mvT hZ (hw _ (List.mem_of_getElem? (i := 30) rfl)))) (mvT hZ (hw _ (List.mem_of_getElem? (i := 30) rfl))) (mvT hZ (hw _ (List.mem_of_getElem? (i := 6) rfl))) (by decide) (backOf (W := 0) (Q := Qret (some (.int (1 : Int32))) h0 n0) (Con.ret hr (own_iso l Z a0 hw [] w9 w8 h0 n0 Z0 S8)) hZ (hw _ (List.mem_of_getElem? (i := 8) rfl)) (hw _ (List.mem_of_getElem? (i := 2) rfl)) (by decide) (by decide)) q129a q129c (g := (mkF m 143 #[.val (.int p1), .val (.int kk), .val (.ref w9), .val (.int (1 : Int32))] [(.ref w9)])) rfl (by rw [hml]; rfl) (Steps.refl _) (argsL := []) (rest := []) (lenOf own_pd0 rfl) rfl (by show 2 * 0 + _ ≤ _; exact Nat.le_of_eq rfl) (hb hby at_143) (fun _ _ => ⟨rfl, e128, (by decide : 0 + 0 ≤ _), (by decide : 0 + 0 ≤ _)⟩)
                    dsimp only [Pt.U, Pt.locs, Pt.cells, Pt.slots] at X129 l129 y129 z129 st129 hQ129
                    subst l129 y129 z129
                    obtain ⟨rfl, N129q, eh129⟩ := hQ129
                    have N129 := Fr.app N0 N129q
                    refine Go.step (T' := T129) (g' := (mkF m 146 #[.val (.int p1), .val (.int kk), .val (.ref w9), .val (.int (1 : Int32))] [(.int (1 : Int32))])) (fun _ k => st129.trans k) ?_
                    refine Go.step (T' := T129) (g' := (mkF m 147 #[.val (.int p1), .val (.int kk), .val (.ref w9), .val (.int (1 : Int32))] [(.int (1 : Int32)), (.int (1 : Int32))])) (fun _ k => XS.iloadN X129.here hx rfl (hb hby at_146) rfl  k) ?_
                    refine Go.step (T' := T129) (g' := (mkF m 150 #[.val (.int p1), .val (.int kk), .val (.ref w9), .val (.int (1 : Int32))] [])) (fun _ k => XS.icmpNo X129.here hx rfl (hb hby at_147) rfl (teq (by decide : (1 : Int32) = (1 : Int32))).2 k) ?_
                    refine Go.step (T' := T129) (g' := (mkF m 151 #[.val (.int p1), .val (.int kk), .val (.ref w9), .val (.int (1 : Int32))] [(.int (1 : Int32))])) (fun _ k => XS.iconst X129.here hx rfl (hb hby at_150) k) ?_
                    refine Go.step (T' := T129) (g' := (mkF m 155 #[.val (.int p1), .val (.int kk), .val (.ref w9), .val (.int (1 : Int32))] [(.int (1 : Int32))])) (fun _ k => XS.goto X129.here hx rfl (pc0 := 151) (pc' := 155) rfl (hb hby at_151) (by decide) (by decide) k) ?_
                    exact Go.retN X129 hx (t := .boolean) hret hlk (by simp) (hb hby at_155) (⟨rfl, N129⟩) (by decide) (by decide)
set_option maxRecDepth 65536 in
set_option maxHeartbeats 40000000 in
theorem comes_1 {Post : Tables → Env → Array Value → State → Outcome → State → Prop} (hpost : ∀ tb e args s v u, (limb_1_1.after args s (.returned v) u = true ∧ limb_1_2.after args s (.returned v) u = true ∧ True) → FrameEnd s (.returned v) u (Jvm.fieldLocs frame_1_writes args s ++ Jvm.arrayLocs frame_1_arrays args s ++ Jvm.staticLocs frame_1_statics s) 0 0 → Post tb e args s (.returned v) u) :
    ArmFor flags0 classFile x code maxLocals ret World_1 tables_1 room_1 Calls_1 rest_1 Pre_1 Post := by
  intro l hfl _ _ p e ha hc hk s m args below hf hA hF happ hP
  obtain ⟨hcalls, hrest, hpre⟩ := hP
  obtain ⟨-, -, -, hnamed, -, -, -, hat⟩ := (Spec.applies_iff hf).mp happ
  obtain ⟨hg, hn⟩ := and_e (Cond.before_iff.mp (show (Jvm.Cond.and given_1 narrow_1).before args s = true from hpre))
  obtain ⟨g0a, g0b⟩ := and_e hg
  obtain ⟨vw0, rfl⟩ : ∃ vw0 : Value, args = #[vw0] := by
    have hs : args.size = 1 := by simpa [Cond.value, given_1] using g0a
    obtain ⟨L⟩ := args
    match L, hs with
    | [vw0], _ => exact ⟨vw0, rfl⟩
  have hw := fun d (hd : d ∈ tables_1) => atoms_spec (ws := Jvm.Cond.code x code maxLocals ret :: tables_1) hat d (List.mem_cons_of_mem _ hd)
  have hfit : Fit s := fun {y c} hc i hi => by
    obtain ⟨ha, rfl⟩ := Array.getElem?_eq_some_iff.mp hc
    have q := List.all_eq_true.mp ((Array.all_eq_true_iff_forall_mem.mp hF) _ (Array.getElem_mem ha)) i (List.mem_range.mpr hi)
    simpa [Array.getElem?_eq_getElem hi] using q
  obtain ⟨i0, ei0⟩ := is_v g0b
  obtain rfl : vw0 = (.int i0) := Option.some.inj ei0
  obtain ⟨m0a, m0b⟩ := and_e hn
  obtain ⟨m1a, m1b⟩ := and_e m0b
  obtain ⟨m2a, m2b⟩ := and_e m1b
  obtain ⟨m3a, m3b⟩ := and_e m2b
  obtain ⟨m4a, m4b⟩ := and_e m3b
  obtain ⟨m5a, m5b⟩ := and_e m4b
  obtain ⟨m6a, m6b⟩ := and_e m5b
  obtain ⟨m7a, m7b⟩ := and_e m6b
  obtain ⟨m8a, m8b⟩ := and_e m7b
  obtain ⟨w0, ev0⟩ := exa_v m0a
  have S0 := Sta.start ev0 (Or.inr ⟨(hw _ (List.mem_of_getElem? (i := 2) rfl)), (hw _ (List.mem_of_getElem? (i := 3) rfl))⟩)
  have E0 := Exa.start ev0 m0a
  obtain ⟨w1, ev1⟩ := exa_v m3a
  have S1 := Sta.start ev1 (Or.inr ⟨(hw _ (List.mem_of_getElem? (i := 2) rfl)), (hw _ (List.mem_of_getElem? (i := 15) rfl))⟩)
  have E1 := Exa.start ev1 m3a
  obtain ⟨w2, ev2⟩ := exa_v m6a
  have S2 := Sta.start ev2 (Or.inr ⟨(hw _ (List.mem_of_getElem? (i := 2) rfl)), (hw _ (List.mem_of_getElem? (i := 24) rfl))⟩)
  have E2 := Exa.start ev2 m6a
  obtain ⟨w3, ev3⟩ := exa_v m2a
  have S3 := Sta.start ev3 (Or.inr ⟨(hw _ (List.mem_of_getElem? (i := 2) rfl)), (hw _ (List.mem_of_getElem? (i := 12) rfl))⟩)
  have E3 := Exa.start ev3 m2a
  obtain ⟨w4, ev4⟩ := exa_v m4a
  have S4 := Sta.start ev4 (Or.inr ⟨(hw _ (List.mem_of_getElem? (i := 2) rfl)), (hw _ (List.mem_of_getElem? (i := 18) rfl))⟩)
  have E4 := Exa.start ev4 m4a
  obtain ⟨w5, ev5⟩ := exa_v m8a
  have S5 := Sta.start ev5 (Or.inr ⟨(hw _ (List.mem_of_getElem? (i := 2) rfl)), (hw _ (List.mem_of_getElem? (i := 32) rfl))⟩)
  have E5 := Exa.start ev5 m8a
  obtain ⟨w6, ev6⟩ := exa_v m8b
  have S6 := Sta.start ev6 (Or.inr ⟨(hw _ (List.mem_of_getElem? (i := 2) rfl)), (hw _ (List.mem_of_getElem? (i := 34) rfl))⟩)
  have E6 := Exa.start ev6 m8b
  obtain ⟨w7, ev7⟩ := exa_v m5a
  have S7 := Sta.start ev7 (Or.inr ⟨(hw _ (List.mem_of_getElem? (i := 2) rfl)), (hw _ (List.mem_of_getElem? (i := 21) rfl))⟩)
  have E7 := Exa.start ev7 m5a
  obtain ⟨w8, ev8⟩ := exa_v m1a
  have S8 := Sta.start ev8 (Or.inr ⟨(hw _ (List.mem_of_getElem? (i := 2) rfl)), (hw _ (List.mem_of_getElem? (i := 10) rfl))⟩)
  have E8 := Exa.start ev8 m1a
  obtain ⟨w9, ev9⟩ := exa_v m7a
  have S9 := Sta.start ev9 (Or.inr ⟨(hw _ (List.mem_of_getElem? (i := 2) rfl)), (hw _ (List.mem_of_getElem? (i := 29) rfl))⟩)
  have E9 := Exa.start ev9 m7a
  obtain ⟨n, o, h1, h2, h3, _, L, rfl, ⟨rfl, N⟩, hq⟩ := rm0 l s _ hw tables_1 i0 w0 w1 w2 w3 w4 w5 w6 w7 w8 w9 s.heap s.heap.size (Nat.le_refl _) S0 S1 S2 S3 S4 S5 S6 S7 S8 S9 E0 E1 E2 E3 E4 E5 E6 E7 E8 E9 (ne_exa E0 E8 (by decide)) (ne_exa E1 E8 (by decide)) (ne_exa E2 E8 (by decide)) (ne_exa E3 E8 (by decide)) (ne_exa E4 E8 (by decide)) (ne_exa E5 E8 (by decide)) (ne_exa E6 E8 (by decide)) (ne_exa E7 E8 (by decide)) (ne_exa E9 E8 (by decide)) p e ha hc hk s m _ below hf ((Spec.applies_iff_loose hf).mp happ).1 ⟨rfl, State.Warmed39.refl s, rfl⟩ trivial
  refine ⟨n, _, h1, h2, h3, hpost _ _ _ _ _ _ ⟨Cond.after_iff.mpr rfl, Cond.after_iff.mpr (eq_i res_at (Term.int_eval (1)) rfl), trivial⟩ ⟨hq.1, hq.2.1, (hq.2.2.sift fun y hy => Or.inr (N y hy)).mono (by decide) (by decide)⟩⟩
theorem main_1_1 : Claimed_1_1 := comes_1 fun _ _ _ _ _ _ h hF => ⟨h.1, hF⟩
theorem main_1_2 : Claimed_1_2 := comes_1 fun _ _ _ _ _ _ h hF => ⟨h.2.1, hF⟩
end Jvm.Pilot.@@N@@
namespace Jvm.Pilot.@@N@@
open Jvm Jvm.ClassFile Sem Op Lib Jvm.Free Jvm.Stand Jvm.Pilot.@@N@@.Jvm.D
/-! MADE BY PROGRAM (witnessworld.py) out of the Statement's table words and the real class files: 19 classes; the members and pool entries that the words name. The judged class is class 1, her method 1. -/
namespace start1
open Jvm.ClassFile
def u (s : String) : CpInfo := .utf8 (stringToUtf16 s)
/-- a pool by its gaps: so many unusable entries, then the entry; so many at the end -/
def gap : Nat → List CpInfo → List CpInfo
  | 0, r => r
  | n + 1, r => .unusable :: gap n r
def poolList (es : List (Nat × CpInfo)) (last : Nat) : List CpInfo := es.foldr (fun e r => gap e.1 (e.2 :: r)) (gap last [])
def pool (es : List (Nat × CpInfo)) (last : Nat) : Array CpInfo := ⟨poolList es last⟩
def fileOf (pool : Array CpInfo) (this : Nat) (attrs : Array Attribute := #[]) (ms : Array MethodInfo := #[]) (fl : Nat := 33) (sup : Nat := 0) (ifs : Array Nat := #[]) (fds : Array FieldInfo := #[]) : ClassFile where
  minorVersion := 0
  majorVersion := 65
  constantPool := pool
  accessFlags := fl
  thisClass := this
  superClass := sup
  interfaces := ifs
  fields := fds
  methods := ms
  attributes := attrs
def plain (name : String) (sup : Option ClassId) : Class where
  name := name
  kind := .ordinary
  loader := none
  accessFlags := 33
  super := sup
  interfaces := #[]
  cf := none
  fields := #[]
  methods := #[]
  instanceTypes := #[]
  staticTypes := #[]
  resolved := #[]
  callSites := []
  init := .initialized
  statics := none
  mirror := none

def pool0 : Array CpInfo := pool [(5, u "<init>"), (0, u "()V"), (1, .class_ 10), (1, u "java/lang/Object")] 113

def k0m0 : Method := { name := "<init>", desc := "()V", sig := { parameters := [], returnType := none }, accessFlags := 1, code := none }
/-- java/lang/Object -/
def k0 : Class := { plain "java/lang/Object" none with
  accessFlags := 33
  interfaces := #[]
  cf := some (fileOf pool0 8 #[] #[{ accessFlags := 1, nameIndex := 5, descriptorIndex := 6, attributes := #[] }] 33 0 #[] #[])
  fields := #[]
  methods := #[k0m0]
  instanceTypes := #[]
  staticTypes := #[]
  resolved := Array.replicate 124 none
  statics := none }

def pool1 : Array CpInfo := pool [(2, .class_ 4), (1, u "java/lang/Object"), (0, u "<init>"), (0, u "()V"), (0, .integer 2147483647), (0, .fieldref 9 10), (0, .class_ 11), (0, .nameAndType 12 13), (0, u "com/example/tuples_under_lock/tuplesunderlock/SqlType"), (0, u "INTEGER"), (0, u "Lcom/example/tuples_under_lock/tuplesunderlock/SqlType;"), (0, .fieldref 9 15), (0, .nameAndType 16 13), (0, u "BIGINT"), (0, .fieldref 9 18), (0, .nameAndType 19 13), (0, u "NUMERIC"), (0, .fieldref 9 21), (0, .nameAndType 22 13), (0, u "TEXT"), (0, .fieldref 9 24), (0, .nameAndType 25 13), (0, u "BOOLEAN"), (0, .fieldref 9 27), (0, .nameAndType 28 13), (0, u "INTEGER_ARRAY"), (0, .fieldref 9 30), (0, .nameAndType 31 13), (0, u "BIGINT_ARRAY"), (0, .fieldref 9 33), (0, .nameAndType 34 13), (0, u "TEXT_ARRAY"), (0, .fieldref 9 36), (0, .nameAndType 37 13), (0, u "VOID"), (0, .fieldref 9 39), (0, .nameAndType 40 13), (0, u "UNKNOWN"), (0, .methodref 9 42), (0, .nameAndType 43 44), (0, u "isOrdered"), (0, u "()Z"), (0, .class_ 46), (0, u "com/example/tuples_under_lock/tuplesunderlock/SqlTypeIsOrderedPinLaw"), (2, u "law"), (0, u "(I)Z")] 3

def k1m0 : Method := { name := "<init>", desc := "()V", sig := { parameters := [], returnType := none }, accessFlags := 1, code := none }
def k1c1 : Code := { maxStack := 2, maxLocals := 4, code := code, exceptionTable := #[], attributes := #[] }
def k1m1 : Method := { name := "law", desc := "(I)Z", sig := { parameters := [.int], returnType := some .boolean }, accessFlags := 9, code := some k1c1 }
/-- com/example/tuples_under_lock/tuplesunderlock/SqlTypeIsOrderedPinLaw -/
def k1 : Class := { plain "com/example/tuples_under_lock/tuplesunderlock/SqlTypeIsOrderedPinLaw" (some 0) with
  accessFlags := 49
  interfaces := #[]
  cf := some (fileOf pool1 45 #[] #[{ accessFlags := 1, nameIndex := 5, descriptorIndex := 6, attributes := #[] }, { accessFlags := 9, nameIndex := 49, descriptorIndex := 50, attributes := #[] }] 49 2 #[] #[])
  fields := #[]
  methods := #[k1m0, k1m1]
  instanceTypes := #[]
  staticTypes := #[]
  resolved := Array.replicate 54 none
  statics := none }

def pool2 : Array CpInfo := pool [(1, .class_ 2), (0, u "java/lang/constant/Constable"), (0, .class_ 4), (0, u "java/lang/Object")] 6

/-- java/lang/constant/Constable -/
def k2 : Class := { plain "java/lang/constant/Constable" (some 0) with
  accessFlags := 1537
  interfaces := #[]
  cf := some (fileOf pool2 1 #[] #[] 1537 3 #[] #[])
  fields := #[]
  methods := #[]
  instanceTypes := #[]
  staticTypes := #[]
  resolved := Array.replicate 11 none
  statics := none }

def pool3 : Array CpInfo := pool [(1, .class_ 2), (0, u "java/lang/Comparable"), (0, .class_ 4), (0, u "java/lang/Object")] 7

/-- java/lang/Comparable -/
def k3 : Class := { plain "java/lang/Comparable" (some 0) with
  accessFlags := 1537
  interfaces := #[]
  cf := some (fileOf pool3 1 #[] #[] 1537 3 #[] #[])
  fields := #[]
  methods := #[]
  instanceTypes := #[]
  staticTypes := #[]
  resolved := Array.replicate 12 none
  statics := none }

def pool4 : Array CpInfo := pool [(1, .class_ 2), (0, u "java/io/Serializable"), (0, .class_ 4), (0, u "java/lang/Object")] 2

/-- java/io/Serializable -/
def k4 : Class := { plain "java/io/Serializable" (some 0) with
  accessFlags := 1537
  interfaces := #[]
  cf := some (fileOf pool4 1 #[] #[] 1537 3 #[] #[])
  fields := #[]
  methods := #[]
  instanceTypes := #[]
  staticTypes := #[]
  resolved := Array.replicate 7 none
  statics := none }

def pool5 : Array CpInfo := pool [(2, .class_ 4), (1, u "java/lang/Enum"), (0, u "name"), (0, u "Ljava/lang/String;"), (2, u "ordinal"), (0, u "I"), (1, .class_ 14), (1, u "java/lang/Object"), (4, u "hash"), (86, .class_ 108), (1, u "java/lang/Enum$EnumDesc"), (2, .class_ 112), (0, u "java/lang/constant/Constable"), (0, .class_ 114), (0, u "java/lang/Comparable"), (0, .class_ 116), (0, u "java/io/Serializable")] 87

/-- java/lang/Enum -/
def k5 : Class := { plain "java/lang/Enum" (some 0) with
  accessFlags := 1057
  interfaces := #[2, 3, 4]
  cf := some (fileOf pool5 2 #[.nestMembers #[106]] #[] 1057 12 #[111, 113, 115] #[{ accessFlags := 18, nameIndex := 5, descriptorIndex := 6, attributes := #[] }, { accessFlags := 18, nameIndex := 9, descriptorIndex := 10, attributes := #[] }, { accessFlags := 2, nameIndex := 19, descriptorIndex := 10, attributes := #[] }])
  fields := #[{ name := "name", type := (.object "java/lang/String"), accessFlags := 18, slot := 0, constantValue := 0 }, { name := "ordinal", type := .int, accessFlags := 18, slot := 1, constantValue := 0 }, { name := "hash", type := .int, accessFlags := 2, slot := 2, constantValue := 0 }]
  methods := #[]
  instanceTypes := #[(.object "java/lang/String"), .int, .int]
  staticTypes := #[]
  resolved := Array.replicate 204 none
  statics := none }

def pool6 : Array CpInfo := pool [(1, .class_ 2), (0, u "com/example/tuples_under_lock/tuplesunderlock/SqlType"), (2, u "INTEGER"), (0, u "Lcom/example/tuples_under_lock/tuplesunderlock/SqlType;"), (2, u "BIGINT"), (2, u "NUMERIC"), (2, u "TEXT"), (2, u "BOOLEAN"), (2, u "INTEGER_ARRAY"), (2, u "BIGINT_ARRAY"), (2, u "TEXT_ARRAY"), (0, .fieldref 1 29), (0, .nameAndType 30 6), (0, u "VOID"), (2, u "UNKNOWN"), (2, u "$VALUES"), (0, u "[Lcom/example/tuples_under_lock/tuplesunderlock/SqlType;"), (6, .class_ 46), (1, u "java/lang/Enum"), (11, u "displayName"), (0, u "Ljava/lang/String;"), (2, u "elementType"), (2, u "BY_NAME"), (0, u "Ljava/util/Map;"), (19, u "NUMBERS"), (0, u "Ljava/util/List;"), (30, u "()Z"), (131, u "WHOLE"), (0, u "Ljava/util/regex/Pattern;"), (142, .class_ 395), (0, u "com/example/tuples_under_lock/tuplesunderlock/SqlType$1"), (6, .class_ 403), (0, u "com/example/tuples_under_lock/tuplesunderlock/SqlType$2"), (4, .class_ 409), (0, u "com/example/tuples_under_lock/tuplesunderlock/SqlType$3"), (4, .class_ 415), (0, u "com/example/tuples_under_lock/tuplesunderlock/SqlType$4"), (4, .class_ 421), (0, u "com/example/tuples_under_lock/tuplesunderlock/SqlType$5"), (13, .class_ 436), (0, u "com/example/tuples_under_lock/tuplesunderlock/SqlType$6"), (4, .class_ 442), (0, u "com/example/tuples_under_lock/tuplesunderlock/SqlType$7"), (31, u "NOTHING"), (6, u "NUMERIC_MAX_WHOLE_DIGITS"), (0, u "I"), (1, u "NUMERIC_MAX_SCALE"), (1, u "EXPONENT_CAP"), (0, u "J"), (0, u "LONG_MAX_DIGITS"), (10, u "isOrdered")] 45

def k6c0 : Code := { maxStack := 2, maxLocals := 1, code := prog_131_method_9_code, exceptionTable := #[], attributes := #[] }
def k6m0 : Method := { name := "isOrdered", desc := "()Z", sig := { parameters := [], returnType := some .boolean }, accessFlags := 0, code := some k6c0 }
/-- com/example/tuples_under_lock/tuplesunderlock/SqlType -/
def k6 : Class := { plain "com/example/tuples_under_lock/tuplesunderlock/SqlType" (some 5) with
  accessFlags := 16416
  interfaces := #[]
  cf := some (fileOf pool6 1 #[.nestMembers #[441, 435, 420, 414, 408, 402, 394]] #[{ accessFlags := 0, nameIndex := 499, descriptorIndex := 118, attributes := #[] }] 16416 44 #[] #[{ accessFlags := 16409, nameIndex := 5, descriptorIndex := 6, attributes := #[] }, { accessFlags := 16409, nameIndex := 9, descriptorIndex := 6, attributes := #[] }, { accessFlags := 16409, nameIndex := 12, descriptorIndex := 6, attributes := #[] }, { accessFlags := 16409, nameIndex := 15, descriptorIndex := 6, attributes := #[] }, { accessFlags := 16409, nameIndex := 18, descriptorIndex := 6, attributes := #[] }, { accessFlags := 16409, nameIndex := 21, descriptorIndex := 6, attributes := #[] }, { accessFlags := 16409, nameIndex := 24, descriptorIndex := 6, attributes := #[] }, { accessFlags := 16409, nameIndex := 27, descriptorIndex := 6, attributes := #[] }, { accessFlags := 16409, nameIndex := 30, descriptorIndex := 6, attributes := #[] }, { accessFlags := 16409, nameIndex := 33, descriptorIndex := 6, attributes := #[] }, { accessFlags := 24, nameIndex := 474, descriptorIndex := 59, attributes := #[] }, { accessFlags := 26, nameIndex := 86, descriptorIndex := 87, attributes := #[] }, { accessFlags := 26, nameIndex := 65, descriptorIndex := 66, attributes := #[] }, { accessFlags := 26, nameIndex := 250, descriptorIndex := 251, attributes := #[] }, { accessFlags := 26, nameIndex := 481, descriptorIndex := 482, attributes := #[] }, { accessFlags := 26, nameIndex := 484, descriptorIndex := 482, attributes := #[] }, { accessFlags := 26, nameIndex := 486, descriptorIndex := 487, attributes := #[] }, { accessFlags := 26, nameIndex := 488, descriptorIndex := 482, attributes := #[] }, { accessFlags := 18, nameIndex := 58, descriptorIndex := 59, attributes := #[] }, { accessFlags := 18, nameIndex := 62, descriptorIndex := 6, attributes := #[] }, { accessFlags := 4122, nameIndex := 36, descriptorIndex := 37, attributes := #[] }])
  fields := #[{ name := "INTEGER", type := (.object "com/example/tuples_under_lock/tuplesunderlock/SqlType"), accessFlags := 16409, slot := 0, constantValue := 0 }, { name := "BIGINT", type := (.object "com/example/tuples_under_lock/tuplesunderlock/SqlType"), accessFlags := 16409, slot := 1, constantValue := 0 }, { name := "NUMERIC", type := (.object "com/example/tuples_under_lock/tuplesunderlock/SqlType"), accessFlags := 16409, slot := 2, constantValue := 0 }, { name := "TEXT", type := (.object "com/example/tuples_under_lock/tuplesunderlock/SqlType"), accessFlags := 16409, slot := 3, constantValue := 0 }, { name := "BOOLEAN", type := (.object "com/example/tuples_under_lock/tuplesunderlock/SqlType"), accessFlags := 16409, slot := 4, constantValue := 0 }, { name := "INTEGER_ARRAY", type := (.object "com/example/tuples_under_lock/tuplesunderlock/SqlType"), accessFlags := 16409, slot := 5, constantValue := 0 }, { name := "BIGINT_ARRAY", type := (.object "com/example/tuples_under_lock/tuplesunderlock/SqlType"), accessFlags := 16409, slot := 6, constantValue := 0 }, { name := "TEXT_ARRAY", type := (.object "com/example/tuples_under_lock/tuplesunderlock/SqlType"), accessFlags := 16409, slot := 7, constantValue := 0 }, { name := "VOID", type := (.object "com/example/tuples_under_lock/tuplesunderlock/SqlType"), accessFlags := 16409, slot := 8, constantValue := 0 }, { name := "UNKNOWN", type := (.object "com/example/tuples_under_lock/tuplesunderlock/SqlType"), accessFlags := 16409, slot := 9, constantValue := 0 }, { name := "NOTHING", type := (.object "java/lang/String"), accessFlags := 24, slot := 10, constantValue := 0 }, { name := "NUMBERS", type := (.object "java/util/List"), accessFlags := 26, slot := 11, constantValue := 0 }, { name := "BY_NAME", type := (.object "java/util/Map"), accessFlags := 26, slot := 12, constantValue := 0 }, { name := "WHOLE", type := (.object "java/util/regex/Pattern"), accessFlags := 26, slot := 13, constantValue := 0 }, { name := "NUMERIC_MAX_WHOLE_DIGITS", type := .int, accessFlags := 26, slot := 14, constantValue := 0 }, { name := "NUMERIC_MAX_SCALE", type := .int, accessFlags := 26, slot := 15, constantValue := 0 }, { name := "EXPONENT_CAP", type := .long, accessFlags := 26, slot := 16, constantValue := 0 }, { name := "LONG_MAX_DIGITS", type := .int, accessFlags := 26, slot := 17, constantValue := 0 }, { name := "displayName", type := (.object "java/lang/String"), accessFlags := 18, slot := 3, constantValue := 0 }, { name := "elementType", type := (.object "com/example/tuples_under_lock/tuplesunderlock/SqlType"), accessFlags := 18, slot := 4, constantValue := 0 }, { name := "$VALUES", type := (.array (.object "com/example/tuples_under_lock/tuplesunderlock/SqlType")), accessFlags := 4122, slot := 18, constantValue := 0 }]
  methods := #[k6m0]
  instanceTypes := #[(.object "java/lang/String"), .int, .int, (.object "java/lang/String"), (.object "com/example/tuples_under_lock/tuplesunderlock/SqlType")]
  staticTypes := #[(.object "com/example/tuples_under_lock/tuplesunderlock/SqlType"), (.object "com/example/tuples_under_lock/tuplesunderlock/SqlType"), (.object "com/example/tuples_under_lock/tuplesunderlock/SqlType"), (.object "com/example/tuples_under_lock/tuplesunderlock/SqlType"), (.object "com/example/tuples_under_lock/tuplesunderlock/SqlType"), (.object "com/example/tuples_under_lock/tuplesunderlock/SqlType"), (.object "com/example/tuples_under_lock/tuplesunderlock/SqlType"), (.object "com/example/tuples_under_lock/tuplesunderlock/SqlType"), (.object "com/example/tuples_under_lock/tuplesunderlock/SqlType"), (.object "com/example/tuples_under_lock/tuplesunderlock/SqlType"), (.object "java/lang/String"), (.object "java/util/List"), (.object "java/util/Map"), (.object "java/util/regex/Pattern"), .int, .int, .long, .int, (.array (.object "com/example/tuples_under_lock/tuplesunderlock/SqlType"))]
  resolved := Array.replicate 545 none
  statics := some 0 }

def pool7 : Array CpInfo := pool [(2, .class_ 4), (1, u "com/example/tuples_under_lock/tuplesunderlock/SqlType"), (3, .class_ 10), (1, u "com/example/tuples_under_lock/tuplesunderlock/SqlType$1")] 27

/-- com/example/tuples_under_lock/tuplesunderlock/SqlType$1 -/
def k7 : Class := { plain "com/example/tuples_under_lock/tuplesunderlock/SqlType$1" (some 6) with
  accessFlags := 16432
  interfaces := #[]
  cf := some (fileOf pool7 8 #[.nestHost 2] #[] 16432 2 #[] #[])
  fields := #[]
  methods := #[]
  instanceTypes := #[(.object "java/lang/String"), .int, .int, (.object "java/lang/String"), (.object "com/example/tuples_under_lock/tuplesunderlock/SqlType")]
  staticTypes := #[]
  resolved := Array.replicate 38 none
  statics := none }

def pool8 : Array CpInfo := pool [(2, .class_ 4), (1, u "com/example/tuples_under_lock/tuplesunderlock/SqlType"), (8, .class_ 14), (0, u "com/example/tuples_under_lock/tuplesunderlock/SqlType$4")] 12

/-- com/example/tuples_under_lock/tuplesunderlock/SqlType$4 -/
def k8 : Class := { plain "com/example/tuples_under_lock/tuplesunderlock/SqlType$4" (some 6) with
  accessFlags := 16432
  interfaces := #[]
  cf := some (fileOf pool8 13 #[.nestHost 2] #[] 16432 2 #[] #[])
  fields := #[]
  methods := #[]
  instanceTypes := #[(.object "java/lang/String"), .int, .int, (.object "java/lang/String"), (.object "com/example/tuples_under_lock/tuplesunderlock/SqlType")]
  staticTypes := #[]
  resolved := Array.replicate 27 none
  statics := none }

def pool9 : Array CpInfo := pool [(2, .class_ 4), (1, u "com/example/tuples_under_lock/tuplesunderlock/SqlType"), (3, .class_ 10), (1, u "com/example/tuples_under_lock/tuplesunderlock/SqlType$2")] 27

/-- com/example/tuples_under_lock/tuplesunderlock/SqlType$2 -/
def k9 : Class := { plain "com/example/tuples_under_lock/tuplesunderlock/SqlType$2" (some 6) with
  accessFlags := 16432
  interfaces := #[]
  cf := some (fileOf pool9 8 #[.nestHost 2] #[] 16432 2 #[] #[])
  fields := #[]
  methods := #[]
  instanceTypes := #[(.object "java/lang/String"), .int, .int, (.object "java/lang/String"), (.object "com/example/tuples_under_lock/tuplesunderlock/SqlType")]
  staticTypes := #[]
  resolved := Array.replicate 38 none
  statics := none }

def pool10 : Array CpInfo := pool [(2, .class_ 4), (1, u "com/example/tuples_under_lock/tuplesunderlock/SqlType"), (23, .class_ 30), (1, u "com/example/tuples_under_lock/tuplesunderlock/SqlType$5")] 61

/-- com/example/tuples_under_lock/tuplesunderlock/SqlType$5 -/
def k10 : Class := { plain "com/example/tuples_under_lock/tuplesunderlock/SqlType$5" (some 6) with
  accessFlags := 16432
  interfaces := #[]
  cf := some (fileOf pool10 28 #[.nestHost 2] #[] 16432 2 #[] #[])
  fields := #[]
  methods := #[]
  instanceTypes := #[(.object "java/lang/String"), .int, .int, (.object "java/lang/String"), (.object "com/example/tuples_under_lock/tuplesunderlock/SqlType")]
  staticTypes := #[]
  resolved := Array.replicate 92 none
  statics := none }

def pool11 : Array CpInfo := pool [(2, .class_ 4), (1, u "com/example/tuples_under_lock/tuplesunderlock/SqlType"), (20, .class_ 26), (0, u "com/example/tuples_under_lock/tuplesunderlock/SqlType$3")] 16

/-- com/example/tuples_under_lock/tuplesunderlock/SqlType$3 -/
def k11 : Class := { plain "com/example/tuples_under_lock/tuplesunderlock/SqlType$3" (some 6) with
  accessFlags := 16432
  interfaces := #[]
  cf := some (fileOf pool11 25 #[.nestHost 2] #[] 16432 2 #[] #[])
  fields := #[]
  methods := #[]
  instanceTypes := #[(.object "java/lang/String"), .int, .int, (.object "java/lang/String"), (.object "com/example/tuples_under_lock/tuplesunderlock/SqlType")]
  staticTypes := #[]
  resolved := Array.replicate 43 none
  statics := none }

def pool12 : Array CpInfo := pool [(2, .class_ 4), (1, u "com/example/tuples_under_lock/tuplesunderlock/SqlType"), (11, .class_ 17), (0, u "com/example/tuples_under_lock/tuplesunderlock/SqlType$6")] 12

/-- com/example/tuples_under_lock/tuplesunderlock/SqlType$6 -/
def k12 : Class := { plain "com/example/tuples_under_lock/tuplesunderlock/SqlType$6" (some 6) with
  accessFlags := 16432
  interfaces := #[]
  cf := some (fileOf pool12 16 #[.nestHost 2] #[] 16432 2 #[] #[])
  fields := #[]
  methods := #[]
  instanceTypes := #[(.object "java/lang/String"), .int, .int, (.object "java/lang/String"), (.object "com/example/tuples_under_lock/tuplesunderlock/SqlType")]
  staticTypes := #[]
  resolved := Array.replicate 30 none
  statics := none }

def pool13 : Array CpInfo := pool [(2, .class_ 4), (1, u "com/example/tuples_under_lock/tuplesunderlock/SqlType"), (8, .class_ 14), (0, u "com/example/tuples_under_lock/tuplesunderlock/SqlType$7")] 12

/-- com/example/tuples_under_lock/tuplesunderlock/SqlType$7 -/
def k13 : Class := { plain "com/example/tuples_under_lock/tuplesunderlock/SqlType$7" (some 6) with
  accessFlags := 16432
  interfaces := #[]
  cf := some (fileOf pool13 13 #[.nestHost 2] #[] 16432 2 #[] #[])
  fields := #[]
  methods := #[]
  instanceTypes := #[(.object "java/lang/String"), .int, .int, (.object "java/lang/String"), (.object "com/example/tuples_under_lock/tuplesunderlock/SqlType")]
  staticTypes := #[]
  resolved := Array.replicate 27 none
  statics := none }

def pool14 : Array CpInfo := pool [(1, u "java/lang/Cloneable"), (0, .class_ 1), (0, u "java/lang/Object"), (0, .class_ 3)] 3

/-- java/lang/Cloneable -/
def k14 : Class := { plain "java/lang/Cloneable" (some 0) with
  accessFlags := 1537
  interfaces := #[]
  cf := some (fileOf pool14 2 #[] #[] 1537 4 #[] #[])
  fields := #[]
  methods := #[]
  instanceTypes := #[]
  staticTypes := #[]
  resolved := Array.replicate 8 none
  statics := none }

/-- the primitive byte -/
def k15 : Class := { plain "byte" none with kind := .primitive 'B', accessFlags := 0x411 }
/-- [B -/
def k16 : Class := { plain "[B" (some 0) with kind := .array 15 .byte, interfaces := #[14, 4], accessFlags := 1041 }

/-- the primitive int -/
def k17 : Class := { plain "int" none with kind := .primitive 'I', accessFlags := 0x411 }
/-- [I -/
def k18 : Class := { plain "[I" (some 0) with kind := .array 17 .int, interfaces := #[14, 4], accessFlags := 1041 }

def heap : Heap := #[{ cls := 6, slots := #[.ref 1, .ref 2, .ref 3, .ref 4, .ref 5, .ref 6, .ref 7, .ref 8, .ref 9, .ref 10, .null, .null, .null, .null, .int 0, .int 0, .long 0, .int 0, .null], vm := .statics 6 },
  { cls := 7, slots := #[.null, .int 0, .int 0, .null, .null], vm := .none },
  { cls := 9, slots := #[.null, .int 1, .int 0, .null, .null], vm := .none },
  { cls := 11, slots := #[.null, .int 2, .int 0, .null, .null], vm := .none },
  { cls := 8, slots := #[.null, .int 3, .int 0, .null, .null], vm := .none },
  { cls := 10, slots := #[.null, .int 4, .int 0, .null, .null], vm := .none },
  { cls := 6, slots := #[.null, .int 5, .int 0, .null, .null], vm := .none },
  { cls := 6, slots := #[.null, .int 6, .int 0, .null, .null], vm := .none },
  { cls := 6, slots := #[.null, .int 7, .int 0, .null, .null], vm := .none },
  { cls := 12, slots := #[.null, .int 8, .int 0, .null, .null], vm := .none },
  { cls := 13, slots := #[.null, .int 9, .int 0, .null, .null], vm := .none }]
def classes : Array Class := #[k0, k1, k2, k3, k4, k5, k6, k7, k8, k9, k10, k11, k12, k13, k14, k15, k16, k17, k18]
def interned : List (Array UInt16 × Addr) := []
def slotsUsed : Nat := 69
def theMethod : MethodId := ⟨1, 1⟩
def args0 : Array Value := #[.int 5]
def aboutOver (below : List Frame) : State where
  vm := { classes := classes, interned := interned.toArray }
  heap := heap
  slotsUsed := slotsUsed
  threads := #[{ frames := .invoking theMethod args0 :: below }]
def below0 : List Frame := [.native { method := ⟨0, 0⟩, args := #[] }]
def about1 : State := aboutOver below0
def p0 : Program := .bare "" "" ""
def e0 : Env := launch0.env 0 0 0
theorem w_frames : about1.frames = Frame.invoking theMethod args0 :: below0 := rfl
set_option maxRecDepth 65536 in
theorem w_args : argsFit about1.vm theMethod args0 = true := by decide +kernel
set_option maxRecDepth 65536 in
theorem w_heap : heapFits about1 = true := by decide +kernel
set_option maxRecDepth 65536 in
theorem w_runnable : about1.curStatus? = some .runnable := by decide +kernel
set_option maxRecDepth 65536 in
theorem w_alone : about1.alone = true := by decide +kernel
set_option maxRecDepth 65536 in
theorem w_named : about1.methodNamed? x = some theMethod := by decide +kernel
set_option maxRecDepth 65536 in
theorem w_hears : about1.hears theMethod below0 = true := by decide +kernel
set_option maxRecDepth 65536 in
theorem w_ripe : about1.ripe theMethod args0 below0 = true := by decide +kernel
theorem w_running : about1.status = .running := rfl
set_option maxRecDepth 65536 in
theorem w_room : about1.hasRoom e0.platform room_1 = true :=
  launch0.hasRoom_least _ room_1 (by decide +kernel) (by decide +kernel) (by decide +kernel) (by decide +kernel) (by decide +kernel) (by decide +kernel)
theorem allAtoms_all (ts : List Jvm.Cond) (a : Array Jvm.Value) (st : Jvm.State) : (allAtoms ts).before a st = ts.all (fun c => c.before a st) := by
  induction ts with
  | nil => rfl
  | cons c t ih =>
    show (Jvm.Cond.and c (allAtoms t)).before a st = _
    rw [Jvm.Cond.before_and, ih, List.all_cons]
def words1 : List Jvm.Cond := Jvm.Cond.code x code maxLocals ret :: tables_1
/-- a 'code' word, met by the world's own term for the bytes: nothing is compared byte by byte -/
theorem code_word {y : MethodName} {bytes : ByteArray} {mx : Nat} {rt : Option FieldType} {a : Array Value} {s : State} {m : MethodId} {meth : Method} {c : Code} (h1 : s.methodNamed? y = some m) (h2 : s.vm.method? m = some meth) (h3 : meth.code = some c) (h4 : c.code = bytes)
    (h5 : (c.maxLocals == mx && c.exceptionTable.isEmpty && decide (c.maxStack ≤ mostOperands) && decide (meth.sig.returnType = rt) && !meth.locks && decide (parseMethodDescriptor y.desc = some meth.sig)) = true) : (Jvm.Cond.code y bytes mx rt).before a s = true := by
  simp only [Bool.and_eq_true, beq_iff_eq, Bool.not_eq_true', decide_eq_true_eq] at h5
  obtain ⟨⟨⟨⟨⟨g1, g2⟩, g3⟩, g4⟩, g5⟩, g6⟩ := h5
  simp [Cond.before, Cond.holds, Cond.value, h1, h2, h3, h4, g1, g2, g3, g4, g5, g6]
def isCode : Jvm.Cond → Bool
  | .code _ _ _ _ => true
  | _ => false
theorem all_split {L : List Jvm.Cond} {P : Jvm.Cond → Bool} (h1 : L.all (fun c => isCode c || P c) = true) (h2 : ∀ c ∈ L.filter isCode, P c = true) : L.all P = true := by
  refine List.all_eq_true.mpr fun c hc => ?_
  have h := List.all_eq_true.mp h1 c hc
  rcases Bool.eq_false_or_eq_true (isCode c) with hi | hi
  · exact h2 c (List.mem_filter.mpr ⟨hc, hi⟩)
  · simpa [hi] using h
set_option maxRecDepth 65536 in
theorem w_c0 : (Jvm.Cond.code x code maxLocals ret).before args0 about1 = true := code_word (m := ⟨1, 1⟩) (meth := k1m1) (c := k1c1) (by decide +kernel) rfl rfl rfl (by decide +kernel)
set_option maxRecDepth 65536 in
theorem w_c1 : (Jvm.Cond.code ({ cls := "com/example/tuples_under_lock/tuplesunderlock/SqlType", name := "isOrdered", desc := "()Z" } : Jvm.MethodName) prog_131_method_9_code (1 : Nat) (Option.some Jvm.ClassFile.FieldType.boolean)).before args0 about1 = true := code_word (m := ⟨6, 0⟩) (meth := k6m0) (c := k6c0) (by decide +kernel) rfl rfl rfl (by decide +kernel)
def codes1 : List Jvm.Cond := [Jvm.Cond.code x code maxLocals ret, Jvm.Cond.code ({ cls := "com/example/tuples_under_lock/tuplesunderlock/SqlType", name := "isOrdered", desc := "()Z" } : Jvm.MethodName) prog_131_method_9_code (1 : Nat) (Option.some Jvm.ClassFile.FieldType.boolean)]
set_option maxRecDepth 65536 in
theorem codes_eq : words1.filter isCode = codes1 := rfl
theorem w_codes : ∀ c ∈ words1.filter isCode, c.before args0 about1 = true := by
  rw [codes_eq]
  intro c hc
  simp only [codes1, List.mem_cons, List.not_mem_nil, or_false] at hc
  rcases hc with rfl | rfl
  · exact w_c0
  · exact w_c1
set_option maxRecDepth 65536 in
theorem w_t1 : (words1.take 24).all (fun c => isCode c || c.before args0 about1) = true := by decide +kernel
set_option maxRecDepth 65536 in
theorem w_t2 : (words1.drop 24).all (fun c => isCode c || c.before args0 about1) = true := by decide +kernel
theorem w_tables : (allAtoms (Jvm.Cond.code x code maxLocals ret :: tables_1)).before args0 about1 = true := by
  rw [allAtoms_all]
  show words1.all (fun c => c.before args0 about1) = true
  refine all_split ?_ w_codes
  rw [← List.take_append_drop 24 words1, List.all_append, w_t1, w_t2]
  rfl
set_option maxRecDepth 65536 in
theorem w_case : (Jvm.Cond.and given_1 narrow_1).before args0 about1 = true := by decide +kernel
theorem w_applies : (headSpec (Jvm.Cond.code x code maxLocals ret :: tables_1) room_1).applies x e0.platform about1 = true :=
  (Spec.applies_iff w_frames).mpr ⟨w_running, w_runnable, w_alone, w_named, w_hears, w_ripe, w_room, w_tables⟩
theorem atStart : AtStart classFile x code maxLocals ret World_1 tables_1 room_1 Calls_1 rest_1 Pre_1 launch0 p0 e0 about1 theMethod args0 below0 :=
  ⟨lists_1, trivial, launch0.admits_env _ _ _, launch0.least_env, fairChoices_fair.cas, fairChoices_fair.clock, w_frames, w_args, w_heap, w_applies, trivial, trivial, w_case⟩
end start1
theorem witness_1 : WitnessClaimed_1 := ⟨start1.p0, start1.e0, start1.about1, start1.theMethod, start1.args0, start1.below0, start1.atStart⟩
end Jvm.Pilot.@@N@@
