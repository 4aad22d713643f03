import JvmDerived
import JvmDerived.Pilot.@@N@@Statement
import JvmDerived.Pilot.@@N@@Code
set_option linter.unusedVariables false
set_option linter.unusedSimpArgs false
namespace Jvm.Pilot.@@N@@
open Jvm Jvm.ClassFile Sem Op Lib Jvm.Free Jvm.Stand Jvm.LawKit Jvm.RoadKit Bundle Jvm.Pilot.@@N@@.Jvm.D
/-- from the frame g over the state T the run comes to a return that Q allows, with at most kc new cells and ks new slots -/
def Go (p : Program) (e : Env) (below : List Frame) (s : State) (Q : Option Value → Heap → List Loc → Prop) (kc ks : Nat) (T : State) (g : JFrame) : Prop :=
  ∃ s₂ o, Steps p.tables e below (T.setTop g) s₂ ∧ s₂.status = .running ∧ Ended s₂ below o ∧ ∃ v L, o = .returned v ∧ Q v s₂.heap L ∧ FrameEnd s o s₂ L kc ks
/-- a body's contract in this family: called with these arguments over the heap h0 it returns what Q says -/
def Con (l : Launch) (Z : State) (y : MethodName) (bytes : ByteArray) (maxL : Nat) (ret : Option FieldType) (rm : Room) (ws : List Jvm.Cond) (as' : Array Value) (h0 : Heap) (Q : Option Value → Heap → List Loc → Prop) (kc ks : Nat) : Prop :=
  MetFree l y (head1 (Jvm.Cond.code y bytes maxL ret :: ws) rm) (fun a U => a = as' ∧ Z.Warmed39 U.vm ∧ U.heap = h0) (fun _ _ _ _ _ => True) (fun _ U o U' => ∃ v L, o = .returned v ∧ Q v U'.heap L ∧ FrameEnd U o U' L kc ks)
/-- it returns r and leaves the heap as it was -/
def Qret (r : Option Value) (h0 : Heap) (n0 : Nat) (v : Option Value) (h : Heap) (L : List Loc) : Prop := v = r ∧ Fr n0 L ∧ h = h0
/-- the law's own end: true; nothing old written -/
def Q0 (n0 : Nat) (v : Option Value) (h : Heap) (L : List Loc) : Prop := v = some (.int 1) ∧ Fr n0 L
section Own
variable {p : Program} {l : Launch} {e : Env} {R : Room} {s Z : State} {m : MethodId} {args : Array Value} {below : List Frame} {meth : Method} {c : Code} {T T' : State} {locs : List Loc} {cells slots kc ks : Nat} {Q : Option Value → Heap → List Loc → Prop} {g g' : JFrame} {h h' : Heap} {a : Addr} {C n d : String} {v : Value} {ws : List Addr}
theorem Con.of {y : MethodName} {bytes : ByteArray} {maxL : Nat} {ret : Option FieldType} {rm : Room} {cs : List Jvm.Cond} {as' : Array Value} {h0 : Heap} (hp : plainFor y = true)
    (body : ∀ p e s m below meth c s₁, Stand p l e rm s m as' below meth c s₁ [] 0 0 → p.tables.exec = Jvm.exec → Z.Warmed39 s.vm → c.code = bytes → c.maxLocals = maxL → s.vm.findClass y.cls = some m.cls → meth.name = y.name → meth.sig.returnType = ret → meth.locks = false → s₁.heap = h0 → s.heap = h0 → Go p e below s Q kc ks s₁ (entryFrame m as' maxL)) :
    Con l Z y bytes maxL ret rm cs as' h0 Q kc ks := by
  refine MetFree.of_bodySF hp hisR ?_
  intro p e s m args below meth c s₁ Bd hml0 hP hK
  obtain ⟨rfl, hZ, hh⟩ := hP
  exact body p e s m below meth c s₁ (Stand.of_body Bd) Bd.exec hZ Bd.bytes hml0 (findClass_of_methodNamed Bd.named) (name_of_methodNamed Bd.named Bd.method).1 Bd.returns Bd.notSynchronized (by rw [← hh, Bd.state]; rfl) hh
theorem Go.step (st : ∀ target, Steps p.tables e below (T'.setTop g') target → Steps p.tables e below (T.setTop g) target) (k : Go p e below s Q kc ks T' g') : Go p e below s Q kc ks T g := by
  obtain ⟨s₂, o, h1, h2⟩ := k
  exact ⟨s₂, o, st _ h1, h2⟩
theorem Go.cast (q : g = g') (k : Go p e below s Q kc ks T g') : Go p e below s Q kc ks T g := q ▸ k
theorem Go.ret (X : Stand p l e R s m args below meth c T locs cells slots) {v : Option Value} (hv : meth.sig.returnType = none → v = none) (hlk : meth.locks = false) (hq : Q v T.heap locs) (hc : cells ≤ kc) (hs : slots ≤ ks)
    (st : ∀ fs, (∀ (f : JFrame) (acts : List Action), f.method = m → f.locked = none → f.entered = [] → (doReturn e (T.setTop f) acts v).1 = T.setFrames fs) → Steps p.tables e below (T.setTop g) (T.setFrames fs)) : Go p e below s Q kc ks T g := by
  obtain ⟨fs, hr, hrun, hended, hW, hsame⟩ := X.leave (v := v) hv hlk
  exact ⟨_, _, st fs hr, hrun, hended, v, locs, rfl, hq, ⟨_, rfl⟩, hW, hsame.mono hc hs⟩
theorem Go.retN (X : Stand p l e R s m args below meth c T locs cells slots) (hx : p.tables.exec = Jvm.exec) {pc : Nat} {Ls : Array Slot} {z : Int32} {t : FieldType} {rest : List Value} (hret : meth.sig.returnType = some t) (hlk : meth.locks = false) (ht : t = .boolean ∨ t = .byte ∨ t = .char ∨ t = .short)
    (hd : decode c.code pc = .ok (.ireturn, 1)) (hq : Q (some (.int (nar t z))) T.heap locs) (hc : cells ≤ kc) (hs : slots ≤ ks) : Go p e below s Q kc ks T (mkF m pc Ls (.int z :: rest)) :=
  Go.ret X (fun q => by rw [hret] at q; cases q) hlk hq hc hs fun fs hr => Jvm.RoadKit.retN X hx hret ht hd hr
theorem Go.retI (X : Stand p l e R s m args below meth c T locs cells slots) (hx : p.tables.exec = Jvm.exec) {pc : Nat} {Ls : Array Slot} {z : Int32} {rest : List Value} (hret : meth.sig.returnType = some .int) (hlk : meth.locks = false)
    (hd : decode c.code pc = .ok (.ireturn, 1)) (hq : Q (some (.int z)) T.heap locs) (hc : cells ≤ kc) (hs : slots ≤ ks) : Go p e below s Q kc ks T (mkF m pc Ls (.int z :: rest)) :=
  Go.ret X (fun q => by rw [hret] at q; cases q) hlk hq hc hs fun fs hr => retOut X hx hret rfl (Or.inl ⟨rfl, Or.inl rfl, z, rfl⟩) hd hr
theorem Go.retJ (X : Stand p l e R s m args below meth c T locs cells slots) (hx : p.tables.exec = Jvm.exec) {pc : Nat} {Ls : Array Slot} {z : Int64} {rest : List Value} (hret : meth.sig.returnType = some .long) (hlk : meth.locks = false)
    (hd : decode c.code pc = .ok (.lreturn, 1)) (hq : Q (some (.long z)) T.heap locs) (hc : cells ≤ kc) (hs : slots ≤ ks) : Go p e below s Q kc ks T (mkF m pc Ls (.long z :: rest)) :=
  Go.ret X (fun q => by rw [hret] at q; cases q) hlk hq hc hs fun fs hr => retOut X hx hret rfl (Or.inr (Or.inl ⟨rfl, rfl, z, rfl⟩)) hd hr
theorem Go.retA (X : Stand p l e R s m args below meth c T locs cells slots) (hx : p.tables.exec = Jvm.exec) {pc : Nat} {Ls : Array Slot} {w : Value} {t : FieldType} {rest : List Value} (hret : meth.sig.returnType = some t) (ht : t.isReference = true) (hlk : meth.locks = false) (hw : w.isRef = true)
    (hd : decode c.code pc = .ok (.areturn, 1)) (hq : Q (some w) T.heap locs) (hc : cells ≤ kc) (hs : slots ≤ ks) : Go p e below s Q kc ks T (mkF m pc Ls (w :: rest)) :=
  Go.ret X (fun q => by rw [hret] at q; cases q) hlk hq hc hs fun fs hr => retOut X hx hret (by cases t <;> first | (cases ht; done) | (cases w <;> first | rfl | (cases hw; done))) (Or.inr (Or.inr (Or.inr (Or.inr ⟨rfl, ht, hw⟩)))) hd hr
theorem Go.retV (X : Stand p l e R s m args below meth c T locs cells slots) (hx : p.tables.exec = Jvm.exec) {pc : Nat} {Ls : Array Slot} (hret : meth.sig.returnType = none) (hlk : meth.locks = false)
    (hd : decode c.code pc = .ok (.return_, 1)) (hq : Q none T.heap locs) (hc : cells ≤ kc) (hs : slots ≤ ks) : Go p e below s Q kc ks T (mkF m pc Ls []) :=
  Go.ret X (fun _ => rfl) hlk hq hc hs fun fs hr => X.returnOut hx hret hd hr
theorem own_sta_keep (F : Sta Z h C n d v) (K : Keep h h' ws) (q : ∀ x ∈ ws, ∀ c : Cell, h[x]? = some c → c.vm.isStatics = false) : Sta Z h' C n d v := by
  obtain ⟨cf, i, k, f, st, cell, h1, h2, h3, h4, h5, h6, h7⟩ := F
  refine ⟨cf, i, k, f, st, cell, h1, h2, h3, h4, K.2.1 _ _ h5 (fun hm => ?_), h6, h7⟩
  have := q _ hm _ h5
  rw [h6] at this; cases this
theorem own_plain (E : Exa Z h a C) : ∀ c : Cell, h[a]? = some c → c.vm.isStatics = false := fun c hc => by
  obtain ⟨cell, k, h1, -, -, h4, -⟩ := E
  cases h1.symm.trans hc; exact h4
theorem own_eqI {args : Array Value} {s : State} {t : Term} {k : Int32} (q : (Jvm.Cond.eq t (Jvm.Term.int k)).value args s none s [] = some true) : t.eval args s none [] s = some (.int k) := by
  obtain ⟨x, y, hx, hy, kin, kin'⟩ := cmp_v (Or.inl q)
  have hy' : y = .int k := (Option.some.inj hy).symm
  subst hy'
  obtain ⟨z, rfl⟩ := kin'
  have e : (Jvm.Cond.eq t (Jvm.Term.int k)).value args s none s [] = some (decide (z = k)) := by simp [Cond.value, hx, hy]
  rw [hx, gotT e q]
theorem Con.ret {y : MethodName} {bytes : ByteArray} {maxL n0 : Nat} {ret : Option FieldType} {rm : Room} {cs : List Jvm.Cond} {as' : Array Value} {h0 h1 : Heap} {r r' : Int32} (q : r = r') (k : Con l Z y bytes maxL ret rm cs as' h0 (Qret (some (.int r)) h1 n0) kc ks) : Con l Z y bytes maxL ret rm cs as' h0 (Qret (some (.int r')) h1 n0) kc ks := q ▸ k
theorem own_arr_keep {cl : Cell} {ty : FieldType} (F : Arr Z h a cl ty) (K : Keep h h' ws) (q : a ∉ ws) : Arr Z h' a cl ty := ⟨K.2.1 a cl F.1 q, F.2⟩
/-- an object whose chain of classes lacks the class K is no K -/
theorem own_noins {a0 : Array Value} {K : String} {t : List String} {k : Nat} (E : Exa Z h a C) (hw : ∀ w ∈ Cond.chainWords (C :: t), w.before a0 Z = true) (wi : (Jvm.Cond.instantiable K k).before a0 Z = true) (hn : K ∉ C :: t) : Ins Z h a K false := by
  obtain ⟨cell, kc, h1, h2, -, h4, -⟩ := E
  obtain ⟨cy, ky, y1, y2, y3, y4, -⟩ := Cond.instantiable_spec wi
  have y5 : ky.isInterface = false := by simp only [Bool.or_eq_false_iff] at y4; exact y4.1
  exact ⟨cell, cy, h1, y1, by rw [Vm.notAssignable_of_chain h2 y1 y2 y3 y5 hw hn]; simp⟩
theorem own_len {args : Array Value} {t : Term} {cl : Cell} {ty : FieldType} {z : Int32} (ev : t.eval args Z none [] Z = some (.ref a)) (A : Arr Z Z.heap a cl ty) (el : (Jvm.Term.length t).eval args Z none [] Z = some (.int z)) : cl.slots.size < 2 ^ 31 ∧ cl.slots.size.toInt32 = z := by
  have ha := A.fin (Vm.Alike.refl _)
  by_cases q : cl.slots.size < 2 ^ 31
  · rw [len_f ev ha q] at el
    exact ⟨q, Value.int.inj (Option.some.inj el)⟩
  · simp [Term.eval, ev, ha, q] at el
theorem own_sub_at {args : Array Value} {t : Term} {idx : List Nat} {y k : Int32} (q : t.eval args Z none idx Z = some (.int y)) : (Jvm.Term.sub t (Jvm.Term.int k)).eval args Z none idx Z = some (.int (y - k)) := by simp [Term.eval, q]
end Own
def own_sel (w0 w1 w2 w3 w4 w5 w6 w7 : Addr) (k : Int32) : Addr := if k = 0 then w0 else if k = 1 then w1 else if k = 2 then w2 else if k = 3 then w3 else if k = 4 then w4 else if k = 5 then w5 else if k = 6 then w6 else w7
theorem own_sel_is {P : Addr → Prop} {w0 w1 w2 w3 w4 w5 w6 w7 : Addr} (k : Int32) (h0 : P w0) (h1 : P w1) (h2 : P w2) (h3 : P w3) (h4 : P w4) (h5 : P w5) (h6 : P w6) (h7 : P w7) : P (own_sel w0 w1 w2 w3 w4 w5 w6 w7 k) := by
  unfold own_sel
  repeat' split
  all_goals assumption
theorem own_sel_3 {w0 w1 w2 w3 w4 w5 w6 w7 : Addr} (k : Int32) (h0 : w0 ≠ w3) (h1 : w1 ≠ w3) (h2 : w2 ≠ w3) (h4 : w4 ≠ w3) (h5 : w5 ≠ w3) (h6 : w6 ≠ w3) (h7 : w7 ≠ w3) : own_sel w0 w1 w2 w3 w4 w5 w6 w7 k = w3 ↔ k = 3 := by
  unfold own_sel
  by_cases c : k = 3
  · subst c; simp +decide
  · simp only [c, if_false, iff_false]
    repeat' split
    all_goals assumption
theorem own_ef_method_2_code_I (m : MethodId) (x0 : Int32) : entryFrame m #[(.int x0)] 1 = mkF m 0 #[.val (.int x0)] [] := by first | (simp [entryFrame, mkF, argsToLocals, Value.category]; done) | rfl
theorem own_pn_EdmTypeIsStringWhenIeee754CompatiblePinLaw : plainName "com/example/draftd/draftd/model/EdmTypeIsStringWhenIeee754CompatiblePinLaw" = true := by first | (simp [plainName, overriddenIn]; done) | decide +kernel
theorem d_method_2_0 : decode method_2_code 0 = .ok (.iload_n 0, 1) := by decide +kernel
theorem d_method_2_1 : decode method_2_code 1 = .ok (.ifCond .ne 7, 3) := by decide +kernel
theorem d_method_2_4 : decode method_2_code 4 = .ok (.getstatic 7, 3) := by decide +kernel
theorem d_method_2_7 : decode method_2_code 7 = .ok (.areturn, 1) := by decide +kernel
theorem d_method_2_8 : decode method_2_code 8 = .ok (.iload_n 0, 1) := by decide +kernel
theorem d_method_2_9 : decode method_2_code 9 = .ok (.iconst 1, 1) := by decide +kernel
theorem d_method_2_10 : decode method_2_code 10 = .ok (.if_icmp .ne 7, 3) := by decide +kernel
theorem d_method_2_13 : decode method_2_code 13 = .ok (.getstatic 13, 3) := by decide +kernel
theorem d_method_2_16 : decode method_2_code 16 = .ok (.areturn, 1) := by decide +kernel
theorem d_method_2_17 : decode method_2_code 17 = .ok (.iload_n 0, 1) := by decide +kernel
theorem d_method_2_18 : decode method_2_code 18 = .ok (.iconst 2, 1) := by decide +kernel
theorem d_method_2_19 : decode method_2_code 19 = .ok (.if_icmp .ne 7, 3) := by decide +kernel
theorem d_method_2_22 : decode method_2_code 22 = .ok (.getstatic 16, 3) := by decide +kernel
theorem d_method_2_25 : decode method_2_code 25 = .ok (.areturn, 1) := by decide +kernel
theorem d_method_2_26 : decode method_2_code 26 = .ok (.iload_n 0, 1) := by decide +kernel
theorem d_method_2_27 : decode method_2_code 27 = .ok (.iconst 3, 1) := by decide +kernel
theorem d_method_2_28 : decode method_2_code 28 = .ok (.if_icmp .ne 7, 3) := by decide +kernel
theorem d_method_2_31 : decode method_2_code 31 = .ok (.getstatic 19, 3) := by decide +kernel
theorem d_method_2_34 : decode method_2_code 34 = .ok (.areturn, 1) := by decide +kernel
theorem d_method_2_35 : decode method_2_code 35 = .ok (.iload_n 0, 1) := by decide +kernel
theorem d_method_2_36 : decode method_2_code 36 = .ok (.iconst 4, 1) := by decide +kernel
theorem d_method_2_37 : decode method_2_code 37 = .ok (.if_icmp .ne 7, 3) := by decide +kernel
theorem d_method_2_40 : decode method_2_code 40 = .ok (.getstatic 22, 3) := by decide +kernel
theorem d_method_2_43 : decode method_2_code 43 = .ok (.areturn, 1) := by decide +kernel
theorem d_method_2_44 : decode method_2_code 44 = .ok (.iload_n 0, 1) := by decide +kernel
theorem d_method_2_45 : decode method_2_code 45 = .ok (.iconst 5, 1) := by decide +kernel
theorem d_method_2_46 : decode method_2_code 46 = .ok (.if_icmp .ne 7, 3) := by decide +kernel
theorem d_method_2_49 : decode method_2_code 49 = .ok (.getstatic 25, 3) := by decide +kernel
theorem d_method_2_52 : decode method_2_code 52 = .ok (.areturn, 1) := by decide +kernel
theorem d_method_2_53 : decode method_2_code 53 = .ok (.iload_n 0, 1) := by decide +kernel
theorem d_method_2_54 : decode method_2_code 54 = .ok (.bipush 6, 2) := by decide +kernel
theorem d_method_2_56 : decode method_2_code 56 = .ok (.if_icmp .ne 7, 3) := by decide +kernel
theorem d_method_2_59 : decode method_2_code 59 = .ok (.getstatic 28, 3) := by decide +kernel
theorem d_method_2_62 : decode method_2_code 62 = .ok (.areturn, 1) := by decide +kernel
theorem d_method_2_63 : decode method_2_code 63 = .ok (.getstatic 31, 3) := by decide +kernel
theorem d_method_2_66 : decode method_2_code 66 = .ok (.areturn, 1) := by decide +kernel
set_option maxRecDepth 65536 in
set_option maxHeartbeats 40000000 in
theorem own_pick (l : Launch) (Z : State) (a0 : Array Value) (hw : ∀ d ∈ tables_1, d.before a0 Z = true) (ws : List Jvm.Cond) (p1 : Int32) (w0 w1 w2 w3 w4 w5 w6 w7 : Addr) (h0 : Heap) (n0 : Nat) (Z0 : n0 ≤ h0.size) (S0 : Sta Z h0 "com/example/draftd/draftd/model/EdmType" "STRING" "Lcom/example/draftd/draftd/model/EdmType;" (.ref w0)) (S1 : Sta Z h0 "com/example/draftd/draftd/model/EdmType" "INT32" "Lcom/example/draftd/draftd/model/EdmType;" (.ref w1)) (S2 : Sta Z h0 "com/example/draftd/draftd/model/EdmType" "BYTE" "Lcom/example/draftd/draftd/model/EdmType;" (.ref w2)) (S3 : Sta Z h0 "com/example/draftd/draftd/model/EdmType" "DECIMAL" "Lcom/example/draftd/draftd/model/EdmType;" (.ref w3)) (S4 : Sta Z h0 "com/example/draftd/draftd/model/EdmType" "DATE" "Lcom/example/draftd/draftd/model/EdmType;" (.ref w4)) (S5 : Sta Z h0 "com/example/draftd/draftd/model/EdmType" "BOOLEAN" "Lcom/example/draftd/draftd/model/EdmType;" (.ref w5)) (S6 : Sta Z h0 "com/example/draftd/draftd/model/EdmType" "GUID" "Lcom/example/draftd/draftd/model/EdmType;" (.ref w6)) (S7 : Sta Z h0 "com/example/draftd/draftd/model/EdmType" "DATE_TIME_OFFSET" "Lcom/example/draftd/draftd/model/EdmType;" (.ref w7)) :
    Con l Z (⟨"com/example/draftd/draftd/model/EdmTypeIsStringWhenIeee754CompatiblePinLaw", "pick", "(I)Lcom/example/draftd/draftd/model/EdmType;"⟩ : MethodName) method_2_code 1 (some (.object "com/example/draftd/draftd/model/EdmType")) ({ frames := 0, cells := 0, slots := 0, locals := 0 } : Room) ws #[(.int p1)] h0 (Qret (some (.ref (own_sel w0 w1 w2 w3 w4 w5 w6 w7 p1))) h0 n0) 0 0 := by
  refine Con.of (plainFor_of_name own_pn_EdmTypeIsStringWhenIeee754CompatiblePinLaw) ?_
  intro p e s m below meth c s₁ X0 hx hZ hby hml hown hnm hret hlk e0 hs0
  have N0 := Fr.nil n0
  have hown : s.vm.findClass "com/example/draftd/draftd/model/EdmTypeIsStringWhenIeee754CompatiblePinLaw" = some m.cls := hown
  have hnm : meth.name = "pick" := hnm
  refine Go.cast (own_ef_method_2_code_I m p1) ?_
  refine Go.step (T' := s₁) (g' := (mkF m 1 #[.val (.int p1)] [(.int p1)])) (fun _ k => XS.iloadN X0.here hx rfl (hb hby d_method_2_0) rfl  k) ?_
  by_cases hc101 : p1 = (0 : Int32)
  · skip
    refine Go.step (T' := s₁) (g' := (mkF m 4 #[.val (.int p1)] [])) (fun _ k => XS.ifNo X0.here hx rfl (hb hby d_method_2_1) rfl ((if0 _ _).trans (teq hc101).2) k) ?_
    obtain ⟨T102, X102, e102, st102⟩ := getS2 X0 hx hZ hown (host := "") (Or.inl (hw _ (List.mem_of_getElem? (i := 4) rfl))) Via.refl e0 S0 (g := (mkF m 4 #[.val (.int p1)] [])) rfl (hb hby d_method_2_4)
    refine Go.step (T' := T102) (g' := (mkF m 7 #[.val (.int p1)] [(.ref w0)])) st102 ?_
    exact Go.retA X102 hx (t := (.object "com/example/draftd/draftd/model/EdmType")) hret rfl hlk rfl (hb hby d_method_2_7) (⟨by simp [own_sel, hc101], N0, e102⟩) (by decide) (by decide)
  · skip
    refine Go.step (T' := s₁) (g' := (mkF m 8 #[.val (.int p1)] [])) (fun _ k => XS.ifYes X0.here hx rfl (pc0 := 1) (pc' := 8) rfl (hb hby d_method_2_1) rfl ((if0 _ _).trans (feq hc101).2) (by decide) (by decide) k) ?_
    refine Go.step (T' := s₁) (g' := (mkF m 9 #[.val (.int p1)] [(.int p1)])) (fun _ k => XS.iloadN X0.here hx rfl (hb hby d_method_2_8) rfl  k) ?_
    refine Go.step (T' := s₁) (g' := (mkF m 10 #[.val (.int p1)] [(.int (1 : Int32)), (.int p1)])) (fun _ k => XS.iconst X0.here hx rfl (hb hby d_method_2_9) k) ?_
    by_cases hc103 : p1 = (1 : Int32)
    · skip
      refine Go.step (T' := s₁) (g' := (mkF m 13 #[.val (.int p1)] [])) (fun _ k => XS.icmpNo X0.here hx rfl (hb hby d_method_2_10) rfl (teq hc103).2 k) ?_
      obtain ⟨T104, X104, e104, st104⟩ := getS2 X0 hx hZ hown (host := "") (Or.inl (hw _ (List.mem_of_getElem? (i := 21) rfl))) Via.refl e0 S1 (g := (mkF m 13 #[.val (.int p1)] [])) rfl (hb hby d_method_2_13)
      refine Go.step (T' := T104) (g' := (mkF m 16 #[.val (.int p1)] [(.ref w1)])) st104 ?_
      exact Go.retA X104 hx (t := (.object "com/example/draftd/draftd/model/EdmType")) hret rfl hlk rfl (hb hby d_method_2_16) (⟨by simp [own_sel, hc101, hc103], N0, e104⟩) (by decide) (by decide)
    · skip
      refine Go.step (T' := s₁) (g' := (mkF m 17 #[.val (.int p1)] [])) (fun _ k => XS.icmpYes X0.here hx rfl (pc0 := 10) (pc' := 17) rfl (hb hby d_method_2_10) rfl (feq hc103).2 (by decide) (by decide) k) ?_
      refine Go.step (T' := s₁) (g' := (mkF m 18 #[.val (.int p1)] [(.int p1)])) (fun _ k => XS.iloadN X0.here hx rfl (hb hby d_method_2_17) rfl  k) ?_
      refine Go.step (T' := s₁) (g' := (mkF m 19 #[.val (.int p1)] [(.int (2 : Int32)), (.int p1)])) (fun _ k => XS.iconst X0.here hx rfl (hb hby d_method_2_18) k) ?_
      by_cases hc105 : p1 = (2 : Int32)
      · skip
        refine Go.step (T' := s₁) (g' := (mkF m 22 #[.val (.int p1)] [])) (fun _ k => XS.icmpNo X0.here hx rfl (hb hby d_method_2_19) rfl (teq hc105).2 k) ?_
        obtain ⟨T106, X106, e106, st106⟩ := getS2 X0 hx hZ hown (host := "") (Or.inl (hw _ (List.mem_of_getElem? (i := 19) rfl))) Via.refl e0 S2 (g := (mkF m 22 #[.val (.int p1)] [])) rfl (hb hby d_method_2_22)
        refine Go.step (T' := T106) (g' := (mkF m 25 #[.val (.int p1)] [(.ref w2)])) st106 ?_
        exact Go.retA X106 hx (t := (.object "com/example/draftd/draftd/model/EdmType")) hret rfl hlk rfl (hb hby d_method_2_25) (⟨by simp [own_sel, hc101, hc103, hc105], N0, e106⟩) (by decide) (by decide)
      · skip
        refine Go.step (T' := s₁) (g' := (mkF m 26 #[.val (.int p1)] [])) (fun _ k => XS.icmpYes X0.here hx rfl (pc0 := 19) (pc' := 26) rfl (hb hby d_method_2_19) rfl (feq hc105).2 (by decide) (by decide) k) ?_
        refine Go.step (T' := s₁) (g' := (mkF m 27 #[.val (.int p1)] [(.int p1)])) (fun _ k => XS.iloadN X0.here hx rfl (hb hby d_method_2_26) rfl  k) ?_
        refine Go.step (T' := s₁) (g' := (mkF m 28 #[.val (.int p1)] [(.int (3 : Int32)), (.int p1)])) (fun _ k => XS.iconst X0.here hx rfl (hb hby d_method_2_27) k) ?_
        by_cases hc107 : p1 = (3 : Int32)
        · skip
          refine Go.step (T' := s₁) (g' := (mkF m 31 #[.val (.int p1)] [])) (fun _ k => XS.icmpNo X0.here hx rfl (hb hby d_method_2_28) rfl (teq hc107).2 k) ?_
          obtain ⟨T108, X108, e108, st108⟩ := getS2 X0 hx hZ hown (host := "") (Or.inl (hw _ (List.mem_of_getElem? (i := 14) rfl))) Via.refl e0 S3 (g := (mkF m 31 #[.val (.int p1)] [])) rfl (hb hby d_method_2_31)
          refine Go.step (T' := T108) (g' := (mkF m 34 #[.val (.int p1)] [(.ref w3)])) st108 ?_
          exact Go.retA X108 hx (t := (.object "com/example/draftd/draftd/model/EdmType")) hret rfl hlk rfl (hb hby d_method_2_34) (⟨by simp [own_sel, hc101, hc103, hc105, hc107], N0, e108⟩) (by decide) (by decide)
        · skip
          refine Go.step (T' := s₁) (g' := (mkF m 35 #[.val (.int p1)] [])) (fun _ k => XS.icmpYes X0.here hx rfl (pc0 := 28) (pc' := 35) rfl (hb hby d_method_2_28) rfl (feq hc107).2 (by decide) (by decide) k) ?_
          refine Go.step (T' := s₁) (g' := (mkF m 36 #[.val (.int p1)] [(.int p1)])) (fun _ k => XS.iloadN X0.here hx rfl (hb hby d_method_2_35) rfl  k) ?_
          refine Go.step (T' := s₁) (g' := (mkF m 37 #[.val (.int p1)] [(.int (4 : Int32)), (.int p1)])) (fun _ k => XS.iconst X0.here hx rfl (hb hby d_method_2_36) k) ?_
          by_cases hc109 : p1 = (4 : Int32)
          · skip
            refine Go.step (T' := s₁) (g' := (mkF m 40 #[.val (.int p1)] [])) (fun _ k => XS.icmpNo X0.here hx rfl (hb hby d_method_2_37) rfl (teq hc109).2 k) ?_
            obtain ⟨T110, X110, e110, st110⟩ := getS2 X0 hx hZ hown (host := "") (Or.inl (hw _ (List.mem_of_getElem? (i := 23) rfl))) Via.refl e0 S4 (g := (mkF m 40 #[.val (.int p1)] [])) rfl (hb hby d_method_2_40)
            refine Go.step (T' := T110) (g' := (mkF m 43 #[.val (.int p1)] [(.ref w4)])) st110 ?_
            exact Go.retA X110 hx (t := (.object "com/example/draftd/draftd/model/EdmType")) hret rfl hlk rfl (hb hby d_method_2_43) (⟨by simp [own_sel, hc101, hc103, hc105, hc107, hc109], N0, e110⟩) (by decide) (by decide)
          · skip
            refine Go.step (T' := s₁) (g' := (mkF m 44 #[.val (.int p1)] [])) (fun _ k => XS.icmpYes X0.here hx rfl (pc0 := 37) (pc' := 44) rfl (hb hby d_method_2_37) rfl (feq hc109).2 (by decide) (by decide) k) ?_
            refine Go.step (T' := s₁) (g' := (mkF m 45 #[.val (.int p1)] [(.int p1)])) (fun _ k => XS.iloadN X0.here hx rfl (hb hby d_method_2_44) rfl  k) ?_
            refine Go.step (T' := s₁) (g' := (mkF m 46 #[.val (.int p1)] [(.int (5 : Int32)), (.int p1)])) (fun _ k => XS.iconst X0.here hx rfl (hb hby d_method_2_45) k) ?_
            by_cases hc111 : p1 = (5 : Int32)
            · skip
              refine Go.step (T' := s₁) (g' := (mkF m 49 #[.val (.int p1)] [])) (fun _ k => XS.icmpNo X0.here hx rfl (hb hby d_method_2_46) rfl (teq hc111).2 k) ?_
              obtain ⟨T112, X112, e112, st112⟩ := getS2 X0 hx hZ hown (host := "") (Or.inl (hw _ (List.mem_of_getElem? (i := 25) rfl))) Via.refl e0 S5 (g := (mkF m 49 #[.val (.int p1)] [])) rfl (hb hby d_method_2_49)
              refine Go.step (T' := T112) (g' := (mkF m 52 #[.val (.int p1)] [(.ref w5)])) st112 ?_
              exact Go.retA X112 hx (t := (.object "com/example/draftd/draftd/model/EdmType")) hret rfl hlk rfl (hb hby d_method_2_52) (⟨by simp [own_sel, hc101, hc103, hc105, hc107, hc109, hc111], N0, e112⟩) (by decide) (by decide)
            · skip
              refine Go.step (T' := s₁) (g' := (mkF m 53 #[.val (.int p1)] [])) (fun _ k => XS.icmpYes X0.here hx rfl (pc0 := 46) (pc' := 53) rfl (hb hby d_method_2_46) rfl (feq hc111).2 (by decide) (by decide) k) ?_
              refine Go.step (T' := s₁) (g' := (mkF m 54 #[.val (.int p1)] [(.int p1)])) (fun _ k => XS.iloadN X0.here hx rfl (hb hby d_method_2_53) rfl  k) ?_
              refine Go.step (T' := s₁) (g' := (mkF m 56 #[.val (.int p1)] [(.int (6 : Int32)), (.int p1)])) (fun _ k => XS.bipush X0.here hx rfl (hb hby d_method_2_54) k) ?_
              by_cases hc113 : p1 = (6 : Int32)
              · skip
                refine Go.step (T' := s₁) (g' := (mkF m 59 #[.val (.int p1)] [])) (fun _ k => XS.icmpNo X0.here hx rfl (hb hby d_method_2_56) rfl (teq hc113).2 k) ?_
                obtain ⟨T114, X114, e114, st114⟩ := getS2 X0 hx hZ hown (host := "") (Or.inl (hw _ (List.mem_of_getElem? (i := 15) rfl))) Via.refl e0 S6 (g := (mkF m 59 #[.val (.int p1)] [])) rfl (hb hby d_method_2_59)
                refine Go.step (T' := T114) (g' := (mkF m 62 #[.val (.int p1)] [(.ref w6)])) st114 ?_
                exact Go.retA X114 hx (t := (.object "com/example/draftd/draftd/model/EdmType")) hret rfl hlk rfl (hb hby d_method_2_62) (⟨by simp [own_sel, hc101, hc103, hc105, hc107, hc109, hc111, hc113], N0, e114⟩) (by decide) (by decide)
              · skip
                refine Go.step (T' := s₁) (g' := (mkF m 63 #[.val (.int p1)] [])) (fun _ k => XS.icmpYes X0.here hx rfl (pc0 := 56) (pc' := 63) rfl (hb hby d_method_2_56) rfl (feq hc113).2 (by decide) (by decide) k) ?_
                obtain ⟨T115, X115, e115, st115⟩ := getS2 X0 hx hZ hown (host := "") (Or.inl (hw _ (List.mem_of_getElem? (i := 17) rfl))) Via.refl e0 S7 (g := (mkF m 63 #[.val (.int p1)] [])) rfl (hb hby d_method_2_63)
                refine Go.step (T' := T115) (g' := (mkF m 66 #[.val (.int p1)] [(.ref w7)])) st115 ?_
                exact Go.retA X115 hx (t := (.object "com/example/draftd/draftd/model/EdmType")) hret rfl hlk rfl (hb hby d_method_2_66) (⟨by simp [own_sel, hc101, hc103, hc105, hc107, hc109, hc111, hc113], N0, e115⟩) (by decide) (by decide)
theorem own_ef_prog_19_method_7_code_R (m : MethodId) (x0 : Addr) : entryFrame m #[(.ref x0)] 1 = mkF m 0 #[.val (.ref x0)] [] := by first | (simp [entryFrame, mkF, argsToLocals, Value.category]; done) | rfl
theorem own_pn_EdmType : plainName "com/example/draftd/draftd/model/EdmType" = true := by first | (simp [plainName, overriddenIn]; done) | decide +kernel
theorem d_prog_19_method_7_0 : decode prog_19_method_7_code 0 = .ok (.aload_n 0, 1) := by decide +kernel
theorem d_prog_19_method_7_1 : decode prog_19_method_7_code 1 = .ok (.getstatic 13, 3) := by decide +kernel
theorem d_prog_19_method_7_4 : decode prog_19_method_7_code 4 = .ok (.if_acmp .ne 7, 3) := by decide +kernel
theorem d_prog_19_method_7_7 : decode prog_19_method_7_code 7 = .ok (.iconst 1, 1) := by decide +kernel
theorem d_prog_19_method_7_8 : decode prog_19_method_7_code 8 = .ok (.goto 4, 3) := by decide +kernel
theorem d_prog_19_method_7_12 : decode prog_19_method_7_code 12 = .ok (.ireturn, 1) := by decide +kernel
theorem d_prog_19_method_7_11 : decode prog_19_method_7_code 11 = .ok (.iconst 0, 1) := by decide +kernel
set_option maxRecDepth 65536 in
set_option maxHeartbeats 40000000 in
theorem own_iss (l : Launch) (Z : State) (a0 : Array Value) (hw : ∀ d ∈ tables_1, d.before a0 Z = true) (ws : List Jvm.Cond) (a1 w3 : Addr) (h0 : Heap) (n0 : Nat) (Z0 : n0 ≤ h0.size) (S3 : Sta Z h0 "com/example/draftd/draftd/model/EdmType" "DECIMAL" "Lcom/example/draftd/draftd/model/EdmType;" (.ref w3)) :
    Con l Z (⟨"com/example/draftd/draftd/model/EdmType", "isStringWhenIeee754Compatible", "()Z"⟩ : MethodName) prog_19_method_7_code 1 (some .boolean) ({ frames := 0, cells := 0, slots := 0, locals := 0 } : Room) ws #[(.ref a1)] h0 (Qret (some (.int (if a1 = w3 then 1 else 0))) h0 n0) 0 0 := by
  refine Con.of (plainFor_of_name own_pn_EdmType) ?_
  intro p e s m below meth c s₁ X0 hx hZ hby hml hown hnm hret hlk e0 hs0
  have N0 := Fr.nil n0
  have hown : s.vm.findClass "com/example/draftd/draftd/model/EdmType" = some m.cls := hown
  have hnm : meth.name = "isStringWhenIeee754Compatible" := hnm
  refine Go.cast (own_ef_prog_19_method_7_code_R m a1) ?_
  refine Go.step (T' := s₁) (g' := (mkF m 1 #[.val (.ref a1)] [(.ref a1)])) (fun _ k => XS.aloadN X0.here hx rfl (hb hby d_prog_19_method_7_0) rfl rfl k) ?_
  obtain ⟨T101, X101, e101, st101⟩ := getS2 X0 hx hZ hown (host := "") (Or.inl (hw _ (List.mem_of_getElem? (i := 12) rfl))) Via.refl e0 S3 (g := (mkF m 1 #[.val (.ref a1)] [(.ref a1)])) rfl (hb hby d_prog_19_method_7_1)
  refine Go.step (T' := T101) (g' := (mkF m 4 #[.val (.ref a1)] [(.ref w3), (.ref a1)])) st101 ?_
  by_cases ha102 : a1 = w3
  · skip
    refine Go.step (T' := T101) (g' := (mkF m 7 #[.val (.ref a1)] [])) (fun _ k => Jvm.RoadKit.acmp (g := (mkF m 4 #[.val (.ref a1)] [(.ref w3), (.ref a1)])) X101 hx rfl rfl rfl (pc0 := 4) (pc' := 7) (same := true) rfl (hb hby d_prog_19_method_7_4) rfl (decide_eq_true (congrArg Value.ref ha102)) (by decide) (by decide) k) ?_
    refine Go.step (T' := T101) (g' := (mkF m 8 #[.val (.ref a1)] [(.int (1 : Int32))])) (fun _ k => XS.iconst X101.here hx rfl (hb hby d_prog_19_method_7_7) k) ?_
    refine Go.step (T' := T101) (g' := (mkF m 12 #[.val (.ref a1)] [(.int (1 : Int32))])) (fun _ k => XS.goto X101.here hx rfl (pc0 := 8) (pc' := 12) rfl (hb hby d_prog_19_method_7_8) (by decide) (by decide) k) ?_
    exact Go.retN X101 hx (t := .boolean) hret hlk (by simp) (hb hby d_prog_19_method_7_12) (⟨by simp [nar, *], N0, e101⟩) (by decide) (by decide)
  · skip
    refine Go.step (T' := T101) (g' := (mkF m 11 #[.val (.ref a1)] [])) (fun _ k => Jvm.RoadKit.acmp (g := (mkF m 4 #[.val (.ref a1)] [(.ref w3), (.ref a1)])) X101 hx rfl rfl rfl (pc0 := 4) (pc' := 11) (same := false) rfl (hb hby d_prog_19_method_7_4) rfl (decide_eq_false fun q => ha102 (Value.ref.inj q)) (by decide) (by decide) k) ?_
    refine Go.step (T' := T101) (g' := (mkF m 12 #[.val (.ref a1)] [(.int (0 : Int32))])) (fun _ k => XS.iconst X101.here hx rfl (hb hby d_prog_19_method_7_11) k) ?_
    exact Go.retN X101 hx (t := .boolean) hret hlk (by simp) (hb hby d_prog_19_method_7_12) (⟨by simp [nar, *], N0, e101⟩) (by decide) (by decide)
theorem own_ef_code_I (m : MethodId) (x0 : Int32) : entryFrame m #[(.int x0)] maxLocals = mkF m 0 #[.val (.int x0), .unset, .unset, .unset] [] := by first | (simp [entryFrame, mkF, argsToLocals, Value.category, maxLocals]; done) | rfl
theorem own_pd0 : parseMethodDescriptor "(I)Lcom/example/draftd/draftd/model/EdmType;" = some ⟨[.int], some (.object "com/example/draftd/draftd/model/EdmType")⟩ := by decide +kernel
theorem own_pd1 : parseMethodDescriptor "()Z" = some ⟨[], some .boolean⟩ := by decide +kernel
set_option maxRecDepth 65536 in
set_option maxHeartbeats 40000000 in
theorem rm0 (l : Launch) (Z : State) (a0 : Array Value) (hw : ∀ d ∈ tables_1, d.before a0 Z = true) (ws : List Jvm.Cond) (p1 : Int32) (w0 w1 w2 w3 w4 w5 w6 w7 : Addr) (h0 : Heap) (n0 : Nat) (Z0 : n0 ≤ h0.size) (S0 : Sta Z h0 "com/example/draftd/draftd/model/EdmType" "STRING" "Lcom/example/draftd/draftd/model/EdmType;" (.ref w0)) (S1 : Sta Z h0 "com/example/draftd/draftd/model/EdmType" "INT32" "Lcom/example/draftd/draftd/model/EdmType;" (.ref w1)) (S2 : Sta Z h0 "com/example/draftd/draftd/model/EdmType" "BYTE" "Lcom/example/draftd/draftd/model/EdmType;" (.ref w2)) (S3 : Sta Z h0 "com/example/draftd/draftd/model/EdmType" "DECIMAL" "Lcom/example/draftd/draftd/model/EdmType;" (.ref w3)) (S4 : Sta Z h0 "com/example/draftd/draftd/model/EdmType" "DATE" "Lcom/example/draftd/draftd/model/EdmType;" (.ref w4)) (S5 : Sta Z h0 "com/example/draftd/draftd/model/EdmType" "BOOLEAN" "Lcom/example/draftd/draftd/model/EdmType;" (.ref w5)) (S6 : Sta Z h0 "com/example/draftd/draftd/model/EdmType" "GUID" "Lcom/example/draftd/draftd/model/EdmType;" (.ref w6)) (S7 : Sta Z h0 "com/example/draftd/draftd/model/EdmType" "DATE_TIME_OFFSET" "Lcom/example/draftd/draftd/model/EdmType;" (.ref w7)) (EE : Exa Z h0 (own_sel w0 w1 w2 w3 w4 w5 w6 w7 (p1 &&& (7 : Int32))) "com/example/draftd/draftd/model/EdmType") (HS : (own_sel w0 w1 w2 w3 w4 w5 w6 w7 (p1 &&& (7 : Int32))) = w3 ↔ (p1 &&& (7 : Int32)) = 3) :
    Con l Z x code maxLocals ret room_1 ws #[(.int p1)] h0 (Q0 n0) 0 0 := by
  refine Con.of (plainFor_of_name own_pn_EdmTypeIsStringWhenIeee754CompatiblePinLaw) ?_
  intro p e s m below meth c s₁ X0 hx hZ hby hml hown hnm hret hlk e0 hs0
  have N0 := Fr.nil n0
  have hown : s.vm.findClass "com/example/draftd/draftd/model/EdmTypeIsStringWhenIeee754CompatiblePinLaw" = some m.cls := hown
  have hnm : meth.name = "law" := hnm
  refine Go.cast (own_ef_code_I m p1) ?_
  refine Go.step (T' := s₁) (g' := (mkF m 1 #[.val (.int p1), .unset, .unset, .unset] [(.int p1)])) (fun _ k => XS.iloadN X0.here hx rfl (hb hby at_0) rfl  k) ?_
  refine Go.step (T' := s₁) (g' := (mkF m 3 #[.val (.int p1), .unset, .unset, .unset] [(.int (7 : Int32)), (.int p1)])) (fun _ k => XS.bipush X0.here hx rfl (hb hby at_1) k) ?_
  refine Go.step (T' := s₁) (g' := (mkF m 4 #[.val (.int p1), .unset, .unset, .unset] [(.int (p1 &&& (7 : Int32)))])) (fun _ k => XS.iand X0.here hx rfl (hb hby at_3) rfl k) ?_
  refine Go.step (T' := s₁) (g' := (mkF m 5 #[.val (.int p1), .val (.int (p1 &&& (7 : Int32))), .unset, .unset] [])) (fun _ k => XS.istoreN X0.here hx rfl (hb hby at_4) rfl (l' := #[.val (.int p1), .val (.int (p1 &&& (7 : Int32))), .unset, .unset]) rfl k) ?_
  refine Go.step (T' := s₁) (g' := (mkF m 6 #[.val (.int p1), .val (.int (p1 &&& (7 : Int32))), .unset, .unset] [(.int (p1 &&& (7 : Int32)))])) (fun _ k => XS.iloadN X0.here hx rfl (hb hby at_5) rfl  k) ?_
  obtain ⟨_, _, ⟨T101, L101, k101, n101⟩, -, X101, ⟨Lc101, hQ101, l101, y101, z101⟩, st101⟩ := Jvm.LawKit.callS X0 hx (y := (⟨"com/example/draftd/draftd/model/EdmTypeIsStringWhenIeee754CompatiblePinLaw", "pick", "(I)Lcom/example/draftd/draftd/model/EdmType;"⟩ : MethodName)) hown (mvT hZ (hw _ (List.mem_of_getElem? (i := 0) rfl))) (mvT hZ (hw _ (List.mem_of_getElem? (i := 1) rfl))) (mvT hZ (hw _ (List.mem_of_getElem? (i := 2) rfl))) (mvT hZ (hw _ (List.mem_of_getElem? (i := 3) rfl))) (by decide) (backOf (W := 0) (Q := Qret (some (.ref (own_sel w0 w1 w2 w3 w4 w5 w6 w7 (p1 &&& (7 : Int32))))) h0 n0) (own_pick l Z a0 hw [] (p1 &&& (7 : Int32)) w0 w1 w2 w3 w4 w5 w6 w7 h0 n0 Z0 S0 S1 S2 S3 S4 S5 S6 S7) hZ (hw _ (List.mem_of_getElem? (i := 3) rfl)) (hw _ (List.mem_of_getElem? (i := 2) rfl)) (by decide) (by decide)) (g := (mkF m 6 #[.val (.int p1), .val (.int (p1 &&& (7 : Int32))), .unset, .unset] [(.int (p1 &&& (7 : Int32)))])) rfl (by rw [hml]; rfl) (argsL := [(.int (p1 &&& (7 : Int32)))]) (rest := []) (lenOf own_pd0 rfl) rfl (by show 2 * 0 + _ ≤ _; exact Nat.le_of_eq rfl) (hb hby at_6) (fun _ _ => ⟨rfl, e0, (by decide : 0 + 0 ≤ _), (by decide : 0 + 0 ≤ _)⟩)
  dsimp only [Pt.U, Pt.locs, Pt.cells, Pt.slots] at X101 l101 y101 z101 st101 hQ101
  subst l101 y101 z101
  obtain ⟨rfl, N101q, eh101⟩ := hQ101
  have N101 := Fr.app N0 N101q
  refine Go.step (T' := T101) (g' := (mkF m 9 #[.val (.int p1), .val (.int (p1 &&& (7 : Int32))), .unset, .unset] [(.ref (own_sel w0 w1 w2 w3 w4 w5 w6 w7 (p1 &&& (7 : Int32))))])) (st101) ?_
  refine Go.step (T' := T101) (g' := (mkF m 10 #[.val (.int p1), .val (.int (p1 &&& (7 : Int32))), .val (.ref (own_sel w0 w1 w2 w3 w4 w5 w6 w7 (p1 &&& (7 : Int32)))), .unset] [])) (fun _ k => XS.astoreN X101.here hx rfl (hb hby at_9) rfl rfl (l' := #[.val (.int p1), .val (.int (p1 &&& (7 : Int32))), .val (.ref (own_sel w0 w1 w2 w3 w4 w5 w6 w7 (p1 &&& (7 : Int32)))), .unset]) rfl k) ?_
  refine Go.step (T' := T101) (g' := (mkF m 11 #[.val (.int p1), .val (.int (p1 &&& (7 : Int32))), .val (.ref (own_sel w0 w1 w2 w3 w4 w5 w6 w7 (p1 &&& (7 : Int32)))), .unset] [(.int (p1 &&& (7 : Int32)))])) (fun _ k => XS.iloadN X101.here hx rfl (hb hby at_10) rfl  k) ?_
  refine Go.step (T' := T101) (g' := (mkF m 12 #[.val (.int p1), .val (.int (p1 &&& (7 : Int32))), .val (.ref (own_sel w0 w1 w2 w3 w4 w5 w6 w7 (p1 &&& (7 : Int32)))), .unset] [(.int (3 : Int32)), (.int (p1 &&& (7 : Int32)))])) (fun _ k => XS.iconst X101.here hx rfl (hb hby at_11) k) ?_
  by_cases hc102 : (p1 &&& (7 : Int32)) = (3 : Int32)
  · skip
    refine Go.step (T' := T101) (g' := (mkF m 15 #[.val (.int p1), .val (.int (p1 &&& (7 : Int32))), .val (.ref (own_sel w0 w1 w2 w3 w4 w5 w6 w7 (p1 &&& (7 : Int32)))), .unset] [])) (fun _ k => XS.icmpNo X101.here hx rfl (hb hby at_12) rfl (teq hc102).2 k) ?_
    refine Go.step (T' := T101) (g' := (mkF m 16 #[.val (.int p1), .val (.int (p1 &&& (7 : Int32))), .val (.ref (own_sel w0 w1 w2 w3 w4 w5 w6 w7 (p1 &&& (7 : Int32)))), .unset] [(.int (1 : Int32))])) (fun _ k => XS.iconst X101.here hx rfl (hb hby at_15) k) ?_
    refine Go.step (T' := T101) (g' := (mkF m 20 #[.val (.int p1), .val (.int (p1 &&& (7 : Int32))), .val (.ref (own_sel w0 w1 w2 w3 w4 w5 w6 w7 (p1 &&& (7 : Int32)))), .unset] [(.int (1 : Int32))])) (fun _ k => XS.goto X101.here hx rfl (pc0 := 16) (pc' := 20) rfl (hb hby at_16) (by decide) (by decide) k) ?_
    refine Go.step (T' := T101) (g' := (mkF m 21 #[.val (.int p1), .val (.int (p1 &&& (7 : Int32))), .val (.ref (own_sel w0 w1 w2 w3 w4 w5 w6 w7 (p1 &&& (7 : Int32)))), .val (.int (1 : Int32))] [])) (fun _ k => XS.istoreN X101.here hx rfl (hb hby at_20) rfl (l' := #[.val (.int p1), .val (.int (p1 &&& (7 : Int32))), .val (.ref (own_sel w0 w1 w2 w3 w4 w5 w6 w7 (p1 &&& (7 : Int32)))), .val (.int (1 : Int32))]) rfl k) ?_
    refine Go.step (T' := T101) (g' := (mkF m 22 #[.val (.int p1), .val (.int (p1 &&& (7 : Int32))), .val (.ref (own_sel w0 w1 w2 w3 w4 w5 w6 w7 (p1 &&& (7 : Int32)))), .val (.int (1 : Int32))] [(.ref (own_sel w0 w1 w2 w3 w4 w5 w6 w7 (p1 &&& (7 : Int32))))])) (fun _ k => XS.aloadN X101.here hx rfl (hb hby at_21) rfl rfl k) ?_
    obtain ⟨cq103, kq103, q103a, q103b, q103c⟩ := isOf hZ eh101 EE
    obtain ⟨_, _, ⟨T103, L103, k103, n103⟩, -, X103, ⟨Lc103, hQ103, l103, y103, z103⟩, st103⟩ := X101.virtualBack hx (y := (⟨"com/example/draftd/draftd/model/EdmType", "isStringWhenIeee754Compatible", "()Z"⟩ : MethodName)) (z := (⟨"com/example/draftd/draftd/model/EdmType", "isStringWhenIeee754Compatible", "()Z"⟩ : MethodName)) hown (mvT hZ (hw _ (List.mem_of_getElem? (i := 7) rfl))) (mvT hZ (hw _ (List.mem_of_getElem? (i := 8) rfl))) (notFace_of_selects (args := #[]) (mvT hZ (hw _ (List.mem_of_getElem? (i := 10) rfl)))) (mvT hZ (hw _ (List.mem_of_getElem? (i := 10) rfl))) (mvT hZ (hw _ (List.mem_of_getElem? (i := 9) rfl))) (by decide) (backOf (W := 0) (Q := Qret (some (.int (if (own_sel w0 w1 w2 w3 w4 w5 w6 w7 (p1 &&& (7 : Int32))) = w3 then 1 else 0))) h0 n0) (own_iss l Z a0 hw [] (own_sel w0 w1 w2 w3 w4 w5 w6 w7 (p1 &&& (7 : Int32))) w3 h0 n0 Z0 S3) hZ (hw _ (List.mem_of_getElem? (i := 11) rfl)) (hw _ (List.mem_of_getElem? (i := 5) rfl)) (by decide) (by decide)) q103a q103c (g := (mkF m 22 #[.val (.int p1), .val (.int (p1 &&& (7 : Int32))), .val (.ref (own_sel w0 w1 w2 w3 w4 w5 w6 w7 (p1 &&& (7 : Int32)))), .val (.int (1 : Int32))] [(.ref (own_sel w0 w1 w2 w3 w4 w5 w6 w7 (p1 &&& (7 : Int32))))])) rfl (by rw [hml]; rfl) (Steps.refl _) (argsL := []) (rest := []) (lenOf own_pd1 rfl) rfl (by show 2 * 0 + _ ≤ _; exact Nat.le_of_eq rfl) (hb hby at_22) (fun _ _ => ⟨rfl, eh101, (by decide : 0 + 0 ≤ _), (by decide : 0 + 0 ≤ _)⟩)
    dsimp only [Pt.U, Pt.locs, Pt.cells, Pt.slots] at X103 l103 y103 z103 st103 hQ103
    subst l103 y103 z103
    obtain ⟨rfl, N103q, eh103⟩ := hQ103
    have N103 := Fr.app N101 N103q
    refine Go.step (T' := T103) (g' := (mkF m 25 #[.val (.int p1), .val (.int (p1 &&& (7 : Int32))), .val (.ref (own_sel w0 w1 w2 w3 w4 w5 w6 w7 (p1 &&& (7 : Int32)))), .val (.int (1 : Int32))] [(.int (if (own_sel w0 w1 w2 w3 w4 w5 w6 w7 (p1 &&& (7 : Int32))) = w3 then 1 else 0))])) (fun _ k => st103.trans k) ?_
    refine Go.step (T' := T103) (g' := (mkF m 26 #[.val (.int p1), .val (.int (p1 &&& (7 : Int32))), .val (.ref (own_sel w0 w1 w2 w3 w4 w5 w6 w7 (p1 &&& (7 : Int32)))), .val (.int (1 : Int32))] [(.int (1 : Int32)), (.int (if (own_sel w0 w1 w2 w3 w4 w5 w6 w7 (p1 &&& (7 : Int32))) = w3 then 1 else 0))])) (fun _ k => XS.iloadN X103.here hx rfl (hb hby at_25) rfl  k) ?_
    have hq : (if (own_sel w0 w1 w2 w3 w4 w5 w6 w7 (p1 &&& (7 : Int32))) = w3 then 1 else 0) = (1 : Int32) := by first | exact if_pos (HS.mpr hc102) | exact if_neg (fun q => hc102 (HS.mp q))
    refine Go.step (T' := T103) (g' := (mkF m 29 #[.val (.int p1), .val (.int (p1 &&& (7 : Int32))), .val (.ref (own_sel w0 w1 w2 w3 w4 w5 w6 w7 (p1 &&& (7 : Int32)))), .val (.int (1 : Int32))] [])) (fun _ k => XS.icmpNo X103.here hx rfl (hb hby at_26) rfl (teq hq).2 k) ?_
    refine Go.step (T' := T103) (g' := (mkF m 30 #[.val (.int p1), .val (.int (p1 &&& (7 : Int32))), .val (.ref (own_sel w0 w1 w2 w3 w4 w5 w6 w7 (p1 &&& (7 : Int32)))), .val (.int (1 : Int32))] [(.int (1 : Int32))])) (fun _ k => XS.iconst X103.here hx rfl (hb hby at_29) k) ?_
    refine Go.step (T' := T103) (g' := (mkF m 34 #[.val (.int p1), .val (.int (p1 &&& (7 : Int32))), .val (.ref (own_sel w0 w1 w2 w3 w4 w5 w6 w7 (p1 &&& (7 : Int32)))), .val (.int (1 : Int32))] [(.int (1 : Int32))])) (fun _ k => XS.goto X103.here hx rfl (pc0 := 30) (pc' := 34) rfl (hb hby at_30) (by decide) (by decide) k) ?_
    exact Go.retN X103 hx (t := .boolean) hret hlk (by simp) (hb hby at_34) (⟨rfl, N103⟩) (by decide) (by decide)
  · skip
    refine Go.step (T' := T101) (g' := (mkF m 19 #[.val (.int p1), .val (.int (p1 &&& (7 : Int32))), .val (.ref (own_sel w0 w1 w2 w3 w4 w5 w6 w7 (p1 &&& (7 : Int32)))), .unset] [])) (fun _ k => XS.icmpYes X101.here hx rfl (pc0 := 12) (pc' := 19) rfl (hb hby at_12) rfl (feq hc102).2 (by decide) (by decide) k) ?_
    refine Go.step (T' := T101) (g' := (mkF m 20 #[.val (.int p1), .val (.int (p1 &&& (7 : Int32))), .val (.ref (own_sel w0 w1 w2 w3 w4 w5 w6 w7 (p1 &&& (7 : Int32)))), .unset] [(.int (0 : Int32))])) (fun _ k => XS.iconst X101.here hx rfl (hb hby at_19) k) ?_
    refine Go.step (T' := T101) (g' := (mkF m 21 #[.val (.int p1), .val (.int (p1 &&& (7 : Int32))), .val (.ref (own_sel w0 w1 w2 w3 w4 w5 w6 w7 (p1 &&& (7 : Int32)))), .val (.int (0 : Int32))] [])) (fun _ k => XS.istoreN X101.here hx rfl (hb hby at_20) rfl (l' := #[.val (.int p1), .val (.int (p1 &&& (7 : Int32))), .val (.ref (own_sel w0 w1 w2 w3 w4 w5 w6 w7 (p1 &&& (7 : Int32)))), .val (.int (0 : Int32))]) rfl k) ?_
    refine Go.step (T' := T101) (g' := (mkF m 22 #[.val (.int p1), .val (.int (p1 &&& (7 : Int32))), .val (.ref (own_sel w0 w1 w2 w3 w4 w5 w6 w7 (p1 &&& (7 : Int32)))), .val (.int (0 : Int32))] [(.ref (own_sel w0 w1 w2 w3 w4 w5 w6 w7 (p1 &&& (7 : Int32))))])) (fun _ k => XS.aloadN X101.here hx rfl (hb hby at_21) rfl rfl k) ?_
    obtain ⟨cq104, kq104, q104a, q104b, q104c⟩ := isOf hZ eh101 EE
    obtain ⟨_, _, ⟨T104, L104, k104, n104⟩, -, X104, ⟨Lc104, hQ104, l104, y104, z104⟩, st104⟩ := X101.virtualBack hx (y := (⟨"com/example/draftd/draftd/model/EdmType", "isStringWhenIeee754Compatible", "()Z"⟩ : MethodName)) (z := (⟨"com/example/draftd/draftd/model/EdmType", "isStringWhenIeee754Compatible", "()Z"⟩ : MethodName)) hown (mvT hZ (hw _ (List.mem_of_getElem? (i := 7) rfl))) (mvT hZ (hw _ (List.mem_of_getElem? (i := 8) rfl))) (notFace_of_selects (args := #[]) (mvT hZ (hw _ (List.mem_of_getElem? (i := 10) rfl)))) (mvT hZ (hw _ (List.mem_of_getElem? (i := 10) rfl))) (mvT hZ (hw _ (List.mem_of_getElem? (i := 9) rfl))) (by decide) (backOf (W := 0) (Q := Qret (some (.int (if (own_sel w0 w1 w2 w3 w4 w5 w6 w7 (p1 &&& (7 : Int32))) = w3 then 1 else 0))) h0 n0) (own_iss l Z a0 hw [] (own_sel w0 w1 w2 w3 w4 w5 w6 w7 (p1 &&& (7 : Int32))) w3 h0 n0 Z0 S3) hZ (hw _ (List.mem_of_getElem? (i := 11) rfl)) (hw _ (List.mem_of_getElem? (i := 5) rfl)) (by decide) (by decide)) q104a q104c (g := (mkF m 22 #[.val (.int p1), .val (.int (p1 &&& (7 : Int32))), .val (.ref (own_sel w0 w1 w2 w3 w4 w5 w6 w7 (p1 &&& (7 : Int32)))), .val (.int (0 : Int32))] [(.ref (own_sel w0 w1 w2 w3 w4 w5 w6 w7 (p1 &&& (7 : Int32))))])) rfl (by rw [hml]; rfl) (Steps.refl _) (argsL := []) (rest := []) (lenOf own_pd1 rfl) rfl (by show 2 * 0 + _ ≤ _; exact Nat.le_of_eq rfl) (hb hby at_22) (fun _ _ => ⟨rfl, eh101, (by decide : 0 + 0 ≤ _), (by decide : 0 + 0 ≤ _)⟩)
    dsimp only [Pt.U, Pt.locs, Pt.cells, Pt.slots] at X104 l104 y104 z104 st104 hQ104
    subst l104 y104 z104
    obtain ⟨rfl, N104q, eh104⟩ := hQ104
    have N104 := Fr.app N101 N104q
    refine Go.step (T' := T104) (g' := (mkF m 25 #[.val (.int p1), .val (.int (p1 &&& (7 : Int32))), .val (.ref (own_sel w0 w1 w2 w3 w4 w5 w6 w7 (p1 &&& (7 : Int32)))), .val (.int (0 : Int32))] [(.int (if (own_sel w0 w1 w2 w3 w4 w5 w6 w7 (p1 &&& (7 : Int32))) = w3 then 1 else 0))])) (fun _ k => st104.trans k) ?_
    refine Go.step (T' := T104) (g' := (mkF m 26 #[.val (.int p1), .val (.int (p1 &&& (7 : Int32))), .val (.ref (own_sel w0 w1 w2 w3 w4 w5 w6 w7 (p1 &&& (7 : Int32)))), .val (.int (0 : Int32))] [(.int (0 : Int32)), (.int (if (own_sel w0 w1 w2 w3 w4 w5 w6 w7 (p1 &&& (7 : Int32))) = w3 then 1 else 0))])) (fun _ k => XS.iloadN X104.here hx rfl (hb hby at_25) rfl  k) ?_
    have hq : (if (own_sel w0 w1 w2 w3 w4 w5 w6 w7 (p1 &&& (7 : Int32))) = w3 then 1 else 0) = (0 : Int32) := by first | exact if_pos (HS.mpr hc102) | exact if_neg (fun q => hc102 (HS.mp q))
    refine Go.step (T' := T104) (g' := (mkF m 29 #[.val (.int p1), .val (.int (p1 &&& (7 : Int32))), .val (.ref (own_sel w0 w1 w2 w3 w4 w5 w6 w7 (p1 &&& (7 : Int32)))), .val (.int (0 : Int32))] [])) (fun _ k => XS.icmpNo X104.here hx rfl (hb hby at_26) rfl (teq hq).2 k) ?_
    refine Go.step (T' := T104) (g' := (mkF m 30 #[.val (.int p1), .val (.int (p1 &&& (7 : Int32))), .val (.ref (own_sel w0 w1 w2 w3 w4 w5 w6 w7 (p1 &&& (7 : Int32)))), .val (.int (0 : Int32))] [(.int (1 : Int32))])) (fun _ k => XS.iconst X104.here hx rfl (hb hby at_29) k) ?_
    refine Go.step (T' := T104) (g' := (mkF m 34 #[.val (.int p1), .val (.int (p1 &&& (7 : Int32))), .val (.ref (own_sel w0 w1 w2 w3 w4 w5 w6 w7 (p1 &&& (7 : Int32)))), .val (.int (0 : Int32))] [(.int (1 : Int32))])) (fun _ k => XS.goto X104.here hx rfl (pc0 := 30) (pc' := 34) rfl (hb hby at_30) (by decide) (by decide) k) ?_
    exact Go.retN X104 hx (t := .boolean) hret hlk (by simp) (hb hby at_34) (⟨rfl, N104⟩) (by decide) (by decide)
set_option maxRecDepth 65536 in
set_option maxHeartbeats 40000000 in
theorem comes_1 {Post : Tables → Env → Array Value → State → Outcome → State → Prop} (hpost : ∀ tb e args s v u, (limb_1_1.after args s (.returned v) u = true ∧ limb_1_2.after args s (.returned v) u = true ∧ True) → FrameEnd s (.returned v) u (Jvm.fieldLocs frame_1_writes args s ++ Jvm.arrayLocs frame_1_arrays args s ++ Jvm.staticLocs frame_1_statics s) 0 0 → Post tb e args s (.returned v) u) :
    ArmFor flags0 classFile x code maxLocals ret World_1 tables_1 room_1 Calls_1 rest_1 Pre_1 Post := by
  intro l hfl _ _ p e ha hc hk s m args below hf hA hF happ hP
  obtain ⟨hcalls, hrest, hpre⟩ := hP
  obtain ⟨-, -, -, hnamed, -, -, -, hat⟩ := (Spec.applies_iff hf).mp happ
  obtain ⟨hg, hn⟩ := and_e (Cond.before_iff.mp (show (Jvm.Cond.and given_1 narrow_1).before args s = true from hpre))
  obtain ⟨g0a, g0b⟩ := and_e hg
  obtain ⟨vw0, rfl⟩ : ∃ vw0 : Value, args = #[vw0] := by
    have hs : args.size = 1 := by simpa [Cond.value, given_1] using g0a
    obtain ⟨L⟩ := args
    match L, hs with
    | [vw0], _ => exact ⟨vw0, rfl⟩
  have hw := fun d (hd : d ∈ tables_1) => atoms_spec (ws := Jvm.Cond.code x code maxLocals ret :: tables_1) hat d (List.mem_cons_of_mem _ hd)
  have hfit : Fit s := fun {y c} hc i hi => by
    obtain ⟨ha, rfl⟩ := Array.getElem?_eq_some_iff.mp hc
    have q := List.all_eq_true.mp ((Array.all_eq_true_iff_forall_mem.mp hF) _ (Array.getElem_mem ha)) i (List.mem_range.mpr hi)
    simpa [Array.getElem?_eq_getElem hi] using q
  obtain ⟨i0, ei0⟩ := is_v g0b
  obtain rfl : vw0 = (.int i0) := Option.some.inj ei0
  obtain ⟨m0a, m0b⟩ := and_e hn
  obtain ⟨m1a, m1b⟩ := and_e m0b
  obtain ⟨m2a, m2b⟩ := and_e m1b
  obtain ⟨m3a, m3b⟩ := and_e m2b
  obtain ⟨m4a, m4b⟩ := and_e m3b
  obtain ⟨m5a, m5b⟩ := and_e m4b
  obtain ⟨m6a, m6b⟩ := and_e m5b
  obtain ⟨m7a, m7b⟩ := and_e m6b
  obtain ⟨m8a, m8b⟩ := and_e m7b
  obtain ⟨m9a, m9b⟩ := and_e m8b
  obtain ⟨m10a, m10b⟩ := and_e m9b
  obtain ⟨m11a, m11b⟩ := and_e m10b
  obtain ⟨m12a, m12b⟩ := and_e m11b
  obtain ⟨m13a, m13b⟩ := and_e m12b
  obtain ⟨m14a, m14b⟩ := and_e m13b
  obtain ⟨w0, ev0⟩ := exa_v m0a
  have S0 := Sta.start ev0 (Or.inr ⟨(hw _ (List.mem_of_getElem? (i := 5) rfl)), (hw _ (List.mem_of_getElem? (i := 6) rfl))⟩)
  have E0 := Exa.start ev0 m0a
  have F0 := Fld.start ((fld_at ev0).symm.trans (own_eqI m2a))
  obtain ⟨w1, ev1⟩ := exa_v m10a
  have S1 := Sta.start ev1 (Or.inr ⟨(hw _ (List.mem_of_getElem? (i := 5) rfl)), (hw _ (List.mem_of_getElem? (i := 22) rfl))⟩)
  have E1 := Exa.start ev1 m10a
  have F1 := Fld.start ((fld_at ev1).symm.trans (own_eqI m11a))
  obtain ⟨w2, ev2⟩ := exa_v m8a
  have S2 := Sta.start ev2 (Or.inr ⟨(hw _ (List.mem_of_getElem? (i := 5) rfl)), (hw _ (List.mem_of_getElem? (i := 20) rfl))⟩)
  have E2 := Exa.start ev2 m8a
  have F2 := Fld.start ((fld_at ev2).symm.trans (own_eqI m9a))
  obtain ⟨w3, ev3⟩ := exa_v m1a
  have S3 := Sta.start ev3 (Or.inr ⟨(hw _ (List.mem_of_getElem? (i := 5) rfl)), (hw _ (List.mem_of_getElem? (i := 13) rfl))⟩)
  have E3 := Exa.start ev3 m1a
  have F3 := Fld.start ((fld_at ev3).symm.trans (own_eqI m3a))
  obtain ⟨w4, ev4⟩ := exa_v m12a
  have S4 := Sta.start ev4 (Or.inr ⟨(hw _ (List.mem_of_getElem? (i := 5) rfl)), (hw _ (List.mem_of_getElem? (i := 24) rfl))⟩)
  have E4 := Exa.start ev4 m12a
  have F4 := Fld.start ((fld_at ev4).symm.trans (own_eqI m13a))
  obtain ⟨w5, ev5⟩ := exa_v m14a
  have S5 := Sta.start ev5 (Or.inr ⟨(hw _ (List.mem_of_getElem? (i := 5) rfl)), (hw _ (List.mem_of_getElem? (i := 26) rfl))⟩)
  have E5 := Exa.start ev5 m14a
  have F5 := Fld.start ((fld_at ev5).symm.trans (own_eqI m14b))
  obtain ⟨w6, ev6⟩ := exa_v m4a
  have S6 := Sta.start ev6 (Or.inr ⟨(hw _ (List.mem_of_getElem? (i := 5) rfl)), (hw _ (List.mem_of_getElem? (i := 16) rfl))⟩)
  have E6 := Exa.start ev6 m4a
  have F6 := Fld.start ((fld_at ev6).symm.trans (own_eqI m5a))
  obtain ⟨w7, ev7⟩ := exa_v m6a
  have S7 := Sta.start ev7 (Or.inr ⟨(hw _ (List.mem_of_getElem? (i := 5) rfl)), (hw _ (List.mem_of_getElem? (i := 18) rfl))⟩)
  have E7 := Exa.start ev7 m6a
  have F7 := Fld.start ((fld_at ev7).symm.trans (own_eqI m7a))
  obtain ⟨n, o, h1, h2, h3, _, L, rfl, ⟨rfl, N⟩, hq⟩ := rm0 l s _ hw tables_1 i0 w0 w1 w2 w3 w4 w5 w6 w7 s.heap s.heap.size (Nat.le_refl _) S0 S1 S2 S3 S4 S5 S6 S7 (own_sel_is (P := fun w => Exa s s.heap w "com/example/draftd/draftd/model/EdmType") _ E0 E1 E2 E3 E4 E5 E6 E7) (own_sel_3 _ (F0.ne F3 (by decide)) (F1.ne F3 (by decide)) (F2.ne F3 (by decide)) (F4.ne F3 (by decide)) (F5.ne F3 (by decide)) (F6.ne F3 (by decide)) (F7.ne F3 (by decide))) p e ha hc hk s m _ below hf ((Spec.applies_iff_loose hf).mp happ).1 ⟨rfl, State.Warmed39.refl s, rfl⟩ trivial
  refine ⟨n, _, h1, h2, h3, hpost _ _ _ _ _ _ ⟨Cond.after_iff.mpr rfl, Cond.after_iff.mpr (eq_i res_at (Term.int_eval (1)) rfl), trivial⟩ ⟨hq.1, hq.2.1, (hq.2.2.sift fun y hy => Or.inr (N y hy)).mono (by decide) (by decide)⟩⟩
theorem main_1_1 : Claimed_1_1 := comes_1 fun _ _ _ _ _ _ h hF => ⟨h.1, hF⟩
theorem main_1_2 : Claimed_1_2 := comes_1 fun _ _ _ _ _ _ h hF => ⟨h.2.1, hF⟩
end Jvm.Pilot.@@N@@
namespace Jvm.Pilot.@@N@@
open Jvm Jvm.ClassFile Sem Op Lib Jvm.Free Jvm.Stand Jvm.Pilot.@@N@@.Jvm.D
/-! MADE BY PROGRAM (witnessworld.py) out of the Statement's table words and the real class files: 12 classes; the members and pool entries that the words name. The judged class is class 1, her method 2. -/
namespace start1
open Jvm.ClassFile
def u (s : String) : CpInfo := .utf8 (stringToUtf16 s)
/-- a pool by its gaps: so many unusable entries, then the entry; so many at the end -/
def gap : Nat → List CpInfo → List CpInfo
  | 0, r => r
  | n + 1, r => .unusable :: gap n r
def poolList (es : List (Nat × CpInfo)) (last : Nat) : List CpInfo := es.foldr (fun e r => gap e.1 (e.2 :: r)) (gap last [])
def pool (es : List (Nat × CpInfo)) (last : Nat) : Array CpInfo := ⟨poolList es last⟩
def fileOf (pool : Array CpInfo) (this : Nat) (attrs : Array Attribute := #[]) (ms : Array MethodInfo := #[]) (fl : Nat := 33) (sup : Nat := 0) (ifs : Array Nat := #[]) (fds : Array FieldInfo := #[]) : ClassFile where
  minorVersion := 0
  majorVersion := 65
  constantPool := pool
  accessFlags := fl
  thisClass := this
  superClass := sup
  interfaces := ifs
  fields := fds
  methods := ms
  attributes := attrs
def plain (name : String) (sup : Option ClassId) : Class where
  name := name
  kind := .ordinary
  loader := none
  accessFlags := 33
  super := sup
  interfaces := #[]
  cf := none
  fields := #[]
  methods := #[]
  instanceTypes := #[]
  staticTypes := #[]
  resolved := #[]
  callSites := []
  init := .initialized
  statics := none
  mirror := none

def pool0 : Array CpInfo := pool [(5, u "<init>"), (0, u "()V"), (1, .class_ 10), (1, u "java/lang/Object")] 113

def k0m0 : Method := { name := "<init>", desc := "()V", sig := { parameters := [], returnType := none }, accessFlags := 1, code := none }
/-- java/lang/Object -/
def k0 : Class := { plain "java/lang/Object" none with
  accessFlags := 33
  interfaces := #[]
  cf := some (fileOf pool0 8 #[] #[{ accessFlags := 1, nameIndex := 5, descriptorIndex := 6, attributes := #[] }] 33 0 #[] #[])
  fields := #[]
  methods := #[k0m0]
  instanceTypes := #[]
  staticTypes := #[]
  resolved := Array.replicate 124 none
  statics := none }

def pool1 : Array CpInfo := pool [(2, .class_ 4), (1, u "java/lang/Object"), (0, u "<init>"), (0, u "()V"), (0, .fieldref 8 9), (0, .class_ 10), (0, .nameAndType 11 12), (0, u "com/example/draftd/draftd/model/EdmType"), (0, u "STRING"), (0, u "Lcom/example/draftd/draftd/model/EdmType;"), (0, .fieldref 8 14), (0, .nameAndType 15 12), (0, u "INT32"), (0, .fieldref 8 17), (0, .nameAndType 18 12), (0, u "BYTE"), (0, .fieldref 8 20), (0, .nameAndType 21 12), (0, u "DECIMAL"), (0, .fieldref 8 23), (0, .nameAndType 24 12), (0, u "DATE"), (0, .fieldref 8 26), (0, .nameAndType 27 12), (0, u "BOOLEAN"), (0, .fieldref 8 29), (0, .nameAndType 30 12), (0, u "GUID"), (0, .fieldref 8 32), (0, .nameAndType 33 12), (0, u "DATE_TIME_OFFSET"), (0, .methodref 35 36), (0, .class_ 37), (0, .nameAndType 38 39), (0, u "com/example/draftd/draftd/model/EdmTypeIsStringWhenIeee754CompatiblePinLaw"), (0, u "pick"), (0, u "(I)Lcom/example/draftd/draftd/model/EdmType;"), (0, .methodref 8 41), (0, .nameAndType 42 43), (0, u "isStringWhenIeee754Compatible"), (0, u "()Z"), (3, u "law"), (0, u "(I)Z")] 2

def k1m0 : Method := { name := "<init>", desc := "()V", sig := { parameters := [], returnType := none }, accessFlags := 1, code := none }
def k1c1 : Code := { maxStack := 2, maxLocals := 1, code := method_2_code, exceptionTable := #[], attributes := #[] }
def k1m1 : Method := { name := "pick", desc := "(I)Lcom/example/draftd/draftd/model/EdmType;", sig := { parameters := [.int], returnType := some (.object "com/example/draftd/draftd/model/EdmType") }, accessFlags := 10, code := some k1c1 }
def k1c2 : Code := { maxStack := 2, maxLocals := 4, code := code, exceptionTable := #[], attributes := #[] }
def k1m2 : Method := { name := "law", desc := "(I)Z", sig := { parameters := [.int], returnType := some .boolean }, accessFlags := 9, code := some k1c2 }
/-- com/example/draftd/draftd/model/EdmTypeIsStringWhenIeee754CompatiblePinLaw -/
def k1 : Class := { plain "com/example/draftd/draftd/model/EdmTypeIsStringWhenIeee754CompatiblePinLaw" (some 0) with
  accessFlags := 49
  interfaces := #[]
  cf := some (fileOf pool1 35 #[] #[{ accessFlags := 1, nameIndex := 5, descriptorIndex := 6, attributes := #[] }, { accessFlags := 10, nameIndex := 38, descriptorIndex := 39, attributes := #[] }, { accessFlags := 9, nameIndex := 47, descriptorIndex := 48, attributes := #[] }] 49 2 #[] #[])
  fields := #[]
  methods := #[k1m0, k1m1, k1m2]
  instanceTypes := #[]
  staticTypes := #[]
  resolved := Array.replicate 51 none
  statics := none }

def pool2 : Array CpInfo := pool [(1, .class_ 2), (0, u "java/lang/constant/Constable"), (0, .class_ 4), (0, u "java/lang/Object")] 6

/-- java/lang/constant/Constable -/
def k2 : Class := { plain "java/lang/constant/Constable" (some 0) with
  accessFlags := 1537
  interfaces := #[]
  cf := some (fileOf pool2 1 #[] #[] 1537 3 #[] #[])
  fields := #[]
  methods := #[]
  instanceTypes := #[]
  staticTypes := #[]
  resolved := Array.replicate 11 none
  statics := none }

def pool3 : Array CpInfo := pool [(1, .class_ 2), (0, u "java/lang/Comparable"), (0, .class_ 4), (0, u "java/lang/Object")] 7

/-- java/lang/Comparable -/
def k3 : Class := { plain "java/lang/Comparable" (some 0) with
  accessFlags := 1537
  interfaces := #[]
  cf := some (fileOf pool3 1 #[] #[] 1537 3 #[] #[])
  fields := #[]
  methods := #[]
  instanceTypes := #[]
  staticTypes := #[]
  resolved := Array.replicate 12 none
  statics := none }

def pool4 : Array CpInfo := pool [(1, .class_ 2), (0, u "java/io/Serializable"), (0, .class_ 4), (0, u "java/lang/Object")] 2

/-- java/io/Serializable -/
def k4 : Class := { plain "java/io/Serializable" (some 0) with
  accessFlags := 1537
  interfaces := #[]
  cf := some (fileOf pool4 1 #[] #[] 1537 3 #[] #[])
  fields := #[]
  methods := #[]
  instanceTypes := #[]
  staticTypes := #[]
  resolved := Array.replicate 7 none
  statics := none }

def pool5 : Array CpInfo := pool [(2, .class_ 4), (1, u "java/lang/Enum"), (0, u "name"), (0, u "Ljava/lang/String;"), (2, u "ordinal"), (0, u "I"), (1, .class_ 14), (1, u "java/lang/Object"), (4, u "hash"), (86, .class_ 108), (1, u "java/lang/Enum$EnumDesc"), (2, .class_ 112), (0, u "java/lang/constant/Constable"), (0, .class_ 114), (0, u "java/lang/Comparable"), (0, .class_ 116), (0, u "java/io/Serializable")] 87

/-- java/lang/Enum -/
def k5 : Class := { plain "java/lang/Enum" (some 0) with
  accessFlags := 1057
  interfaces := #[2, 3, 4]
  cf := some (fileOf pool5 2 #[.nestMembers #[106]] #[] 1057 12 #[111, 113, 115] #[{ accessFlags := 18, nameIndex := 5, descriptorIndex := 6, attributes := #[] }, { accessFlags := 18, nameIndex := 9, descriptorIndex := 10, attributes := #[] }, { accessFlags := 2, nameIndex := 19, descriptorIndex := 10, attributes := #[] }])
  fields := #[{ name := "name", type := (.object "java/lang/String"), accessFlags := 18, slot := 0, constantValue := 0 }, { name := "ordinal", type := .int, accessFlags := 18, slot := 1, constantValue := 0 }, { name := "hash", type := .int, accessFlags := 2, slot := 2, constantValue := 0 }]
  methods := #[]
  instanceTypes := #[(.object "java/lang/String"), .int, .int]
  staticTypes := #[]
  resolved := Array.replicate 204 none
  statics := none }

def pool6 : Array CpInfo := pool [(1, .class_ 2), (0, u "com/example/draftd/draftd/model/EdmType"), (2, u "STRING"), (0, u "Lcom/example/draftd/draftd/model/EdmType;"), (2, u "INT32"), (2, u "BYTE"), (0, .fieldref 1 14), (0, .nameAndType 15 6), (0, u "DECIMAL"), (2, u "DATE"), (2, u "BOOLEAN"), (2, u "GUID"), (2, u "DATE_TIME_OFFSET"), (2, u "$VALUES"), (0, u "[Lcom/example/draftd/draftd/model/EdmType;"), (6, .class_ 40), (1, u "java/lang/Enum"), (8, u "name"), (0, u "Ljava/lang/String;"), (2, u "shownByJson"), (0, u "Z"), (45, u "DECIMAL_LITERAL"), (0, u "Ljava/util/regex/Pattern;"), (0, u "NAMESPACE"), (14, u "()Z"), (0, u "isStringWhenIeee754Compatible")] 21

def k6c0 : Code := { maxStack := 2, maxLocals := 1, code := prog_19_method_7_code, exceptionTable := #[], attributes := #[] }
def k6m0 : Method := { name := "isStringWhenIeee754Compatible", desc := "()Z", sig := { parameters := [], returnType := some .boolean }, accessFlags := 1, code := some k6c0 }
/-- com/example/draftd/draftd/model/EdmType -/
def k6 : Class := { plain "com/example/draftd/draftd/model/EdmType" (some 5) with
  accessFlags := 16433
  interfaces := #[]
  cf := some (fileOf pool6 1 #[] #[{ accessFlags := 1, nameIndex := 118, descriptorIndex := 117, attributes := #[] }] 16433 38 #[] #[{ accessFlags := 16409, nameIndex := 5, descriptorIndex := 6, attributes := #[] }, { accessFlags := 16409, nameIndex := 9, descriptorIndex := 6, attributes := #[] }, { accessFlags := 16409, nameIndex := 12, descriptorIndex := 6, attributes := #[] }, { accessFlags := 16409, nameIndex := 15, descriptorIndex := 6, attributes := #[] }, { accessFlags := 16409, nameIndex := 18, descriptorIndex := 6, attributes := #[] }, { accessFlags := 16409, nameIndex := 21, descriptorIndex := 6, attributes := #[] }, { accessFlags := 16409, nameIndex := 24, descriptorIndex := 6, attributes := #[] }, { accessFlags := 16409, nameIndex := 27, descriptorIndex := 6, attributes := #[] }, { accessFlags := 25, nameIndex := 100, descriptorIndex := 101, attributes := #[] }, { accessFlags := 26, nameIndex := 102, descriptorIndex := 50, attributes := #[] }, { accessFlags := 18, nameIndex := 49, descriptorIndex := 50, attributes := #[] }, { accessFlags := 18, nameIndex := 53, descriptorIndex := 54, attributes := #[] }, { accessFlags := 4122, nameIndex := 30, descriptorIndex := 31, attributes := #[] }])
  fields := #[{ name := "STRING", type := (.object "com/example/draftd/draftd/model/EdmType"), accessFlags := 16409, slot := 0, constantValue := 0 }, { name := "INT32", type := (.object "com/example/draftd/draftd/model/EdmType"), accessFlags := 16409, slot := 1, constantValue := 0 }, { name := "BYTE", type := (.object "com/example/draftd/draftd/model/EdmType"), accessFlags := 16409, slot := 2, constantValue := 0 }, { name := "DECIMAL", type := (.object "com/example/draftd/draftd/model/EdmType"), accessFlags := 16409, slot := 3, constantValue := 0 }, { name := "DATE", type := (.object "com/example/draftd/draftd/model/EdmType"), accessFlags := 16409, slot := 4, constantValue := 0 }, { name := "BOOLEAN", type := (.object "com/example/draftd/draftd/model/EdmType"), accessFlags := 16409, slot := 5, constantValue := 0 }, { name := "GUID", type := (.object "com/example/draftd/draftd/model/EdmType"), accessFlags := 16409, slot := 6, constantValue := 0 }, { name := "DATE_TIME_OFFSET", type := (.object "com/example/draftd/draftd/model/EdmType"), accessFlags := 16409, slot := 7, constantValue := 0 }, { name := "DECIMAL_LITERAL", type := (.object "java/util/regex/Pattern"), accessFlags := 25, slot := 8, constantValue := 0 }, { name := "NAMESPACE", type := (.object "java/lang/String"), accessFlags := 26, slot := 9, constantValue := 0 }, { name := "name", type := (.object "java/lang/String"), accessFlags := 18, slot := 3, constantValue := 0 }, { name := "shownByJson", type := .boolean, accessFlags := 18, slot := 4, constantValue := 0 }, { name := "$VALUES", type := (.array (.object "com/example/draftd/draftd/model/EdmType")), accessFlags := 4122, slot := 10, constantValue := 0 }]
  methods := #[k6m0]
  instanceTypes := #[(.object "java/lang/String"), .int, .int, (.object "java/lang/String"), .boolean]
  staticTypes := #[(.object "com/example/draftd/draftd/model/EdmType"), (.object "com/example/draftd/draftd/model/EdmType"), (.object "com/example/draftd/draftd/model/EdmType"), (.object "com/example/draftd/draftd/model/EdmType"), (.object "com/example/draftd/draftd/model/EdmType"), (.object "com/example/draftd/draftd/model/EdmType"), (.object "com/example/draftd/draftd/model/EdmType"), (.object "com/example/draftd/draftd/model/EdmType"), (.object "java/util/regex/Pattern"), (.object "java/lang/String"), (.array (.object "com/example/draftd/draftd/model/EdmType"))]
  resolved := Array.replicate 140 none
  statics := some 0 }

def pool7 : Array CpInfo := pool [(1, u "java/lang/Cloneable"), (0, .class_ 1), (0, u "java/lang/Object"), (0, .class_ 3)] 3

/-- java/lang/Cloneable -/
def k7 : Class := { plain "java/lang/Cloneable" (some 0) with
  accessFlags := 1537
  interfaces := #[]
  cf := some (fileOf pool7 2 #[] #[] 1537 4 #[] #[])
  fields := #[]
  methods := #[]
  instanceTypes := #[]
  staticTypes := #[]
  resolved := Array.replicate 8 none
  statics := none }

/-- the primitive byte -/
def k8 : Class := { plain "byte" none with kind := .primitive 'B', accessFlags := 0x411 }
/-- [B -/
def k9 : Class := { plain "[B" (some 0) with kind := .array 8 .byte, interfaces := #[7, 4], accessFlags := 1041 }

/-- the primitive int -/
def k10 : Class := { plain "int" none with kind := .primitive 'I', accessFlags := 0x411 }
/-- [I -/
def k11 : Class := { plain "[I" (some 0) with kind := .array 10 .int, interfaces := #[7, 4], accessFlags := 1041 }

def heap : Heap := #[{ cls := 6, slots := #[.ref 1, .ref 2, .ref 3, .ref 4, .ref 5, .ref 6, .ref 7, .ref 8, .null, .null, .null], vm := .statics 6 },
  { cls := 6, slots := #[.null, .int 0, .int 0, .null, .int 0], vm := .none },
  { cls := 6, slots := #[.null, .int 1, .int 0, .null, .int 0], vm := .none },
  { cls := 6, slots := #[.null, .int 2, .int 0, .null, .int 0], vm := .none },
  { cls := 6, slots := #[.null, .int 3, .int 0, .null, .int 0], vm := .none },
  { cls := 6, slots := #[.null, .int 4, .int 0, .null, .int 0], vm := .none },
  { cls := 6, slots := #[.null, .int 5, .int 0, .null, .int 0], vm := .none },
  { cls := 6, slots := #[.null, .int 6, .int 0, .null, .int 0], vm := .none },
  { cls := 6, slots := #[.null, .int 7, .int 0, .null, .int 0], vm := .none }]
def classes : Array Class := #[k0, k1, k2, k3, k4, k5, k6, k7, k8, k9, k10, k11]
def interned : List (Array UInt16 × Addr) := []
def slotsUsed : Nat := 51
def theMethod : MethodId := ⟨1, 2⟩
def args0 : Array Value := #[.int 5]
def aboutOver (below : List Frame) : State where
  vm := { classes := classes, interned := interned.toArray }
  heap := heap
  slotsUsed := slotsUsed
  threads := #[{ frames := .invoking theMethod args0 :: below }]
def below0 : List Frame := [.native { method := ⟨0, 0⟩, args := #[] }]
def about1 : State := aboutOver below0
def p0 : Program := .bare "" "" ""
def e0 : Env := launch0.env 0 0 0
theorem w_frames : about1.frames = Frame.invoking theMethod args0 :: below0 := rfl
set_option maxRecDepth 65536 in
theorem w_args : argsFit about1.vm theMethod args0 = true := by decide +kernel
set_option maxRecDepth 65536 in
theorem w_heap : heapFits about1 = true := by decide +kernel
set_option maxRecDepth 65536 in
theorem w_runnable : about1.curStatus? = some .runnable := by decide +kernel
set_option maxRecDepth 65536 in
theorem w_alone : about1.alone = true := by decide +kernel
set_option maxRecDepth 65536 in
theorem w_named : about1.methodNamed? x = some theMethod := by decide +kernel
set_option maxRecDepth 65536 in
theorem w_hears : about1.hears theMethod below0 = true := by decide +kernel
set_option maxRecDepth 65536 in
theorem w_ripe : about1.ripe theMethod args0 below0 = true := by decide +kernel
theorem w_running : about1.status = .running := rfl
set_option maxRecDepth 65536 in
theorem w_room : about1.hasRoom e0.platform room_1 = true :=
  launch0.hasRoom_least _ room_1 (by decide +kernel) (by decide +kernel) (by decide +kernel) (by decide +kernel) (by decide +kernel) (by decide +kernel)
theorem allAtoms_all (ts : List Jvm.Cond) (a : Array Jvm.Value) (st : Jvm.State) : (allAtoms ts).before a st = ts.all (fun c => c.before a st) := by
  induction ts with
  | nil => rfl
  | cons c t ih =>
    show (Jvm.Cond.and c (allAtoms t)).before a st = _
    rw [Jvm.Cond.before_and, ih, List.all_cons]
def words1 : List Jvm.Cond := Jvm.Cond.code x code maxLocals ret :: tables_1
/-- a 'code' word, met by the world's own term for the bytes: nothing is compared byte by byte -/
theorem code_word {y : MethodName} {bytes : ByteArray} {mx : Nat} {rt : Option FieldType} {a : Array Value} {s : State} {m : MethodId} {meth : Method} {c : Code} (h1 : s.methodNamed? y = some m) (h2 : s.vm.method? m = some meth) (h3 : meth.code = some c) (h4 : c.code = bytes)
    (h5 : (c.maxLocals == mx && c.exceptionTable.isEmpty && decide (c.maxStack ≤ mostOperands) && decide (meth.sig.returnType = rt) && !meth.locks && decide (parseMethodDescriptor y.desc = some meth.sig)) = true) : (Jvm.Cond.code y bytes mx rt).before a s = true := by
  simp only [Bool.and_eq_true, beq_iff_eq, Bool.not_eq_true', decide_eq_true_eq] at h5
  obtain ⟨⟨⟨⟨⟨g1, g2⟩, g3⟩, g4⟩, g5⟩, g6⟩ := h5
  simp [Cond.before, Cond.holds, Cond.value, h1, h2, h3, h4, g1, g2, g3, g4, g5, g6]
def isCode : Jvm.Cond → Bool
  | .code _ _ _ _ => true
  | _ => false
theorem all_split {L : List Jvm.Cond} {P : Jvm.Cond → Bool} (h1 : L.all (fun c => isCode c || P c) = true) (h2 : ∀ c ∈ L.filter isCode, P c = true) : L.all P = true := by
  refine List.all_eq_true.mpr fun c hc => ?_
  have h := List.all_eq_true.mp h1 c hc
  rcases Bool.eq_false_or_eq_true (isCode c) with hi | hi
  · exact h2 c (List.mem_filter.mpr ⟨hc, hi⟩)
  · simpa [hi] using h
set_option maxRecDepth 65536 in
theorem w_c0 : (Jvm.Cond.code x code maxLocals ret).before args0 about1 = true := code_word (m := ⟨1, 2⟩) (meth := k1m2) (c := k1c2) (by decide +kernel) rfl rfl rfl (by decide +kernel)
set_option maxRecDepth 65536 in
theorem w_c1 : (Jvm.Cond.code ({ cls := "com/example/draftd/draftd/model/EdmTypeIsStringWhenIeee754CompatiblePinLaw", name := "pick", desc := "(I)Lcom/example/draftd/draftd/model/EdmType;" } : Jvm.MethodName) method_2_code (1 : Nat) (Option.some (Jvm.ClassFile.FieldType.object "com/example/draftd/draftd/model/EdmType"))).before args0 about1 = true := code_word (m := ⟨1, 1⟩) (meth := k1m1) (c := k1c1) (by decide +kernel) rfl rfl rfl (by decide +kernel)
set_option maxRecDepth 65536 in
theorem w_c2 : (Jvm.Cond.code ({ cls := "com/example/draftd/draftd/model/EdmType", name := "isStringWhenIeee754Compatible", desc := "()Z" } : Jvm.MethodName) prog_19_method_7_code (1 : Nat) (Option.some Jvm.ClassFile.FieldType.boolean)).before args0 about1 = true := code_word (m := ⟨6, 0⟩) (meth := k6m0) (c := k6c0) (by decide +kernel) rfl rfl rfl (by decide +kernel)
def codes1 : List Jvm.Cond := [Jvm.Cond.code x code maxLocals ret, Jvm.Cond.code ({ cls := "com/example/draftd/draftd/model/EdmTypeIsStringWhenIeee754CompatiblePinLaw", name := "pick", desc := "(I)Lcom/example/draftd/draftd/model/EdmType;" } : Jvm.MethodName) method_2_code (1 : Nat) (Option.some (Jvm.ClassFile.FieldType.object "com/example/draftd/draftd/model/EdmType")), Jvm.Cond.code ({ cls := "com/example/draftd/draftd/model/EdmType", name := "isStringWhenIeee754Compatible", desc := "()Z" } : Jvm.MethodName) prog_19_method_7_code (1 : Nat) (Option.some Jvm.ClassFile.FieldType.boolean)]
set_option maxRecDepth 65536 in
theorem codes_eq : words1.filter isCode = codes1 := rfl
theorem w_codes : ∀ c ∈ words1.filter isCode, c.before args0 about1 = true := by
  rw [codes_eq]
  intro c hc
  simp only [codes1, List.mem_cons, List.not_mem_nil, or_false] at hc
  rcases hc with rfl | rfl | rfl
  · exact w_c0
  · exact w_c1
  · exact w_c2
set_option maxRecDepth 65536 in
theorem w_t1 : (words1.take 24).all (fun c => isCode c || c.before args0 about1) = true := by decide +kernel
set_option maxRecDepth 65536 in
theorem w_t2 : (words1.drop 24).all (fun c => isCode c || c.before args0 about1) = true := by decide +kernel
theorem w_tables : (allAtoms (Jvm.Cond.code x code maxLocals ret :: tables_1)).before args0 about1 = true := by
  rw [allAtoms_all]
  show words1.all (fun c => c.before args0 about1) = true
  refine all_split ?_ w_codes
  rw [← List.take_append_drop 24 words1, List.all_append, w_t1, w_t2]
  rfl
set_option maxRecDepth 65536 in
theorem w_case : (Jvm.Cond.and given_1 narrow_1).before args0 about1 = true := by decide +kernel
theorem w_applies : (headSpec (Jvm.Cond.code x code maxLocals ret :: tables_1) room_1).applies x e0.platform about1 = true :=
  (Spec.applies_iff w_frames).mpr ⟨w_running, w_runnable, w_alone, w_named, w_hears, w_ripe, w_room, w_tables⟩
theorem atStart : AtStart classFile x code maxLocals ret World_1 tables_1 room_1 Calls_1 rest_1 Pre_1 launch0 p0 e0 about1 theMethod args0 below0 :=
  ⟨lists_1, trivial, launch0.admits_env _ _ _, launch0.least_env, fairChoices_fair.cas, fairChoices_fair.clock, w_frames, w_args, w_heap, w_applies, trivial, trivial, w_case⟩
end start1
theorem witness_1 : WitnessClaimed_1 := ⟨start1.p0, start1.e0, start1.about1, start1.theMethod, start1.args0, start1.below0, start1.atStart⟩
end Jvm.Pilot.@@N@@
