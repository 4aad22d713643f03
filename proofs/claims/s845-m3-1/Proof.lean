import JvmDerived
import JvmDerived.Pilot.@@N@@Statement
import JvmDerived.Pilot.@@N@@Code
set_option linter.unusedVariables false
set_option linter.unusedSimpArgs false
namespace Jvm.Pilot.@@N@@
open Jvm Jvm.ClassFile Sem Op Lib Jvm.Free Jvm.Stand Jvm.LawKit Jvm.RoadKit Bundle Jvm.Pilot.@@N@@.Jvm.D
/-- from the frame g over the state T the run comes to a return that Q allows, with at most kc new cells and ks new slots -/
def Go (p : Program) (e : Env) (below : List Frame) (s : State) (Q : Option Value → Heap → List Loc → Prop) (kc ks : Nat) (T : State) (g : JFrame) : Prop :=
  ∃ s₂ o, Steps p.tables e below (T.setTop g) s₂ ∧ s₂.status = .running ∧ Ended s₂ below o ∧ ∃ v L, o = .returned v ∧ Q v s₂.heap L ∧ FrameEnd s o s₂ L kc ks
/-- a body's contract in this family: called with these arguments over the heap h0 it returns what Q says -/
def Con (l : Launch) (Z : State) (y : MethodName) (bytes : ByteArray) (maxL : Nat) (ret : Option FieldType) (rm : Room) (ws : List Jvm.Cond) (as' : Array Value) (h0 : Heap) (Q : Option Value → Heap → List Loc → Prop) (kc ks : Nat) : Prop :=
  MetFree l y (head1 (Jvm.Cond.code y bytes maxL ret :: ws) rm) (fun a U => a = as' ∧ Z.Warmed39 U.vm ∧ U.heap = h0) (fun _ _ _ _ _ => True) (fun _ U o U' => ∃ v L, o = .returned v ∧ Q v U'.heap L ∧ FrameEnd U o U' L kc ks)
/-- it returns r and leaves the heap as it was -/
def Qret (r : Option Value) (h0 : Heap) (n0 : Nat) (v : Option Value) (h : Heap) (L : List Loc) : Prop := v = r ∧ Fr n0 L ∧ h = h0
/-- the law's own end: true; nothing old written -/
def Q0 (n0 : Nat) (v : Option Value) (h : Heap) (L : List Loc) : Prop := v = some (.int 1) ∧ Fr n0 L
section Own
variable {p : Program} {l : Launch} {e : Env} {R : Room} {s Z : State} {m : MethodId} {args : Array Value} {below : List Frame} {meth : Method} {c : Code} {T T' : State} {locs : List Loc} {cells slots kc ks : Nat} {Q : Option Value → Heap → List Loc → Prop} {g g' : JFrame} {h h' : Heap} {a : Addr} {C n d : String} {v : Value} {ws : List Addr}
theorem Con.of {y : MethodName} {bytes : ByteArray} {maxL : Nat} {ret : Option FieldType} {rm : Room} {cs : List Jvm.Cond} {as' : Array Value} {h0 : Heap} (hp : plainFor y = true)
    (body : ∀ p e s m below meth c s₁, Stand p l e rm s m as' below meth c s₁ [] 0 0 → p.tables.exec = Jvm.exec → Z.Warmed39 s.vm → c.code = bytes → c.maxLocals = maxL → s.vm.findClass y.cls = some m.cls → meth.name = y.name → meth.sig.returnType = ret → meth.locks = false → s₁.heap = h0 → s.heap = h0 → Go p e below s Q kc ks s₁ (entryFrame m as' maxL)) :
    Con l Z y bytes maxL ret rm cs as' h0 Q kc ks := by
  refine MetFree.of_bodySF hp hisR ?_
  intro p e s m args below meth c s₁ Bd hml0 hP hK
  obtain ⟨rfl, hZ, hh⟩ := hP
  exact body p e s m below meth c s₁ (Stand.of_body Bd) Bd.exec hZ Bd.bytes hml0 (findClass_of_methodNamed Bd.named) (name_of_methodNamed Bd.named Bd.method).1 Bd.returns Bd.notSynchronized (by rw [← hh, Bd.state]; rfl) hh
theorem Go.step (st : ∀ target, Steps p.tables e below (T'.setTop g') target → Steps p.tables e below (T.setTop g) target) (k : Go p e below s Q kc ks T' g') : Go p e below s Q kc ks T g := by
  obtain ⟨s₂, o, h1, h2⟩ := k
  exact ⟨s₂, o, st _ h1, h2⟩
theorem Go.cast (q : g = g') (k : Go p e below s Q kc ks T g') : Go p e below s Q kc ks T g := q ▸ k
theorem Go.ret (X : Stand p l e R s m args below meth c T locs cells slots) {v : Option Value} (hv : meth.sig.returnType = none → v = none) (hlk : meth.locks = false) (hq : Q v T.heap locs) (hc : cells ≤ kc) (hs : slots ≤ ks)
    (st : ∀ fs, (∀ (f : JFrame) (acts : List Action), f.method = m → f.locked = none → f.entered = [] → (doReturn e (T.setTop f) acts v).1 = T.setFrames fs) → Steps p.tables e below (T.setTop g) (T.setFrames fs)) : Go p e below s Q kc ks T g := by
  obtain ⟨fs, hr, hrun, hended, hW, hsame⟩ := X.leave (v := v) hv hlk
  exact ⟨_, _, st fs hr, hrun, hended, v, locs, rfl, hq, ⟨_, rfl⟩, hW, hsame.mono hc hs⟩
theorem Go.retN (X : Stand p l e R s m args below meth c T locs cells slots) (hx : p.tables.exec = Jvm.exec) {pc : Nat} {Ls : Array Slot} {z : Int32} {t : FieldType} {rest : List Value} (hret : meth.sig.returnType = some t) (hlk : meth.locks = false) (ht : t = .boolean ∨ t = .byte ∨ t = .char ∨ t = .short)
    (hd : decode c.code pc = .ok (.ireturn, 1)) (hq : Q (some (.int (nar t z))) T.heap locs) (hc : cells ≤ kc) (hs : slots ≤ ks) : Go p e below s Q kc ks T (mkF m pc Ls (.int z :: rest)) :=
  Go.ret X (fun q => by rw [hret] at q; cases q) hlk hq hc hs fun fs hr => Jvm.RoadKit.retN X hx hret ht hd hr
theorem Go.retI (X : Stand p l e R s m args below meth c T locs cells slots) (hx : p.tables.exec = Jvm.exec) {pc : Nat} {Ls : Array Slot} {z : Int32} {rest : List Value} (hret : meth.sig.returnType = some .int) (hlk : meth.locks = false)
    (hd : decode c.code pc = .ok (.ireturn, 1)) (hq : Q (some (.int z)) T.heap locs) (hc : cells ≤ kc) (hs : slots ≤ ks) : Go p e below s Q kc ks T (mkF m pc Ls (.int z :: rest)) :=
  Go.ret X (fun q => by rw [hret] at q; cases q) hlk hq hc hs fun fs hr => retOut X hx hret rfl (Or.inl ⟨rfl, Or.inl rfl, z, rfl⟩) hd hr
theorem Go.retJ (X : Stand p l e R s m args below meth c T locs cells slots) (hx : p.tables.exec = Jvm.exec) {pc : Nat} {Ls : Array Slot} {z : Int64} {rest : List Value} (hret : meth.sig.returnType = some .long) (hlk : meth.locks = false)
    (hd : decode c.code pc = .ok (.lreturn, 1)) (hq : Q (some (.long z)) T.heap locs) (hc : cells ≤ kc) (hs : slots ≤ ks) : Go p e below s Q kc ks T (mkF m pc Ls (.long z :: rest)) :=
  Go.ret X (fun q => by rw [hret] at q; cases q) hlk hq hc hs fun fs hr => retOut X hx hret rfl (Or.inr (Or.inl ⟨rfl, rfl, z, rfl⟩)) hd hr
theorem Go.retA (X : Stand p l e R s m args below meth c T locs cells slots) (hx : p.tables.exec = Jvm.exec) {pc : Nat} {Ls : Array Slot} {w : Value} {t : FieldType} {rest : List Value} (hret : meth.sig.returnType = some t) (ht : t.isReference = true) (hlk : meth.locks = false) (hw : w.isRef = true)
    (hd : decode c.code pc = .ok (.areturn, 1)) (hq : Q (some w) T.heap locs) (hc : cells ≤ kc) (hs : slots ≤ ks) : Go p e below s Q kc ks T (mkF m pc Ls (w :: rest)) :=
  Go.ret X (fun q => by rw [hret] at q; cases q) hlk hq hc hs fun fs hr => retOut X hx hret (by cases t <;> first | (cases ht; done) | (cases w <;> first | rfl | (cases hw; done))) (Or.inr (Or.inr (Or.inr (Or.inr ⟨rfl, ht, hw⟩)))) hd hr
theorem Go.retV (X : Stand p l e R s m args below meth c T locs cells slots) (hx : p.tables.exec = Jvm.exec) {pc : Nat} {Ls : Array Slot} (hret : meth.sig.returnType = none) (hlk : meth.locks = false)
    (hd : decode c.code pc = .ok (.return_, 1)) (hq : Q none T.heap locs) (hc : cells ≤ kc) (hs : slots ≤ ks) : Go p e below s Q kc ks T (mkF m pc Ls []) :=
  Go.ret X (fun _ => rfl) hlk hq hc hs fun fs hr => X.returnOut hx hret hd hr
theorem own_sta_keep (F : Sta Z h C n d v) (K : Keep h h' ws) (q : ∀ x ∈ ws, ∀ c : Cell, h[x]? = some c → c.vm.isStatics = false) : Sta Z h' C n d v := by
  obtain ⟨cf, i, k, f, st, cell, h1, h2, h3, h4, h5, h6, h7⟩ := F
  refine ⟨cf, i, k, f, st, cell, h1, h2, h3, h4, K.2.1 _ _ h5 (fun hm => ?_), h6, h7⟩
  have := q _ hm _ h5
  rw [h6] at this; cases this
theorem own_plain (E : Exa Z h a C) : ∀ c : Cell, h[a]? = some c → c.vm.isStatics = false := fun c hc => by
  obtain ⟨cell, k, h1, -, -, h4, -⟩ := E
  cases h1.symm.trans hc; exact h4
theorem own_eqI {args : Array Value} {s : State} {t : Term} {k : Int32} (q : (Jvm.Cond.eq t (Jvm.Term.int k)).value args s none s [] = some true) : t.eval args s none [] s = some (.int k) := by
  obtain ⟨x, y, hx, hy, kin, kin'⟩ := cmp_v (Or.inl q)
  have hy' : y = .int k := (Option.some.inj hy).symm
  subst hy'
  obtain ⟨z, rfl⟩ := kin'
  have e : (Jvm.Cond.eq t (Jvm.Term.int k)).value args s none s [] = some (decide (z = k)) := by simp [Cond.value, hx, hy]
  rw [hx, gotT e q]
theorem Con.ret {y : MethodName} {bytes : ByteArray} {maxL n0 : Nat} {ret : Option FieldType} {rm : Room} {cs : List Jvm.Cond} {as' : Array Value} {h0 h1 : Heap} {r r' : Int32} (q : r = r') (k : Con l Z y bytes maxL ret rm cs as' h0 (Qret (some (.int r)) h1 n0) kc ks) : Con l Z y bytes maxL ret rm cs as' h0 (Qret (some (.int r')) h1 n0) kc ks := q ▸ k
theorem own_arr_keep {cl : Cell} {ty : FieldType} (F : Arr Z h a cl ty) (K : Keep h h' ws) (q : a ∉ ws) : Arr Z h' a cl ty := ⟨K.2.1 a cl F.1 q, F.2⟩
/-- an object whose chain of classes lacks the class K is no K -/
theorem own_noins {a0 : Array Value} {K : String} {t : List String} {k : Nat} (E : Exa Z h a C) (hw : ∀ w ∈ Cond.chainWords (C :: t), w.before a0 Z = true) (wi : (Jvm.Cond.instantiable K k).before a0 Z = true) (hn : K ∉ C :: t) : Ins Z h a K false := by
  obtain ⟨cell, kc, h1, h2, -, h4, -⟩ := E
  obtain ⟨cy, ky, y1, y2, y3, y4, -⟩ := Cond.instantiable_spec wi
  have y5 : ky.isInterface = false := by simp only [Bool.or_eq_false_iff] at y4; exact y4.1
  exact ⟨cell, cy, h1, y1, by rw [Vm.notAssignable_of_chain h2 y1 y2 y3 y5 hw hn]; simp⟩
theorem own_len {args : Array Value} {t : Term} {cl : Cell} {ty : FieldType} {z : Int32} (ev : t.eval args Z none [] Z = some (.ref a)) (A : Arr Z Z.heap a cl ty) (el : (Jvm.Term.length t).eval args Z none [] Z = some (.int z)) : cl.slots.size < 2 ^ 31 ∧ cl.slots.size.toInt32 = z := by
  have ha := A.fin (Vm.Alike.refl _)
  by_cases q : cl.slots.size < 2 ^ 31
  · rw [len_f ev ha q] at el
    exact ⟨q, Value.int.inj (Option.some.inj el)⟩
  · simp [Term.eval, ev, ha, q] at el
theorem own_sub_at {args : Array Value} {t : Term} {idx : List Nat} {y k : Int32} (q : t.eval args Z none idx Z = some (.int y)) : (Jvm.Term.sub t (Jvm.Term.int k)).eval args Z none idx Z = some (.int (y - k)) := by simp [Term.eval, q]
end Own
def own_pos (x : Int32) : Int32 := if (x &&& 2147483647) = 0 then 1 else x &&& 2147483647
theorem own_pos_ge (x : Int32) : ¬ own_pos x < 1 := by
  unfold own_pos
  split
  · decide
  · rename_i q
    have h1 := (c_and x 2147483647 (by decide)).1
    rw [Int32.lt_iff_toInt_lt, show (1 : Int32).toInt = 1 from rfl]
    intro h2
    exact q (Int32.toInt_inj.mp (by show _ = (0 : Int); omega))
theorem own_ef_method_2_code_I (m : MethodId) (x0 : Int32) : entryFrame m #[(.int x0)] 2 = mkF m 0 #[.val (.int x0), .unset] [] := by first | (simp [entryFrame, mkF, argsToLocals, Value.category]; done) | rfl
theorem own_pn_ServiceSettingsWithPageSizePinLaw : plainName "com/example/draftd/draftd/odata/ServiceSettingsWithPageSizePinLaw" = true := by first | (simp [plainName, overriddenIn]; done) | decide +kernel
theorem d_method_2_0 : decode method_2_code 0 = .ok (.iload_n 0, 1) := by decide +kernel
theorem d_method_2_1 : decode method_2_code 1 = .ok (.ldc 7, 2) := by decide +kernel
theorem d_method_2_3 : decode method_2_code 3 = .ok (.iand, 1) := by decide +kernel
theorem d_method_2_4 : decode method_2_code 4 = .ok (.istore_n 1, 1) := by decide +kernel
theorem d_method_2_5 : decode method_2_code 5 = .ok (.iload_n 1, 1) := by decide +kernel
theorem d_method_2_6 : decode method_2_code 6 = .ok (.ifCond .ne 5, 3) := by decide +kernel
theorem d_method_2_9 : decode method_2_code 9 = .ok (.iconst 1, 1) := by decide +kernel
theorem d_method_2_10 : decode method_2_code 10 = .ok (.istore_n 1, 1) := by decide +kernel
theorem d_method_2_11 : decode method_2_code 11 = .ok (.iload_n 1, 1) := by decide +kernel
theorem d_method_2_12 : decode method_2_code 12 = .ok (.ireturn, 1) := by decide +kernel
set_option maxRecDepth 65536 in
set_option maxHeartbeats 40000000 in
theorem own_rpos (l : Launch) (Z : State) (a0 : Array Value) (hw : ∀ d ∈ tables_1, d.before a0 Z = true) (ws : List Jvm.Cond) (p1 : Int32) (h0 : Heap) (n0 : Nat) (Z0 : n0 ≤ h0.size)  :
    Con l Z (⟨"com/example/draftd/draftd/odata/ServiceSettingsWithPageSizePinLaw", "positive", "(I)I"⟩ : MethodName) method_2_code 2 (some .int) ({ frames := 0, cells := 0, slots := 0, locals := 0 } : Room) ws #[(.int p1)] h0 (Qret (some (.int (own_pos p1))) h0 n0) 0 0 := by
  refine Con.of (plainFor_of_name own_pn_ServiceSettingsWithPageSizePinLaw) ?_
  intro p e s m below meth c s₁ X0 hx hZ hby hml hown hnm hret hlk e0 hs0
  have N0 := Fr.nil n0
  have hown : s.vm.findClass "com/example/draftd/draftd/odata/ServiceSettingsWithPageSizePinLaw" = some m.cls := hown
  have hnm : meth.name = "positive" := hnm
  refine Go.cast (own_ef_method_2_code_I m p1) ?_
  refine Go.step (T' := s₁) (g' := (mkF m 1 #[.val (.int p1), .unset] [(.int p1)])) (fun _ k => XS.iloadN X0.here hx rfl (hb hby d_method_2_0) rfl  k) ?_
  refine Go.step (T' := s₁) (g' := (mkF m 3 #[.val (.int p1), .unset] [(.int (2147483647 : Int32)), (.int p1)])) (fun _ k => Jvm.Stand.ldcI (g := (mkF m 1 #[.val (.int p1), .unset] [(.int p1)])) X0 hx hown (mvT hZ (hw _ (List.mem_of_getElem? (i := 4) rfl))) rfl (hb hby d_method_2_1) k) ?_
  refine Go.step (T' := s₁) (g' := (mkF m 4 #[.val (.int p1), .unset] [(.int (p1 &&& (2147483647 : Int32)))])) (fun _ k => XS.iand X0.here hx rfl (hb hby d_method_2_3) rfl k) ?_
  refine Go.step (T' := s₁) (g' := (mkF m 5 #[.val (.int p1), .val (.int (p1 &&& (2147483647 : Int32)))] [])) (fun _ k => XS.istoreN X0.here hx rfl (hb hby d_method_2_4) rfl (l' := #[.val (.int p1), .val (.int (p1 &&& (2147483647 : Int32)))]) rfl k) ?_
  refine Go.step (T' := s₁) (g' := (mkF m 6 #[.val (.int p1), .val (.int (p1 &&& (2147483647 : Int32)))] [(.int (p1 &&& (2147483647 : Int32)))])) (fun _ k => XS.iloadN X0.here hx rfl (hb hby d_method_2_5) rfl  k) ?_
  by_cases hc101 : (p1 &&& (2147483647 : Int32)) = (0 : Int32)
  · skip
    refine Go.step (T' := s₁) (g' := (mkF m 9 #[.val (.int p1), .val (.int (p1 &&& (2147483647 : Int32)))] [])) (fun _ k => XS.ifNo X0.here hx rfl (hb hby d_method_2_6) rfl ((if0 _ _).trans (teq hc101).2) k) ?_
    refine Go.step (T' := s₁) (g' := (mkF m 10 #[.val (.int p1), .val (.int (p1 &&& (2147483647 : Int32)))] [(.int (1 : Int32))])) (fun _ k => XS.iconst X0.here hx rfl (hb hby d_method_2_9) k) ?_
    refine Go.step (T' := s₁) (g' := (mkF m 11 #[.val (.int p1), .val (.int (1 : Int32))] [])) (fun _ k => XS.istoreN X0.here hx rfl (hb hby d_method_2_10) rfl (l' := #[.val (.int p1), .val (.int (1 : Int32))]) rfl k) ?_
    refine Go.step (T' := s₁) (g' := (mkF m 12 #[.val (.int p1), .val (.int (1 : Int32))] [(.int (1 : Int32))])) (fun _ k => XS.iloadN X0.here hx rfl (hb hby d_method_2_11) rfl  k) ?_
    exact Go.retI X0 hx hret hlk (hb hby d_method_2_12) (⟨by simp [own_pos, hc101], N0, e0⟩) (by decide) (by decide)
  · skip
    refine Go.step (T' := s₁) (g' := (mkF m 11 #[.val (.int p1), .val (.int (p1 &&& (2147483647 : Int32)))] [])) (fun _ k => XS.ifYes X0.here hx rfl (pc0 := 6) (pc' := 11) rfl (hb hby d_method_2_6) rfl ((if0 _ _).trans (feq hc101).2) (by decide) (by decide) k) ?_
    refine Go.step (T' := s₁) (g' := (mkF m 12 #[.val (.int p1), .val (.int (p1 &&& (2147483647 : Int32)))] [(.int (p1 &&& (2147483647 : Int32)))])) (fun _ k => XS.iloadN X0.here hx rfl (hb hby d_method_2_11) rfl  k) ?_
    exact Go.retI X0 hx hret hlk (hb hby d_method_2_12) (⟨by simp [own_pos, hc101], N0, e0⟩) (by decide) (by decide)
theorem own_ef_prog_25_method_8_code_R (m : MethodId) (x0 : Addr) : entryFrame m #[(.ref x0)] 1 = mkF m 0 #[.val (.ref x0)] [] := by first | (simp [entryFrame, mkF, argsToLocals, Value.category]; done) | rfl
theorem own_pn_ServiceSettings : plainName "com/example/draftd/draftd/odata/ServiceSettings" = true := by first | (simp [plainName, overriddenIn]; done) | decide +kernel
theorem d_prog_25_method_8_0 : decode prog_25_method_8_code 0 = .ok (.aload_n 0, 1) := by decide +kernel
theorem d_prog_25_method_8_1 : decode prog_25_method_8_code 1 = .ok (.getfield 22, 3) := by decide +kernel
theorem d_prog_25_method_8_4 : decode prog_25_method_8_code 4 = .ok (.ireturn, 1) := by decide +kernel
set_option maxRecDepth 65536 in
set_option maxHeartbeats 40000000 in
theorem own_getPageSize (l : Launch) (Z : State) (a0 : Array Value) (hw : ∀ d ∈ tables_1, d.before a0 Z = true) (ws : List Jvm.Cond) (a1 : Addr) (q1 : Int32) (h0 : Heap) (n0 : Nat) (Z0 : n0 ≤ h0.size) (F1 : Fld Z h0 a1 "com/example/draftd/draftd/odata/ServiceSettings" "pageSize" "I" (.int q1)) :
    Con l Z (⟨"com/example/draftd/draftd/odata/ServiceSettings", "getPageSize", "()I"⟩ : MethodName) prog_25_method_8_code 1 (some .int) ({ frames := 0, cells := 0, slots := 0, locals := 0 } : Room) ws #[(.ref a1)] h0 (Qret (some (.int q1)) h0 n0) 0 0 := by
  refine Con.of (plainFor_of_name own_pn_ServiceSettings) ?_
  intro p e s m below meth c s₁ X0 hx hZ hby hml hown hnm hret hlk e0 hs0
  have N0 := Fr.nil n0
  have hown : s.vm.findClass "com/example/draftd/draftd/odata/ServiceSettings" = some m.cls := hown
  have hnm : meth.name = "getPageSize" := hnm
  refine Go.cast (own_ef_prog_25_method_8_code_R m a1) ?_
  refine Go.step (T' := s₁) (g' := (mkF m 1 #[.val (.ref a1)] [(.ref a1)])) (fun _ k => XS.aloadN X0.here hx rfl (hb hby d_prog_25_method_8_0) rfl rfl k) ?_
  obtain ⟨T101, X101, e101, st101⟩ := getF X0 hx hZ hown (host := "") (Or.inl (hw _ (List.mem_of_getElem? (i := 22) rfl))) Via.refl e0 F1 (g := (mkF m 1 #[.val (.ref a1)] [(.ref a1)])) rfl rfl (hb hby d_prog_25_method_8_1)
  refine Go.step (T' := T101) (g' := (mkF m 4 #[.val (.ref a1)] [(.int q1)])) st101 ?_
  exact Go.retI X101 hx hret hlk (hb hby d_prog_25_method_8_4) (⟨rfl, N0, e101⟩) (by decide) (by decide)
theorem own_ef_prog_25_method_6_code_R (m : MethodId) (x0 : Addr) : entryFrame m #[(.ref x0)] 1 = mkF m 0 #[.val (.ref x0)] [] := by first | (simp [entryFrame, mkF, argsToLocals, Value.category]; done) | rfl
theorem d_prog_25_method_6_0 : decode prog_25_method_6_code 0 = .ok (.aload_n 0, 1) := by decide +kernel
theorem d_prog_25_method_6_1 : decode prog_25_method_6_code 1 = .ok (.getfield 13, 3) := by decide +kernel
theorem d_prog_25_method_6_4 : decode prog_25_method_6_code 4 = .ok (.areturn, 1) := by decide +kernel
set_option maxRecDepth 65536 in
set_option maxHeartbeats 40000000 in
theorem own_getLockTimeout (l : Launch) (Z : State) (a0 : Array Value) (hw : ∀ d ∈ tables_1, d.before a0 Z = true) (ws : List Jvm.Cond) (a1 : Addr) (q1 : Addr) (h0 : Heap) (n0 : Nat) (Z0 : n0 ≤ h0.size) (F1 : Fld Z h0 a1 "com/example/draftd/draftd/odata/ServiceSettings" "lockTimeout" "Ljava/time/Duration;" (.ref q1)) :
    Con l Z (⟨"com/example/draftd/draftd/odata/ServiceSettings", "getLockTimeout", "()Ljava/time/Duration;"⟩ : MethodName) prog_25_method_6_code 1 (some (.object "java/time/Duration")) ({ frames := 0, cells := 0, slots := 0, locals := 0 } : Room) ws #[(.ref a1)] h0 (Qret (some (.ref q1)) h0 n0) 0 0 := by
  refine Con.of (plainFor_of_name own_pn_ServiceSettings) ?_
  intro p e s m below meth c s₁ X0 hx hZ hby hml hown hnm hret hlk e0 hs0
  have N0 := Fr.nil n0
  have hown : s.vm.findClass "com/example/draftd/draftd/odata/ServiceSettings" = some m.cls := hown
  have hnm : meth.name = "getLockTimeout" := hnm
  refine Go.cast (own_ef_prog_25_method_6_code_R m a1) ?_
  refine Go.step (T' := s₁) (g' := (mkF m 1 #[.val (.ref a1)] [(.ref a1)])) (fun _ k => XS.aloadN X0.here hx rfl (hb hby d_prog_25_method_6_0) rfl rfl k) ?_
  obtain ⟨T101, X101, e101, st101⟩ := getF X0 hx hZ hown (host := "") (Or.inl (hw _ (List.mem_of_getElem? (i := 16) rfl))) Via.refl e0 F1 (g := (mkF m 1 #[.val (.ref a1)] [(.ref a1)])) rfl rfl (hb hby d_prog_25_method_6_1)
  refine Go.step (T' := T101) (g' := (mkF m 4 #[.val (.ref a1)] [(.ref q1)])) st101 ?_
  exact Go.retA X101 hx (t := (.object "java/time/Duration")) hret rfl hlk rfl (hb hby d_prog_25_method_6_4) (⟨rfl, N0, e101⟩) (by decide) (by decide)
theorem own_ef_prog_25_method_7_code_R (m : MethodId) (x0 : Addr) : entryFrame m #[(.ref x0)] 1 = mkF m 0 #[.val (.ref x0)] [] := by first | (simp [entryFrame, mkF, argsToLocals, Value.category]; done) | rfl
theorem d_prog_25_method_7_0 : decode prog_25_method_7_code 0 = .ok (.aload_n 0, 1) := by decide +kernel
theorem d_prog_25_method_7_1 : decode prog_25_method_7_code 1 = .ok (.getfield 19, 3) := by decide +kernel
theorem d_prog_25_method_7_4 : decode prog_25_method_7_code 4 = .ok (.areturn, 1) := by decide +kernel
set_option maxRecDepth 65536 in
set_option maxHeartbeats 40000000 in
theorem own_getDraftLifetime (l : Launch) (Z : State) (a0 : Array Value) (hw : ∀ d ∈ tables_1, d.before a0 Z = true) (ws : List Jvm.Cond) (a1 : Addr) (q1 : Addr) (h0 : Heap) (n0 : Nat) (Z0 : n0 ≤ h0.size) (F1 : Fld Z h0 a1 "com/example/draftd/draftd/odata/ServiceSettings" "draftLifetime" "Ljava/time/Duration;" (.ref q1)) :
    Con l Z (⟨"com/example/draftd/draftd/odata/ServiceSettings", "getDraftLifetime", "()Ljava/time/Duration;"⟩ : MethodName) prog_25_method_7_code 1 (some (.object "java/time/Duration")) ({ frames := 0, cells := 0, slots := 0, locals := 0 } : Room) ws #[(.ref a1)] h0 (Qret (some (.ref q1)) h0 n0) 0 0 := by
  refine Con.of (plainFor_of_name own_pn_ServiceSettings) ?_
  intro p e s m below meth c s₁ X0 hx hZ hby hml hown hnm hret hlk e0 hs0
  have N0 := Fr.nil n0
  have hown : s.vm.findClass "com/example/draftd/draftd/odata/ServiceSettings" = some m.cls := hown
  have hnm : meth.name = "getDraftLifetime" := hnm
  refine Go.cast (own_ef_prog_25_method_7_code_R m a1) ?_
  refine Go.step (T' := s₁) (g' := (mkF m 1 #[.val (.ref a1)] [(.ref a1)])) (fun _ k => XS.aloadN X0.here hx rfl (hb hby d_prog_25_method_7_0) rfl rfl k) ?_
  obtain ⟨T101, X101, e101, st101⟩ := getF X0 hx hZ hown (host := "") (Or.inl (hw _ (List.mem_of_getElem? (i := 20) rfl))) Via.refl e0 F1 (g := (mkF m 1 #[.val (.ref a1)] [(.ref a1)])) rfl rfl (hb hby d_prog_25_method_7_1)
  refine Go.step (T' := T101) (g' := (mkF m 4 #[.val (.ref a1)] [(.ref q1)])) st101 ?_
  exact Go.retA X101 hx (t := (.object "java/time/Duration")) hret rfl hlk rfl (hb hby d_prog_25_method_7_4) (⟨rfl, N0, e101⟩) (by decide) (by decide)
def Qini (Z : State) (a : Addr) (l d : Value) (pg : Int32) (h0 : Heap) (n0 : Nat) (v : Option Value) (h : Heap) (L : List Loc) : Prop := v = none ∧ Fr n0 L ∧ Keep h0 h [a] ∧ Fld Z h a "com/example/draftd/draftd/odata/ServiceSettings" "lockTimeout" "Ljava/time/Duration;" l ∧ Fld Z h a "com/example/draftd/draftd/odata/ServiceSettings" "draftLifetime" "Ljava/time/Duration;" d ∧ Fld Z h a "com/example/draftd/draftd/odata/ServiceSettings" "pageSize" "I" (.int pg)
theorem own_ef_prog_25_method_1_code_R (m : MethodId) (x0 : Addr) : entryFrame m #[(.ref x0)] 1 = mkF m 0 #[.val (.ref x0)] [] := by first | (simp [entryFrame, mkF, argsToLocals, Value.category]; done) | rfl
theorem d_prog_25_method_1_0 : decode prog_25_method_1_code 0 = .ok (.aload_n 0, 1) := by decide +kernel
theorem d_prog_25_method_1_1 : decode prog_25_method_1_code 1 = .ok (.invokespecial 1, 3) := by decide +kernel
theorem d_prog_25_method_1_4 : decode prog_25_method_1_code 4 = .ok (.aload_n 0, 1) := by decide +kernel
theorem d_prog_25_method_1_5 : decode prog_25_method_1_code 5 = .ok (.getstatic 7, 3) := by decide +kernel
theorem d_prog_25_method_1_8 : decode prog_25_method_1_code 8 = .ok (.putfield 13, 3) := by decide +kernel
theorem d_prog_25_method_1_11 : decode prog_25_method_1_code 11 = .ok (.aload_n 0, 1) := by decide +kernel
theorem d_prog_25_method_1_12 : decode prog_25_method_1_code 12 = .ok (.getstatic 16, 3) := by decide +kernel
theorem d_prog_25_method_1_15 : decode prog_25_method_1_code 15 = .ok (.putfield 19, 3) := by decide +kernel
theorem d_prog_25_method_1_18 : decode prog_25_method_1_code 18 = .ok (.aload_n 0, 1) := by decide +kernel
theorem d_prog_25_method_1_19 : decode prog_25_method_1_code 19 = .ok (.bipush 100, 2) := by decide +kernel
theorem d_prog_25_method_1_21 : decode prog_25_method_1_code 21 = .ok (.putfield 22, 3) := by decide +kernel
theorem d_prog_25_method_1_24 : decode prog_25_method_1_code 24 = .ok (.return_, 1) := by decide +kernel
set_option maxRecDepth 65536 in
set_option maxHeartbeats 40000000 in
theorem own_ini0 (l : Launch) (Z : State) (a0 : Array Value) (hw : ∀ d ∈ tables_1, d.before a0 Z = true) (ws : List Jvm.Cond) (a1 wL wD : Addr) (u0 u1 u2 : Value) (h0 : Heap) (n0 : Nat) (Z0 : n0 ≤ h0.size) (S0 : Sta Z h0 "com/example/draftd/draftd/odata/ServiceSettings" "DEFAULT_LOCK_TIMEOUT" "Ljava/time/Duration;" (.ref wL)) (S1 : Sta Z h0 "com/example/draftd/draftd/odata/ServiceSettings" "DEFAULT_DRAFT_LIFETIME" "Ljava/time/Duration;" (.ref wD)) (E1 : Exa Z h0 a1 "com/example/draftd/draftd/odata/ServiceSettings") (g1 : n0 ≤ a1) (U0 : Fld Z h0 a1 "com/example/draftd/draftd/odata/ServiceSettings" "lockTimeout" "Ljava/time/Duration;" u0) (U1 : Fld Z h0 a1 "com/example/draftd/draftd/odata/ServiceSettings" "draftLifetime" "Ljava/time/Duration;" u1) (U2 : Fld Z h0 a1 "com/example/draftd/draftd/odata/ServiceSettings" "pageSize" "I" u2) :
    Con l Z (⟨"com/example/draftd/draftd/odata/ServiceSettings", "<init>", "()V"⟩ : MethodName) prog_25_method_1_code 1 none ({ frames := 1, cells := 0, slots := 0, locals := 12 } : Room) ws #[(.ref a1)] h0 (Qini Z a1 (.ref wL) (.ref wD) 100 h0 n0) 0 0 := by
  refine Con.of (plainFor_of_name own_pn_ServiceSettings) ?_
  intro p e s m below meth c s₁ X0 hx hZ hby hml hown hnm hret hlk e0 hs0
  have N0 := Fr.nil n0
  have hown : s.vm.findClass "com/example/draftd/draftd/odata/ServiceSettings" = some m.cls := hown
  have hnm : meth.name = "<init>" := hnm
  refine Go.cast (own_ef_prog_25_method_1_code_R m a1) ?_
  have K0 := Keep.refl h0 [a1]
  refine Go.step (T' := s₁) (g' := (mkF m 1 #[.val (.ref a1)] [(.ref a1)])) (fun _ k => XS.aloadN X0.here hx rfl (hb hby d_prog_25_method_1_0) rfl rfl k) ?_
  obtain ⟨T101, X101, e101, st101⟩ := initO X0 hx hZ hown (hw _ (List.mem_of_getElem? (i := 11) rfl)) (hw _ (List.mem_of_getElem? (i := 12) rfl)) (hw _ (List.mem_of_getElem? (i := 13) rfl)) e0 (g := (mkF m 1 #[.val (.ref a1)] [(.ref a1)])) rfl (by rw [hml]; rfl) rfl (hb hby d_prog_25_method_1_1) (by decide) (W := 0) (by show 2 * 0 + _ ≤ _; exact Nat.le_of_eq rfl) (by decide)
  refine Go.step (T' := T101) (g' := (mkF m 4 #[.val (.ref a1)] [])) st101 ?_
  refine Go.step (T' := T101) (g' := (mkF m 5 #[.val (.ref a1)] [(.ref a1)])) (fun _ k => XS.aloadN X101.here hx rfl (hb hby d_prog_25_method_1_4) rfl rfl k) ?_
  obtain ⟨T102, X102, e102, st102⟩ := getS2 X101 hx hZ hown (host := "") (Or.inl (hw _ (List.mem_of_getElem? (i := 14) rfl))) Via.refl e101 S0 (g := (mkF m 5 #[.val (.ref a1)] [(.ref a1)])) rfl (hb hby d_prog_25_method_1_5)
  refine Go.step (T' := T102) (g' := (mkF m 8 #[.val (.ref a1)] [(.ref wL), (.ref a1)])) st102 ?_
  obtain ⟨T103, h103, X103, e103, W103, st103⟩ := putF X102 hx hZ hown (host := "") (Or.inl (hw _ (List.mem_of_getElem? (i := 16) rfl))) Via.refl e102 U0 E1 (Or.inl (hw _ (List.mem_of_getElem? (i := 17) rfl))) (hw _ (List.mem_of_getElem? (i := 6) rfl)) (ty := (.object "java/time/Duration")) (by decide) rfl rfl (g := (mkF m 8 #[.val (.ref a1)] [(.ref wL), (.ref a1)])) rfl rfl (hb hby d_prog_25_method_1_8)
  have N103 := Fr.snoc X103 N0 g1
  have Z103 : n0 ≤ h103.size := Nat.le_trans Z0 (Keep.of_wr W103).1
  have K103 := K0.wr W103 (Or.inl (List.mem_of_getElem? (i := 0) rfl))
  have F104 := S0.wr W103
  have F105 := S1.wr W103
  have F106 := E1.wr W103
  have F107 := U1.other W103 (Or.inr (slot_ne (Or.inl (hw _ (List.mem_of_getElem? (i := 21) rfl))) (Or.inl (hw _ (List.mem_of_getElem? (i := 17) rfl))) (by decide) (t := (.object "java/time/Duration")) (t' := (.object "java/time/Duration")) (by decide) (by decide)))
  have F108 := U2.other W103 (Or.inr (slot_ne (Or.inl (hw _ (List.mem_of_getElem? (i := 23) rfl))) (Or.inl (hw _ (List.mem_of_getElem? (i := 17) rfl))) (by decide) (t := .int) (t' := (.object "java/time/Duration")) (by decide) (by decide)))
  have F109 := U0.same W103
  refine Go.step (T' := T103) (g' := (mkF m 11 #[.val (.ref a1)] [])) st103 ?_
  refine Go.step (T' := T103) (g' := (mkF m 12 #[.val (.ref a1)] [(.ref a1)])) (fun _ k => XS.aloadN X103.here hx rfl (hb hby d_prog_25_method_1_11) rfl rfl k) ?_
  obtain ⟨T110, X110, e110, st110⟩ := getS2 X103 hx hZ hown (host := "") (Or.inl (hw _ (List.mem_of_getElem? (i := 18) rfl))) Via.refl e103 F105 (g := (mkF m 12 #[.val (.ref a1)] [(.ref a1)])) rfl (hb hby d_prog_25_method_1_12)
  refine Go.step (T' := T110) (g' := (mkF m 15 #[.val (.ref a1)] [(.ref wD), (.ref a1)])) st110 ?_
  obtain ⟨T111, h111, X111, e111, W111, st111⟩ := putF X110 hx hZ hown (host := "") (Or.inl (hw _ (List.mem_of_getElem? (i := 20) rfl))) Via.refl e110 F107 F106 (Or.inl (hw _ (List.mem_of_getElem? (i := 21) rfl))) (hw _ (List.mem_of_getElem? (i := 6) rfl)) (ty := (.object "java/time/Duration")) (by decide) rfl rfl (g := (mkF m 15 #[.val (.ref a1)] [(.ref wD), (.ref a1)])) rfl rfl (hb hby d_prog_25_method_1_15)
  have N111 := Fr.snoc X111 N103 g1
  have Z111 : n0 ≤ h111.size := Nat.le_trans Z103 (Keep.of_wr W111).1
  have K111 := K103.wr W111 (Or.inl (List.mem_of_getElem? (i := 0) rfl))
  have F112 := F104.wr W111
  have F113 := F105.wr W111
  have F114 := F106.wr W111
  have F115 := F108.other W111 (Or.inr (slot_ne (Or.inl (hw _ (List.mem_of_getElem? (i := 23) rfl))) (Or.inl (hw _ (List.mem_of_getElem? (i := 21) rfl))) (by decide) (t := .int) (t' := (.object "java/time/Duration")) (by decide) (by decide)))
  have F116 := F109.other W111 (Or.inr (slot_ne (Or.inl (hw _ (List.mem_of_getElem? (i := 17) rfl))) (Or.inl (hw _ (List.mem_of_getElem? (i := 21) rfl))) (by decide) (t := (.object "java/time/Duration")) (t' := (.object "java/time/Duration")) (by decide) (by decide)))
  have F117 := F107.same W111
  refine Go.step (T' := T111) (g' := (mkF m 18 #[.val (.ref a1)] [])) st111 ?_
  refine Go.step (T' := T111) (g' := (mkF m 19 #[.val (.ref a1)] [(.ref a1)])) (fun _ k => XS.aloadN X111.here hx rfl (hb hby d_prog_25_method_1_18) rfl rfl k) ?_
  refine Go.step (T' := T111) (g' := (mkF m 21 #[.val (.ref a1)] [(.int (100 : Int32)), (.ref a1)])) (fun _ k => XS.bipush X111.here hx rfl (hb hby d_prog_25_method_1_19) k) ?_
  obtain ⟨T118, h118, X118, e118, W118, st118⟩ := putF X111 hx hZ hown (host := "") (Or.inl (hw _ (List.mem_of_getElem? (i := 22) rfl))) Via.refl e111 F115 F114 (Or.inl (hw _ (List.mem_of_getElem? (i := 23) rfl))) (hw _ (List.mem_of_getElem? (i := 6) rfl)) (ty := .int) (by decide) rfl rfl (g := (mkF m 21 #[.val (.ref a1)] [(.int (100 : Int32)), (.ref a1)])) rfl rfl (hb hby d_prog_25_method_1_21)
  have N118 := Fr.snoc X118 N111 g1
  have Z118 : n0 ≤ h118.size := Nat.le_trans Z111 (Keep.of_wr W118).1
  have K118 := K111.wr W118 (Or.inl (List.mem_of_getElem? (i := 0) rfl))
  have F119 := F112.wr W118
  have F120 := F113.wr W118
  have F121 := F114.wr W118
  have F122 := F116.other W118 (Or.inr (slot_ne (Or.inl (hw _ (List.mem_of_getElem? (i := 17) rfl))) (Or.inl (hw _ (List.mem_of_getElem? (i := 23) rfl))) (by decide) (t := (.object "java/time/Duration")) (t' := .int) (by decide) (by decide)))
  have F123 := F117.other W118 (Or.inr (slot_ne (Or.inl (hw _ (List.mem_of_getElem? (i := 21) rfl))) (Or.inl (hw _ (List.mem_of_getElem? (i := 23) rfl))) (by decide) (t := (.object "java/time/Duration")) (t' := .int) (by decide) (by decide)))
  have F124 := F115.same W118
  refine Go.step (T' := T118) (g' := (mkF m 24 #[.val (.ref a1)] [])) st118 ?_
  exact Go.retV X118 hx hret hlk (hb hby d_prog_25_method_1_24) (by rw [e118]; exact ⟨rfl, N118, K118, F122, F123, F124⟩) (by decide) (by decide)
theorem own_ef_prog_25_method_2_code_RR (m : MethodId) (x0 : Addr) (x1 : Addr) : entryFrame m #[(.ref x0), (.ref x1)] 2 = mkF m 0 #[.val (.ref x0), .val (.ref x1)] [] := by first | (simp [entryFrame, mkF, argsToLocals, Value.category]; done) | rfl
theorem d_prog_25_method_2_0 : decode prog_25_method_2_code 0 = .ok (.aload_n 0, 1) := by decide +kernel
theorem d_prog_25_method_2_1 : decode prog_25_method_2_code 1 = .ok (.invokespecial 1, 3) := by decide +kernel
theorem d_prog_25_method_2_4 : decode prog_25_method_2_code 4 = .ok (.aload_n 0, 1) := by decide +kernel
theorem d_prog_25_method_2_5 : decode prog_25_method_2_code 5 = .ok (.getstatic 7, 3) := by decide +kernel
theorem d_prog_25_method_2_8 : decode prog_25_method_2_code 8 = .ok (.putfield 13, 3) := by decide +kernel
theorem d_prog_25_method_2_11 : decode prog_25_method_2_code 11 = .ok (.aload_n 0, 1) := by decide +kernel
theorem d_prog_25_method_2_12 : decode prog_25_method_2_code 12 = .ok (.getstatic 16, 3) := by decide +kernel
theorem d_prog_25_method_2_15 : decode prog_25_method_2_code 15 = .ok (.putfield 19, 3) := by decide +kernel
theorem d_prog_25_method_2_18 : decode prog_25_method_2_code 18 = .ok (.aload_n 0, 1) := by decide +kernel
theorem d_prog_25_method_2_19 : decode prog_25_method_2_code 19 = .ok (.bipush 100, 2) := by decide +kernel
theorem d_prog_25_method_2_21 : decode prog_25_method_2_code 21 = .ok (.putfield 22, 3) := by decide +kernel
theorem d_prog_25_method_2_24 : decode prog_25_method_2_code 24 = .ok (.aload_n 0, 1) := by decide +kernel
theorem d_prog_25_method_2_25 : decode prog_25_method_2_code 25 = .ok (.aload_n 1, 1) := by decide +kernel
theorem d_prog_25_method_2_26 : decode prog_25_method_2_code 26 = .ok (.getfield 13, 3) := by decide +kernel
theorem d_prog_25_method_2_29 : decode prog_25_method_2_code 29 = .ok (.putfield 13, 3) := by decide +kernel
theorem d_prog_25_method_2_32 : decode prog_25_method_2_code 32 = .ok (.aload_n 0, 1) := by decide +kernel
theorem d_prog_25_method_2_33 : decode prog_25_method_2_code 33 = .ok (.aload_n 1, 1) := by decide +kernel
theorem d_prog_25_method_2_34 : decode prog_25_method_2_code 34 = .ok (.getfield 19, 3) := by decide +kernel
theorem d_prog_25_method_2_37 : decode prog_25_method_2_code 37 = .ok (.putfield 19, 3) := by decide +kernel
theorem d_prog_25_method_2_40 : decode prog_25_method_2_code 40 = .ok (.aload_n 0, 1) := by decide +kernel
theorem d_prog_25_method_2_41 : decode prog_25_method_2_code 41 = .ok (.aload_n 1, 1) := by decide +kernel
theorem d_prog_25_method_2_42 : decode prog_25_method_2_code 42 = .ok (.getfield 22, 3) := by decide +kernel
theorem d_prog_25_method_2_45 : decode prog_25_method_2_code 45 = .ok (.putfield 22, 3) := by decide +kernel
theorem d_prog_25_method_2_48 : decode prog_25_method_2_code 48 = .ok (.return_, 1) := by decide +kernel
set_option maxRecDepth 65536 in
set_option maxHeartbeats 40000000 in
theorem own_ini1 (l : Launch) (Z : State) (a0 : Array Value) (hw : ∀ d ∈ tables_1, d.before a0 Z = true) (ws : List Jvm.Cond) (a1 a2 wL wD xl xd : Addr) (xp : Int32) (u0 u1 u2 : Value) (h0 : Heap) (n0 : Nat) (Z0 : n0 ≤ h0.size) (S0 : Sta Z h0 "com/example/draftd/draftd/odata/ServiceSettings" "DEFAULT_LOCK_TIMEOUT" "Ljava/time/Duration;" (.ref wL)) (S1 : Sta Z h0 "com/example/draftd/draftd/odata/ServiceSettings" "DEFAULT_DRAFT_LIFETIME" "Ljava/time/Duration;" (.ref wD)) (E1 : Exa Z h0 a1 "com/example/draftd/draftd/odata/ServiceSettings") (g1 : n0 ≤ a1) (U0 : Fld Z h0 a1 "com/example/draftd/draftd/odata/ServiceSettings" "lockTimeout" "Ljava/time/Duration;" u0) (U1 : Fld Z h0 a1 "com/example/draftd/draftd/odata/ServiceSettings" "draftLifetime" "Ljava/time/Duration;" u1) (U2 : Fld Z h0 a1 "com/example/draftd/draftd/odata/ServiceSettings" "pageSize" "I" u2) (n21 : a2 ≠ a1) (G0 : Fld Z h0 a2 "com/example/draftd/draftd/odata/ServiceSettings" "lockTimeout" "Ljava/time/Duration;" (.ref xl)) (G1 : Fld Z h0 a2 "com/example/draftd/draftd/odata/ServiceSettings" "draftLifetime" "Ljava/time/Duration;" (.ref xd)) (G2 : Fld Z h0 a2 "com/example/draftd/draftd/odata/ServiceSettings" "pageSize" "I" (.int xp)) :
    Con l Z (⟨"com/example/draftd/draftd/odata/ServiceSettings", "<init>", "(Lcom/example/draftd/draftd/odata/ServiceSettings;)V"⟩ : MethodName) prog_25_method_2_code 2 none ({ frames := 1, cells := 0, slots := 0, locals := 12 } : Room) ws #[(.ref a1), (.ref a2)] h0 (Qini Z a1 (.ref xl) (.ref xd) xp h0 n0) 0 0 := by
  refine Con.of (plainFor_of_name own_pn_ServiceSettings) ?_
  intro p e s m below meth c s₁ X0 hx hZ hby hml hown hnm hret hlk e0 hs0
  have N0 := Fr.nil n0
  have hown : s.vm.findClass "com/example/draftd/draftd/odata/ServiceSettings" = some m.cls := hown
  have hnm : meth.name = "<init>" := hnm
  refine Go.cast (own_ef_prog_25_method_2_code_RR m a1 a2) ?_
  have K0 := Keep.refl h0 [a1]
  refine Go.step (T' := s₁) (g' := (mkF m 1 #[.val (.ref a1), .val (.ref a2)] [(.ref a1)])) (fun _ k => XS.aloadN X0.here hx rfl (hb hby d_prog_25_method_2_0) rfl rfl k) ?_
  obtain ⟨T101, X101, e101, st101⟩ := initO X0 hx hZ hown (hw _ (List.mem_of_getElem? (i := 11) rfl)) (hw _ (List.mem_of_getElem? (i := 12) rfl)) (hw _ (List.mem_of_getElem? (i := 13) rfl)) e0 (g := (mkF m 1 #[.val (.ref a1), .val (.ref a2)] [(.ref a1)])) rfl (by rw [hml]; rfl) rfl (hb hby d_prog_25_method_2_1) (by decide) (W := 0) (by show 2 * 0 + _ ≤ _; exact Nat.le_of_eq rfl) (by decide)
  refine Go.step (T' := T101) (g' := (mkF m 4 #[.val (.ref a1), .val (.ref a2)] [])) st101 ?_
  refine Go.step (T' := T101) (g' := (mkF m 5 #[.val (.ref a1), .val (.ref a2)] [(.ref a1)])) (fun _ k => XS.aloadN X101.here hx rfl (hb hby d_prog_25_method_2_4) rfl rfl k) ?_
  obtain ⟨T102, X102, e102, st102⟩ := getS2 X101 hx hZ hown (host := "") (Or.inl (hw _ (List.mem_of_getElem? (i := 14) rfl))) Via.refl e101 S0 (g := (mkF m 5 #[.val (.ref a1), .val (.ref a2)] [(.ref a1)])) rfl (hb hby d_prog_25_method_2_5)
  refine Go.step (T' := T102) (g' := (mkF m 8 #[.val (.ref a1), .val (.ref a2)] [(.ref wL), (.ref a1)])) st102 ?_
  obtain ⟨T103, h103, X103, e103, W103, st103⟩ := putF X102 hx hZ hown (host := "") (Or.inl (hw _ (List.mem_of_getElem? (i := 16) rfl))) Via.refl e102 U0 E1 (Or.inl (hw _ (List.mem_of_getElem? (i := 17) rfl))) (hw _ (List.mem_of_getElem? (i := 6) rfl)) (ty := (.object "java/time/Duration")) (by decide) rfl rfl (g := (mkF m 8 #[.val (.ref a1), .val (.ref a2)] [(.ref wL), (.ref a1)])) rfl rfl (hb hby d_prog_25_method_2_8)
  have N103 := Fr.snoc X103 N0 g1
  have Z103 : n0 ≤ h103.size := Nat.le_trans Z0 (Keep.of_wr W103).1
  have K103 := K0.wr W103 (Or.inl (List.mem_of_getElem? (i := 0) rfl))
  have F104 := S0.wr W103
  have F105 := S1.wr W103
  have F106 := E1.wr W103
  have F107 := U1.other W103 (Or.inr (slot_ne (Or.inl (hw _ (List.mem_of_getElem? (i := 21) rfl))) (Or.inl (hw _ (List.mem_of_getElem? (i := 17) rfl))) (by decide) (t := (.object "java/time/Duration")) (t' := (.object "java/time/Duration")) (by decide) (by decide)))
  have F108 := U2.other W103 (Or.inr (slot_ne (Or.inl (hw _ (List.mem_of_getElem? (i := 23) rfl))) (Or.inl (hw _ (List.mem_of_getElem? (i := 17) rfl))) (by decide) (t := .int) (t' := (.object "java/time/Duration")) (by decide) (by decide)))
  have F109 := G0.other W103 (Or.inl n21)
  have F110 := G1.other W103 (Or.inl n21)
  have F111 := G2.other W103 (Or.inl n21)
  have F112 := U0.same W103
  refine Go.step (T' := T103) (g' := (mkF m 11 #[.val (.ref a1), .val (.ref a2)] [])) st103 ?_
  refine Go.step (T' := T103) (g' := (mkF m 12 #[.val (.ref a1), .val (.ref a2)] [(.ref a1)])) (fun _ k => XS.aloadN X103.here hx rfl (hb hby d_prog_25_method_2_11) rfl rfl k) ?_
  obtain ⟨T113, X113, e113, st113⟩ := getS2 X103 hx hZ hown (host := "") (Or.inl (hw _ (List.mem_of_getElem? (i := 18) rfl))) Via.refl e103 F105 (g := (mkF m 12 #[.val (.ref a1), .val (.ref a2)] [(.ref a1)])) rfl (hb hby d_prog_25_method_2_12)
  refine Go.step (T' := T113) (g' := (mkF m 15 #[.val (.ref a1), .val (.ref a2)] [(.ref wD), (.ref a1)])) st113 ?_
  obtain ⟨T114, h114, X114, e114, W114, st114⟩ := putF X113 hx hZ hown (host := "") (Or.inl (hw _ (List.mem_of_getElem? (i := 20) rfl))) Via.refl e113 F107 F106 (Or.inl (hw _ (List.mem_of_getElem? (i := 21) rfl))) (hw _ (List.mem_of_getElem? (i := 6) rfl)) (ty := (.object "java/time/Duration")) (by decide) rfl rfl (g := (mkF m 15 #[.val (.ref a1), .val (.ref a2)] [(.ref wD), (.ref a1)])) rfl rfl (hb hby d_prog_25_method_2_15)
  have N114 := Fr.snoc X114 N103 g1
  have Z114 : n0 ≤ h114.size := Nat.le_trans Z103 (Keep.of_wr W114).1
  have K114 := K103.wr W114 (Or.inl (List.mem_of_getElem? (i := 0) rfl))
  have F115 := F104.wr W114
  have F116 := F105.wr W114
  have F117 := F106.wr W114
  have F118 := F108.other W114 (Or.inr (slot_ne (Or.inl (hw _ (List.mem_of_getElem? (i := 23) rfl))) (Or.inl (hw _ (List.mem_of_getElem? (i := 21) rfl))) (by decide) (t := .int) (t' := (.object "java/time/Duration")) (by decide) (by decide)))
  have F119 := F109.other W114 (Or.inl n21)
  have F120 := F110.other W114 (Or.inl n21)
  have F121 := F111.other W114 (Or.inl n21)
  have F122 := F112.other W114 (Or.inr (slot_ne (Or.inl (hw _ (List.mem_of_getElem? (i := 17) rfl))) (Or.inl (hw _ (List.mem_of_getElem? (i := 21) rfl))) (by decide) (t := (.object "java/time/Duration")) (t' := (.object "java/time/Duration")) (by decide) (by decide)))
  have F123 := F107.same W114
  refine Go.step (T' := T114) (g' := (mkF m 18 #[.val (.ref a1), .val (.ref a2)] [])) st114 ?_
  refine Go.step (T' := T114) (g' := (mkF m 19 #[.val (.ref a1), .val (.ref a2)] [(.ref a1)])) (fun _ k => XS.aloadN X114.here hx rfl (hb hby d_prog_25_method_2_18) rfl rfl k) ?_
  refine Go.step (T' := T114) (g' := (mkF m 21 #[.val (.ref a1), .val (.ref a2)] [(.int (100 : Int32)), (.ref a1)])) (fun _ k => XS.bipush X114.here hx rfl (hb hby d_prog_25_method_2_19) k) ?_
  obtain ⟨T124, h124, X124, e124, W124, st124⟩ := putF X114 hx hZ hown (host := "") (Or.inl (hw _ (List.mem_of_getElem? (i := 22) rfl))) Via.refl e114 F118 F117 (Or.inl (hw _ (List.mem_of_getElem? (i := 23) rfl))) (hw _ (List.mem_of_getElem? (i := 6) rfl)) (ty := .int) (by decide) rfl rfl (g := (mkF m 21 #[.val (.ref a1), .val (.ref a2)] [(.int (100 : Int32)), (.ref a1)])) rfl rfl (hb hby d_prog_25_method_2_21)
  have N124 := Fr.snoc X124 N114 g1
  have Z124 : n0 ≤ h124.size := Nat.le_trans Z114 (Keep.of_wr W124).1
  have K124 := K114.wr W124 (Or.inl (List.mem_of_getElem? (i := 0) rfl))
  have F125 := F115.wr W124
  have F126 := F116.wr W124
  have F127 := F117.wr W124
  have F128 := F119.other W124 (Or.inl n21)
  have F129 := F120.other W124 (Or.inl n21)
  have F130 := F121.other W124 (Or.inl n21)
  have F131 := F122.other W124 (Or.inr (slot_ne (Or.inl (hw _ (List.mem_of_getElem? (i := 17) rfl))) (Or.inl (hw _ (List.mem_of_getElem? (i := 23) rfl))) (by decide) (t := (.object "java/time/Duration")) (t' := .int) (by decide) (by decide)))
  have F132 := F123.other W124 (Or.inr (slot_ne (Or.inl (hw _ (List.mem_of_getElem? (i := 21) rfl))) (Or.inl (hw _ (List.mem_of_getElem? (i := 23) rfl))) (by decide) (t := (.object "java/time/Duration")) (t' := .int) (by decide) (by decide)))
  have F133 := F118.same W124
  refine Go.step (T' := T124) (g' := (mkF m 24 #[.val (.ref a1), .val (.ref a2)] [])) st124 ?_
  refine Go.step (T' := T124) (g' := (mkF m 25 #[.val (.ref a1), .val (.ref a2)] [(.ref a1)])) (fun _ k => XS.aloadN X124.here hx rfl (hb hby d_prog_25_method_2_24) rfl rfl k) ?_
  refine Go.step (T' := T124) (g' := (mkF m 26 #[.val (.ref a1), .val (.ref a2)] [(.ref a2), (.ref a1)])) (fun _ k => XS.aloadN X124.here hx rfl (hb hby d_prog_25_method_2_25) rfl rfl k) ?_
  obtain ⟨T134, X134, e134, st134⟩ := getF X124 hx hZ hown (host := "") (Or.inl (hw _ (List.mem_of_getElem? (i := 16) rfl))) Via.refl e124 F128 (g := (mkF m 26 #[.val (.ref a1), .val (.ref a2)] [(.ref a2), (.ref a1)])) rfl rfl (hb hby d_prog_25_method_2_26)
  refine Go.step (T' := T134) (g' := (mkF m 29 #[.val (.ref a1), .val (.ref a2)] [(.ref xl), (.ref a1)])) st134 ?_
  obtain ⟨T135, h135, X135, e135, W135, st135⟩ := putF X134 hx hZ hown (host := "") (Or.inl (hw _ (List.mem_of_getElem? (i := 16) rfl))) Via.refl e134 F131 F127 (Or.inl (hw _ (List.mem_of_getElem? (i := 17) rfl))) (hw _ (List.mem_of_getElem? (i := 6) rfl)) (ty := (.object "java/time/Duration")) (by decide) rfl rfl (g := (mkF m 29 #[.val (.ref a1), .val (.ref a2)] [(.ref xl), (.ref a1)])) rfl rfl (hb hby d_prog_25_method_2_29)
  have N135 := Fr.snoc X135 N124 g1
  have Z135 : n0 ≤ h135.size := Nat.le_trans Z124 (Keep.of_wr W135).1
  have K135 := K124.wr W135 (Or.inl (List.mem_of_getElem? (i := 0) rfl))
  have F136 := F125.wr W135
  have F137 := F126.wr W135
  have F138 := F127.wr W135
  have F139 := F128.other W135 (Or.inl n21)
  have F140 := F129.other W135 (Or.inl n21)
  have F141 := F130.other W135 (Or.inl n21)
  have F142 := F132.other W135 (Or.inr (slot_ne (Or.inl (hw _ (List.mem_of_getElem? (i := 21) rfl))) (Or.inl (hw _ (List.mem_of_getElem? (i := 17) rfl))) (by decide) (t := (.object "java/time/Duration")) (t' := (.object "java/time/Duration")) (by decide) (by decide)))
  have F143 := F133.other W135 (Or.inr (slot_ne (Or.inl (hw _ (List.mem_of_getElem? (i := 23) rfl))) (Or.inl (hw _ (List.mem_of_getElem? (i := 17) rfl))) (by decide) (t := .int) (t' := (.object "java/time/Duration")) (by decide) (by decide)))
  have F144 := F131.same W135
  refine Go.step (T' := T135) (g' := (mkF m 32 #[.val (.ref a1), .val (.ref a2)] [])) st135 ?_
  refine Go.step (T' := T135) (g' := (mkF m 33 #[.val (.ref a1), .val (.ref a2)] [(.ref a1)])) (fun _ k => XS.aloadN X135.here hx rfl (hb hby d_prog_25_method_2_32) rfl rfl k) ?_
  refine Go.step (T' := T135) (g' := (mkF m 34 #[.val (.ref a1), .val (.ref a2)] [(.ref a2), (.ref a1)])) (fun _ k => XS.aloadN X135.here hx rfl (hb hby d_prog_25_method_2_33) rfl rfl k) ?_
  obtain ⟨T145, X145, e145, st145⟩ := getF X135 hx hZ hown (host := "") (Or.inl (hw _ (List.mem_of_getElem? (i := 20) rfl))) Via.refl e135 F140 (g := (mkF m 34 #[.val (.ref a1), .val (.ref a2)] [(.ref a2), (.ref a1)])) rfl rfl (hb hby d_prog_25_method_2_34)
  refine Go.step (T' := T145) (g' := (mkF m 37 #[.val (.ref a1), .val (.ref a2)] [(.ref xd), (.ref a1)])) st145 ?_
  obtain ⟨T146, h146, X146, e146, W146, st146⟩ := putF X145 hx hZ hown (host := "") (Or.inl (hw _ (List.mem_of_getElem? (i := 20) rfl))) Via.refl e145 F142 F138 (Or.inl (hw _ (List.mem_of_getElem? (i := 21) rfl))) (hw _ (List.mem_of_getElem? (i := 6) rfl)) (ty := (.object "java/time/Duration")) (by decide) rfl rfl (g := (mkF m 37 #[.val (.ref a1), .val (.ref a2)] [(.ref xd), (.ref a1)])) rfl rfl (hb hby d_prog_25_method_2_37)
  have N146 := Fr.snoc X146 N135 g1
  have Z146 : n0 ≤ h146.size := Nat.le_trans Z135 (Keep.of_wr W146).1
  have K146 := K135.wr W146 (Or.inl (List.mem_of_getElem? (i := 0) rfl))
  have F147 := F136.wr W146
  have F148 := F137.wr W146
  have F149 := F138.wr W146
  have F150 := F139.other W146 (Or.inl n21)
  have F151 := F140.other W146 (Or.inl n21)
  have F152 := F141.other W146 (Or.inl n21)
  have F153 := F143.other W146 (Or.inr (slot_ne (Or.inl (hw _ (List.mem_of_getElem? (i := 23) rfl))) (Or.inl (hw _ (List.mem_of_getElem? (i := 21) rfl))) (by decide) (t := .int) (t' := (.object "java/time/Duration")) (by decide) (by decide)))
  have F154 := F144.other W146 (Or.inr (slot_ne (Or.inl (hw _ (List.mem_of_getElem? (i := 17) rfl))) (Or.inl (hw _ (List.mem_of_getElem? (i := 21) rfl))) (by decide) (t := (.object "java/time/Duration")) (t' := (.object "java/time/Duration")) (by decide) (by decide)))
  have F155 := F142.same W146
  refine Go.step (T' := T146) (g' := (mkF m 40 #[.val (.ref a1), .val (.ref a2)] [])) st146 ?_
  refine Go.step (T' := T146) (g' := (mkF m 41 #[.val (.ref a1), .val (.ref a2)] [(.ref a1)])) (fun _ k => XS.aloadN X146.here hx rfl (hb hby d_prog_25_method_2_40) rfl rfl k) ?_
  refine Go.step (T' := T146) (g' := (mkF m 42 #[.val (.ref a1), .val (.ref a2)] [(.ref a2), (.ref a1)])) (fun _ k => XS.aloadN X146.here hx rfl (hb hby d_prog_25_method_2_41) rfl rfl k) ?_
  obtain ⟨T156, X156, e156, st156⟩ := getF X146 hx hZ hown (host := "") (Or.inl (hw _ (List.mem_of_getElem? (i := 22) rfl))) Via.refl e146 F152 (g := (mkF m 42 #[.val (.ref a1), .val (.ref a2)] [(.ref a2), (.ref a1)])) rfl rfl (hb hby d_prog_25_method_2_42)
  refine Go.step (T' := T156) (g' := (mkF m 45 #[.val (.ref a1), .val (.ref a2)] [(.int xp), (.ref a1)])) st156 ?_
  obtain ⟨T157, h157, X157, e157, W157, st157⟩ := putF X156 hx hZ hown (host := "") (Or.inl (hw _ (List.mem_of_getElem? (i := 22) rfl))) Via.refl e156 F153 F149 (Or.inl (hw _ (List.mem_of_getElem? (i := 23) rfl))) (hw _ (List.mem_of_getElem? (i := 6) rfl)) (ty := .int) (by decide) rfl rfl (g := (mkF m 45 #[.val (.ref a1), .val (.ref a2)] [(.int xp), (.ref a1)])) rfl rfl (hb hby d_prog_25_method_2_45)
  have N157 := Fr.snoc X157 N146 g1
  have Z157 : n0 ≤ h157.size := Nat.le_trans Z146 (Keep.of_wr W157).1
  have K157 := K146.wr W157 (Or.inl (List.mem_of_getElem? (i := 0) rfl))
  have F158 := F147.wr W157
  have F159 := F148.wr W157
  have F160 := F149.wr W157
  have F161 := F150.other W157 (Or.inl n21)
  have F162 := F151.other W157 (Or.inl n21)
  have F163 := F152.other W157 (Or.inl n21)
  have F164 := F154.other W157 (Or.inr (slot_ne (Or.inl (hw _ (List.mem_of_getElem? (i := 17) rfl))) (Or.inl (hw _ (List.mem_of_getElem? (i := 23) rfl))) (by decide) (t := (.object "java/time/Duration")) (t' := .int) (by decide) (by decide)))
  have F165 := F155.other W157 (Or.inr (slot_ne (Or.inl (hw _ (List.mem_of_getElem? (i := 21) rfl))) (Or.inl (hw _ (List.mem_of_getElem? (i := 23) rfl))) (by decide) (t := (.object "java/time/Duration")) (t' := .int) (by decide) (by decide)))
  have F166 := F153.same W157
  refine Go.step (T' := T157) (g' := (mkF m 48 #[.val (.ref a1), .val (.ref a2)] [])) st157 ?_
  exact Go.retV X157 hx hret hlk (hb hby d_prog_25_method_2_48) (by rw [e157]; exact ⟨rfl, N157, K157, F164, F165, F166⟩) (by decide) (by decide)
def Qwith (Z : State) (l d : Value) (pg : Int32) (h0 : Heap) (n0 : Nat) (v : Option Value) (h : Heap) (L : List Loc) : Prop := ∃ b : Addr, v = some (.ref b) ∧ Fr n0 L ∧ Keep h0 h [] ∧ h0.size ≤ b ∧ Exa Z h b "com/example/draftd/draftd/odata/ServiceSettings" ∧ Fld Z h b "com/example/draftd/draftd/odata/ServiceSettings" "lockTimeout" "Ljava/time/Duration;" l ∧ Fld Z h b "com/example/draftd/draftd/odata/ServiceSettings" "draftLifetime" "Ljava/time/Duration;" d ∧ Fld Z h b "com/example/draftd/draftd/odata/ServiceSettings" "pageSize" "I" (.int pg)
theorem own_ef_prog_25_method_5_code_RI (m : MethodId) (x0 : Addr) (x1 : Int32) : entryFrame m #[(.ref x0), (.int x1)] 3 = mkF m 0 #[.val (.ref x0), .val (.int x1), .unset] [] := by first | (simp [entryFrame, mkF, argsToLocals, Value.category]; done) | rfl
theorem d_prog_25_method_5_0 : decode prog_25_method_5_code 0 = .ok (.iload_n 1, 1) := by decide +kernel
theorem d_prog_25_method_5_1 : decode prog_25_method_5_code 1 = .ok (.iconst 1, 1) := by decide +kernel
theorem d_prog_25_method_5_2 : decode prog_25_method_5_code 2 = .ok (.if_icmp .ge 17, 3) := by decide +kernel
theorem d_prog_25_method_5_19 : decode prog_25_method_5_code 19 = .ok (.new 8, 3) := by decide +kernel
theorem d_prog_25_method_5_22 : decode prog_25_method_5_code 22 = .ok (.dup, 1) := by decide +kernel
theorem d_prog_25_method_5_23 : decode prog_25_method_5_code 23 = .ok (.aload_n 0, 1) := by decide +kernel
theorem d_prog_25_method_5_24 : decode prog_25_method_5_code 24 = .ok (.invokespecial 26, 3) := by decide +kernel
theorem own_pd0 : parseMethodDescriptor "(Lcom/example/draftd/draftd/odata/ServiceSettings;)V" = some ⟨[(.object "com/example/draftd/draftd/odata/ServiceSettings")], none⟩ := by decide +kernel
theorem d_prog_25_method_5_27 : decode prog_25_method_5_code 27 = .ok (.astore_n 2, 1) := by decide +kernel
theorem d_prog_25_method_5_28 : decode prog_25_method_5_code 28 = .ok (.aload_n 2, 1) := by decide +kernel
theorem d_prog_25_method_5_29 : decode prog_25_method_5_code 29 = .ok (.iload_n 1, 1) := by decide +kernel
theorem d_prog_25_method_5_30 : decode prog_25_method_5_code 30 = .ok (.putfield 22, 3) := by decide +kernel
theorem d_prog_25_method_5_33 : decode prog_25_method_5_code 33 = .ok (.aload_n 2, 1) := by decide +kernel
theorem d_prog_25_method_5_34 : decode prog_25_method_5_code 34 = .ok (.areturn, 1) := by decide +kernel
set_option maxRecDepth 65536 in
set_option maxHeartbeats 40000000 in
theorem own_withPageSize (l : Launch) (Z : State) (a0 : Array Value) (hw : ∀ d ∈ tables_1, d.before a0 Z = true) (ws : List Jvm.Cond) (a1 : Addr) (z : Int32) (wL wD xl xd : Addr) (xp : Int32) (h0 : Heap) (n0 : Nat) (Z0 : n0 ≤ h0.size) (S0 : Sta Z h0 "com/example/draftd/draftd/odata/ServiceSettings" "DEFAULT_LOCK_TIMEOUT" "Ljava/time/Duration;" (.ref wL)) (S1 : Sta Z h0 "com/example/draftd/draftd/odata/ServiceSettings" "DEFAULT_DRAFT_LIFETIME" "Ljava/time/Duration;" (.ref wD)) (E1 : Exa Z h0 a1 "com/example/draftd/draftd/odata/ServiceSettings") (G0 : Fld Z h0 a1 "com/example/draftd/draftd/odata/ServiceSettings" "lockTimeout" "Ljava/time/Duration;" (.ref xl)) (G1 : Fld Z h0 a1 "com/example/draftd/draftd/odata/ServiceSettings" "draftLifetime" "Ljava/time/Duration;" (.ref xd)) (G2 : Fld Z h0 a1 "com/example/draftd/draftd/odata/ServiceSettings" "pageSize" "I" (.int xp)) (hz : ¬ z < 1) :
    Con l Z (⟨"com/example/draftd/draftd/odata/ServiceSettings", "withPageSize", "(I)Lcom/example/draftd/draftd/odata/ServiceSettings;"⟩ : MethodName) prog_25_method_5_code 3 (some (.object "com/example/draftd/draftd/odata/ServiceSettings")) ({ frames := 2, cells := 1, slots := 3, locals := 26 } : Room) ws #[(.ref a1), (.int z)] h0 (Qwith Z (.ref xl) (.ref xd) z h0 n0) 1 3 := by
  refine Con.of (plainFor_of_name own_pn_ServiceSettings) ?_
  intro p e s m below meth c s₁ X0 hx hZ hby hml hown hnm hret hlk e0 hs0
  have N0 := Fr.nil n0
  have hown : s.vm.findClass "com/example/draftd/draftd/odata/ServiceSettings" = some m.cls := hown
  have hnm : meth.name = "withPageSize" := hnm
  refine Go.cast (own_ef_prog_25_method_5_code_RI m a1 z) ?_
  have K0 := Keep.refl h0 []
  refine Go.step (T' := s₁) (g' := (mkF m 1 #[.val (.ref a1), .val (.int z), .unset] [(.int z)])) (fun _ k => XS.iloadN X0.here hx rfl (hb hby d_prog_25_method_5_0) rfl  k) ?_
  refine Go.step (T' := s₁) (g' := (mkF m 2 #[.val (.ref a1), .val (.int z), .unset] [(.int (1 : Int32)), (.int z)])) (fun _ k => XS.iconst X0.here hx rfl (hb hby d_prog_25_method_5_1) k) ?_
  refine Go.step (T' := s₁) (g' := (mkF m 19 #[.val (.ref a1), .val (.int z), .unset] [])) (fun _ k => XS.icmpYes X0.here hx rfl (pc0 := 2) (pc' := 19) rfl (hb hby d_prog_25_method_5_2) rfl (flt hz).2.1 (by decide) (by decide) k) ?_
  obtain ⟨T101, h101, X101, e101, E101, A101, D101, -, st101⟩ := newO X0 hx hZ hown (hw _ (List.mem_of_getElem? (i := 31) rfl)) (hw _ (List.mem_of_getElem? (i := 6) rfl)) (hw _ (List.mem_of_getElem? (i := 7) rfl)) e0 (g := (mkF m 19 #[.val (.ref a1), .val (.int z), .unset] [])) rfl (hb hby d_prog_25_method_5_19) (by decide) (by decide)
  obtain ⟨b101, g101⟩ : ∃ z, z = h0.size := ⟨_, rfl⟩
  rw [← g101] at A101 D101 st101
  have ne102 : a1 ≠ b101 := by have q := E1.lt; intro r; rw [r, g101] at q; exact Nat.lt_irrefl _ q
  have ge101 : n0 ≤ b101 := Nat.le_trans Z0 (Nat.le_of_eq g101.symm)
  have Z101 : n0 ≤ h101.size := Nat.le_trans Z0 E101.1
  have sz101 : h0.size ≤ b101 := Nat.le_trans K0.1 (Nat.le_of_eq g101.symm)
  have K101 := K0.ext E101
  have F103 := S0.ext E101
  have F104 := S1.ext E101
  have F105 := E1.ext E101
  have F106 := G0.ext E101
  have F107 := G1.ext E101
  have F108 := G2.ext E101
  have F109 : Fld Z h101 b101 "com/example/draftd/draftd/odata/ServiceSettings" "lockTimeout" "Ljava/time/Duration;" .null := D101 (Or.inl (hw _ (List.mem_of_getElem? (i := 17) rfl))) (ty := (.object "java/time/Duration")) (by decide)
  have F110 : Fld Z h101 b101 "com/example/draftd/draftd/odata/ServiceSettings" "draftLifetime" "Ljava/time/Duration;" .null := D101 (Or.inl (hw _ (List.mem_of_getElem? (i := 21) rfl))) (ty := (.object "java/time/Duration")) (by decide)
  have F111 : Fld Z h101 b101 "com/example/draftd/draftd/odata/ServiceSettings" "pageSize" "I" (.int (0 : Int32)) := D101 (Or.inl (hw _ (List.mem_of_getElem? (i := 23) rfl))) (ty := .int) (by decide)
  refine Go.step (T' := T101) (g' := (mkF m 22 #[.val (.ref a1), .val (.int z), .unset] [(.ref b101)])) st101 ?_
  refine Go.step (T' := T101) (g' := (mkF m 23 #[.val (.ref a1), .val (.int z), .unset] [(.ref b101), (.ref b101)])) (fun _ k => XS.dup X101.here hx rfl (hb hby d_prog_25_method_5_22) rfl rfl k) ?_
  refine Go.step (T' := T101) (g' := (mkF m 24 #[.val (.ref a1), .val (.int z), .unset] [(.ref a1), (.ref b101), (.ref b101)])) (fun _ k => XS.aloadN X101.here hx rfl (hb hby d_prog_25_method_5_23) rfl rfl k) ?_
  obtain ⟨_, _, ⟨T112, L112, k112, n112⟩, -, X112, ⟨Lc112, hQ112, l112, y112, z112⟩, st112⟩ := X101.specialBack hx (y := (⟨"com/example/draftd/draftd/odata/ServiceSettings", "<init>", "(Lcom/example/draftd/draftd/odata/ServiceSettings;)V"⟩ : MethodName)) rfl hown (mvT hZ (hw _ (List.mem_of_getElem? (i := 32) rfl))) (mvT hZ (hw _ (List.mem_of_getElem? (i := 33) rfl))) (mvT hZ (hw _ (List.mem_of_getElem? (i := 34) rfl))) (by decide) (backOf (W := 1) (Q := Qini Z b101 (.ref xl) (.ref xd) xp h101 n0) (own_ini1 l Z a0 hw [] b101 a1 wL wD xl xd xp (.null) (.null) ((.int (0 : Int32))) h101 n0 Z101 F103 F104 A101 ge101 F109 F110 F111 ne102 F106 F107 F108) hZ (hw _ (List.mem_of_getElem? (i := 34) rfl)) (hw _ (List.mem_of_getElem? (i := 7) rfl)) (by decide) (by decide)) (g := (mkF m 24 #[.val (.ref a1), .val (.int z), .unset] [(.ref a1), (.ref b101), (.ref b101)])) rfl (by rw [hml]; rfl) (Steps.refl _) (a := b101) (argsL := [(.ref a1)]) (rest := [(.ref b101)]) (lenOf own_pd0 rfl) rfl (by show 2 * 0 + _ ≤ _; exact Nat.le_of_eq rfl) (hb hby d_prog_25_method_5_24) (fun _ _ => ⟨rfl, e101, (by decide : 1 + 0 ≤ _), (by decide : 3 + 0 ≤ _)⟩)
  dsimp only [Pt.U, Pt.locs, Pt.cells, Pt.slots] at X112 l112 y112 z112 st112 hQ112
  subst l112 y112 z112
  obtain ⟨rfl, N112q, K112, G112a, G112b, G112c⟩ := hQ112
  have N112 := Fr.app N0 N112q
  have KK112 := K101.trans K112 (allS (Or.inr sz101) all0)
  have Z112 : n0 ≤ T112.heap.size := Nat.le_trans Z101 K112.1
  have F113 := own_sta_keep F103 K112 (allS (own_plain A101) all0)
  have F114 := own_sta_keep F104 K112 (allS (own_plain A101) all0)
  have F115 := F105.keep K112
  have F116 := F106.keep K112 (ninS ne102 nin0)
  have F117 := F107.keep K112 (ninS ne102 nin0)
  have F118 := F108.keep K112 (ninS ne102 nin0)
  have F119 := A101.keep K112
  refine Go.step (T' := T112) (g' := (mkF m 27 #[.val (.ref a1), .val (.int z), .unset] [(.ref b101)])) (fun _ k => st112.trans k) ?_
  refine Go.step (T' := T112) (g' := (mkF m 28 #[.val (.ref a1), .val (.int z), .val (.ref b101)] [])) (fun _ k => XS.astoreN X112.here hx rfl (hb hby d_prog_25_method_5_27) rfl rfl (l' := #[.val (.ref a1), .val (.int z), .val (.ref b101)]) rfl k) ?_
  refine Go.step (T' := T112) (g' := (mkF m 29 #[.val (.ref a1), .val (.int z), .val (.ref b101)] [(.ref b101)])) (fun _ k => XS.aloadN X112.here hx rfl (hb hby d_prog_25_method_5_28) rfl rfl k) ?_
  refine Go.step (T' := T112) (g' := (mkF m 30 #[.val (.ref a1), .val (.int z), .val (.ref b101)] [(.int z), (.ref b101)])) (fun _ k => XS.iloadN X112.here hx rfl (hb hby d_prog_25_method_5_29) rfl  k) ?_
  obtain ⟨T120, h120, X120, e120, W120, st120⟩ := putF X112 hx hZ hown (host := "") (Or.inl (hw _ (List.mem_of_getElem? (i := 22) rfl))) Via.refl rfl G112c F119 (Or.inl (hw _ (List.mem_of_getElem? (i := 23) rfl))) (hw _ (List.mem_of_getElem? (i := 6) rfl)) (ty := .int) (by decide) rfl rfl (g := (mkF m 30 #[.val (.ref a1), .val (.int z), .val (.ref b101)] [(.int z), (.ref b101)])) rfl rfl (hb hby d_prog_25_method_5_30)
  have N120 := Fr.snoc X120 N112 ge101
  have Z120 : n0 ≤ h120.size := Nat.le_trans Z112 (Keep.of_wr W120).1
  have K120 := KK112.wr W120 (Or.inr sz101)
  have F121 := F113.wr W120
  have F122 := F114.wr W120
  have F123 := F115.wr W120
  have F124 := F116.other W120 (Or.inl ne102)
  have F125 := F117.other W120 (Or.inl ne102)
  have F126 := F118.other W120 (Or.inl ne102)
  have F127 := F119.wr W120
  have F128 := G112a.other W120 (Or.inr (slot_ne (Or.inl (hw _ (List.mem_of_getElem? (i := 17) rfl))) (Or.inl (hw _ (List.mem_of_getElem? (i := 23) rfl))) (by decide) (t := (.object "java/time/Duration")) (t' := .int) (by decide) (by decide)))
  have F129 := G112b.other W120 (Or.inr (slot_ne (Or.inl (hw _ (List.mem_of_getElem? (i := 21) rfl))) (Or.inl (hw _ (List.mem_of_getElem? (i := 23) rfl))) (by decide) (t := (.object "java/time/Duration")) (t' := .int) (by decide) (by decide)))
  have F130 := G112c.same W120
  refine Go.step (T' := T120) (g' := (mkF m 33 #[.val (.ref a1), .val (.int z), .val (.ref b101)] [])) st120 ?_
  refine Go.step (T' := T120) (g' := (mkF m 34 #[.val (.ref a1), .val (.int z), .val (.ref b101)] [(.ref b101)])) (fun _ k => XS.aloadN X120.here hx rfl (hb hby d_prog_25_method_5_33) rfl rfl k) ?_
  exact Go.retA X120 hx (t := (.object "com/example/draftd/draftd/odata/ServiceSettings")) hret rfl hlk rfl (hb hby d_prog_25_method_5_34) (by rw [e120]; exact ⟨b101, rfl, N120, K120, sz101, F127, F128, F129, F130⟩) (by decide) (by decide)
theorem own_ef_prog_25_method_4_code_RR (m : MethodId) (x0 : Addr) (x1 : Addr) : entryFrame m #[(.ref x0), (.ref x1)] 3 = mkF m 0 #[.val (.ref x0), .val (.ref x1), .unset] [] := by first | (simp [entryFrame, mkF, argsToLocals, Value.category]; done) | rfl
theorem d_prog_25_method_4_0 : decode prog_25_method_4_code 0 = .ok (.new 8, 3) := by decide +kernel
theorem d_prog_25_method_4_3 : decode prog_25_method_4_code 3 = .ok (.dup, 1) := by decide +kernel
theorem d_prog_25_method_4_4 : decode prog_25_method_4_code 4 = .ok (.aload_n 0, 1) := by decide +kernel
theorem d_prog_25_method_4_5 : decode prog_25_method_4_code 5 = .ok (.invokespecial 26, 3) := by decide +kernel
theorem d_prog_25_method_4_8 : decode prog_25_method_4_code 8 = .ok (.astore_n 2, 1) := by decide +kernel
theorem d_prog_25_method_4_9 : decode prog_25_method_4_code 9 = .ok (.aload_n 2, 1) := by decide +kernel
theorem d_prog_25_method_4_10 : decode prog_25_method_4_code 10 = .ok (.aload_n 1, 1) := by decide +kernel
theorem d_prog_25_method_4_11 : decode prog_25_method_4_code 11 = .ok (.putfield 19, 3) := by decide +kernel
theorem d_prog_25_method_4_14 : decode prog_25_method_4_code 14 = .ok (.aload_n 2, 1) := by decide +kernel
theorem d_prog_25_method_4_15 : decode prog_25_method_4_code 15 = .ok (.areturn, 1) := by decide +kernel
set_option maxRecDepth 65536 in
set_option maxHeartbeats 40000000 in
theorem own_withDraftLifetime (l : Launch) (Z : State) (a0 : Array Value) (hw : ∀ d ∈ tables_1, d.before a0 Z = true) (ws : List Jvm.Cond) (a1 : Addr) (z : Addr) (wL wD xl xd : Addr) (xp : Int32) (h0 : Heap) (n0 : Nat) (Z0 : n0 ≤ h0.size) (S0 : Sta Z h0 "com/example/draftd/draftd/odata/ServiceSettings" "DEFAULT_LOCK_TIMEOUT" "Ljava/time/Duration;" (.ref wL)) (S1 : Sta Z h0 "com/example/draftd/draftd/odata/ServiceSettings" "DEFAULT_DRAFT_LIFETIME" "Ljava/time/Duration;" (.ref wD)) (E1 : Exa Z h0 a1 "com/example/draftd/draftd/odata/ServiceSettings") (G0 : Fld Z h0 a1 "com/example/draftd/draftd/odata/ServiceSettings" "lockTimeout" "Ljava/time/Duration;" (.ref xl)) (G1 : Fld Z h0 a1 "com/example/draftd/draftd/odata/ServiceSettings" "draftLifetime" "Ljava/time/Duration;" (.ref xd)) (G2 : Fld Z h0 a1 "com/example/draftd/draftd/odata/ServiceSettings" "pageSize" "I" (.int xp)) :
    Con l Z (⟨"com/example/draftd/draftd/odata/ServiceSettings", "withDraftLifetime", "(Ljava/time/Duration;)Lcom/example/draftd/draftd/odata/ServiceSettings;"⟩ : MethodName) prog_25_method_4_code 3 (some (.object "com/example/draftd/draftd/odata/ServiceSettings")) ({ frames := 2, cells := 1, slots := 3, locals := 26 } : Room) ws #[(.ref a1), (.ref z)] h0 (Qwith Z (.ref xl) (.ref z) xp h0 n0) 1 3 := by
  refine Con.of (plainFor_of_name own_pn_ServiceSettings) ?_
  intro p e s m below meth c s₁ X0 hx hZ hby hml hown hnm hret hlk e0 hs0
  have N0 := Fr.nil n0
  have hown : s.vm.findClass "com/example/draftd/draftd/odata/ServiceSettings" = some m.cls := hown
  have hnm : meth.name = "withDraftLifetime" := hnm
  refine Go.cast (own_ef_prog_25_method_4_code_RR m a1 z) ?_
  have K0 := Keep.refl h0 []
  obtain ⟨T101, h101, X101, e101, E101, A101, D101, -, st101⟩ := newO X0 hx hZ hown (hw _ (List.mem_of_getElem? (i := 31) rfl)) (hw _ (List.mem_of_getElem? (i := 6) rfl)) (hw _ (List.mem_of_getElem? (i := 7) rfl)) e0 (g := (mkF m 0 #[.val (.ref a1), .val (.ref z), .unset] [])) rfl (hb hby d_prog_25_method_4_0) (by decide) (by decide)
  obtain ⟨b101, g101⟩ : ∃ z, z = h0.size := ⟨_, rfl⟩
  rw [← g101] at A101 D101 st101
  have ne102 : a1 ≠ b101 := by have q := E1.lt; intro r; rw [r, g101] at q; exact Nat.lt_irrefl _ q
  have ge101 : n0 ≤ b101 := Nat.le_trans Z0 (Nat.le_of_eq g101.symm)
  have Z101 : n0 ≤ h101.size := Nat.le_trans Z0 E101.1
  have sz101 : h0.size ≤ b101 := Nat.le_trans K0.1 (Nat.le_of_eq g101.symm)
  have K101 := K0.ext E101
  have F103 := S0.ext E101
  have F104 := S1.ext E101
  have F105 := E1.ext E101
  have F106 := G0.ext E101
  have F107 := G1.ext E101
  have F108 := G2.ext E101
  have F109 : Fld Z h101 b101 "com/example/draftd/draftd/odata/ServiceSettings" "lockTimeout" "Ljava/time/Duration;" .null := D101 (Or.inl (hw _ (List.mem_of_getElem? (i := 17) rfl))) (ty := (.object "java/time/Duration")) (by decide)
  have F110 : Fld Z h101 b101 "com/example/draftd/draftd/odata/ServiceSettings" "draftLifetime" "Ljava/time/Duration;" .null := D101 (Or.inl (hw _ (List.mem_of_getElem? (i := 21) rfl))) (ty := (.object "java/time/Duration")) (by decide)
  have F111 : Fld Z h101 b101 "com/example/draftd/draftd/odata/ServiceSettings" "pageSize" "I" (.int (0 : Int32)) := D101 (Or.inl (hw _ (List.mem_of_getElem? (i := 23) rfl))) (ty := .int) (by decide)
  refine Go.step (T' := T101) (g' := (mkF m 3 #[.val (.ref a1), .val (.ref z), .unset] [(.ref b101)])) st101 ?_
  refine Go.step (T' := T101) (g' := (mkF m 4 #[.val (.ref a1), .val (.ref z), .unset] [(.ref b101), (.ref b101)])) (fun _ k => XS.dup X101.here hx rfl (hb hby d_prog_25_method_4_3) rfl rfl k) ?_
  refine Go.step (T' := T101) (g' := (mkF m 5 #[.val (.ref a1), .val (.ref z), .unset] [(.ref a1), (.ref b101), (.ref b101)])) (fun _ k => XS.aloadN X101.here hx rfl (hb hby d_prog_25_method_4_4) rfl rfl k) ?_
  obtain ⟨_, _, ⟨T112, L112, k112, n112⟩, -, X112, ⟨Lc112, hQ112, l112, y112, z112⟩, st112⟩ := X101.specialBack hx (y := (⟨"com/example/draftd/draftd/odata/ServiceSettings", "<init>", "(Lcom/example/draftd/draftd/odata/ServiceSettings;)V"⟩ : MethodName)) rfl hown (mvT hZ (hw _ (List.mem_of_getElem? (i := 32) rfl))) (mvT hZ (hw _ (List.mem_of_getElem? (i := 33) rfl))) (mvT hZ (hw _ (List.mem_of_getElem? (i := 34) rfl))) (by decide) (backOf (W := 1) (Q := Qini Z b101 (.ref xl) (.ref xd) xp h101 n0) (own_ini1 l Z a0 hw [] b101 a1 wL wD xl xd xp (.null) (.null) ((.int (0 : Int32))) h101 n0 Z101 F103 F104 A101 ge101 F109 F110 F111 ne102 F106 F107 F108) hZ (hw _ (List.mem_of_getElem? (i := 34) rfl)) (hw _ (List.mem_of_getElem? (i := 7) rfl)) (by decide) (by decide)) (g := (mkF m 5 #[.val (.ref a1), .val (.ref z), .unset] [(.ref a1), (.ref b101), (.ref b101)])) rfl (by rw [hml]; rfl) (Steps.refl _) (a := b101) (argsL := [(.ref a1)]) (rest := [(.ref b101)]) (lenOf own_pd0 rfl) rfl (by show 2 * 0 + _ ≤ _; exact Nat.le_of_eq rfl) (hb hby d_prog_25_method_4_5) (fun _ _ => ⟨rfl, e101, (by decide : 1 + 0 ≤ _), (by decide : 3 + 0 ≤ _)⟩)
  dsimp only [Pt.U, Pt.locs, Pt.cells, Pt.slots] at X112 l112 y112 z112 st112 hQ112
  subst l112 y112 z112
  obtain ⟨rfl, N112q, K112, G112a, G112b, G112c⟩ := hQ112
  have N112 := Fr.app N0 N112q
  have KK112 := K101.trans K112 (allS (Or.inr sz101) all0)
  have Z112 : n0 ≤ T112.heap.size := Nat.le_trans Z101 K112.1
  have F113 := own_sta_keep F103 K112 (allS (own_plain A101) all0)
  have F114 := own_sta_keep F104 K112 (allS (own_plain A101) all0)
  have F115 := F105.keep K112
  have F116 := F106.keep K112 (ninS ne102 nin0)
  have F117 := F107.keep K112 (ninS ne102 nin0)
  have F118 := F108.keep K112 (ninS ne102 nin0)
  have F119 := A101.keep K112
  refine Go.step (T' := T112) (g' := (mkF m 8 #[.val (.ref a1), .val (.ref z), .unset] [(.ref b101)])) (fun _ k => st112.trans k) ?_
  refine Go.step (T' := T112) (g' := (mkF m 9 #[.val (.ref a1), .val (.ref z), .val (.ref b101)] [])) (fun _ k => XS.astoreN X112.here hx rfl (hb hby d_prog_25_method_4_8) rfl rfl (l' := #[.val (.ref a1), .val (.ref z), .val (.ref b101)]) rfl k) ?_
  refine Go.step (T' := T112) (g' := (mkF m 10 #[.val (.ref a1), .val (.ref z), .val (.ref b101)] [(.ref b101)])) (fun _ k => XS.aloadN X112.here hx rfl (hb hby d_prog_25_method_4_9) rfl rfl k) ?_
  refine Go.step (T' := T112) (g' := (mkF m 11 #[.val (.ref a1), .val (.ref z), .val (.ref b101)] [(.ref z), (.ref b101)])) (fun _ k => XS.aloadN X112.here hx rfl (hb hby d_prog_25_method_4_10) rfl rfl k) ?_
  obtain ⟨T120, h120, X120, e120, W120, st120⟩ := putF X112 hx hZ hown (host := "") (Or.inl (hw _ (List.mem_of_getElem? (i := 20) rfl))) Via.refl rfl G112b F119 (Or.inl (hw _ (List.mem_of_getElem? (i := 21) rfl))) (hw _ (List.mem_of_getElem? (i := 6) rfl)) (ty := (.object "java/time/Duration")) (by decide) rfl rfl (g := (mkF m 11 #[.val (.ref a1), .val (.ref z), .val (.ref b101)] [(.ref z), (.ref b101)])) rfl rfl (hb hby d_prog_25_method_4_11)
  have N120 := Fr.snoc X120 N112 ge101
  have Z120 : n0 ≤ h120.size := Nat.le_trans Z112 (Keep.of_wr W120).1
  have K120 := KK112.wr W120 (Or.inr sz101)
  have F121 := F113.wr W120
  have F122 := F114.wr W120
  have F123 := F115.wr W120
  have F124 := F116.other W120 (Or.inl ne102)
  have F125 := F117.other W120 (Or.inl ne102)
  have F126 := F118.other W120 (Or.inl ne102)
  have F127 := F119.wr W120
  have F128 := G112a.other W120 (Or.inr (slot_ne (Or.inl (hw _ (List.mem_of_getElem? (i := 17) rfl))) (Or.inl (hw _ (List.mem_of_getElem? (i := 21) rfl))) (by decide) (t := (.object "java/time/Duration")) (t' := (.object "java/time/Duration")) (by decide) (by decide)))
  have F129 := G112c.other W120 (Or.inr (slot_ne (Or.inl (hw _ (List.mem_of_getElem? (i := 23) rfl))) (Or.inl (hw _ (List.mem_of_getElem? (i := 21) rfl))) (by decide) (t := .int) (t' := (.object "java/time/Duration")) (by decide) (by decide)))
  have F130 := G112b.same W120
  refine Go.step (T' := T120) (g' := (mkF m 14 #[.val (.ref a1), .val (.ref z), .val (.ref b101)] [])) st120 ?_
  refine Go.step (T' := T120) (g' := (mkF m 15 #[.val (.ref a1), .val (.ref z), .val (.ref b101)] [(.ref b101)])) (fun _ k => XS.aloadN X120.here hx rfl (hb hby d_prog_25_method_4_14) rfl rfl k) ?_
  exact Go.retA X120 hx (t := (.object "com/example/draftd/draftd/odata/ServiceSettings")) hret rfl hlk rfl (hb hby d_prog_25_method_4_15) (by rw [e120]; exact ⟨b101, rfl, N120, K120, sz101, F127, F128, F130, F129⟩) (by decide) (by decide)
theorem own_ef_prog_25_method_3_code_RR (m : MethodId) (x0 : Addr) (x1 : Addr) : entryFrame m #[(.ref x0), (.ref x1)] 3 = mkF m 0 #[.val (.ref x0), .val (.ref x1), .unset] [] := by first | (simp [entryFrame, mkF, argsToLocals, Value.category]; done) | rfl
theorem d_prog_25_method_3_0 : decode prog_25_method_3_code 0 = .ok (.new 8, 3) := by decide +kernel
theorem d_prog_25_method_3_3 : decode prog_25_method_3_code 3 = .ok (.dup, 1) := by decide +kernel
theorem d_prog_25_method_3_4 : decode prog_25_method_3_code 4 = .ok (.aload_n 0, 1) := by decide +kernel
theorem d_prog_25_method_3_5 : decode prog_25_method_3_code 5 = .ok (.invokespecial 26, 3) := by decide +kernel
theorem d_prog_25_method_3_8 : decode prog_25_method_3_code 8 = .ok (.astore_n 2, 1) := by decide +kernel
theorem d_prog_25_method_3_9 : decode prog_25_method_3_code 9 = .ok (.aload_n 2, 1) := by decide +kernel
theorem d_prog_25_method_3_10 : decode prog_25_method_3_code 10 = .ok (.aload_n 1, 1) := by decide +kernel
theorem d_prog_25_method_3_11 : decode prog_25_method_3_code 11 = .ok (.putfield 13, 3) := by decide +kernel
theorem d_prog_25_method_3_14 : decode prog_25_method_3_code 14 = .ok (.aload_n 2, 1) := by decide +kernel
theorem d_prog_25_method_3_15 : decode prog_25_method_3_code 15 = .ok (.areturn, 1) := by decide +kernel
set_option maxRecDepth 65536 in
set_option maxHeartbeats 40000000 in
theorem own_withLockTimeout (l : Launch) (Z : State) (a0 : Array Value) (hw : ∀ d ∈ tables_1, d.before a0 Z = true) (ws : List Jvm.Cond) (a1 : Addr) (z : Addr) (wL wD xl xd : Addr) (xp : Int32) (h0 : Heap) (n0 : Nat) (Z0 : n0 ≤ h0.size) (S0 : Sta Z h0 "com/example/draftd/draftd/odata/ServiceSettings" "DEFAULT_LOCK_TIMEOUT" "Ljava/time/Duration;" (.ref wL)) (S1 : Sta Z h0 "com/example/draftd/draftd/odata/ServiceSettings" "DEFAULT_DRAFT_LIFETIME" "Ljava/time/Duration;" (.ref wD)) (E1 : Exa Z h0 a1 "com/example/draftd/draftd/odata/ServiceSettings") (G0 : Fld Z h0 a1 "com/example/draftd/draftd/odata/ServiceSettings" "lockTimeout" "Ljava/time/Duration;" (.ref xl)) (G1 : Fld Z h0 a1 "com/example/draftd/draftd/odata/ServiceSettings" "draftLifetime" "Ljava/time/Duration;" (.ref xd)) (G2 : Fld Z h0 a1 "com/example/draftd/draftd/odata/ServiceSettings" "pageSize" "I" (.int xp)) :
    Con l Z (⟨"com/example/draftd/draftd/odata/ServiceSettings", "withLockTimeout", "(Ljava/time/Duration;)Lcom/example/draftd/draftd/odata/ServiceSettings;"⟩ : MethodName) prog_25_method_3_code 3 (some (.object "com/example/draftd/draftd/odata/ServiceSettings")) ({ frames := 2, cells := 1, slots := 3, locals := 26 } : Room) ws #[(.ref a1), (.ref z)] h0 (Qwith Z (.ref z) (.ref xd) xp h0 n0) 1 3 := by
  refine Con.of (plainFor_of_name own_pn_ServiceSettings) ?_
  intro p e s m below meth c s₁ X0 hx hZ hby hml hown hnm hret hlk e0 hs0
  have N0 := Fr.nil n0
  have hown : s.vm.findClass "com/example/draftd/draftd/odata/ServiceSettings" = some m.cls := hown
  have hnm : meth.name = "withLockTimeout" := hnm
  refine Go.cast (own_ef_prog_25_method_3_code_RR m a1 z) ?_
  have K0 := Keep.refl h0 []
  obtain ⟨T101, h101, X101, e101, E101, A101, D101, -, st101⟩ := newO X0 hx hZ hown (hw _ (List.mem_of_getElem? (i := 31) rfl)) (hw _ (List.mem_of_getElem? (i := 6) rfl)) (hw _ (List.mem_of_getElem? (i := 7) rfl)) e0 (g := (mkF m 0 #[.val (.ref a1), .val (.ref z), .unset] [])) rfl (hb hby d_prog_25_method_3_0) (by decide) (by decide)
  obtain ⟨b101, g101⟩ : ∃ z, z = h0.size := ⟨_, rfl⟩
  rw [← g101] at A101 D101 st101
  have ne102 : a1 ≠ b101 := by have q := E1.lt; intro r; rw [r, g101] at q; exact Nat.lt_irrefl _ q
  have ge101 : n0 ≤ b101 := Nat.le_trans Z0 (Nat.le_of_eq g101.symm)
  have Z101 : n0 ≤ h101.size := Nat.le_trans Z0 E101.1
  have sz101 : h0.size ≤ b101 := Nat.le_trans K0.1 (Nat.le_of_eq g101.symm)
  have K101 := K0.ext E101
  have F103 := S0.ext E101
  have F104 := S1.ext E101
  have F105 := E1.ext E101
  have F106 := G0.ext E101
  have F107 := G1.ext E101
  have F108 := G2.ext E101
  have F109 : Fld Z h101 b101 "com/example/draftd/draftd/odata/ServiceSettings" "lockTimeout" "Ljava/time/Duration;" .null := D101 (Or.inl (hw _ (List.mem_of_getElem? (i := 17) rfl))) (ty := (.object "java/time/Duration")) (by decide)
  have F110 : Fld Z h101 b101 "com/example/draftd/draftd/odata/ServiceSettings" "draftLifetime" "Ljava/time/Duration;" .null := D101 (Or.inl (hw _ (List.mem_of_getElem? (i := 21) rfl))) (ty := (.object "java/time/Duration")) (by decide)
  have F111 : Fld Z h101 b101 "com/example/draftd/draftd/odata/ServiceSettings" "pageSize" "I" (.int (0 : Int32)) := D101 (Or.inl (hw _ (List.mem_of_getElem? (i := 23) rfl))) (ty := .int) (by decide)
  refine Go.step (T' := T101) (g' := (mkF m 3 #[.val (.ref a1), .val (.ref z), .unset] [(.ref b101)])) st101 ?_
  refine Go.step (T' := T101) (g' := (mkF m 4 #[.val (.ref a1), .val (.ref z), .unset] [(.ref b101), (.ref b101)])) (fun _ k => XS.dup X101.here hx rfl (hb hby d_prog_25_method_3_3) rfl rfl k) ?_
  refine Go.step (T' := T101) (g' := (mkF m 5 #[.val (.ref a1), .val (.ref z), .unset] [(.ref a1), (.ref b101), (.ref b101)])) (fun _ k => XS.aloadN X101.here hx rfl (hb hby d_prog_25_method_3_4) rfl rfl k) ?_
  obtain ⟨_, _, ⟨T112, L112, k112, n112⟩, -, X112, ⟨Lc112, hQ112, l112, y112, z112⟩, st112⟩ := X101.specialBack hx (y := (⟨"com/example/draftd/draftd/odata/ServiceSettings", "<init>", "(Lcom/example/draftd/draftd/odata/ServiceSettings;)V"⟩ : MethodName)) rfl hown (mvT hZ (hw _ (List.mem_of_getElem? (i := 32) rfl))) (mvT hZ (hw _ (List.mem_of_getElem? (i := 33) rfl))) (mvT hZ (hw _ (List.mem_of_getElem? (i := 34) rfl))) (by decide) (backOf (W := 1) (Q := Qini Z b101 (.ref xl) (.ref xd) xp h101 n0) (own_ini1 l Z a0 hw [] b101 a1 wL wD xl xd xp (.null) (.null) ((.int (0 : Int32))) h101 n0 Z101 F103 F104 A101 ge101 F109 F110 F111 ne102 F106 F107 F108) hZ (hw _ (List.mem_of_getElem? (i := 34) rfl)) (hw _ (List.mem_of_getElem? (i := 7) rfl)) (by decide) (by decide)) (g := (mkF m 5 #[.val (.ref a1), .val (.ref z), .unset] [(.ref a1), (.ref b101), (.ref b101)])) rfl (by rw [hml]; rfl) (Steps.refl _) (a := b101) (argsL := [(.ref a1)]) (rest := [(.ref b101)]) (lenOf own_pd0 rfl) rfl (by show 2 * 0 + _ ≤ _; exact Nat.le_of_eq rfl) (hb hby d_prog_25_method_3_5) (fun _ _ => ⟨rfl, e101, (by decide : 1 + 0 ≤ _), (by decide : 3 + 0 ≤ _)⟩)
  dsimp only [Pt.U, Pt.locs, Pt.cells, Pt.slots] at X112 l112 y112 z112 st112 hQ112
  subst l112 y112 z112
  obtain ⟨rfl, N112q, K112, G112a, G112b, G112c⟩ := hQ112
  have N112 := Fr.app N0 N112q
  have KK112 := K101.trans K112 (allS (Or.inr sz101) all0)
  have Z112 : n0 ≤ T112.heap.size := Nat.le_trans Z101 K112.1
  have F113 := own_sta_keep F103 K112 (allS (own_plain A101) all0)
  have F114 := own_sta_keep F104 K112 (allS (own_plain A101) all0)
  have F115 := F105.keep K112
  have F116 := F106.keep K112 (ninS ne102 nin0)
  have F117 := F107.keep K112 (ninS ne102 nin0)
  have F118 := F108.keep K112 (ninS ne102 nin0)
  have F119 := A101.keep K112
  refine Go.step (T' := T112) (g' := (mkF m 8 #[.val (.ref a1), .val (.ref z), .unset] [(.ref b101)])) (fun _ k => st112.trans k) ?_
  refine Go.step (T' := T112) (g' := (mkF m 9 #[.val (.ref a1), .val (.ref z), .val (.ref b101)] [])) (fun _ k => XS.astoreN X112.here hx rfl (hb hby d_prog_25_method_3_8) rfl rfl (l' := #[.val (.ref a1), .val (.ref z), .val (.ref b101)]) rfl k) ?_
  refine Go.step (T' := T112) (g' := (mkF m 10 #[.val (.ref a1), .val (.ref z), .val (.ref b101)] [(.ref b101)])) (fun _ k => XS.aloadN X112.here hx rfl (hb hby d_prog_25_method_3_9) rfl rfl k) ?_
  refine Go.step (T' := T112) (g' := (mkF m 11 #[.val (.ref a1), .val (.ref z), .val (.ref b101)] [(.ref z), (.ref b101)])) (fun _ k => XS.aloadN X112.here hx rfl (hb hby d_prog_25_method_3_10) rfl rfl k) ?_
  obtain ⟨T120, h120, X120, e120, W120, st120⟩ := putF X112 hx hZ hown (host := "") (Or.inl (hw _ (List.mem_of_getElem? (i := 16) rfl))) Via.refl rfl G112a F119 (Or.inl (hw _ (List.mem_of_getElem? (i := 17) rfl))) (hw _ (List.mem_of_getElem? (i := 6) rfl)) (ty := (.object "java/time/Duration")) (by decide) rfl rfl (g := (mkF m 11 #[.val (.ref a1), .val (.ref z), .val (.ref b101)] [(.ref z), (.ref b101)])) rfl rfl (hb hby d_prog_25_method_3_11)
  have N120 := Fr.snoc X120 N112 ge101
  have Z120 : n0 ≤ h120.size := Nat.le_trans Z112 (Keep.of_wr W120).1
  have K120 := KK112.wr W120 (Or.inr sz101)
  have F121 := F113.wr W120
  have F122 := F114.wr W120
  have F123 := F115.wr W120
  have F124 := F116.other W120 (Or.inl ne102)
  have F125 := F117.other W120 (Or.inl ne102)
  have F126 := F118.other W120 (Or.inl ne102)
  have F127 := F119.wr W120
  have F128 := G112b.other W120 (Or.inr (slot_ne (Or.inl (hw _ (List.mem_of_getElem? (i := 21) rfl))) (Or.inl (hw _ (List.mem_of_getElem? (i := 17) rfl))) (by decide) (t := (.object "java/time/Duration")) (t' := (.object "java/time/Duration")) (by decide) (by decide)))
  have F129 := G112c.other W120 (Or.inr (slot_ne (Or.inl (hw _ (List.mem_of_getElem? (i := 23) rfl))) (Or.inl (hw _ (List.mem_of_getElem? (i := 17) rfl))) (by decide) (t := .int) (t' := (.object "java/time/Duration")) (by decide) (by decide)))
  have F130 := G112a.same W120
  refine Go.step (T' := T120) (g' := (mkF m 14 #[.val (.ref a1), .val (.ref z), .val (.ref b101)] [])) st120 ?_
  refine Go.step (T' := T120) (g' := (mkF m 15 #[.val (.ref a1), .val (.ref z), .val (.ref b101)] [(.ref b101)])) (fun _ k => XS.aloadN X120.here hx rfl (hb hby d_prog_25_method_3_14) rfl rfl k) ?_
  exact Go.retA X120 hx (t := (.object "com/example/draftd/draftd/odata/ServiceSettings")) hret rfl hlk rfl (hb hby d_prog_25_method_3_15) (by rw [e120]; exact ⟨b101, rfl, N120, K120, sz101, F127, F130, F128, F129⟩) (by decide) (by decide)
theorem own_pd1 : parseMethodDescriptor "(I)Lcom/example/draftd/draftd/odata/ServiceSettings;" = some ⟨[.int], some (.object "com/example/draftd/draftd/odata/ServiceSettings")⟩ := by decide +kernel
theorem own_pd2 : parseMethodDescriptor "()I" = some ⟨[], some .int⟩ := by decide +kernel
theorem own_pd3 : parseMethodDescriptor "()Ljava/time/Duration;" = some ⟨[], some (.object "java/time/Duration")⟩ := by decide +kernel
set_option maxRecDepth 65536 in
set_option maxHeartbeats 40000000 in
theorem own_tail {p : Program} {l : Launch} {e : Env} {s : State} {m : MethodId} {args : Array Value} {below : List Frame} {meth : Method} {c : Code} {T0 : State} {locs : List Loc} {cells slots : Nat} {Z : State} {a0 : Array Value} {h0 : Heap} {n0 : Nat} (i0 : Int32) (i1 : Int32) (i2 : Int32) (i3 : Int32) (i4 : Int32) (i5 : Int32) (i6 : Int32) (i7 : Int32) (xp : Int32) (bs : Addr) (xl : Addr) (xd : Addr) (wL : Addr) (wD : Addr)
    (X0 : Stand p l e room_1 s m args below meth c T0 locs cells slots) (hx : p.tables.exec = Jvm.exec) (hZ : Z.Warmed39 s.vm) (hw : ∀ d ∈ tables_1, d.before a0 Z = true) (hby : c.code = code) (hml : c.maxLocals = maxLocals) (hown : s.vm.findClass "com/example/draftd/draftd/odata/ServiceSettingsWithPageSizePinLaw" = some m.cls) (hret : meth.sig.returnType = ret) (hlk : meth.locks = false) (e0 : T0.heap = h0) (N0 : Fr n0 locs) (Z0 : n0 ≤ h0.size) (hcells : cells ≤ 4) (hslots : slots ≤ 12) (f0 : Sta Z h0 "com/example/draftd/draftd/odata/ServiceSettings" "DEFAULT_LOCK_TIMEOUT" "Ljava/time/Duration;" (.ref wL)) (f1 : Sta Z h0 "com/example/draftd/draftd/odata/ServiceSettings" "DEFAULT_DRAFT_LIFETIME" "Ljava/time/Duration;" (.ref wD)) (f2 : Exa Z h0 bs "com/example/draftd/draftd/odata/ServiceSettings") (f3 : Fld Z h0 bs "com/example/draftd/draftd/odata/ServiceSettings" "lockTimeout" "Ljava/time/Duration;" (.ref xl)) (f4 : Fld Z h0 bs "com/example/draftd/draftd/odata/ServiceSettings" "draftLifetime" "Ljava/time/Duration;" (.ref xd)) (f5 : Fld Z h0 bs "com/example/draftd/draftd/odata/ServiceSettings" "pageSize" "I" (.int xp)) (hz : ¬ i7 < 1) :
    Go p e below s (Q0 n0) 24 128 T0 (mkF m 147 #[.val (.int i0), .val (.int i1), .val (.int i2), .val (.int i3), .val (.int i4), .val (.int i5), .val (.int i6), .val (.int i7), .val (.ref bs), .val (.int xp), .val (.ref xl), .val (.ref xd), .unset, .unset] []) := by
  refine Go.step (T' := T0) (g' := (mkF m 149 #[.val (.int i0), .val (.int i1), .val (.int i2), .val (.int i3), .val (.int i4), .val (.int i5), .val (.int i6), .val (.int i7), .val (.ref bs), .val (.int xp), .val (.ref xl), .val (.ref xd), .unset, .unset] [(.ref bs)])) (fun _ k => XS.aload X0.here hx rfl (hb hby at_147) rfl rfl k) ?_
  refine Go.step (T' := T0) (g' := (mkF m 151 #[.val (.int i0), .val (.int i1), .val (.int i2), .val (.int i3), .val (.int i4), .val (.int i5), .val (.int i6), .val (.int i7), .val (.ref bs), .val (.int xp), .val (.ref xl), .val (.ref xd), .unset, .unset] [(.int i7), (.ref bs)])) (fun _ k => XS.iload X0.here hx rfl (hb hby at_149) rfl  k) ?_
  obtain ⟨cq101, kq101, q101a, q101b, q101c⟩ := isOf hZ e0 f2
  obtain ⟨_, _, ⟨T101, L101, k101, n101⟩, -, X101, ⟨Lc101, hQ101, l101, y101, z101⟩, st101⟩ := X0.virtualBack hx (y := (⟨"com/example/draftd/draftd/odata/ServiceSettings", "withPageSize", "(I)Lcom/example/draftd/draftd/odata/ServiceSettings;"⟩ : MethodName)) (z := (⟨"com/example/draftd/draftd/odata/ServiceSettings", "withPageSize", "(I)Lcom/example/draftd/draftd/odata/ServiceSettings;"⟩ : MethodName)) hown (mvT hZ (hw _ (List.mem_of_getElem? (i := 26) rfl))) (mvT hZ (hw _ (List.mem_of_getElem? (i := 27) rfl))) (notFace_of_selects (args := #[]) (mvT hZ (hw _ (List.mem_of_getElem? (i := 29) rfl)))) (mvT hZ (hw _ (List.mem_of_getElem? (i := 29) rfl))) (mvT hZ (hw _ (List.mem_of_getElem? (i := 28) rfl))) (by decide) (backOf (W := 0) (Q := Qwith Z (.ref xl) (.ref xd) i7 h0 n0) (own_withPageSize l Z a0 hw [] bs i7 wL wD xl xd xp h0 n0 Z0 f0 f1 f2 f3 f4 f5 hz) hZ (hw _ (List.mem_of_getElem? (i := 30) rfl)) (hw _ (List.mem_of_getElem? (i := 7) rfl)) (by decide) (by decide)) q101a q101c (g := (mkF m 151 #[.val (.int i0), .val (.int i1), .val (.int i2), .val (.int i3), .val (.int i4), .val (.int i5), .val (.int i6), .val (.int i7), .val (.ref bs), .val (.int xp), .val (.ref xl), .val (.ref xd), .unset, .unset] [(.int i7), (.ref bs)])) rfl (by rw [hml]; rfl) (Steps.refl _) (argsL := [(.int i7)]) (rest := []) (lenOf own_pd1 rfl) rfl (by show 2 * 0 + _ ≤ _; exact Nat.le_of_eq rfl) (hb hby at_151) (fun _ _ => ⟨rfl, e0, (by dsimp only [Pt.cells, Pt.slots, room_1]; omega), (by dsimp only [Pt.cells, Pt.slots, room_1]; omega)⟩)
  dsimp only [Pt.U, Pt.locs, Pt.cells, Pt.slots] at X101 l101 y101 z101 st101 hQ101
  subst l101 y101 z101
  obtain ⟨b101, rfl, N101q, K101, sz101, E101, G101a, G101b, G101c⟩ := hQ101
  have N101 := Fr.app N0 N101q
  have ne102 : bs ≠ b101 := Nat.ne_of_lt (Nat.lt_of_lt_of_le f2.lt sz101)
  have ge103 : n0 ≤ b101 := Nat.le_trans Z0 sz101
  have Z101 : n0 ≤ T101.heap.size := Nat.le_trans Z0 K101.1
  have F104 := own_sta_keep f0 K101 all0
  have F105 := own_sta_keep f1 K101 all0
  have F106 := f2.keep K101
  have F107 := f3.keep K101 nin0
  have F108 := f4.keep K101 nin0
  have F109 := f5.keep K101 nin0
  refine Go.step (T' := T101) (g' := (mkF m 154 #[.val (.int i0), .val (.int i1), .val (.int i2), .val (.int i3), .val (.int i4), .val (.int i5), .val (.int i6), .val (.int i7), .val (.ref bs), .val (.int xp), .val (.ref xl), .val (.ref xd), .unset, .unset] [(.ref b101)])) (fun _ k => st101.trans k) ?_
  refine Go.step (T' := T101) (g' := (mkF m 156 #[.val (.int i0), .val (.int i1), .val (.int i2), .val (.int i3), .val (.int i4), .val (.int i5), .val (.int i6), .val (.int i7), .val (.ref bs), .val (.int xp), .val (.ref xl), .val (.ref xd), .val (.ref b101), .unset] [])) (fun _ k => XS.astore X101.here hx rfl (hb hby at_154) rfl rfl (l' := #[.val (.int i0), .val (.int i1), .val (.int i2), .val (.int i3), .val (.int i4), .val (.int i5), .val (.int i6), .val (.int i7), .val (.ref bs), .val (.int xp), .val (.ref xl), .val (.ref xd), .val (.ref b101), .unset]) rfl k) ?_
  refine Go.step (T' := T101) (g' := (mkF m 158 #[.val (.int i0), .val (.int i1), .val (.int i2), .val (.int i3), .val (.int i4), .val (.int i5), .val (.int i6), .val (.int i7), .val (.ref bs), .val (.int xp), .val (.ref xl), .val (.ref xd), .val (.ref b101), .unset] [(.ref b101)])) (fun _ k => XS.aload X101.here hx rfl (hb hby at_156) rfl rfl k) ?_
  refine Go.step (T' := T101) (g' := (mkF m 160 #[.val (.int i0), .val (.int i1), .val (.int i2), .val (.int i3), .val (.int i4), .val (.int i5), .val (.int i6), .val (.int i7), .val (.ref bs), .val (.int xp), .val (.ref xl), .val (.ref xd), .val (.ref b101), .unset] [(.ref bs), (.ref b101)])) (fun _ k => XS.aload X101.here hx rfl (hb hby at_158) rfl rfl k) ?_
  refine Go.step (T' := T101) (g' := (mkF m 163 #[.val (.int i0), .val (.int i1), .val (.int i2), .val (.int i3), .val (.int i4), .val (.int i5), .val (.int i6), .val (.int i7), .val (.ref bs), .val (.int xp), .val (.ref xl), .val (.ref xd), .val (.ref b101), .unset] [])) (fun _ k => Jvm.RoadKit.acmp (g := (mkF m 160 #[.val (.int i0), .val (.int i1), .val (.int i2), .val (.int i3), .val (.int i4), .val (.int i5), .val (.int i6), .val (.int i7), .val (.ref bs), .val (.int xp), .val (.ref xl), .val (.ref xd), .val (.ref b101), .unset] [(.ref bs), (.ref b101)])) X101 hx rfl rfl rfl (pc0 := 160) (pc' := 163) (same := false) rfl (hb hby at_160) rfl (decide_eq_false fun q => ne102 (Value.ref.inj q).symm) (by decide) (by decide) k) ?_
  refine Go.step (T' := T101) (g' := (mkF m 164 #[.val (.int i0), .val (.int i1), .val (.int i2), .val (.int i3), .val (.int i4), .val (.int i5), .val (.int i6), .val (.int i7), .val (.ref bs), .val (.int xp), .val (.ref xl), .val (.ref xd), .val (.ref b101), .unset] [(.int (1 : Int32))])) (fun _ k => XS.iconst X101.here hx rfl (hb hby at_163) k) ?_
  refine Go.step (T' := T101) (g' := (mkF m 168 #[.val (.int i0), .val (.int i1), .val (.int i2), .val (.int i3), .val (.int i4), .val (.int i5), .val (.int i6), .val (.int i7), .val (.ref bs), .val (.int xp), .val (.ref xl), .val (.ref xd), .val (.ref b101), .unset] [(.int (1 : Int32))])) (fun _ k => XS.goto X101.here hx rfl (pc0 := 164) (pc' := 168) rfl (hb hby at_164) (by decide) (by decide) k) ?_
  refine Go.step (T' := T101) (g' := (mkF m 170 #[.val (.int i0), .val (.int i1), .val (.int i2), .val (.int i3), .val (.int i4), .val (.int i5), .val (.int i6), .val (.int i7), .val (.ref bs), .val (.int xp), .val (.ref xl), .val (.ref xd), .val (.ref b101), .val (.int (1 : Int32))] [])) (fun _ k => XS.istore X101.here hx rfl (hb hby at_168) rfl (l' := #[.val (.int i0), .val (.int i1), .val (.int i2), .val (.int i3), .val (.int i4), .val (.int i5), .val (.int i6), .val (.int i7), .val (.ref bs), .val (.int xp), .val (.ref xl), .val (.ref xd), .val (.ref b101), .val (.int (1 : Int32))]) rfl k) ?_
  refine Go.step (T' := T101) (g' := (mkF m 172 #[.val (.int i0), .val (.int i1), .val (.int i2), .val (.int i3), .val (.int i4), .val (.int i5), .val (.int i6), .val (.int i7), .val (.ref bs), .val (.int xp), .val (.ref xl), .val (.ref xd), .val (.ref b101), .val (.int (1 : Int32))] [(.int (1 : Int32))])) (fun _ k => XS.iload X101.here hx rfl (hb hby at_170) rfl  k) ?_
  refine Go.step (T' := T101) (g' := (mkF m 175 #[.val (.int i0), .val (.int i1), .val (.int i2), .val (.int i3), .val (.int i4), .val (.int i5), .val (.int i6), .val (.int i7), .val (.ref bs), .val (.int xp), .val (.ref xl), .val (.ref xd), .val (.ref b101), .val (.int (1 : Int32))] [])) (fun _ k => XS.ifNo X101.here hx rfl (hb hby at_172) rfl ((if0 _ _).trans (feq (by decide : ¬ ((1 : Int32) = (0 : Int32)))).1) k) ?_
  refine Go.step (T' := T101) (g' := (mkF m 177 #[.val (.int i0), .val (.int i1), .val (.int i2), .val (.int i3), .val (.int i4), .val (.int i5), .val (.int i6), .val (.int i7), .val (.ref bs), .val (.int xp), .val (.ref xl), .val (.ref xd), .val (.ref b101), .val (.int (1 : Int32))] [(.ref b101)])) (fun _ k => XS.aload X101.here hx rfl (hb hby at_175) rfl rfl k) ?_
  obtain ⟨cq110, kq110, q110a, q110b, q110c⟩ := isOf hZ rfl E101
  obtain ⟨_, _, ⟨T110, L110, k110, n110⟩, -, X110, ⟨Lc110, hQ110, l110, y110, z110⟩, st110⟩ := X101.virtualBack hx (y := (⟨"com/example/draftd/draftd/odata/ServiceSettings", "getPageSize", "()I"⟩ : MethodName)) (z := (⟨"com/example/draftd/draftd/odata/ServiceSettings", "getPageSize", "()I"⟩ : MethodName)) hown (mvT hZ (hw _ (List.mem_of_getElem? (i := 35) rfl))) (mvT hZ (hw _ (List.mem_of_getElem? (i := 36) rfl))) (notFace_of_selects (args := #[]) (mvT hZ (hw _ (List.mem_of_getElem? (i := 38) rfl)))) (mvT hZ (hw _ (List.mem_of_getElem? (i := 38) rfl))) (mvT hZ (hw _ (List.mem_of_getElem? (i := 37) rfl))) (by decide) (backOf (W := 0) (Q := Qret (some (.int i7)) T101.heap n0) (own_getPageSize l Z a0 hw [] b101 i7 T101.heap n0 Z101 G101c) hZ (hw _ (List.mem_of_getElem? (i := 39) rfl)) (hw _ (List.mem_of_getElem? (i := 7) rfl)) (by decide) (by decide)) q110a q110c (g := (mkF m 177 #[.val (.int i0), .val (.int i1), .val (.int i2), .val (.int i3), .val (.int i4), .val (.int i5), .val (.int i6), .val (.int i7), .val (.ref bs), .val (.int xp), .val (.ref xl), .val (.ref xd), .val (.ref b101), .val (.int (1 : Int32))] [(.ref b101)])) rfl (by rw [hml]; rfl) (Steps.refl _) (argsL := []) (rest := []) (lenOf own_pd2 rfl) rfl (by show 2 * 0 + _ ≤ _; exact Nat.le_of_eq rfl) (hb hby at_177) (fun _ _ => ⟨rfl, rfl, (by dsimp only [Pt.cells, Pt.slots, room_1]; omega), (by dsimp only [Pt.cells, Pt.slots, room_1]; omega)⟩)
  dsimp only [Pt.U, Pt.locs, Pt.cells, Pt.slots] at X110 l110 y110 z110 st110 hQ110
  subst l110 y110 z110
  obtain ⟨rfl, N110q, eh110⟩ := hQ110
  have N110 := Fr.app N101 N110q
  refine Go.step (T' := T110) (g' := (mkF m 180 #[.val (.int i0), .val (.int i1), .val (.int i2), .val (.int i3), .val (.int i4), .val (.int i5), .val (.int i6), .val (.int i7), .val (.ref bs), .val (.int xp), .val (.ref xl), .val (.ref xd), .val (.ref b101), .val (.int (1 : Int32))] [(.int i7)])) (fun _ k => st110.trans k) ?_
  refine Go.step (T' := T110) (g' := (mkF m 182 #[.val (.int i0), .val (.int i1), .val (.int i2), .val (.int i3), .val (.int i4), .val (.int i5), .val (.int i6), .val (.int i7), .val (.ref bs), .val (.int xp), .val (.ref xl), .val (.ref xd), .val (.ref b101), .val (.int (1 : Int32))] [(.int i7), (.int i7)])) (fun _ k => XS.iload X110.here hx rfl (hb hby at_180) rfl  k) ?_
  refine Go.step (T' := T110) (g' := (mkF m 185 #[.val (.int i0), .val (.int i1), .val (.int i2), .val (.int i3), .val (.int i4), .val (.int i5), .val (.int i6), .val (.int i7), .val (.ref bs), .val (.int xp), .val (.ref xl), .val (.ref xd), .val (.ref b101), .val (.int (1 : Int32))] [])) (fun _ k => XS.icmpNo X110.here hx rfl (hb hby at_182) rfl (teq (rfl : i7 = i7)).2 k) ?_
  refine Go.step (T' := T110) (g' := (mkF m 186 #[.val (.int i0), .val (.int i1), .val (.int i2), .val (.int i3), .val (.int i4), .val (.int i5), .val (.int i6), .val (.int i7), .val (.ref bs), .val (.int xp), .val (.ref xl), .val (.ref xd), .val (.ref b101), .val (.int (1 : Int32))] [(.int (1 : Int32))])) (fun _ k => XS.iconst X110.here hx rfl (hb hby at_185) k) ?_
  refine Go.step (T' := T110) (g' := (mkF m 190 #[.val (.int i0), .val (.int i1), .val (.int i2), .val (.int i3), .val (.int i4), .val (.int i5), .val (.int i6), .val (.int i7), .val (.ref bs), .val (.int xp), .val (.ref xl), .val (.ref xd), .val (.ref b101), .val (.int (1 : Int32))] [(.int (1 : Int32))])) (fun _ k => XS.goto X110.here hx rfl (pc0 := 186) (pc' := 190) rfl (hb hby at_186) (by decide) (by decide) k) ?_
  refine Go.step (T' := T110) (g' := (mkF m 192 #[.val (.int i0), .val (.int i1), .val (.int i2), .val (.int i3), .val (.int i4), .val (.int i5), .val (.int i6), .val (.int i7), .val (.ref bs), .val (.int xp), .val (.ref xl), .val (.ref xd), .val (.ref b101), .val (.int (1 : Int32))] [])) (fun _ k => XS.istore X110.here hx rfl (hb hby at_190) rfl (l' := #[.val (.int i0), .val (.int i1), .val (.int i2), .val (.int i3), .val (.int i4), .val (.int i5), .val (.int i6), .val (.int i7), .val (.ref bs), .val (.int xp), .val (.ref xl), .val (.ref xd), .val (.ref b101), .val (.int (1 : Int32))]) rfl k) ?_
  refine Go.step (T' := T110) (g' := (mkF m 194 #[.val (.int i0), .val (.int i1), .val (.int i2), .val (.int i3), .val (.int i4), .val (.int i5), .val (.int i6), .val (.int i7), .val (.ref bs), .val (.int xp), .val (.ref xl), .val (.ref xd), .val (.ref b101), .val (.int (1 : Int32))] [(.int (1 : Int32))])) (fun _ k => XS.iload X110.here hx rfl (hb hby at_192) rfl  k) ?_
  refine Go.step (T' := T110) (g' := (mkF m 197 #[.val (.int i0), .val (.int i1), .val (.int i2), .val (.int i3), .val (.int i4), .val (.int i5), .val (.int i6), .val (.int i7), .val (.ref bs), .val (.int xp), .val (.ref xl), .val (.ref xd), .val (.ref b101), .val (.int (1 : Int32))] [])) (fun _ k => XS.ifNo X110.here hx rfl (hb hby at_194) rfl ((if0 _ _).trans (feq (by decide : ¬ ((1 : Int32) = (0 : Int32)))).1) k) ?_
  refine Go.step (T' := T110) (g' := (mkF m 199 #[.val (.int i0), .val (.int i1), .val (.int i2), .val (.int i3), .val (.int i4), .val (.int i5), .val (.int i6), .val (.int i7), .val (.ref bs), .val (.int xp), .val (.ref xl), .val (.ref xd), .val (.ref b101), .val (.int (1 : Int32))] [(.ref b101)])) (fun _ k => XS.aload X110.here hx rfl (hb hby at_197) rfl rfl k) ?_
  obtain ⟨cq111, kq111, q111a, q111b, q111c⟩ := isOf hZ eh110 E101
  obtain ⟨_, _, ⟨T111, L111, k111, n111⟩, -, X111, ⟨Lc111, hQ111, l111, y111, z111⟩, st111⟩ := X110.virtualBack hx (y := (⟨"com/example/draftd/draftd/odata/ServiceSettings", "getLockTimeout", "()Ljava/time/Duration;"⟩ : MethodName)) (z := (⟨"com/example/draftd/draftd/odata/ServiceSettings", "getLockTimeout", "()Ljava/time/Duration;"⟩ : MethodName)) hown (mvT hZ (hw _ (List.mem_of_getElem? (i := 40) rfl))) (mvT hZ (hw _ (List.mem_of_getElem? (i := 41) rfl))) (notFace_of_selects (args := #[]) (mvT hZ (hw _ (List.mem_of_getElem? (i := 43) rfl)))) (mvT hZ (hw _ (List.mem_of_getElem? (i := 43) rfl))) (mvT hZ (hw _ (List.mem_of_getElem? (i := 42) rfl))) (by decide) (backOf (W := 0) (Q := Qret (some (.ref xl)) T101.heap n0) (own_getLockTimeout l Z a0 hw [] b101 xl T101.heap n0 Z101 G101a) hZ (hw _ (List.mem_of_getElem? (i := 44) rfl)) (hw _ (List.mem_of_getElem? (i := 7) rfl)) (by decide) (by decide)) q111a q111c (g := (mkF m 199 #[.val (.int i0), .val (.int i1), .val (.int i2), .val (.int i3), .val (.int i4), .val (.int i5), .val (.int i6), .val (.int i7), .val (.ref bs), .val (.int xp), .val (.ref xl), .val (.ref xd), .val (.ref b101), .val (.int (1 : Int32))] [(.ref b101)])) rfl (by rw [hml]; rfl) (Steps.refl _) (argsL := []) (rest := []) (lenOf own_pd3 rfl) rfl (by show 2 * 0 + _ ≤ _; exact Nat.le_of_eq rfl) (hb hby at_199) (fun _ _ => ⟨rfl, eh110, (by dsimp only [Pt.cells, Pt.slots, room_1]; omega), (by dsimp only [Pt.cells, Pt.slots, room_1]; omega)⟩)
  dsimp only [Pt.U, Pt.locs, Pt.cells, Pt.slots] at X111 l111 y111 z111 st111 hQ111
  subst l111 y111 z111
  obtain ⟨rfl, N111q, eh111⟩ := hQ111
  have N111 := Fr.app N110 N111q
  refine Go.step (T' := T111) (g' := (mkF m 202 #[.val (.int i0), .val (.int i1), .val (.int i2), .val (.int i3), .val (.int i4), .val (.int i5), .val (.int i6), .val (.int i7), .val (.ref bs), .val (.int xp), .val (.ref xl), .val (.ref xd), .val (.ref b101), .val (.int (1 : Int32))] [(.ref xl)])) (fun _ k => st111.trans k) ?_
  refine Go.step (T' := T111) (g' := (mkF m 204 #[.val (.int i0), .val (.int i1), .val (.int i2), .val (.int i3), .val (.int i4), .val (.int i5), .val (.int i6), .val (.int i7), .val (.ref bs), .val (.int xp), .val (.ref xl), .val (.ref xd), .val (.ref b101), .val (.int (1 : Int32))] [(.ref xl), (.ref xl)])) (fun _ k => XS.aload X111.here hx rfl (hb hby at_202) rfl rfl k) ?_
  refine Go.step (T' := T111) (g' := (mkF m 207 #[.val (.int i0), .val (.int i1), .val (.int i2), .val (.int i3), .val (.int i4), .val (.int i5), .val (.int i6), .val (.int i7), .val (.ref bs), .val (.int xp), .val (.ref xl), .val (.ref xd), .val (.ref b101), .val (.int (1 : Int32))] [])) (fun _ k => Jvm.RoadKit.acmp (g := (mkF m 204 #[.val (.int i0), .val (.int i1), .val (.int i2), .val (.int i3), .val (.int i4), .val (.int i5), .val (.int i6), .val (.int i7), .val (.ref bs), .val (.int xp), .val (.ref xl), .val (.ref xd), .val (.ref b101), .val (.int (1 : Int32))] [(.ref xl), (.ref xl)])) X111 hx rfl rfl rfl (pc0 := 204) (pc' := 207) (same := true) rfl (hb hby at_204) rfl (decide_eq_true rfl) (by decide) (by decide) k) ?_
  refine Go.step (T' := T111) (g' := (mkF m 208 #[.val (.int i0), .val (.int i1), .val (.int i2), .val (.int i3), .val (.int i4), .val (.int i5), .val (.int i6), .val (.int i7), .val (.ref bs), .val (.int xp), .val (.ref xl), .val (.ref xd), .val (.ref b101), .val (.int (1 : Int32))] [(.int (1 : Int32))])) (fun _ k => XS.iconst X111.here hx rfl (hb hby at_207) k) ?_
  refine Go.step (T' := T111) (g' := (mkF m 212 #[.val (.int i0), .val (.int i1), .val (.int i2), .val (.int i3), .val (.int i4), .val (.int i5), .val (.int i6), .val (.int i7), .val (.ref bs), .val (.int xp), .val (.ref xl), .val (.ref xd), .val (.ref b101), .val (.int (1 : Int32))] [(.int (1 : Int32))])) (fun _ k => XS.goto X111.here hx rfl (pc0 := 208) (pc' := 212) rfl (hb hby at_208) (by decide) (by decide) k) ?_
  refine Go.step (T' := T111) (g' := (mkF m 214 #[.val (.int i0), .val (.int i1), .val (.int i2), .val (.int i3), .val (.int i4), .val (.int i5), .val (.int i6), .val (.int i7), .val (.ref bs), .val (.int xp), .val (.ref xl), .val (.ref xd), .val (.ref b101), .val (.int (1 : Int32))] [])) (fun _ k => XS.istore X111.here hx rfl (hb hby at_212) rfl (l' := #[.val (.int i0), .val (.int i1), .val (.int i2), .val (.int i3), .val (.int i4), .val (.int i5), .val (.int i6), .val (.int i7), .val (.ref bs), .val (.int xp), .val (.ref xl), .val (.ref xd), .val (.ref b101), .val (.int (1 : Int32))]) rfl k) ?_
  refine Go.step (T' := T111) (g' := (mkF m 216 #[.val (.int i0), .val (.int i1), .val (.int i2), .val (.int i3), .val (.int i4), .val (.int i5), .val (.int i6), .val (.int i7), .val (.ref bs), .val (.int xp), .val (.ref xl), .val (.ref xd), .val (.ref b101), .val (.int (1 : Int32))] [(.int (1 : Int32))])) (fun _ k => XS.iload X111.here hx rfl (hb hby at_214) rfl  k) ?_
  refine Go.step (T' := T111) (g' := (mkF m 219 #[.val (.int i0), .val (.int i1), .val (.int i2), .val (.int i3), .val (.int i4), .val (.int i5), .val (.int i6), .val (.int i7), .val (.ref bs), .val (.int xp), .val (.ref xl), .val (.ref xd), .val (.ref b101), .val (.int (1 : Int32))] [])) (fun _ k => XS.ifNo X111.here hx rfl (hb hby at_216) rfl ((if0 _ _).trans (feq (by decide : ¬ ((1 : Int32) = (0 : Int32)))).1) k) ?_
  refine Go.step (T' := T111) (g' := (mkF m 221 #[.val (.int i0), .val (.int i1), .val (.int i2), .val (.int i3), .val (.int i4), .val (.int i5), .val (.int i6), .val (.int i7), .val (.ref bs), .val (.int xp), .val (.ref xl), .val (.ref xd), .val (.ref b101), .val (.int (1 : Int32))] [(.ref b101)])) (fun _ k => XS.aload X111.here hx rfl (hb hby at_219) rfl rfl k) ?_
  obtain ⟨cq112, kq112, q112a, q112b, q112c⟩ := isOf hZ eh111 E101
  obtain ⟨_, _, ⟨T112, L112, k112, n112⟩, -, X112, ⟨Lc112, hQ112, l112, y112, z112⟩, st112⟩ := X111.virtualBack hx (y := (⟨"com/example/draftd/draftd/odata/ServiceSettings", "getDraftLifetime", "()Ljava/time/Duration;"⟩ : MethodName)) (z := (⟨"com/example/draftd/draftd/odata/ServiceSettings", "getDraftLifetime", "()Ljava/time/Duration;"⟩ : MethodName)) hown (mvT hZ (hw _ (List.mem_of_getElem? (i := 45) rfl))) (mvT hZ (hw _ (List.mem_of_getElem? (i := 46) rfl))) (notFace_of_selects (args := #[]) (mvT hZ (hw _ (List.mem_of_getElem? (i := 48) rfl)))) (mvT hZ (hw _ (List.mem_of_getElem? (i := 48) rfl))) (mvT hZ (hw _ (List.mem_of_getElem? (i := 47) rfl))) (by decide) (backOf (W := 0) (Q := Qret (some (.ref xd)) T101.heap n0) (own_getDraftLifetime l Z a0 hw [] b101 xd T101.heap n0 Z101 G101b) hZ (hw _ (List.mem_of_getElem? (i := 49) rfl)) (hw _ (List.mem_of_getElem? (i := 7) rfl)) (by decide) (by decide)) q112a q112c (g := (mkF m 221 #[.val (.int i0), .val (.int i1), .val (.int i2), .val (.int i3), .val (.int i4), .val (.int i5), .val (.int i6), .val (.int i7), .val (.ref bs), .val (.int xp), .val (.ref xl), .val (.ref xd), .val (.ref b101), .val (.int (1 : Int32))] [(.ref b101)])) rfl (by rw [hml]; rfl) (Steps.refl _) (argsL := []) (rest := []) (lenOf own_pd3 rfl) rfl (by show 2 * 0 + _ ≤ _; exact Nat.le_of_eq rfl) (hb hby at_221) (fun _ _ => ⟨rfl, eh111, (by dsimp only [Pt.cells, Pt.slots, room_1]; omega), (by dsimp only [Pt.cells, Pt.slots, room_1]; omega)⟩)
  dsimp only [Pt.U, Pt.locs, Pt.cells, Pt.slots] at X112 l112 y112 z112 st112 hQ112
  subst l112 y112 z112
  obtain ⟨rfl, N112q, eh112⟩ := hQ112
  have N112 := Fr.app N111 N112q
  refine Go.step (T' := T112) (g' := (mkF m 224 #[.val (.int i0), .val (.int i1), .val (.int i2), .val (.int i3), .val (.int i4), .val (.int i5), .val (.int i6), .val (.int i7), .val (.ref bs), .val (.int xp), .val (.ref xl), .val (.ref xd), .val (.ref b101), .val (.int (1 : Int32))] [(.ref xd)])) (fun _ k => st112.trans k) ?_
  refine Go.step (T' := T112) (g' := (mkF m 226 #[.val (.int i0), .val (.int i1), .val (.int i2), .val (.int i3), .val (.int i4), .val (.int i5), .val (.int i6), .val (.int i7), .val (.ref bs), .val (.int xp), .val (.ref xl), .val (.ref xd), .val (.ref b101), .val (.int (1 : Int32))] [(.ref xd), (.ref xd)])) (fun _ k => XS.aload X112.here hx rfl (hb hby at_224) rfl rfl k) ?_
  refine Go.step (T' := T112) (g' := (mkF m 229 #[.val (.int i0), .val (.int i1), .val (.int i2), .val (.int i3), .val (.int i4), .val (.int i5), .val (.int i6), .val (.int i7), .val (.ref bs), .val (.int xp), .val (.ref xl), .val (.ref xd), .val (.ref b101), .val (.int (1 : Int32))] [])) (fun _ k => Jvm.RoadKit.acmp (g := (mkF m 226 #[.val (.int i0), .val (.int i1), .val (.int i2), .val (.int i3), .val (.int i4), .val (.int i5), .val (.int i6), .val (.int i7), .val (.ref bs), .val (.int xp), .val (.ref xl), .val (.ref xd), .val (.ref b101), .val (.int (1 : Int32))] [(.ref xd), (.ref xd)])) X112 hx rfl rfl rfl (pc0 := 226) (pc' := 229) (same := true) rfl (hb hby at_226) rfl (decide_eq_true rfl) (by decide) (by decide) k) ?_
  refine Go.step (T' := T112) (g' := (mkF m 230 #[.val (.int i0), .val (.int i1), .val (.int i2), .val (.int i3), .val (.int i4), .val (.int i5), .val (.int i6), .val (.int i7), .val (.ref bs), .val (.int xp), .val (.ref xl), .val (.ref xd), .val (.ref b101), .val (.int (1 : Int32))] [(.int (1 : Int32))])) (fun _ k => XS.iconst X112.here hx rfl (hb hby at_229) k) ?_
  refine Go.step (T' := T112) (g' := (mkF m 234 #[.val (.int i0), .val (.int i1), .val (.int i2), .val (.int i3), .val (.int i4), .val (.int i5), .val (.int i6), .val (.int i7), .val (.ref bs), .val (.int xp), .val (.ref xl), .val (.ref xd), .val (.ref b101), .val (.int (1 : Int32))] [(.int (1 : Int32))])) (fun _ k => XS.goto X112.here hx rfl (pc0 := 230) (pc' := 234) rfl (hb hby at_230) (by decide) (by decide) k) ?_
  refine Go.step (T' := T112) (g' := (mkF m 236 #[.val (.int i0), .val (.int i1), .val (.int i2), .val (.int i3), .val (.int i4), .val (.int i5), .val (.int i6), .val (.int i7), .val (.ref bs), .val (.int xp), .val (.ref xl), .val (.ref xd), .val (.ref b101), .val (.int (1 : Int32))] [])) (fun _ k => XS.istore X112.here hx rfl (hb hby at_234) rfl (l' := #[.val (.int i0), .val (.int i1), .val (.int i2), .val (.int i3), .val (.int i4), .val (.int i5), .val (.int i6), .val (.int i7), .val (.ref bs), .val (.int xp), .val (.ref xl), .val (.ref xd), .val (.ref b101), .val (.int (1 : Int32))]) rfl k) ?_
  refine Go.step (T' := T112) (g' := (mkF m 238 #[.val (.int i0), .val (.int i1), .val (.int i2), .val (.int i3), .val (.int i4), .val (.int i5), .val (.int i6), .val (.int i7), .val (.ref bs), .val (.int xp), .val (.ref xl), .val (.ref xd), .val (.ref b101), .val (.int (1 : Int32))] [(.int (1 : Int32))])) (fun _ k => XS.iload X112.here hx rfl (hb hby at_236) rfl  k) ?_
  refine Go.step (T' := T112) (g' := (mkF m 241 #[.val (.int i0), .val (.int i1), .val (.int i2), .val (.int i3), .val (.int i4), .val (.int i5), .val (.int i6), .val (.int i7), .val (.ref bs), .val (.int xp), .val (.ref xl), .val (.ref xd), .val (.ref b101), .val (.int (1 : Int32))] [])) (fun _ k => XS.ifNo X112.here hx rfl (hb hby at_238) rfl ((if0 _ _).trans (feq (by decide : ¬ ((1 : Int32) = (0 : Int32)))).1) k) ?_
  refine Go.step (T' := T112) (g' := (mkF m 243 #[.val (.int i0), .val (.int i1), .val (.int i2), .val (.int i3), .val (.int i4), .val (.int i5), .val (.int i6), .val (.int i7), .val (.ref bs), .val (.int xp), .val (.ref xl), .val (.ref xd), .val (.ref b101), .val (.int (1 : Int32))] [(.ref bs)])) (fun _ k => XS.aload X112.here hx rfl (hb hby at_241) rfl rfl k) ?_
  obtain ⟨cq113, kq113, q113a, q113b, q113c⟩ := isOf hZ eh112 F106
  obtain ⟨_, _, ⟨T113, L113, k113, n113⟩, -, X113, ⟨Lc113, hQ113, l113, y113, z113⟩, st113⟩ := X112.virtualBack hx (y := (⟨"com/example/draftd/draftd/odata/ServiceSettings", "getPageSize", "()I"⟩ : MethodName)) (z := (⟨"com/example/draftd/draftd/odata/ServiceSettings", "getPageSize", "()I"⟩ : MethodName)) hown (mvT hZ (hw _ (List.mem_of_getElem? (i := 35) rfl))) (mvT hZ (hw _ (List.mem_of_getElem? (i := 36) rfl))) (notFace_of_selects (args := #[]) (mvT hZ (hw _ (List.mem_of_getElem? (i := 38) rfl)))) (mvT hZ (hw _ (List.mem_of_getElem? (i := 38) rfl))) (mvT hZ (hw _ (List.mem_of_getElem? (i := 37) rfl))) (by decide) (backOf (W := 0) (Q := Qret (some (.int xp)) T101.heap n0) (own_getPageSize l Z a0 hw [] bs xp T101.heap n0 Z101 F109) hZ (hw _ (List.mem_of_getElem? (i := 39) rfl)) (hw _ (List.mem_of_getElem? (i := 7) rfl)) (by decide) (by decide)) q113a q113c (g := (mkF m 243 #[.val (.int i0), .val (.int i1), .val (.int i2), .val (.int i3), .val (.int i4), .val (.int i5), .val (.int i6), .val (.int i7), .val (.ref bs), .val (.int xp), .val (.ref xl), .val (.ref xd), .val (.ref b101), .val (.int (1 : Int32))] [(.ref bs)])) rfl (by rw [hml]; rfl) (Steps.refl _) (argsL := []) (rest := []) (lenOf own_pd2 rfl) rfl (by show 2 * 0 + _ ≤ _; exact Nat.le_of_eq rfl) (hb hby at_243) (fun _ _ => ⟨rfl, eh112, (by dsimp only [Pt.cells, Pt.slots, room_1]; omega), (by dsimp only [Pt.cells, Pt.slots, room_1]; omega)⟩)
  dsimp only [Pt.U, Pt.locs, Pt.cells, Pt.slots] at X113 l113 y113 z113 st113 hQ113
  subst l113 y113 z113
  obtain ⟨rfl, N113q, eh113⟩ := hQ113
  have N113 := Fr.app N112 N113q
  refine Go.step (T' := T113) (g' := (mkF m 246 #[.val (.int i0), .val (.int i1), .val (.int i2), .val (.int i3), .val (.int i4), .val (.int i5), .val (.int i6), .val (.int i7), .val (.ref bs), .val (.int xp), .val (.ref xl), .val (.ref xd), .val (.ref b101), .val (.int (1 : Int32))] [(.int xp)])) (fun _ k => st113.trans k) ?_
  refine Go.step (T' := T113) (g' := (mkF m 248 #[.val (.int i0), .val (.int i1), .val (.int i2), .val (.int i3), .val (.int i4), .val (.int i5), .val (.int i6), .val (.int i7), .val (.ref bs), .val (.int xp), .val (.ref xl), .val (.ref xd), .val (.ref b101), .val (.int (1 : Int32))] [(.int xp), (.int xp)])) (fun _ k => XS.iload X113.here hx rfl (hb hby at_246) rfl  k) ?_
  refine Go.step (T' := T113) (g' := (mkF m 251 #[.val (.int i0), .val (.int i1), .val (.int i2), .val (.int i3), .val (.int i4), .val (.int i5), .val (.int i6), .val (.int i7), .val (.ref bs), .val (.int xp), .val (.ref xl), .val (.ref xd), .val (.ref b101), .val (.int (1 : Int32))] [])) (fun _ k => XS.icmpNo X113.here hx rfl (hb hby at_248) rfl (teq (rfl : xp = xp)).2 k) ?_
  refine Go.step (T' := T113) (g' := (mkF m 252 #[.val (.int i0), .val (.int i1), .val (.int i2), .val (.int i3), .val (.int i4), .val (.int i5), .val (.int i6), .val (.int i7), .val (.ref bs), .val (.int xp), .val (.ref xl), .val (.ref xd), .val (.ref b101), .val (.int (1 : Int32))] [(.int (1 : Int32))])) (fun _ k => XS.iconst X113.here hx rfl (hb hby at_251) k) ?_
  refine Go.step (T' := T113) (g' := (mkF m 256 #[.val (.int i0), .val (.int i1), .val (.int i2), .val (.int i3), .val (.int i4), .val (.int i5), .val (.int i6), .val (.int i7), .val (.ref bs), .val (.int xp), .val (.ref xl), .val (.ref xd), .val (.ref b101), .val (.int (1 : Int32))] [(.int (1 : Int32))])) (fun _ k => XS.goto X113.here hx rfl (pc0 := 252) (pc' := 256) rfl (hb hby at_252) (by decide) (by decide) k) ?_
  refine Go.step (T' := T113) (g' := (mkF m 258 #[.val (.int i0), .val (.int i1), .val (.int i2), .val (.int i3), .val (.int i4), .val (.int i5), .val (.int i6), .val (.int i7), .val (.ref bs), .val (.int xp), .val (.ref xl), .val (.ref xd), .val (.ref b101), .val (.int (1 : Int32))] [])) (fun _ k => XS.istore X113.here hx rfl (hb hby at_256) rfl (l' := #[.val (.int i0), .val (.int i1), .val (.int i2), .val (.int i3), .val (.int i4), .val (.int i5), .val (.int i6), .val (.int i7), .val (.ref bs), .val (.int xp), .val (.ref xl), .val (.ref xd), .val (.ref b101), .val (.int (1 : Int32))]) rfl k) ?_
  refine Go.step (T' := T113) (g' := (mkF m 260 #[.val (.int i0), .val (.int i1), .val (.int i2), .val (.int i3), .val (.int i4), .val (.int i5), .val (.int i6), .val (.int i7), .val (.ref bs), .val (.int xp), .val (.ref xl), .val (.ref xd), .val (.ref b101), .val (.int (1 : Int32))] [(.int (1 : Int32))])) (fun _ k => XS.iload X113.here hx rfl (hb hby at_258) rfl  k) ?_
  refine Go.step (T' := T113) (g' := (mkF m 263 #[.val (.int i0), .val (.int i1), .val (.int i2), .val (.int i3), .val (.int i4), .val (.int i5), .val (.int i6), .val (.int i7), .val (.ref bs), .val (.int xp), .val (.ref xl), .val (.ref xd), .val (.ref b101), .val (.int (1 : Int32))] [])) (fun _ k => XS.ifNo X113.here hx rfl (hb hby at_260) rfl ((if0 _ _).trans (feq (by decide : ¬ ((1 : Int32) = (0 : Int32)))).1) k) ?_
  refine Go.step (T' := T113) (g' := (mkF m 265 #[.val (.int i0), .val (.int i1), .val (.int i2), .val (.int i3), .val (.int i4), .val (.int i5), .val (.int i6), .val (.int i7), .val (.ref bs), .val (.int xp), .val (.ref xl), .val (.ref xd), .val (.ref b101), .val (.int (1 : Int32))] [(.ref bs)])) (fun _ k => XS.aload X113.here hx rfl (hb hby at_263) rfl rfl k) ?_
  obtain ⟨cq114, kq114, q114a, q114b, q114c⟩ := isOf hZ eh113 F106
  obtain ⟨_, _, ⟨T114, L114, k114, n114⟩, -, X114, ⟨Lc114, hQ114, l114, y114, z114⟩, st114⟩ := X113.virtualBack hx (y := (⟨"com/example/draftd/draftd/odata/ServiceSettings", "getLockTimeout", "()Ljava/time/Duration;"⟩ : MethodName)) (z := (⟨"com/example/draftd/draftd/odata/ServiceSettings", "getLockTimeout", "()Ljava/time/Duration;"⟩ : MethodName)) hown (mvT hZ (hw _ (List.mem_of_getElem? (i := 40) rfl))) (mvT hZ (hw _ (List.mem_of_getElem? (i := 41) rfl))) (notFace_of_selects (args := #[]) (mvT hZ (hw _ (List.mem_of_getElem? (i := 43) rfl)))) (mvT hZ (hw _ (List.mem_of_getElem? (i := 43) rfl))) (mvT hZ (hw _ (List.mem_of_getElem? (i := 42) rfl))) (by decide) (backOf (W := 0) (Q := Qret (some (.ref xl)) T101.heap n0) (own_getLockTimeout l Z a0 hw [] bs xl T101.heap n0 Z101 F107) hZ (hw _ (List.mem_of_getElem? (i := 44) rfl)) (hw _ (List.mem_of_getElem? (i := 7) rfl)) (by decide) (by decide)) q114a q114c (g := (mkF m 265 #[.val (.int i0), .val (.int i1), .val (.int i2), .val (.int i3), .val (.int i4), .val (.int i5), .val (.int i6), .val (.int i7), .val (.ref bs), .val (.int xp), .val (.ref xl), .val (.ref xd), .val (.ref b101), .val (.int (1 : Int32))] [(.ref bs)])) rfl (by rw [hml]; rfl) (Steps.refl _) (argsL := []) (rest := []) (lenOf own_pd3 rfl) rfl (by show 2 * 0 + _ ≤ _; exact Nat.le_of_eq rfl) (hb hby at_265) (fun _ _ => ⟨rfl, eh113, (by dsimp only [Pt.cells, Pt.slots, room_1]; omega), (by dsimp only [Pt.cells, Pt.slots, room_1]; omega)⟩)
  dsimp only [Pt.U, Pt.locs, Pt.cells, Pt.slots] at X114 l114 y114 z114 st114 hQ114
  subst l114 y114 z114
  obtain ⟨rfl, N114q, eh114⟩ := hQ114
  have N114 := Fr.app N113 N114q
  refine Go.step (T' := T114) (g' := (mkF m 268 #[.val (.int i0), .val (.int i1), .val (.int i2), .val (.int i3), .val (.int i4), .val (.int i5), .val (.int i6), .val (.int i7), .val (.ref bs), .val (.int xp), .val (.ref xl), .val (.ref xd), .val (.ref b101), .val (.int (1 : Int32))] [(.ref xl)])) (fun _ k => st114.trans k) ?_
  refine Go.step (T' := T114) (g' := (mkF m 270 #[.val (.int i0), .val (.int i1), .val (.int i2), .val (.int i3), .val (.int i4), .val (.int i5), .val (.int i6), .val (.int i7), .val (.ref bs), .val (.int xp), .val (.ref xl), .val (.ref xd), .val (.ref b101), .val (.int (1 : Int32))] [(.ref xl), (.ref xl)])) (fun _ k => XS.aload X114.here hx rfl (hb hby at_268) rfl rfl k) ?_
  refine Go.step (T' := T114) (g' := (mkF m 273 #[.val (.int i0), .val (.int i1), .val (.int i2), .val (.int i3), .val (.int i4), .val (.int i5), .val (.int i6), .val (.int i7), .val (.ref bs), .val (.int xp), .val (.ref xl), .val (.ref xd), .val (.ref b101), .val (.int (1 : Int32))] [])) (fun _ k => Jvm.RoadKit.acmp (g := (mkF m 270 #[.val (.int i0), .val (.int i1), .val (.int i2), .val (.int i3), .val (.int i4), .val (.int i5), .val (.int i6), .val (.int i7), .val (.ref bs), .val (.int xp), .val (.ref xl), .val (.ref xd), .val (.ref b101), .val (.int (1 : Int32))] [(.ref xl), (.ref xl)])) X114 hx rfl rfl rfl (pc0 := 270) (pc' := 273) (same := true) rfl (hb hby at_270) rfl (decide_eq_true rfl) (by decide) (by decide) k) ?_
  refine Go.step (T' := T114) (g' := (mkF m 274 #[.val (.int i0), .val (.int i1), .val (.int i2), .val (.int i3), .val (.int i4), .val (.int i5), .val (.int i6), .val (.int i7), .val (.ref bs), .val (.int xp), .val (.ref xl), .val (.ref xd), .val (.ref b101), .val (.int (1 : Int32))] [(.int (1 : Int32))])) (fun _ k => XS.iconst X114.here hx rfl (hb hby at_273) k) ?_
  refine Go.step (T' := T114) (g' := (mkF m 278 #[.val (.int i0), .val (.int i1), .val (.int i2), .val (.int i3), .val (.int i4), .val (.int i5), .val (.int i6), .val (.int i7), .val (.ref bs), .val (.int xp), .val (.ref xl), .val (.ref xd), .val (.ref b101), .val (.int (1 : Int32))] [(.int (1 : Int32))])) (fun _ k => XS.goto X114.here hx rfl (pc0 := 274) (pc' := 278) rfl (hb hby at_274) (by decide) (by decide) k) ?_
  refine Go.step (T' := T114) (g' := (mkF m 280 #[.val (.int i0), .val (.int i1), .val (.int i2), .val (.int i3), .val (.int i4), .val (.int i5), .val (.int i6), .val (.int i7), .val (.ref bs), .val (.int xp), .val (.ref xl), .val (.ref xd), .val (.ref b101), .val (.int (1 : Int32))] [])) (fun _ k => XS.istore X114.here hx rfl (hb hby at_278) rfl (l' := #[.val (.int i0), .val (.int i1), .val (.int i2), .val (.int i3), .val (.int i4), .val (.int i5), .val (.int i6), .val (.int i7), .val (.ref bs), .val (.int xp), .val (.ref xl), .val (.ref xd), .val (.ref b101), .val (.int (1 : Int32))]) rfl k) ?_
  refine Go.step (T' := T114) (g' := (mkF m 282 #[.val (.int i0), .val (.int i1), .val (.int i2), .val (.int i3), .val (.int i4), .val (.int i5), .val (.int i6), .val (.int i7), .val (.ref bs), .val (.int xp), .val (.ref xl), .val (.ref xd), .val (.ref b101), .val (.int (1 : Int32))] [(.int (1 : Int32))])) (fun _ k => XS.iload X114.here hx rfl (hb hby at_280) rfl  k) ?_
  refine Go.step (T' := T114) (g' := (mkF m 285 #[.val (.int i0), .val (.int i1), .val (.int i2), .val (.int i3), .val (.int i4), .val (.int i5), .val (.int i6), .val (.int i7), .val (.ref bs), .val (.int xp), .val (.ref xl), .val (.ref xd), .val (.ref b101), .val (.int (1 : Int32))] [])) (fun _ k => XS.ifNo X114.here hx rfl (hb hby at_282) rfl ((if0 _ _).trans (feq (by decide : ¬ ((1 : Int32) = (0 : Int32)))).1) k) ?_
  refine Go.step (T' := T114) (g' := (mkF m 287 #[.val (.int i0), .val (.int i1), .val (.int i2), .val (.int i3), .val (.int i4), .val (.int i5), .val (.int i6), .val (.int i7), .val (.ref bs), .val (.int xp), .val (.ref xl), .val (.ref xd), .val (.ref b101), .val (.int (1 : Int32))] [(.ref bs)])) (fun _ k => XS.aload X114.here hx rfl (hb hby at_285) rfl rfl k) ?_
  obtain ⟨cq115, kq115, q115a, q115b, q115c⟩ := isOf hZ eh114 F106
  obtain ⟨_, _, ⟨T115, L115, k115, n115⟩, -, X115, ⟨Lc115, hQ115, l115, y115, z115⟩, st115⟩ := X114.virtualBack hx (y := (⟨"com/example/draftd/draftd/odata/ServiceSettings", "getDraftLifetime", "()Ljava/time/Duration;"⟩ : MethodName)) (z := (⟨"com/example/draftd/draftd/odata/ServiceSettings", "getDraftLifetime", "()Ljava/time/Duration;"⟩ : MethodName)) hown (mvT hZ (hw _ (List.mem_of_getElem? (i := 45) rfl))) (mvT hZ (hw _ (List.mem_of_getElem? (i := 46) rfl))) (notFace_of_selects (args := #[]) (mvT hZ (hw _ (List.mem_of_getElem? (i := 48) rfl)))) (mvT hZ (hw _ (List.mem_of_getElem? (i := 48) rfl))) (mvT hZ (hw _ (List.mem_of_getElem? (i := 47) rfl))) (by decide) (backOf (W := 0) (Q := Qret (some (.ref xd)) T101.heap n0) (own_getDraftLifetime l Z a0 hw [] bs xd T101.heap n0 Z101 F108) hZ (hw _ (List.mem_of_getElem? (i := 49) rfl)) (hw _ (List.mem_of_getElem? (i := 7) rfl)) (by decide) (by decide)) q115a q115c (g := (mkF m 287 #[.val (.int i0), .val (.int i1), .val (.int i2), .val (.int i3), .val (.int i4), .val (.int i5), .val (.int i6), .val (.int i7), .val (.ref bs), .val (.int xp), .val (.ref xl), .val (.ref xd), .val (.ref b101), .val (.int (1 : Int32))] [(.ref bs)])) rfl (by rw [hml]; rfl) (Steps.refl _) (argsL := []) (rest := []) (lenOf own_pd3 rfl) rfl (by show 2 * 0 + _ ≤ _; exact Nat.le_of_eq rfl) (hb hby at_287) (fun _ _ => ⟨rfl, eh114, (by dsimp only [Pt.cells, Pt.slots, room_1]; omega), (by dsimp only [Pt.cells, Pt.slots, room_1]; omega)⟩)
  dsimp only [Pt.U, Pt.locs, Pt.cells, Pt.slots] at X115 l115 y115 z115 st115 hQ115
  subst l115 y115 z115
  obtain ⟨rfl, N115q, eh115⟩ := hQ115
  have N115 := Fr.app N114 N115q
  refine Go.step (T' := T115) (g' := (mkF m 290 #[.val (.int i0), .val (.int i1), .val (.int i2), .val (.int i3), .val (.int i4), .val (.int i5), .val (.int i6), .val (.int i7), .val (.ref bs), .val (.int xp), .val (.ref xl), .val (.ref xd), .val (.ref b101), .val (.int (1 : Int32))] [(.ref xd)])) (fun _ k => st115.trans k) ?_
  refine Go.step (T' := T115) (g' := (mkF m 292 #[.val (.int i0), .val (.int i1), .val (.int i2), .val (.int i3), .val (.int i4), .val (.int i5), .val (.int i6), .val (.int i7), .val (.ref bs), .val (.int xp), .val (.ref xl), .val (.ref xd), .val (.ref b101), .val (.int (1 : Int32))] [(.ref xd), (.ref xd)])) (fun _ k => XS.aload X115.here hx rfl (hb hby at_290) rfl rfl k) ?_
  refine Go.step (T' := T115) (g' := (mkF m 295 #[.val (.int i0), .val (.int i1), .val (.int i2), .val (.int i3), .val (.int i4), .val (.int i5), .val (.int i6), .val (.int i7), .val (.ref bs), .val (.int xp), .val (.ref xl), .val (.ref xd), .val (.ref b101), .val (.int (1 : Int32))] [])) (fun _ k => Jvm.RoadKit.acmp (g := (mkF m 292 #[.val (.int i0), .val (.int i1), .val (.int i2), .val (.int i3), .val (.int i4), .val (.int i5), .val (.int i6), .val (.int i7), .val (.ref bs), .val (.int xp), .val (.ref xl), .val (.ref xd), .val (.ref b101), .val (.int (1 : Int32))] [(.ref xd), (.ref xd)])) X115 hx rfl rfl rfl (pc0 := 292) (pc' := 295) (same := true) rfl (hb hby at_292) rfl (decide_eq_true rfl) (by decide) (by decide) k) ?_
  refine Go.step (T' := T115) (g' := (mkF m 296 #[.val (.int i0), .val (.int i1), .val (.int i2), .val (.int i3), .val (.int i4), .val (.int i5), .val (.int i6), .val (.int i7), .val (.ref bs), .val (.int xp), .val (.ref xl), .val (.ref xd), .val (.ref b101), .val (.int (1 : Int32))] [(.int (1 : Int32))])) (fun _ k => XS.iconst X115.here hx rfl (hb hby at_295) k) ?_
  refine Go.step (T' := T115) (g' := (mkF m 300 #[.val (.int i0), .val (.int i1), .val (.int i2), .val (.int i3), .val (.int i4), .val (.int i5), .val (.int i6), .val (.int i7), .val (.ref bs), .val (.int xp), .val (.ref xl), .val (.ref xd), .val (.ref b101), .val (.int (1 : Int32))] [(.int (1 : Int32))])) (fun _ k => XS.goto X115.here hx rfl (pc0 := 296) (pc' := 300) rfl (hb hby at_296) (by decide) (by decide) k) ?_
  refine Go.step (T' := T115) (g' := (mkF m 302 #[.val (.int i0), .val (.int i1), .val (.int i2), .val (.int i3), .val (.int i4), .val (.int i5), .val (.int i6), .val (.int i7), .val (.ref bs), .val (.int xp), .val (.ref xl), .val (.ref xd), .val (.ref b101), .val (.int (1 : Int32))] [])) (fun _ k => XS.istore X115.here hx rfl (hb hby at_300) rfl (l' := #[.val (.int i0), .val (.int i1), .val (.int i2), .val (.int i3), .val (.int i4), .val (.int i5), .val (.int i6), .val (.int i7), .val (.ref bs), .val (.int xp), .val (.ref xl), .val (.ref xd), .val (.ref b101), .val (.int (1 : Int32))]) rfl k) ?_
  refine Go.step (T' := T115) (g' := (mkF m 304 #[.val (.int i0), .val (.int i1), .val (.int i2), .val (.int i3), .val (.int i4), .val (.int i5), .val (.int i6), .val (.int i7), .val (.ref bs), .val (.int xp), .val (.ref xl), .val (.ref xd), .val (.ref b101), .val (.int (1 : Int32))] [(.int (1 : Int32))])) (fun _ k => XS.iload X115.here hx rfl (hb hby at_302) rfl  k) ?_
  exact Go.retN X115 hx (t := .boolean) hret hlk (by simp) (hb hby at_304) (⟨rfl, N115⟩) (by omega) (by omega)
theorem own_ef_code_III (m : MethodId) (x0 : Int32) (x1 : Int32) (x2 : Int32) : entryFrame m #[(.int x0), (.int x1), (.int x2)] maxLocals = mkF m 0 #[.val (.int x0), .val (.int x1), .val (.int x2), .unset, .unset, .unset, .unset, .unset, .unset, .unset, .unset, .unset, .unset, .unset] [] := by first | (simp [entryFrame, mkF, argsToLocals, Value.category, maxLocals]; done) | rfl
theorem own_pd4 : parseMethodDescriptor "(I)I" = some ⟨[.int], some .int⟩ := by decide +kernel
theorem own_pd5 : parseMethodDescriptor "()V" = some ⟨[], none⟩ := by decide +kernel
theorem own_pd6 : parseMethodDescriptor "(Ljava/time/Duration;)Lcom/example/draftd/draftd/odata/ServiceSettings;" = some ⟨[(.object "java/time/Duration")], some (.object "com/example/draftd/draftd/odata/ServiceSettings")⟩ := by decide +kernel
set_option maxRecDepth 65536 in
set_option maxHeartbeats 40000000 in
theorem rm0 (l : Launch) (Z : State) (a0 : Array Value) (hw : ∀ d ∈ tables_1, d.before a0 Z = true) (ws : List Jvm.Cond) (p0 p1 p2 : Int32) (wL wD : Addr) (h0 : Heap) (n0 : Nat) (Z0 : n0 ≤ h0.size) (S0 : Sta Z h0 "com/example/draftd/draftd/odata/ServiceSettings" "DEFAULT_LOCK_TIMEOUT" "Ljava/time/Duration;" (.ref wL)) (S1 : Sta Z h0 "com/example/draftd/draftd/odata/ServiceSettings" "DEFAULT_DRAFT_LIFETIME" "Ljava/time/Duration;" (.ref wD)) :
    Con l Z x code maxLocals ret room_1 ws #[(.int p0), (.int p1), (.int p2)] h0 (Q0 n0) 24 128 := by
  refine Con.of (plainFor_of_name own_pn_ServiceSettingsWithPageSizePinLaw) ?_
  intro p e s m below meth c s₁ X0 hx hZ hby hml hown hnm hret hlk e0 hs0
  have N0 := Fr.nil n0
  have hown : s.vm.findClass "com/example/draftd/draftd/odata/ServiceSettingsWithPageSizePinLaw" = some m.cls := hown
  have hnm : meth.name = "law" := hnm
  refine Go.cast (own_ef_code_III m p0 p1 p2) ?_
  refine Go.step (T' := s₁) (g' := (mkF m 1 #[.val (.int p0), .val (.int p1), .val (.int p2), .unset, .unset, .unset, .unset, .unset, .unset, .unset, .unset, .unset, .unset, .unset] [(.int p0)])) (fun _ k => XS.iloadN X0.here hx rfl (hb hby at_0) rfl  k) ?_
  refine Go.step (T' := s₁) (g' := (mkF m 2 #[.val (.int p0), .val (.int p1), .val (.int p2), .unset, .unset, .unset, .unset, .unset, .unset, .unset, .unset, .unset, .unset, .unset] [(.int (1 : Int32)), (.int p0)])) (fun _ k => XS.iconst X0.here hx rfl (hb hby at_1) k) ?_
  refine Go.step (T' := s₁) (g' := (mkF m 3 #[.val (.int p0), .val (.int p1), .val (.int p2), .unset, .unset, .unset, .unset, .unset, .unset, .unset, .unset, .unset, .unset, .unset] [(.int (p0 &&& (1 : Int32)))])) (fun _ k => XS.iand X0.here hx rfl (hb hby at_2) rfl k) ?_
  by_cases hc101 : (p0 &&& (1 : Int32)) = (0 : Int32)
  · skip
    refine Go.step (T' := s₁) (g' := (mkF m 10 #[.val (.int p0), .val (.int p1), .val (.int p2), .unset, .unset, .unset, .unset, .unset, .unset, .unset, .unset, .unset, .unset, .unset] [])) (fun _ k => XS.ifYes X0.here hx rfl (pc0 := 3) (pc' := 10) rfl (hb hby at_3) rfl ((if0 _ _).trans (teq hc101).1) (by decide) (by decide) k) ?_
    refine Go.step (T' := s₁) (g' := (mkF m 11 #[.val (.int p0), .val (.int p1), .val (.int p2), .unset, .unset, .unset, .unset, .unset, .unset, .unset, .unset, .unset, .unset, .unset] [(.int (0 : Int32))])) (fun _ k => XS.iconst X0.here hx rfl (hb hby at_10) k) ?_
    refine Go.step (T' := s₁) (g' := (mkF m 12 #[.val (.int p0), .val (.int p1), .val (.int p2), .val (.int (0 : Int32)), .unset, .unset, .unset, .unset, .unset, .unset, .unset, .unset, .unset, .unset] [])) (fun _ k => XS.istoreN X0.here hx rfl (hb hby at_11) rfl (l' := #[.val (.int p0), .val (.int p1), .val (.int p2), .val (.int (0 : Int32)), .unset, .unset, .unset, .unset, .unset, .unset, .unset, .unset, .unset, .unset]) rfl k) ?_
    refine Go.step (T' := s₁) (g' := (mkF m 13 #[.val (.int p0), .val (.int p1), .val (.int p2), .val (.int (0 : Int32)), .unset, .unset, .unset, .unset, .unset, .unset, .unset, .unset, .unset, .unset] [(.int p0)])) (fun _ k => XS.iloadN X0.here hx rfl (hb hby at_12) rfl  k) ?_
    refine Go.step (T' := s₁) (g' := (mkF m 14 #[.val (.int p0), .val (.int p1), .val (.int p2), .val (.int (0 : Int32)), .unset, .unset, .unset, .unset, .unset, .unset, .unset, .unset, .unset, .unset] [(.int (2 : Int32)), (.int p0)])) (fun _ k => XS.iconst X0.here hx rfl (hb hby at_13) k) ?_
    refine Go.step (T' := s₁) (g' := (mkF m 15 #[.val (.int p0), .val (.int p1), .val (.int p2), .val (.int (0 : Int32)), .unset, .unset, .unset, .unset, .unset, .unset, .unset, .unset, .unset, .unset] [(.int (p0 &&& (2 : Int32)))])) (fun _ k => XS.iand X0.here hx rfl (hb hby at_14) rfl k) ?_
    by_cases hc102 : (p0 &&& (2 : Int32)) = (0 : Int32)
    · skip
      refine Go.step (T' := s₁) (g' := (mkF m 22 #[.val (.int p0), .val (.int p1), .val (.int p2), .val (.int (0 : Int32)), .unset, .unset, .unset, .unset, .unset, .unset, .unset, .unset, .unset, .unset] [])) (fun _ k => XS.ifYes X0.here hx rfl (pc0 := 15) (pc' := 22) rfl (hb hby at_15) rfl ((if0 _ _).trans (teq hc102).1) (by decide) (by decide) k) ?_
      refine Go.step (T' := s₁) (g' := (mkF m 23 #[.val (.int p0), .val (.int p1), .val (.int p2), .val (.int (0 : Int32)), .unset, .unset, .unset, .unset, .unset, .unset, .unset, .unset, .unset, .unset] [(.int (0 : Int32))])) (fun _ k => XS.iconst X0.here hx rfl (hb hby at_22) k) ?_
      refine Go.step (T' := s₁) (g' := (mkF m 25 #[.val (.int p0), .val (.int p1), .val (.int p2), .val (.int (0 : Int32)), .val (.int (0 : Int32)), .unset, .unset, .unset, .unset, .unset, .unset, .unset, .unset, .unset] [])) (fun _ k => XS.istore X0.here hx rfl (hb hby at_23) rfl (l' := #[.val (.int p0), .val (.int p1), .val (.int p2), .val (.int (0 : Int32)), .val (.int (0 : Int32)), .unset, .unset, .unset, .unset, .unset, .unset, .unset, .unset, .unset]) rfl k) ?_
      refine Go.step (T' := s₁) (g' := (mkF m 26 #[.val (.int p0), .val (.int p1), .val (.int p2), .val (.int (0 : Int32)), .val (.int (0 : Int32)), .unset, .unset, .unset, .unset, .unset, .unset, .unset, .unset, .unset] [(.int p0)])) (fun _ k => XS.iloadN X0.here hx rfl (hb hby at_25) rfl  k) ?_
      refine Go.step (T' := s₁) (g' := (mkF m 27 #[.val (.int p0), .val (.int p1), .val (.int p2), .val (.int (0 : Int32)), .val (.int (0 : Int32)), .unset, .unset, .unset, .unset, .unset, .unset, .unset, .unset, .unset] [(.int (4 : Int32)), (.int p0)])) (fun _ k => XS.iconst X0.here hx rfl (hb hby at_26) k) ?_
      refine Go.step (T' := s₁) (g' := (mkF m 28 #[.val (.int p0), .val (.int p1), .val (.int p2), .val (.int (0 : Int32)), .val (.int (0 : Int32)), .unset, .unset, .unset, .unset, .unset, .unset, .unset, .unset, .unset] [(.int (p0 &&& (4 : Int32)))])) (fun _ k => XS.iand X0.here hx rfl (hb hby at_27) rfl k) ?_
      by_cases hc103 : (p0 &&& (4 : Int32)) = (0 : Int32)
      · skip
        refine Go.step (T' := s₁) (g' := (mkF m 35 #[.val (.int p0), .val (.int p1), .val (.int p2), .val (.int (0 : Int32)), .val (.int (0 : Int32)), .unset, .unset, .unset, .unset, .unset, .unset, .unset, .unset, .unset] [])) (fun _ k => XS.ifYes X0.here hx rfl (pc0 := 28) (pc' := 35) rfl (hb hby at_28) rfl ((if0 _ _).trans (teq hc103).1) (by decide) (by decide) k) ?_
        refine Go.step (T' := s₁) (g' := (mkF m 36 #[.val (.int p0), .val (.int p1), .val (.int p2), .val (.int (0 : Int32)), .val (.int (0 : Int32)), .unset, .unset, .unset, .unset, .unset, .unset, .unset, .unset, .unset] [(.int (0 : Int32))])) (fun _ k => XS.iconst X0.here hx rfl (hb hby at_35) k) ?_
        refine Go.step (T' := s₁) (g' := (mkF m 38 #[.val (.int p0), .val (.int p1), .val (.int p2), .val (.int (0 : Int32)), .val (.int (0 : Int32)), .val (.int (0 : Int32)), .unset, .unset, .unset, .unset, .unset, .unset, .unset, .unset] [])) (fun _ k => XS.istore X0.here hx rfl (hb hby at_36) rfl (l' := #[.val (.int p0), .val (.int p1), .val (.int p2), .val (.int (0 : Int32)), .val (.int (0 : Int32)), .val (.int (0 : Int32)), .unset, .unset, .unset, .unset, .unset, .unset, .unset, .unset]) rfl k) ?_
        refine Go.step (T' := s₁) (g' := (mkF m 39 #[.val (.int p0), .val (.int p1), .val (.int p2), .val (.int (0 : Int32)), .val (.int (0 : Int32)), .val (.int (0 : Int32)), .unset, .unset, .unset, .unset, .unset, .unset, .unset, .unset] [(.int p1)])) (fun _ k => XS.iloadN X0.here hx rfl (hb hby at_38) rfl  k) ?_
        obtain ⟨_, _, ⟨T104, L104, k104, n104⟩, -, X104, ⟨Lc104, hQ104, l104, y104, z104⟩, st104⟩ := Jvm.LawKit.callS X0 hx (y := (⟨"com/example/draftd/draftd/odata/ServiceSettingsWithPageSizePinLaw", "positive", "(I)I"⟩ : MethodName)) hown (mvT hZ (hw _ (List.mem_of_getElem? (i := 0) rfl))) (mvT hZ (hw _ (List.mem_of_getElem? (i := 1) rfl))) (mvT hZ (hw _ (List.mem_of_getElem? (i := 2) rfl))) (mvT hZ (hw _ (List.mem_of_getElem? (i := 3) rfl))) (by decide) (backOf (W := 0) (Q := Qret (some (.int (own_pos p1))) h0 n0) (own_rpos l Z a0 hw [] p1 h0 n0 Z0) hZ (hw _ (List.mem_of_getElem? (i := 3) rfl)) (hw _ (List.mem_of_getElem? (i := 2) rfl)) (by decide) (by decide)) (g := (mkF m 39 #[.val (.int p0), .val (.int p1), .val (.int p2), .val (.int (0 : Int32)), .val (.int (0 : Int32)), .val (.int (0 : Int32)), .unset, .unset, .unset, .unset, .unset, .unset, .unset, .unset] [(.int p1)])) rfl (by rw [hml]; rfl) (argsL := [(.int p1)]) (rest := []) (lenOf own_pd4 rfl) rfl (by show 2 * 0 + _ ≤ _; exact Nat.le_of_eq rfl) (hb hby at_39) (fun _ _ => ⟨rfl, e0, (by decide : 0 + 0 ≤ _), (by decide : 0 + 0 ≤ _)⟩)
        dsimp only [Pt.U, Pt.locs, Pt.cells, Pt.slots] at X104 l104 y104 z104 st104 hQ104
        subst l104 y104 z104
        obtain ⟨rfl, N104q, eh104⟩ := hQ104
        have N104 := Fr.app N0 N104q
        refine Go.step (T' := T104) (g' := (mkF m 42 #[.val (.int p0), .val (.int p1), .val (.int p2), .val (.int (0 : Int32)), .val (.int (0 : Int32)), .val (.int (0 : Int32)), .unset, .unset, .unset, .unset, .unset, .unset, .unset, .unset] [(.int (own_pos p1))])) (st104) ?_
        refine Go.step (T' := T104) (g' := (mkF m 44 #[.val (.int p0), .val (.int p1), .val (.int p2), .val (.int (0 : Int32)), .val (.int (0 : Int32)), .val (.int (0 : Int32)), .val (.int (own_pos p1)), .unset, .unset, .unset, .unset, .unset, .unset, .unset] [])) (fun _ k => XS.istore X104.here hx rfl (hb hby at_42) rfl (l' := #[.val (.int p0), .val (.int p1), .val (.int p2), .val (.int (0 : Int32)), .val (.int (0 : Int32)), .val (.int (0 : Int32)), .val (.int (own_pos p1)), .unset, .unset, .unset, .unset, .unset, .unset, .unset]) rfl k) ?_
        refine Go.step (T' := T104) (g' := (mkF m 45 #[.val (.int p0), .val (.int p1), .val (.int p2), .val (.int (0 : Int32)), .val (.int (0 : Int32)), .val (.int (0 : Int32)), .val (.int (own_pos p1)), .unset, .unset, .unset, .unset, .unset, .unset, .unset] [(.int p2)])) (fun _ k => XS.iloadN X104.here hx rfl (hb hby at_44) rfl  k) ?_
        obtain ⟨_, _, ⟨T105, L105, k105, n105⟩, -, X105, ⟨Lc105, hQ105, l105, y105, z105⟩, st105⟩ := Jvm.LawKit.callS X104 hx (y := (⟨"com/example/draftd/draftd/odata/ServiceSettingsWithPageSizePinLaw", "positive", "(I)I"⟩ : MethodName)) hown (mvT hZ (hw _ (List.mem_of_getElem? (i := 0) rfl))) (mvT hZ (hw _ (List.mem_of_getElem? (i := 1) rfl))) (mvT hZ (hw _ (List.mem_of_getElem? (i := 2) rfl))) (mvT hZ (hw _ (List.mem_of_getElem? (i := 3) rfl))) (by decide) (backOf (W := 0) (Q := Qret (some (.int (own_pos p2))) h0 n0) (own_rpos l Z a0 hw [] p2 h0 n0 Z0) hZ (hw _ (List.mem_of_getElem? (i := 3) rfl)) (hw _ (List.mem_of_getElem? (i := 2) rfl)) (by decide) (by decide)) (g := (mkF m 45 #[.val (.int p0), .val (.int p1), .val (.int p2), .val (.int (0 : Int32)), .val (.int (0 : Int32)), .val (.int (0 : Int32)), .val (.int (own_pos p1)), .unset, .unset, .unset, .unset, .unset, .unset, .unset] [(.int p2)])) rfl (by rw [hml]; rfl) (argsL := [(.int p2)]) (rest := []) (lenOf own_pd4 rfl) rfl (by show 2 * 0 + _ ≤ _; exact Nat.le_of_eq rfl) (hb hby at_45) (fun _ _ => ⟨rfl, eh104, (by decide : 0 + 0 ≤ _), (by decide : 0 + 0 ≤ _)⟩)
        dsimp only [Pt.U, Pt.locs, Pt.cells, Pt.slots] at X105 l105 y105 z105 st105 hQ105
        subst l105 y105 z105
        obtain ⟨rfl, N105q, eh105⟩ := hQ105
        have N105 := Fr.app N104 N105q
        refine Go.step (T' := T105) (g' := (mkF m 48 #[.val (.int p0), .val (.int p1), .val (.int p2), .val (.int (0 : Int32)), .val (.int (0 : Int32)), .val (.int (0 : Int32)), .val (.int (own_pos p1)), .unset, .unset, .unset, .unset, .unset, .unset, .unset] [(.int (own_pos p2))])) (st105) ?_
        refine Go.step (T' := T105) (g' := (mkF m 50 #[.val (.int p0), .val (.int p1), .val (.int p2), .val (.int (0 : Int32)), .val (.int (0 : Int32)), .val (.int (0 : Int32)), .val (.int (own_pos p1)), .val (.int (own_pos p2)), .unset, .unset, .unset, .unset, .unset, .unset] [])) (fun _ k => XS.istore X105.here hx rfl (hb hby at_48) rfl (l' := #[.val (.int p0), .val (.int p1), .val (.int p2), .val (.int (0 : Int32)), .val (.int (0 : Int32)), .val (.int (0 : Int32)), .val (.int (own_pos p1)), .val (.int (own_pos p2)), .unset, .unset, .unset, .unset, .unset, .unset]) rfl k) ?_
        obtain ⟨T106, h106, X106, e106, E106, A106, D106, -, st106⟩ := newO X105 hx hZ hown (hw _ (List.mem_of_getElem? (i := 5) rfl)) (hw _ (List.mem_of_getElem? (i := 6) rfl)) (hw _ (List.mem_of_getElem? (i := 7) rfl)) eh105 (g := (mkF m 50 #[.val (.int p0), .val (.int p1), .val (.int p2), .val (.int (0 : Int32)), .val (.int (0 : Int32)), .val (.int (0 : Int32)), .val (.int (own_pos p1)), .val (.int (own_pos p2)), .unset, .unset, .unset, .unset, .unset, .unset] [])) rfl (hb hby at_50) (by decide) (by decide)
        obtain ⟨b106, g106⟩ : ∃ z, z = h0.size := ⟨_, rfl⟩
        rw [← g106] at A106 D106 st106
        have ge106 : n0 ≤ b106 := Nat.le_trans Z0 (Nat.le_of_eq g106.symm)
        have Z106 : n0 ≤ h106.size := Nat.le_trans Z0 E106.1
        have F107 := S0.ext E106
        have F108 := S1.ext E106
        have F109 : Fld Z h106 b106 "com/example/draftd/draftd/odata/ServiceSettings" "lockTimeout" "Ljava/time/Duration;" .null := D106 (Or.inl (hw _ (List.mem_of_getElem? (i := 17) rfl))) (ty := (.object "java/time/Duration")) (by decide)
        have F110 : Fld Z h106 b106 "com/example/draftd/draftd/odata/ServiceSettings" "draftLifetime" "Ljava/time/Duration;" .null := D106 (Or.inl (hw _ (List.mem_of_getElem? (i := 21) rfl))) (ty := (.object "java/time/Duration")) (by decide)
        have F111 : Fld Z h106 b106 "com/example/draftd/draftd/odata/ServiceSettings" "pageSize" "I" (.int (0 : Int32)) := D106 (Or.inl (hw _ (List.mem_of_getElem? (i := 23) rfl))) (ty := .int) (by decide)
        refine Go.step (T' := T106) (g' := (mkF m 53 #[.val (.int p0), .val (.int p1), .val (.int p2), .val (.int (0 : Int32)), .val (.int (0 : Int32)), .val (.int (0 : Int32)), .val (.int (own_pos p1)), .val (.int (own_pos p2)), .unset, .unset, .unset, .unset, .unset, .unset] [(.ref b106)])) st106 ?_
        refine Go.step (T' := T106) (g' := (mkF m 54 #[.val (.int p0), .val (.int p1), .val (.int p2), .val (.int (0 : Int32)), .val (.int (0 : Int32)), .val (.int (0 : Int32)), .val (.int (own_pos p1)), .val (.int (own_pos p2)), .unset, .unset, .unset, .unset, .unset, .unset] [(.ref b106), (.ref b106)])) (fun _ k => XS.dup X106.here hx rfl (hb hby at_53) rfl rfl k) ?_
        obtain ⟨_, _, ⟨T112, L112, k112, n112⟩, -, X112, ⟨Lc112, hQ112, l112, y112, z112⟩, st112⟩ := X106.specialBack hx (y := (⟨"com/example/draftd/draftd/odata/ServiceSettings", "<init>", "()V"⟩ : MethodName)) rfl hown (mvT hZ (hw _ (List.mem_of_getElem? (i := 8) rfl))) (mvT hZ (hw _ (List.mem_of_getElem? (i := 9) rfl))) (mvT hZ (hw _ (List.mem_of_getElem? (i := 10) rfl))) (by decide) (backOf (W := 1) (Q := Qini Z b106 (.ref wL) (.ref wD) 100 h106 n0) (own_ini0 l Z a0 hw [] b106 wL wD (.null) (.null) ((.int (0 : Int32))) h106 n0 Z106 F107 F108 A106 ge106 F109 F110 F111) hZ (hw _ (List.mem_of_getElem? (i := 10) rfl)) (hw _ (List.mem_of_getElem? (i := 7) rfl)) (by decide) (by decide)) (g := (mkF m 54 #[.val (.int p0), .val (.int p1), .val (.int p2), .val (.int (0 : Int32)), .val (.int (0 : Int32)), .val (.int (0 : Int32)), .val (.int (own_pos p1)), .val (.int (own_pos p2)), .unset, .unset, .unset, .unset, .unset, .unset] [(.ref b106), (.ref b106)])) rfl (by rw [hml]; rfl) (Steps.refl _) (a := b106) (argsL := []) (rest := [(.ref b106)]) (lenOf own_pd5 rfl) rfl (by show 2 * 0 + _ ≤ _; exact Nat.le_of_eq rfl) (hb hby at_54) (fun _ _ => ⟨rfl, e106, (by decide : 1 + 0 ≤ _), (by decide : 3 + 0 ≤ _)⟩)
        dsimp only [Pt.U, Pt.locs, Pt.cells, Pt.slots] at X112 l112 y112 z112 st112 hQ112
        subst l112 y112 z112
        obtain ⟨rfl, N112q, K112, G112a, G112b, G112c⟩ := hQ112
        have N112 := Fr.app N105 N112q
        have Z112 : n0 ≤ T112.heap.size := Nat.le_trans Z106 K112.1
        have F113 := own_sta_keep F107 K112 (allS (own_plain A106) all0)
        have F114 := own_sta_keep F108 K112 (allS (own_plain A106) all0)
        have F115 := A106.keep K112
        refine Go.step (T' := T112) (g' := (mkF m 57 #[.val (.int p0), .val (.int p1), .val (.int p2), .val (.int (0 : Int32)), .val (.int (0 : Int32)), .val (.int (0 : Int32)), .val (.int (own_pos p1)), .val (.int (own_pos p2)), .unset, .unset, .unset, .unset, .unset, .unset] [(.ref b106)])) (fun _ k => st112.trans k) ?_
        refine Go.step (T' := T112) (g' := (mkF m 59 #[.val (.int p0), .val (.int p1), .val (.int p2), .val (.int (0 : Int32)), .val (.int (0 : Int32)), .val (.int (0 : Int32)), .val (.int (own_pos p1)), .val (.int (own_pos p2)), .val (.ref b106), .unset, .unset, .unset, .unset, .unset] [])) (fun _ k => XS.astore X112.here hx rfl (hb hby at_57) rfl rfl (l' := #[.val (.int p0), .val (.int p1), .val (.int p2), .val (.int (0 : Int32)), .val (.int (0 : Int32)), .val (.int (0 : Int32)), .val (.int (own_pos p1)), .val (.int (own_pos p2)), .val (.ref b106), .unset, .unset, .unset, .unset, .unset]) rfl k) ?_
        refine Go.step (T' := T112) (g' := (mkF m 61 #[.val (.int p0), .val (.int p1), .val (.int p2), .val (.int (0 : Int32)), .val (.int (0 : Int32)), .val (.int (0 : Int32)), .val (.int (own_pos p1)), .val (.int (own_pos p2)), .val (.ref b106), .unset, .unset, .unset, .unset, .unset] [(.int (0 : Int32))])) (fun _ k => XS.iload X112.here hx rfl (hb hby at_59) rfl  k) ?_
        refine Go.step (T' := T112) (g' := (mkF m 74 #[.val (.int p0), .val (.int p1), .val (.int p2), .val (.int (0 : Int32)), .val (.int (0 : Int32)), .val (.int (0 : Int32)), .val (.int (own_pos p1)), .val (.int (own_pos p2)), .val (.ref b106), .unset, .unset, .unset, .unset, .unset] [])) (fun _ k => XS.ifYes X112.here hx rfl (pc0 := 61) (pc' := 74) rfl (hb hby at_61) rfl ((if0 _ _).trans (teq (by decide : (0 : Int32) = (0 : Int32))).1) (by decide) (by decide) k) ?_
        refine Go.step (T' := T112) (g' := (mkF m 76 #[.val (.int p0), .val (.int p1), .val (.int p2), .val (.int (0 : Int32)), .val (.int (0 : Int32)), .val (.int (0 : Int32)), .val (.int (own_pos p1)), .val (.int (own_pos p2)), .val (.ref b106), .unset, .unset, .unset, .unset, .unset] [(.int (0 : Int32))])) (fun _ k => XS.iload X112.here hx rfl (hb hby at_74) rfl  k) ?_
        refine Go.step (T' := T112) (g' := (mkF m 89 #[.val (.int p0), .val (.int p1), .val (.int p2), .val (.int (0 : Int32)), .val (.int (0 : Int32)), .val (.int (0 : Int32)), .val (.int (own_pos p1)), .val (.int (own_pos p2)), .val (.ref b106), .unset, .unset, .unset, .unset, .unset] [])) (fun _ k => XS.ifYes X112.here hx rfl (pc0 := 76) (pc' := 89) rfl (hb hby at_76) rfl ((if0 _ _).trans (teq (by decide : (0 : Int32) = (0 : Int32))).1) (by decide) (by decide) k) ?_
        refine Go.step (T' := T112) (g' := (mkF m 90 #[.val (.int p0), .val (.int p1), .val (.int p2), .val (.int (0 : Int32)), .val (.int (0 : Int32)), .val (.int (0 : Int32)), .val (.int (own_pos p1)), .val (.int (own_pos p2)), .val (.ref b106), .unset, .unset, .unset, .unset, .unset] [(.int (0 : Int32))])) (fun _ k => XS.iloadN X112.here hx rfl (hb hby at_89) rfl  k) ?_
        refine Go.step (T' := T112) (g' := (mkF m 102 #[.val (.int p0), .val (.int p1), .val (.int p2), .val (.int (0 : Int32)), .val (.int (0 : Int32)), .val (.int (0 : Int32)), .val (.int (own_pos p1)), .val (.int (own_pos p2)), .val (.ref b106), .unset, .unset, .unset, .unset, .unset] [])) (fun _ k => XS.ifYes X112.here hx rfl (pc0 := 90) (pc' := 102) rfl (hb hby at_90) rfl ((if0 _ _).trans (teq (by decide : (0 : Int32) = (0 : Int32))).1) (by decide) (by decide) k) ?_
        refine Go.step (T' := T112) (g' := (mkF m 103 #[.val (.int p0), .val (.int p1), .val (.int p2), .val (.int (0 : Int32)), .val (.int (0 : Int32)), .val (.int (0 : Int32)), .val (.int (own_pos p1)), .val (.int (own_pos p2)), .val (.ref b106), .unset, .unset, .unset, .unset, .unset] [(.int (0 : Int32))])) (fun _ k => XS.iloadN X112.here hx rfl (hb hby at_102) rfl  k) ?_
        refine Go.step (T' := T112) (g' := (mkF m 111 #[.val (.int p0), .val (.int p1), .val (.int p2), .val (.int (0 : Int32)), .val (.int (0 : Int32)), .val (.int (0 : Int32)), .val (.int (own_pos p1)), .val (.int (own_pos p2)), .val (.ref b106), .unset, .unset, .unset, .unset, .unset] [])) (fun _ k => XS.ifYes X112.here hx rfl (pc0 := 103) (pc' := 111) rfl (hb hby at_103) rfl ((if0 _ _).trans (teq (by decide : (0 : Int32) = (0 : Int32))).1) (by decide) (by decide) k) ?_
        refine Go.step (T' := T112) (g' := (mkF m 113 #[.val (.int p0), .val (.int p1), .val (.int p2), .val (.int (0 : Int32)), .val (.int (0 : Int32)), .val (.int (0 : Int32)), .val (.int (own_pos p1)), .val (.int (own_pos p2)), .val (.ref b106), .unset, .unset, .unset, .unset, .unset] [(.int (100 : Int32))])) (fun _ k => XS.bipush X112.here hx rfl (hb hby at_111) k) ?_
        refine Go.step (T' := T112) (g' := (mkF m 115 #[.val (.int p0), .val (.int p1), .val (.int p2), .val (.int (0 : Int32)), .val (.int (0 : Int32)), .val (.int (0 : Int32)), .val (.int (own_pos p1)), .val (.int (own_pos p2)), .val (.ref b106), .val (.int (100 : Int32)), .unset, .unset, .unset, .unset] [])) (fun _ k => XS.istore X112.here hx rfl (hb hby at_113) rfl (l' := #[.val (.int p0), .val (.int p1), .val (.int p2), .val (.int (0 : Int32)), .val (.int (0 : Int32)), .val (.int (0 : Int32)), .val (.int (own_pos p1)), .val (.int (own_pos p2)), .val (.ref b106), .val (.int (100 : Int32)), .unset, .unset, .unset, .unset]) rfl k) ?_
        refine Go.step (T' := T112) (g' := (mkF m 117 #[.val (.int p0), .val (.int p1), .val (.int p2), .val (.int (0 : Int32)), .val (.int (0 : Int32)), .val (.int (0 : Int32)), .val (.int (own_pos p1)), .val (.int (own_pos p2)), .val (.ref b106), .val (.int (100 : Int32)), .unset, .unset, .unset, .unset] [(.int (0 : Int32))])) (fun _ k => XS.iload X112.here hx rfl (hb hby at_115) rfl  k) ?_
        refine Go.step (T' := T112) (g' := (mkF m 126 #[.val (.int p0), .val (.int p1), .val (.int p2), .val (.int (0 : Int32)), .val (.int (0 : Int32)), .val (.int (0 : Int32)), .val (.int (own_pos p1)), .val (.int (own_pos p2)), .val (.ref b106), .val (.int (100 : Int32)), .unset, .unset, .unset, .unset] [])) (fun _ k => XS.ifYes X112.here hx rfl (pc0 := 117) (pc' := 126) rfl (hb hby at_117) rfl ((if0 _ _).trans (teq (by decide : (0 : Int32) = (0 : Int32))).1) (by decide) (by decide) k) ?_
        obtain ⟨T116, X116, e116, st116⟩ := getS2 X112 hx hZ hown (host := "") (Or.inl (hw _ (List.mem_of_getElem? (i := 24) rfl))) Via.refl rfl F113 (g := (mkF m 126 #[.val (.int p0), .val (.int p1), .val (.int p2), .val (.int (0 : Int32)), .val (.int (0 : Int32)), .val (.int (0 : Int32)), .val (.int (own_pos p1)), .val (.int (own_pos p2)), .val (.ref b106), .val (.int (100 : Int32)), .unset, .unset, .unset, .unset] [])) rfl (hb hby at_126)
        refine Go.step (T' := T116) (g' := (mkF m 129 #[.val (.int p0), .val (.int p1), .val (.int p2), .val (.int (0 : Int32)), .val (.int (0 : Int32)), .val (.int (0 : Int32)), .val (.int (own_pos p1)), .val (.int (own_pos p2)), .val (.ref b106), .val (.int (100 : Int32)), .unset, .unset, .unset, .unset] [(.ref wL)])) st116 ?_
        refine Go.step (T' := T116) (g' := (mkF m 131 #[.val (.int p0), .val (.int p1), .val (.int p2), .val (.int (0 : Int32)), .val (.int (0 : Int32)), .val (.int (0 : Int32)), .val (.int (own_pos p1)), .val (.int (own_pos p2)), .val (.ref b106), .val (.int (100 : Int32)), .val (.ref wL), .unset, .unset, .unset] [])) (fun _ k => XS.astore X116.here hx rfl (hb hby at_129) rfl rfl (l' := #[.val (.int p0), .val (.int p1), .val (.int p2), .val (.int (0 : Int32)), .val (.int (0 : Int32)), .val (.int (0 : Int32)), .val (.int (own_pos p1)), .val (.int (own_pos p2)), .val (.ref b106), .val (.int (100 : Int32)), .val (.ref wL), .unset, .unset, .unset]) rfl k) ?_
        refine Go.step (T' := T116) (g' := (mkF m 133 #[.val (.int p0), .val (.int p1), .val (.int p2), .val (.int (0 : Int32)), .val (.int (0 : Int32)), .val (.int (0 : Int32)), .val (.int (own_pos p1)), .val (.int (own_pos p2)), .val (.ref b106), .val (.int (100 : Int32)), .val (.ref wL), .unset, .unset, .unset] [(.int (0 : Int32))])) (fun _ k => XS.iload X116.here hx rfl (hb hby at_131) rfl  k) ?_
        refine Go.step (T' := T116) (g' := (mkF m 142 #[.val (.int p0), .val (.int p1), .val (.int p2), .val (.int (0 : Int32)), .val (.int (0 : Int32)), .val (.int (0 : Int32)), .val (.int (own_pos p1)), .val (.int (own_pos p2)), .val (.ref b106), .val (.int (100 : Int32)), .val (.ref wL), .unset, .unset, .unset] [])) (fun _ k => XS.ifYes X116.here hx rfl (pc0 := 133) (pc' := 142) rfl (hb hby at_133) rfl ((if0 _ _).trans (teq (by decide : (0 : Int32) = (0 : Int32))).1) (by decide) (by decide) k) ?_
        obtain ⟨T117, X117, e117, st117⟩ := getS2 X116 hx hZ hown (host := "") (Or.inl (hw _ (List.mem_of_getElem? (i := 25) rfl))) Via.refl e116 F114 (g := (mkF m 142 #[.val (.int p0), .val (.int p1), .val (.int p2), .val (.int (0 : Int32)), .val (.int (0 : Int32)), .val (.int (0 : Int32)), .val (.int (own_pos p1)), .val (.int (own_pos p2)), .val (.ref b106), .val (.int (100 : Int32)), .val (.ref wL), .unset, .unset, .unset] [])) rfl (hb hby at_142)
        refine Go.step (T' := T117) (g' := (mkF m 145 #[.val (.int p0), .val (.int p1), .val (.int p2), .val (.int (0 : Int32)), .val (.int (0 : Int32)), .val (.int (0 : Int32)), .val (.int (own_pos p1)), .val (.int (own_pos p2)), .val (.ref b106), .val (.int (100 : Int32)), .val (.ref wL), .unset, .unset, .unset] [(.ref wD)])) st117 ?_
        refine Go.step (T' := T117) (g' := (mkF m 147 #[.val (.int p0), .val (.int p1), .val (.int p2), .val (.int (0 : Int32)), .val (.int (0 : Int32)), .val (.int (0 : Int32)), .val (.int (own_pos p1)), .val (.int (own_pos p2)), .val (.ref b106), .val (.int (100 : Int32)), .val (.ref wL), .val (.ref wD), .unset, .unset] [])) (fun _ k => XS.astore X117.here hx rfl (hb hby at_145) rfl rfl (l' := #[.val (.int p0), .val (.int p1), .val (.int p2), .val (.int (0 : Int32)), .val (.int (0 : Int32)), .val (.int (0 : Int32)), .val (.int (own_pos p1)), .val (.int (own_pos p2)), .val (.ref b106), .val (.int (100 : Int32)), .val (.ref wL), .val (.ref wD), .unset, .unset]) rfl k) ?_
        exact own_tail p0 p1 p2 (0 : Int32) (0 : Int32) (0 : Int32) (own_pos p1) (own_pos p2) (100 : Int32) b106 wL wD wL wD X117 hx hZ hw hby hml hown hret hlk e117 N112 Z112 (by decide) (by decide) F113 F114 F115 G112a G112b G112c (own_pos_ge _)
      · skip
        refine Go.step (T' := s₁) (g' := (mkF m 31 #[.val (.int p0), .val (.int p1), .val (.int p2), .val (.int (0 : Int32)), .val (.int (0 : Int32)), .unset, .unset, .unset, .unset, .unset, .unset, .unset, .unset, .unset] [])) (fun _ k => XS.ifNo X0.here hx rfl (hb hby at_28) rfl ((if0 _ _).trans (feq hc103).1) k) ?_
        refine Go.step (T' := s₁) (g' := (mkF m 32 #[.val (.int p0), .val (.int p1), .val (.int p2), .val (.int (0 : Int32)), .val (.int (0 : Int32)), .unset, .unset, .unset, .unset, .unset, .unset, .unset, .unset, .unset] [(.int (1 : Int32))])) (fun _ k => XS.iconst X0.here hx rfl (hb hby at_31) k) ?_
        refine Go.step (T' := s₁) (g' := (mkF m 36 #[.val (.int p0), .val (.int p1), .val (.int p2), .val (.int (0 : Int32)), .val (.int (0 : Int32)), .unset, .unset, .unset, .unset, .unset, .unset, .unset, .unset, .unset] [(.int (1 : Int32))])) (fun _ k => XS.goto X0.here hx rfl (pc0 := 32) (pc' := 36) rfl (hb hby at_32) (by decide) (by decide) k) ?_
        refine Go.step (T' := s₁) (g' := (mkF m 38 #[.val (.int p0), .val (.int p1), .val (.int p2), .val (.int (0 : Int32)), .val (.int (0 : Int32)), .val (.int (1 : Int32)), .unset, .unset, .unset, .unset, .unset, .unset, .unset, .unset] [])) (fun _ k => XS.istore X0.here hx rfl (hb hby at_36) rfl (l' := #[.val (.int p0), .val (.int p1), .val (.int p2), .val (.int (0 : Int32)), .val (.int (0 : Int32)), .val (.int (1 : Int32)), .unset, .unset, .unset, .unset, .unset, .unset, .unset, .unset]) rfl k) ?_
        refine Go.step (T' := s₁) (g' := (mkF m 39 #[.val (.int p0), .val (.int p1), .val (.int p2), .val (.int (0 : Int32)), .val (.int (0 : Int32)), .val (.int (1 : Int32)), .unset, .unset, .unset, .unset, .unset, .unset, .unset, .unset] [(.int p1)])) (fun _ k => XS.iloadN X0.here hx rfl (hb hby at_38) rfl  k) ?_
        obtain ⟨_, _, ⟨T118, L118, k118, n118⟩, -, X118, ⟨Lc118, hQ118, l118, y118, z118⟩, st118⟩ := Jvm.LawKit.callS X0 hx (y := (⟨"com/example/draftd/draftd/odata/ServiceSettingsWithPageSizePinLaw", "positive", "(I)I"⟩ : MethodName)) hown (mvT hZ (hw _ (List.mem_of_getElem? (i := 0) rfl))) (mvT hZ (hw _ (List.mem_of_getElem? (i := 1) rfl))) (mvT hZ (hw _ (List.mem_of_getElem? (i := 2) rfl))) (mvT hZ (hw _ (List.mem_of_getElem? (i := 3) rfl))) (by decide) (backOf (W := 0) (Q := Qret (some (.int (own_pos p1))) h0 n0) (own_rpos l Z a0 hw [] p1 h0 n0 Z0) hZ (hw _ (List.mem_of_getElem? (i := 3) rfl)) (hw _ (List.mem_of_getElem? (i := 2) rfl)) (by decide) (by decide)) (g := (mkF m 39 #[.val (.int p0), .val (.int p1), .val (.int p2), .val (.int (0 : Int32)), .val (.int (0 : Int32)), .val (.int (1 : Int32)), .unset, .unset, .unset, .unset, .unset, .unset, .unset, .unset] [(.int p1)])) rfl (by rw [hml]; rfl) (argsL := [(.int p1)]) (rest := []) (lenOf own_pd4 rfl) rfl (by show 2 * 0 + _ ≤ _; exact Nat.le_of_eq rfl) (hb hby at_39) (fun _ _ => ⟨rfl, e0, (by decide : 0 + 0 ≤ _), (by decide : 0 + 0 ≤ _)⟩)
        dsimp only [Pt.U, Pt.locs, Pt.cells, Pt.slots] at X118 l118 y118 z118 st118 hQ118
        subst l118 y118 z118
        obtain ⟨rfl, N118q, eh118⟩ := hQ118
        have N118 := Fr.app N0 N118q
        refine Go.step (T' := T118) (g' := (mkF m 42 #[.val (.int p0), .val (.int p1), .val (.int p2), .val (.int (0 : Int32)), .val (.int (0 : Int32)), .val (.int (1 : Int32)), .unset, .unset, .unset, .unset, .unset, .unset, .unset, .unset] [(.int (own_pos p1))])) (st118) ?_
        refine Go.step (T' := T118) (g' := (mkF m 44 #[.val (.int p0), .val (.int p1), .val (.int p2), .val (.int (0 : Int32)), .val (.int (0 : Int32)), .val (.int (1 : Int32)), .val (.int (own_pos p1)), .unset, .unset, .unset, .unset, .unset, .unset, .unset] [])) (fun _ k => XS.istore X118.here hx rfl (hb hby at_42) rfl (l' := #[.val (.int p0), .val (.int p1), .val (.int p2), .val (.int (0 : Int32)), .val (.int (0 : Int32)), .val (.int (1 : Int32)), .val (.int (own_pos p1)), .unset, .unset, .unset, .unset, .unset, .unset, .unset]) rfl k) ?_
        refine Go.step (T' := T118) (g' := (mkF m 45 #[.val (.int p0), .val (.int p1), .val (.int p2), .val (.int (0 : Int32)), .val (.int (0 : Int32)), .val (.int (1 : Int32)), .val (.int (own_pos p1)), .unset, .unset, .unset, .unset, .unset, .unset, .unset] [(.int p2)])) (fun _ k => XS.iloadN X118.here hx rfl (hb hby at_44) rfl  k) ?_
        obtain ⟨_, _, ⟨T119, L119, k119, n119⟩, -, X119, ⟨Lc119, hQ119, l119, y119, z119⟩, st119⟩ := Jvm.LawKit.callS X118 hx (y := (⟨"com/example/draftd/draftd/odata/ServiceSettingsWithPageSizePinLaw", "positive", "(I)I"⟩ : MethodName)) hown (mvT hZ (hw _ (List.mem_of_getElem? (i := 0) rfl))) (mvT hZ (hw _ (List.mem_of_getElem? (i := 1) rfl))) (mvT hZ (hw _ (List.mem_of_getElem? (i := 2) rfl))) (mvT hZ (hw _ (List.mem_of_getElem? (i := 3) rfl))) (by decide) (backOf (W := 0) (Q := Qret (some (.int (own_pos p2))) h0 n0) (own_rpos l Z a0 hw [] p2 h0 n0 Z0) hZ (hw _ (List.mem_of_getElem? (i := 3) rfl)) (hw _ (List.mem_of_getElem? (i := 2) rfl)) (by decide) (by decide)) (g := (mkF m 45 #[.val (.int p0), .val (.int p1), .val (.int p2), .val (.int (0 : Int32)), .val (.int (0 : Int32)), .val (.int (1 : Int32)), .val (.int (own_pos p1)), .unset, .unset, .unset, .unset, .unset, .unset, .unset] [(.int p2)])) rfl (by rw [hml]; rfl) (argsL := [(.int p2)]) (rest := []) (lenOf own_pd4 rfl) rfl (by show 2 * 0 + _ ≤ _; exact Nat.le_of_eq rfl) (hb hby at_45) (fun _ _ => ⟨rfl, eh118, (by decide : 0 + 0 ≤ _), (by decide : 0 + 0 ≤ _)⟩)
        dsimp only [Pt.U, Pt.locs, Pt.cells, Pt.slots] at X119 l119 y119 z119 st119 hQ119
        subst l119 y119 z119
        obtain ⟨rfl, N119q, eh119⟩ := hQ119
        have N119 := Fr.app N118 N119q
        refine Go.step (T' := T119) (g' := (mkF m 48 #[.val (.int p0), .val (.int p1), .val (.int p2), .val (.int (0 : Int32)), .val (.int (0 : Int32)), .val (.int (1 : Int32)), .val (.int (own_pos p1)), .unset, .unset, .unset, .unset, .unset, .unset, .unset] [(.int (own_pos p2))])) (st119) ?_
        refine Go.step (T' := T119) (g' := (mkF m 50 #[.val (.int p0), .val (.int p1), .val (.int p2), .val (.int (0 : Int32)), .val (.int (0 : Int32)), .val (.int (1 : Int32)), .val (.int (own_pos p1)), .val (.int (own_pos p2)), .unset, .unset, .unset, .unset, .unset, .unset] [])) (fun _ k => XS.istore X119.here hx rfl (hb hby at_48) rfl (l' := #[.val (.int p0), .val (.int p1), .val (.int p2), .val (.int (0 : Int32)), .val (.int (0 : Int32)), .val (.int (1 : Int32)), .val (.int (own_pos p1)), .val (.int (own_pos p2)), .unset, .unset, .unset, .unset, .unset, .unset]) rfl k) ?_
        obtain ⟨T120, h120, X120, e120, E120, A120, D120, -, st120⟩ := newO X119 hx hZ hown (hw _ (List.mem_of_getElem? (i := 5) rfl)) (hw _ (List.mem_of_getElem? (i := 6) rfl)) (hw _ (List.mem_of_getElem? (i := 7) rfl)) eh119 (g := (mkF m 50 #[.val (.int p0), .val (.int p1), .val (.int p2), .val (.int (0 : Int32)), .val (.int (0 : Int32)), .val (.int (1 : Int32)), .val (.int (own_pos p1)), .val (.int (own_pos p2)), .unset, .unset, .unset, .unset, .unset, .unset] [])) rfl (hb hby at_50) (by decide) (by decide)
        obtain ⟨b120, g120⟩ : ∃ z, z = h0.size := ⟨_, rfl⟩
        rw [← g120] at A120 D120 st120
        have ge120 : n0 ≤ b120 := Nat.le_trans Z0 (Nat.le_of_eq g120.symm)
        have Z120 : n0 ≤ h120.size := Nat.le_trans Z0 E120.1
        have F121 := S0.ext E120
        have F122 := S1.ext E120
        have F123 : Fld Z h120 b120 "com/example/draftd/draftd/odata/ServiceSettings" "lockTimeout" "Ljava/time/Duration;" .null := D120 (Or.inl (hw _ (List.mem_of_getElem? (i := 17) rfl))) (ty := (.object "java/time/Duration")) (by decide)
        have F124 : Fld Z h120 b120 "com/example/draftd/draftd/odata/ServiceSettings" "draftLifetime" "Ljava/time/Duration;" .null := D120 (Or.inl (hw _ (List.mem_of_getElem? (i := 21) rfl))) (ty := (.object "java/time/Duration")) (by decide)
        have F125 : Fld Z h120 b120 "com/example/draftd/draftd/odata/ServiceSettings" "pageSize" "I" (.int (0 : Int32)) := D120 (Or.inl (hw _ (List.mem_of_getElem? (i := 23) rfl))) (ty := .int) (by decide)
        refine Go.step (T' := T120) (g' := (mkF m 53 #[.val (.int p0), .val (.int p1), .val (.int p2), .val (.int (0 : Int32)), .val (.int (0 : Int32)), .val (.int (1 : Int32)), .val (.int (own_pos p1)), .val (.int (own_pos p2)), .unset, .unset, .unset, .unset, .unset, .unset] [(.ref b120)])) st120 ?_
        refine Go.step (T' := T120) (g' := (mkF m 54 #[.val (.int p0), .val (.int p1), .val (.int p2), .val (.int (0 : Int32)), .val (.int (0 : Int32)), .val (.int (1 : Int32)), .val (.int (own_pos p1)), .val (.int (own_pos p2)), .unset, .unset, .unset, .unset, .unset, .unset] [(.ref b120), (.ref b120)])) (fun _ k => XS.dup X120.here hx rfl (hb hby at_53) rfl rfl k) ?_
        obtain ⟨_, _, ⟨T126, L126, k126, n126⟩, -, X126, ⟨Lc126, hQ126, l126, y126, z126⟩, st126⟩ := X120.specialBack hx (y := (⟨"com/example/draftd/draftd/odata/ServiceSettings", "<init>", "()V"⟩ : MethodName)) rfl hown (mvT hZ (hw _ (List.mem_of_getElem? (i := 8) rfl))) (mvT hZ (hw _ (List.mem_of_getElem? (i := 9) rfl))) (mvT hZ (hw _ (List.mem_of_getElem? (i := 10) rfl))) (by decide) (backOf (W := 1) (Q := Qini Z b120 (.ref wL) (.ref wD) 100 h120 n0) (own_ini0 l Z a0 hw [] b120 wL wD (.null) (.null) ((.int (0 : Int32))) h120 n0 Z120 F121 F122 A120 ge120 F123 F124 F125) hZ (hw _ (List.mem_of_getElem? (i := 10) rfl)) (hw _ (List.mem_of_getElem? (i := 7) rfl)) (by decide) (by decide)) (g := (mkF m 54 #[.val (.int p0), .val (.int p1), .val (.int p2), .val (.int (0 : Int32)), .val (.int (0 : Int32)), .val (.int (1 : Int32)), .val (.int (own_pos p1)), .val (.int (own_pos p2)), .unset, .unset, .unset, .unset, .unset, .unset] [(.ref b120), (.ref b120)])) rfl (by rw [hml]; rfl) (Steps.refl _) (a := b120) (argsL := []) (rest := [(.ref b120)]) (lenOf own_pd5 rfl) rfl (by show 2 * 0 + _ ≤ _; exact Nat.le_of_eq rfl) (hb hby at_54) (fun _ _ => ⟨rfl, e120, (by decide : 1 + 0 ≤ _), (by decide : 3 + 0 ≤ _)⟩)
        dsimp only [Pt.U, Pt.locs, Pt.cells, Pt.slots] at X126 l126 y126 z126 st126 hQ126
        subst l126 y126 z126
        obtain ⟨rfl, N126q, K126, G126a, G126b, G126c⟩ := hQ126
        have N126 := Fr.app N119 N126q
        have Z126 : n0 ≤ T126.heap.size := Nat.le_trans Z120 K126.1
        have F127 := own_sta_keep F121 K126 (allS (own_plain A120) all0)
        have F128 := own_sta_keep F122 K126 (allS (own_plain A120) all0)
        have F129 := A120.keep K126
        refine Go.step (T' := T126) (g' := (mkF m 57 #[.val (.int p0), .val (.int p1), .val (.int p2), .val (.int (0 : Int32)), .val (.int (0 : Int32)), .val (.int (1 : Int32)), .val (.int (own_pos p1)), .val (.int (own_pos p2)), .unset, .unset, .unset, .unset, .unset, .unset] [(.ref b120)])) (fun _ k => st126.trans k) ?_
        refine Go.step (T' := T126) (g' := (mkF m 59 #[.val (.int p0), .val (.int p1), .val (.int p2), .val (.int (0 : Int32)), .val (.int (0 : Int32)), .val (.int (1 : Int32)), .val (.int (own_pos p1)), .val (.int (own_pos p2)), .val (.ref b120), .unset, .unset, .unset, .unset, .unset] [])) (fun _ k => XS.astore X126.here hx rfl (hb hby at_57) rfl rfl (l' := #[.val (.int p0), .val (.int p1), .val (.int p2), .val (.int (0 : Int32)), .val (.int (0 : Int32)), .val (.int (1 : Int32)), .val (.int (own_pos p1)), .val (.int (own_pos p2)), .val (.ref b120), .unset, .unset, .unset, .unset, .unset]) rfl k) ?_
        refine Go.step (T' := T126) (g' := (mkF m 61 #[.val (.int p0), .val (.int p1), .val (.int p2), .val (.int (0 : Int32)), .val (.int (0 : Int32)), .val (.int (1 : Int32)), .val (.int (own_pos p1)), .val (.int (own_pos p2)), .val (.ref b120), .unset, .unset, .unset, .unset, .unset] [(.int (0 : Int32))])) (fun _ k => XS.iload X126.here hx rfl (hb hby at_59) rfl  k) ?_
        refine Go.step (T' := T126) (g' := (mkF m 74 #[.val (.int p0), .val (.int p1), .val (.int p2), .val (.int (0 : Int32)), .val (.int (0 : Int32)), .val (.int (1 : Int32)), .val (.int (own_pos p1)), .val (.int (own_pos p2)), .val (.ref b120), .unset, .unset, .unset, .unset, .unset] [])) (fun _ k => XS.ifYes X126.here hx rfl (pc0 := 61) (pc' := 74) rfl (hb hby at_61) rfl ((if0 _ _).trans (teq (by decide : (0 : Int32) = (0 : Int32))).1) (by decide) (by decide) k) ?_
        refine Go.step (T' := T126) (g' := (mkF m 76 #[.val (.int p0), .val (.int p1), .val (.int p2), .val (.int (0 : Int32)), .val (.int (0 : Int32)), .val (.int (1 : Int32)), .val (.int (own_pos p1)), .val (.int (own_pos p2)), .val (.ref b120), .unset, .unset, .unset, .unset, .unset] [(.int (1 : Int32))])) (fun _ k => XS.iload X126.here hx rfl (hb hby at_74) rfl  k) ?_
        refine Go.step (T' := T126) (g' := (mkF m 79 #[.val (.int p0), .val (.int p1), .val (.int p2), .val (.int (0 : Int32)), .val (.int (0 : Int32)), .val (.int (1 : Int32)), .val (.int (own_pos p1)), .val (.int (own_pos p2)), .val (.ref b120), .unset, .unset, .unset, .unset, .unset] [])) (fun _ k => XS.ifNo X126.here hx rfl (hb hby at_76) rfl ((if0 _ _).trans (feq (by decide : ¬ ((1 : Int32) = (0 : Int32)))).1) k) ?_
        refine Go.step (T' := T126) (g' := (mkF m 81 #[.val (.int p0), .val (.int p1), .val (.int p2), .val (.int (0 : Int32)), .val (.int (0 : Int32)), .val (.int (1 : Int32)), .val (.int (own_pos p1)), .val (.int (own_pos p2)), .val (.ref b120), .unset, .unset, .unset, .unset, .unset] [(.ref b120)])) (fun _ k => XS.aload X126.here hx rfl (hb hby at_79) rfl rfl k) ?_
        obtain ⟨T130, X130, e130, st130⟩ := getS2 X126 hx hZ hown (host := "") (Or.inl (hw _ (List.mem_of_getElem? (i := 24) rfl))) Via.refl rfl F127 (g := (mkF m 81 #[.val (.int p0), .val (.int p1), .val (.int p2), .val (.int (0 : Int32)), .val (.int (0 : Int32)), .val (.int (1 : Int32)), .val (.int (own_pos p1)), .val (.int (own_pos p2)), .val (.ref b120), .unset, .unset, .unset, .unset, .unset] [(.ref b120)])) rfl (hb hby at_81)
        refine Go.step (T' := T130) (g' := (mkF m 84 #[.val (.int p0), .val (.int p1), .val (.int p2), .val (.int (0 : Int32)), .val (.int (0 : Int32)), .val (.int (1 : Int32)), .val (.int (own_pos p1)), .val (.int (own_pos p2)), .val (.ref b120), .unset, .unset, .unset, .unset, .unset] [(.ref wL), (.ref b120)])) st130 ?_
        obtain ⟨cq131, kq131, q131a, q131b, q131c⟩ := isOf hZ e130 F129
        obtain ⟨_, _, ⟨T131, L131, k131, n131⟩, -, X131, ⟨Lc131, hQ131, l131, y131, z131⟩, st131⟩ := X130.virtualBack hx (y := (⟨"com/example/draftd/draftd/odata/ServiceSettings", "withDraftLifetime", "(Ljava/time/Duration;)Lcom/example/draftd/draftd/odata/ServiceSettings;"⟩ : MethodName)) (z := (⟨"com/example/draftd/draftd/odata/ServiceSettings", "withDraftLifetime", "(Ljava/time/Duration;)Lcom/example/draftd/draftd/odata/ServiceSettings;"⟩ : MethodName)) hown (mvT hZ (hw _ (List.mem_of_getElem? (i := 50) rfl))) (mvT hZ (hw _ (List.mem_of_getElem? (i := 51) rfl))) (notFace_of_selects (args := #[]) (mvT hZ (hw _ (List.mem_of_getElem? (i := 53) rfl)))) (mvT hZ (hw _ (List.mem_of_getElem? (i := 53) rfl))) (mvT hZ (hw _ (List.mem_of_getElem? (i := 52) rfl))) (by decide) (backOf (W := 0) (Q := Qwith Z (.ref wL) (.ref wL) 100 T126.heap n0) (own_withDraftLifetime l Z a0 hw [] b120 wL wL wD wL wD 100 T126.heap n0 Z126 F127 F128 F129 G126a G126b G126c ) hZ (hw _ (List.mem_of_getElem? (i := 54) rfl)) (hw _ (List.mem_of_getElem? (i := 7) rfl)) (by decide) (by decide)) q131a q131c (g := (mkF m 84 #[.val (.int p0), .val (.int p1), .val (.int p2), .val (.int (0 : Int32)), .val (.int (0 : Int32)), .val (.int (1 : Int32)), .val (.int (own_pos p1)), .val (.int (own_pos p2)), .val (.ref b120), .unset, .unset, .unset, .unset, .unset] [(.ref wL), (.ref b120)])) rfl (by rw [hml]; rfl) (Steps.refl _) (argsL := [(.ref wL)]) (rest := []) (lenOf own_pd6 rfl) rfl (by show 2 * 0 + _ ≤ _; exact Nat.le_of_eq rfl) (hb hby at_84) (fun _ _ => ⟨rfl, e130, (by decide : 1 + 1 ≤ _), (by decide : 3 + 3 ≤ _)⟩)
        dsimp only [Pt.U, Pt.locs, Pt.cells, Pt.slots] at X131 l131 y131 z131 st131 hQ131
        subst l131 y131 z131
        obtain ⟨b131, rfl, N131q, K131, sz131, E131, G131a, G131b, G131c⟩ := hQ131
        have N131 := Fr.app N126 N131q
        have ne132 : b120 ≠ b131 := Nat.ne_of_lt (Nat.lt_of_lt_of_le F129.lt sz131)
        have ge133 : n0 ≤ b131 := Nat.le_trans Z126 sz131
        have Z131 : n0 ≤ T131.heap.size := Nat.le_trans Z126 K131.1
        have F134 := own_sta_keep F127 K131 all0
        have F135 := own_sta_keep F128 K131 all0
        have F136 := F129.keep K131
        have F137 := G126a.keep K131 nin0
        have F138 := G126b.keep K131 nin0
        have F139 := G126c.keep K131 nin0
        refine Go.step (T' := T131) (g' := (mkF m 87 #[.val (.int p0), .val (.int p1), .val (.int p2), .val (.int (0 : Int32)), .val (.int (0 : Int32)), .val (.int (1 : Int32)), .val (.int (own_pos p1)), .val (.int (own_pos p2)), .val (.ref b120), .unset, .unset, .unset, .unset, .unset] [(.ref b131)])) (fun _ k => st131.trans k) ?_
        refine Go.step (T' := T131) (g' := (mkF m 89 #[.val (.int p0), .val (.int p1), .val (.int p2), .val (.int (0 : Int32)), .val (.int (0 : Int32)), .val (.int (1 : Int32)), .val (.int (own_pos p1)), .val (.int (own_pos p2)), .val (.ref b131), .unset, .unset, .unset, .unset, .unset] [])) (fun _ k => XS.astore X131.here hx rfl (hb hby at_87) rfl rfl (l' := #[.val (.int p0), .val (.int p1), .val (.int p2), .val (.int (0 : Int32)), .val (.int (0 : Int32)), .val (.int (1 : Int32)), .val (.int (own_pos p1)), .val (.int (own_pos p2)), .val (.ref b131), .unset, .unset, .unset, .unset, .unset]) rfl k) ?_
        refine Go.step (T' := T131) (g' := (mkF m 90 #[.val (.int p0), .val (.int p1), .val (.int p2), .val (.int (0 : Int32)), .val (.int (0 : Int32)), .val (.int (1 : Int32)), .val (.int (own_pos p1)), .val (.int (own_pos p2)), .val (.ref b131), .unset, .unset, .unset, .unset, .unset] [(.int (0 : Int32))])) (fun _ k => XS.iloadN X131.here hx rfl (hb hby at_89) rfl  k) ?_
        refine Go.step (T' := T131) (g' := (mkF m 102 #[.val (.int p0), .val (.int p1), .val (.int p2), .val (.int (0 : Int32)), .val (.int (0 : Int32)), .val (.int (1 : Int32)), .val (.int (own_pos p1)), .val (.int (own_pos p2)), .val (.ref b131), .unset, .unset, .unset, .unset, .unset] [])) (fun _ k => XS.ifYes X131.here hx rfl (pc0 := 90) (pc' := 102) rfl (hb hby at_90) rfl ((if0 _ _).trans (teq (by decide : (0 : Int32) = (0 : Int32))).1) (by decide) (by decide) k) ?_
        refine Go.step (T' := T131) (g' := (mkF m 103 #[.val (.int p0), .val (.int p1), .val (.int p2), .val (.int (0 : Int32)), .val (.int (0 : Int32)), .val (.int (1 : Int32)), .val (.int (own_pos p1)), .val (.int (own_pos p2)), .val (.ref b131), .unset, .unset, .unset, .unset, .unset] [(.int (0 : Int32))])) (fun _ k => XS.iloadN X131.here hx rfl (hb hby at_102) rfl  k) ?_
        refine Go.step (T' := T131) (g' := (mkF m 111 #[.val (.int p0), .val (.int p1), .val (.int p2), .val (.int (0 : Int32)), .val (.int (0 : Int32)), .val (.int (1 : Int32)), .val (.int (own_pos p1)), .val (.int (own_pos p2)), .val (.ref b131), .unset, .unset, .unset, .unset, .unset] [])) (fun _ k => XS.ifYes X131.here hx rfl (pc0 := 103) (pc' := 111) rfl (hb hby at_103) rfl ((if0 _ _).trans (teq (by decide : (0 : Int32) = (0 : Int32))).1) (by decide) (by decide) k) ?_
        refine Go.step (T' := T131) (g' := (mkF m 113 #[.val (.int p0), .val (.int p1), .val (.int p2), .val (.int (0 : Int32)), .val (.int (0 : Int32)), .val (.int (1 : Int32)), .val (.int (own_pos p1)), .val (.int (own_pos p2)), .val (.ref b131), .unset, .unset, .unset, .unset, .unset] [(.int (100 : Int32))])) (fun _ k => XS.bipush X131.here hx rfl (hb hby at_111) k) ?_
        refine Go.step (T' := T131) (g' := (mkF m 115 #[.val (.int p0), .val (.int p1), .val (.int p2), .val (.int (0 : Int32)), .val (.int (0 : Int32)), .val (.int (1 : Int32)), .val (.int (own_pos p1)), .val (.int (own_pos p2)), .val (.ref b131), .val (.int (100 : Int32)), .unset, .unset, .unset, .unset] [])) (fun _ k => XS.istore X131.here hx rfl (hb hby at_113) rfl (l' := #[.val (.int p0), .val (.int p1), .val (.int p2), .val (.int (0 : Int32)), .val (.int (0 : Int32)), .val (.int (1 : Int32)), .val (.int (own_pos p1)), .val (.int (own_pos p2)), .val (.ref b131), .val (.int (100 : Int32)), .unset, .unset, .unset, .unset]) rfl k) ?_
        refine Go.step (T' := T131) (g' := (mkF m 117 #[.val (.int p0), .val (.int p1), .val (.int p2), .val (.int (0 : Int32)), .val (.int (0 : Int32)), .val (.int (1 : Int32)), .val (.int (own_pos p1)), .val (.int (own_pos p2)), .val (.ref b131), .val (.int (100 : Int32)), .unset, .unset, .unset, .unset] [(.int (0 : Int32))])) (fun _ k => XS.iload X131.here hx rfl (hb hby at_115) rfl  k) ?_
        refine Go.step (T' := T131) (g' := (mkF m 126 #[.val (.int p0), .val (.int p1), .val (.int p2), .val (.int (0 : Int32)), .val (.int (0 : Int32)), .val (.int (1 : Int32)), .val (.int (own_pos p1)), .val (.int (own_pos p2)), .val (.ref b131), .val (.int (100 : Int32)), .unset, .unset, .unset, .unset] [])) (fun _ k => XS.ifYes X131.here hx rfl (pc0 := 117) (pc' := 126) rfl (hb hby at_117) rfl ((if0 _ _).trans (teq (by decide : (0 : Int32) = (0 : Int32))).1) (by decide) (by decide) k) ?_
        obtain ⟨T140, X140, e140, st140⟩ := getS2 X131 hx hZ hown (host := "") (Or.inl (hw _ (List.mem_of_getElem? (i := 24) rfl))) Via.refl rfl F134 (g := (mkF m 126 #[.val (.int p0), .val (.int p1), .val (.int p2), .val (.int (0 : Int32)), .val (.int (0 : Int32)), .val (.int (1 : Int32)), .val (.int (own_pos p1)), .val (.int (own_pos p2)), .val (.ref b131), .val (.int (100 : Int32)), .unset, .unset, .unset, .unset] [])) rfl (hb hby at_126)
        refine Go.step (T' := T140) (g' := (mkF m 129 #[.val (.int p0), .val (.int p1), .val (.int p2), .val (.int (0 : Int32)), .val (.int (0 : Int32)), .val (.int (1 : Int32)), .val (.int (own_pos p1)), .val (.int (own_pos p2)), .val (.ref b131), .val (.int (100 : Int32)), .unset, .unset, .unset, .unset] [(.ref wL)])) st140 ?_
        refine Go.step (T' := T140) (g' := (mkF m 131 #[.val (.int p0), .val (.int p1), .val (.int p2), .val (.int (0 : Int32)), .val (.int (0 : Int32)), .val (.int (1 : Int32)), .val (.int (own_pos p1)), .val (.int (own_pos p2)), .val (.ref b131), .val (.int (100 : Int32)), .val (.ref wL), .unset, .unset, .unset] [])) (fun _ k => XS.astore X140.here hx rfl (hb hby at_129) rfl rfl (l' := #[.val (.int p0), .val (.int p1), .val (.int p2), .val (.int (0 : Int32)), .val (.int (0 : Int32)), .val (.int (1 : Int32)), .val (.int (own_pos p1)), .val (.int (own_pos p2)), .val (.ref b131), .val (.int (100 : Int32)), .val (.ref wL), .unset, .unset, .unset]) rfl k) ?_
        refine Go.step (T' := T140) (g' := (mkF m 133 #[.val (.int p0), .val (.int p1), .val (.int p2), .val (.int (0 : Int32)), .val (.int (0 : Int32)), .val (.int (1 : Int32)), .val (.int (own_pos p1)), .val (.int (own_pos p2)), .val (.ref b131), .val (.int (100 : Int32)), .val (.ref wL), .unset, .unset, .unset] [(.int (1 : Int32))])) (fun _ k => XS.iload X140.here hx rfl (hb hby at_131) rfl  k) ?_
        refine Go.step (T' := T140) (g' := (mkF m 136 #[.val (.int p0), .val (.int p1), .val (.int p2), .val (.int (0 : Int32)), .val (.int (0 : Int32)), .val (.int (1 : Int32)), .val (.int (own_pos p1)), .val (.int (own_pos p2)), .val (.ref b131), .val (.int (100 : Int32)), .val (.ref wL), .unset, .unset, .unset] [])) (fun _ k => XS.ifNo X140.here hx rfl (hb hby at_133) rfl ((if0 _ _).trans (feq (by decide : ¬ ((1 : Int32) = (0 : Int32)))).1) k) ?_
        obtain ⟨T141, X141, e141, st141⟩ := getS2 X140 hx hZ hown (host := "") (Or.inl (hw _ (List.mem_of_getElem? (i := 24) rfl))) Via.refl e140 F134 (g := (mkF m 136 #[.val (.int p0), .val (.int p1), .val (.int p2), .val (.int (0 : Int32)), .val (.int (0 : Int32)), .val (.int (1 : Int32)), .val (.int (own_pos p1)), .val (.int (own_pos p2)), .val (.ref b131), .val (.int (100 : Int32)), .val (.ref wL), .unset, .unset, .unset] [])) rfl (hb hby at_136)
        refine Go.step (T' := T141) (g' := (mkF m 139 #[.val (.int p0), .val (.int p1), .val (.int p2), .val (.int (0 : Int32)), .val (.int (0 : Int32)), .val (.int (1 : Int32)), .val (.int (own_pos p1)), .val (.int (own_pos p2)), .val (.ref b131), .val (.int (100 : Int32)), .val (.ref wL), .unset, .unset, .unset] [(.ref wL)])) st141 ?_
        refine Go.step (T' := T141) (g' := (mkF m 145 #[.val (.int p0), .val (.int p1), .val (.int p2), .val (.int (0 : Int32)), .val (.int (0 : Int32)), .val (.int (1 : Int32)), .val (.int (own_pos p1)), .val (.int (own_pos p2)), .val (.ref b131), .val (.int (100 : Int32)), .val (.ref wL), .unset, .unset, .unset] [(.ref wL)])) (fun _ k => XS.goto X141.here hx rfl (pc0 := 139) (pc' := 145) rfl (hb hby at_139) (by decide) (by decide) k) ?_
        refine Go.step (T' := T141) (g' := (mkF m 147 #[.val (.int p0), .val (.int p1), .val (.int p2), .val (.int (0 : Int32)), .val (.int (0 : Int32)), .val (.int (1 : Int32)), .val (.int (own_pos p1)), .val (.int (own_pos p2)), .val (.ref b131), .val (.int (100 : Int32)), .val (.ref wL), .val (.ref wL), .unset, .unset] [])) (fun _ k => XS.astore X141.here hx rfl (hb hby at_145) rfl rfl (l' := #[.val (.int p0), .val (.int p1), .val (.int p2), .val (.int (0 : Int32)), .val (.int (0 : Int32)), .val (.int (1 : Int32)), .val (.int (own_pos p1)), .val (.int (own_pos p2)), .val (.ref b131), .val (.int (100 : Int32)), .val (.ref wL), .val (.ref wL), .unset, .unset]) rfl k) ?_
        exact own_tail p0 p1 p2 (0 : Int32) (0 : Int32) (1 : Int32) (own_pos p1) (own_pos p2) (100 : Int32) b131 wL wL wL wD X141 hx hZ hw hby hml hown hret hlk e141 N131 Z131 (by decide) (by decide) F134 F135 E131 G131a G131b G131c (own_pos_ge _)
    · skip
      refine Go.step (T' := s₁) (g' := (mkF m 18 #[.val (.int p0), .val (.int p1), .val (.int p2), .val (.int (0 : Int32)), .unset, .unset, .unset, .unset, .unset, .unset, .unset, .unset, .unset, .unset] [])) (fun _ k => XS.ifNo X0.here hx rfl (hb hby at_15) rfl ((if0 _ _).trans (feq hc102).1) k) ?_
      refine Go.step (T' := s₁) (g' := (mkF m 19 #[.val (.int p0), .val (.int p1), .val (.int p2), .val (.int (0 : Int32)), .unset, .unset, .unset, .unset, .unset, .unset, .unset, .unset, .unset, .unset] [(.int (1 : Int32))])) (fun _ k => XS.iconst X0.here hx rfl (hb hby at_18) k) ?_
      refine Go.step (T' := s₁) (g' := (mkF m 23 #[.val (.int p0), .val (.int p1), .val (.int p2), .val (.int (0 : Int32)), .unset, .unset, .unset, .unset, .unset, .unset, .unset, .unset, .unset, .unset] [(.int (1 : Int32))])) (fun _ k => XS.goto X0.here hx rfl (pc0 := 19) (pc' := 23) rfl (hb hby at_19) (by decide) (by decide) k) ?_
      refine Go.step (T' := s₁) (g' := (mkF m 25 #[.val (.int p0), .val (.int p1), .val (.int p2), .val (.int (0 : Int32)), .val (.int (1 : Int32)), .unset, .unset, .unset, .unset, .unset, .unset, .unset, .unset, .unset] [])) (fun _ k => XS.istore X0.here hx rfl (hb hby at_23) rfl (l' := #[.val (.int p0), .val (.int p1), .val (.int p2), .val (.int (0 : Int32)), .val (.int (1 : Int32)), .unset, .unset, .unset, .unset, .unset, .unset, .unset, .unset, .unset]) rfl k) ?_
      refine Go.step (T' := s₁) (g' := (mkF m 26 #[.val (.int p0), .val (.int p1), .val (.int p2), .val (.int (0 : Int32)), .val (.int (1 : Int32)), .unset, .unset, .unset, .unset, .unset, .unset, .unset, .unset, .unset] [(.int p0)])) (fun _ k => XS.iloadN X0.here hx rfl (hb hby at_25) rfl  k) ?_
      refine Go.step (T' := s₁) (g' := (mkF m 27 #[.val (.int p0), .val (.int p1), .val (.int p2), .val (.int (0 : Int32)), .val (.int (1 : Int32)), .unset, .unset, .unset, .unset, .unset, .unset, .unset, .unset, .unset] [(.int (4 : Int32)), (.int p0)])) (fun _ k => XS.iconst X0.here hx rfl (hb hby at_26) k) ?_
      refine Go.step (T' := s₁) (g' := (mkF m 28 #[.val (.int p0), .val (.int p1), .val (.int p2), .val (.int (0 : Int32)), .val (.int (1 : Int32)), .unset, .unset, .unset, .unset, .unset, .unset, .unset, .unset, .unset] [(.int (p0 &&& (4 : Int32)))])) (fun _ k => XS.iand X0.here hx rfl (hb hby at_27) rfl k) ?_
      by_cases hc142 : (p0 &&& (4 : Int32)) = (0 : Int32)
      · skip
        refine Go.step (T' := s₁) (g' := (mkF m 35 #[.val (.int p0), .val (.int p1), .val (.int p2), .val (.int (0 : Int32)), .val (.int (1 : Int32)), .unset, .unset, .unset, .unset, .unset, .unset, .unset, .unset, .unset] [])) (fun _ k => XS.ifYes X0.here hx rfl (pc0 := 28) (pc' := 35) rfl (hb hby at_28) rfl ((if0 _ _).trans (teq hc142).1) (by decide) (by decide) k) ?_
        refine Go.step (T' := s₁) (g' := (mkF m 36 #[.val (.int p0), .val (.int p1), .val (.int p2), .val (.int (0 : Int32)), .val (.int (1 : Int32)), .unset, .unset, .unset, .unset, .unset, .unset, .unset, .unset, .unset] [(.int (0 : Int32))])) (fun _ k => XS.iconst X0.here hx rfl (hb hby at_35) k) ?_
        refine Go.step (T' := s₁) (g' := (mkF m 38 #[.val (.int p0), .val (.int p1), .val (.int p2), .val (.int (0 : Int32)), .val (.int (1 : Int32)), .val (.int (0 : Int32)), .unset, .unset, .unset, .unset, .unset, .unset, .unset, .unset] [])) (fun _ k => XS.istore X0.here hx rfl (hb hby at_36) rfl (l' := #[.val (.int p0), .val (.int p1), .val (.int p2), .val (.int (0 : Int32)), .val (.int (1 : Int32)), .val (.int (0 : Int32)), .unset, .unset, .unset, .unset, .unset, .unset, .unset, .unset]) rfl k) ?_
        refine Go.step (T' := s₁) (g' := (mkF m 39 #[.val (.int p0), .val (.int p1), .val (.int p2), .val (.int (0 : Int32)), .val (.int (1 : Int32)), .val (.int (0 : Int32)), .unset, .unset, .unset, .unset, .unset, .unset, .unset, .unset] [(.int p1)])) (fun _ k => XS.iloadN X0.here hx rfl (hb hby at_38) rfl  k) ?_
        obtain ⟨_, _, ⟨T143, L143, k143, n143⟩, -, X143, ⟨Lc143, hQ143, l143, y143, z143⟩, st143⟩ := Jvm.LawKit.callS X0 hx (y := (⟨"com/example/draftd/draftd/odata/ServiceSettingsWithPageSizePinLaw", "positive", "(I)I"⟩ : MethodName)) hown (mvT hZ (hw _ (List.mem_of_getElem? (i := 0) rfl))) (mvT hZ (hw _ (List.mem_of_getElem? (i := 1) rfl))) (mvT hZ (hw _ (List.mem_of_getElem? (i := 2) rfl))) (mvT hZ (hw _ (List.mem_of_getElem? (i := 3) rfl))) (by decide) (backOf (W := 0) (Q := Qret (some (.int (own_pos p1))) h0 n0) (own_rpos l Z a0 hw [] p1 h0 n0 Z0) hZ (hw _ (List.mem_of_getElem? (i := 3) rfl)) (hw _ (List.mem_of_getElem? (i := 2) rfl)) (by decide) (by decide)) (g := (mkF m 39 #[.val (.int p0), .val (.int p1), .val (.int p2), .val (.int (0 : Int32)), .val (.int (1 : Int32)), .val (.int (0 : Int32)), .unset, .unset, .unset, .unset, .unset, .unset, .unset, .unset] [(.int p1)])) rfl (by rw [hml]; rfl) (argsL := [(.int p1)]) (rest := []) (lenOf own_pd4 rfl) rfl (by show 2 * 0 + _ ≤ _; exact Nat.le_of_eq rfl) (hb hby at_39) (fun _ _ => ⟨rfl, e0, (by decide : 0 + 0 ≤ _), (by decide : 0 + 0 ≤ _)⟩)
        dsimp only [Pt.U, Pt.locs, Pt.cells, Pt.slots] at X143 l143 y143 z143 st143 hQ143
        subst l143 y143 z143
        obtain ⟨rfl, N143q, eh143⟩ := hQ143
        have N143 := Fr.app N0 N143q
        refine Go.step (T' := T143) (g' := (mkF m 42 #[.val (.int p0), .val (.int p1), .val (.int p2), .val (.int (0 : Int32)), .val (.int (1 : Int32)), .val (.int (0 : Int32)), .unset, .unset, .unset, .unset, .unset, .unset, .unset, .unset] [(.int (own_pos p1))])) (st143) ?_
        refine Go.step (T' := T143) (g' := (mkF m 44 #[.val (.int p0), .val (.int p1), .val (.int p2), .val (.int (0 : Int32)), .val (.int (1 : Int32)), .val (.int (0 : Int32)), .val (.int (own_pos p1)), .unset, .unset, .unset, .unset, .unset, .unset, .unset] [])) (fun _ k => XS.istore X143.here hx rfl (hb hby at_42) rfl (l' := #[.val (.int p0), .val (.int p1), .val (.int p2), .val (.int (0 : Int32)), .val (.int (1 : Int32)), .val (.int (0 : Int32)), .val (.int (own_pos p1)), .unset, .unset, .unset, .unset, .unset, .unset, .unset]) rfl k) ?_
        refine Go.step (T' := T143) (g' := (mkF m 45 #[.val (.int p0), .val (.int p1), .val (.int p2), .val (.int (0 : Int32)), .val (.int (1 : Int32)), .val (.int (0 : Int32)), .val (.int (own_pos p1)), .unset, .unset, .unset, .unset, .unset, .unset, .unset] [(.int p2)])) (fun _ k => XS.iloadN X143.here hx rfl (hb hby at_44) rfl  k) ?_
        obtain ⟨_, _, ⟨T144, L144, k144, n144⟩, -, X144, ⟨Lc144, hQ144, l144, y144, z144⟩, st144⟩ := Jvm.LawKit.callS X143 hx (y := (⟨"com/example/draftd/draftd/odata/ServiceSettingsWithPageSizePinLaw", "positive", "(I)I"⟩ : MethodName)) hown (mvT hZ (hw _ (List.mem_of_getElem? (i := 0) rfl))) (mvT hZ (hw _ (List.mem_of_getElem? (i := 1) rfl))) (mvT hZ (hw _ (List.mem_of_getElem? (i := 2) rfl))) (mvT hZ (hw _ (List.mem_of_getElem? (i := 3) rfl))) (by decide) (backOf (W := 0) (Q := Qret (some (.int (own_pos p2))) h0 n0) (own_rpos l Z a0 hw [] p2 h0 n0 Z0) hZ (hw _ (List.mem_of_getElem? (i := 3) rfl)) (hw _ (List.mem_of_getElem? (i := 2) rfl)) (by decide) (by decide)) (g := (mkF m 45 #[.val (.int p0), .val (.int p1), .val (.int p2), .val (.int (0 : Int32)), .val (.int (1 : Int32)), .val (.int (0 : Int32)), .val (.int (own_pos p1)), .unset, .unset, .unset, .unset, .unset, .unset, .unset] [(.int p2)])) rfl (by rw [hml]; rfl) (argsL := [(.int p2)]) (rest := []) (lenOf own_pd4 rfl) rfl (by show 2 * 0 + _ ≤ _; exact Nat.le_of_eq rfl) (hb hby at_45) (fun _ _ => ⟨rfl, eh143, (by decide : 0 + 0 ≤ _), (by decide : 0 + 0 ≤ _)⟩)
        dsimp only [Pt.U, Pt.locs, Pt.cells, Pt.slots] at X144 l144 y144 z144 st144 hQ144
        subst l144 y144 z144
        obtain ⟨rfl, N144q, eh144⟩ := hQ144
        have N144 := Fr.app N143 N144q
        refine Go.step (T' := T144) (g' := (mkF m 48 #[.val (.int p0), .val (.int p1), .val (.int p2), .val (.int (0 : Int32)), .val (.int (1 : Int32)), .val (.int (0 : Int32)), .val (.int (own_pos p1)), .unset, .unset, .unset, .unset, .unset, .unset, .unset] [(.int (own_pos p2))])) (st144) ?_
        refine Go.step (T' := T144) (g' := (mkF m 50 #[.val (.int p0), .val (.int p1), .val (.int p2), .val (.int (0 : Int32)), .val (.int (1 : Int32)), .val (.int (0 : Int32)), .val (.int (own_pos p1)), .val (.int (own_pos p2)), .unset, .unset, .unset, .unset, .unset, .unset] [])) (fun _ k => XS.istore X144.here hx rfl (hb hby at_48) rfl (l' := #[.val (.int p0), .val (.int p1), .val (.int p2), .val (.int (0 : Int32)), .val (.int (1 : Int32)), .val (.int (0 : Int32)), .val (.int (own_pos p1)), .val (.int (own_pos p2)), .unset, .unset, .unset, .unset, .unset, .unset]) rfl k) ?_
        obtain ⟨T145, h145, X145, e145, E145, A145, D145, -, st145⟩ := newO X144 hx hZ hown (hw _ (List.mem_of_getElem? (i := 5) rfl)) (hw _ (List.mem_of_getElem? (i := 6) rfl)) (hw _ (List.mem_of_getElem? (i := 7) rfl)) eh144 (g := (mkF m 50 #[.val (.int p0), .val (.int p1), .val (.int p2), .val (.int (0 : Int32)), .val (.int (1 : Int32)), .val (.int (0 : Int32)), .val (.int (own_pos p1)), .val (.int (own_pos p2)), .unset, .unset, .unset, .unset, .unset, .unset] [])) rfl (hb hby at_50) (by decide) (by decide)
        obtain ⟨b145, g145⟩ : ∃ z, z = h0.size := ⟨_, rfl⟩
        rw [← g145] at A145 D145 st145
        have ge145 : n0 ≤ b145 := Nat.le_trans Z0 (Nat.le_of_eq g145.symm)
        have Z145 : n0 ≤ h145.size := Nat.le_trans Z0 E145.1
        have F146 := S0.ext E145
        have F147 := S1.ext E145
        have F148 : Fld Z h145 b145 "com/example/draftd/draftd/odata/ServiceSettings" "lockTimeout" "Ljava/time/Duration;" .null := D145 (Or.inl (hw _ (List.mem_of_getElem? (i := 17) rfl))) (ty := (.object "java/time/Duration")) (by decide)
        have F149 : Fld Z h145 b145 "com/example/draftd/draftd/odata/ServiceSettings" "draftLifetime" "Ljava/time/Duration;" .null := D145 (Or.inl (hw _ (List.mem_of_getElem? (i := 21) rfl))) (ty := (.object "java/time/Duration")) (by decide)
        have F150 : Fld Z h145 b145 "com/example/draftd/draftd/odata/ServiceSettings" "pageSize" "I" (.int (0 : Int32)) := D145 (Or.inl (hw _ (List.mem_of_getElem? (i := 23) rfl))) (ty := .int) (by decide)
        refine Go.step (T' := T145) (g' := (mkF m 53 #[.val (.int p0), .val (.int p1), .val (.int p2), .val (.int (0 : Int32)), .val (.int (1 : Int32)), .val (.int (0 : Int32)), .val (.int (own_pos p1)), .val (.int (own_pos p2)), .unset, .unset, .unset, .unset, .unset, .unset] [(.ref b145)])) st145 ?_
        refine Go.step (T' := T145) (g' := (mkF m 54 #[.val (.int p0), .val (.int p1), .val (.int p2), .val (.int (0 : Int32)), .val (.int (1 : Int32)), .val (.int (0 : Int32)), .val (.int (own_pos p1)), .val (.int (own_pos p2)), .unset, .unset, .unset, .unset, .unset, .unset] [(.ref b145), (.ref b145)])) (fun _ k => XS.dup X145.here hx rfl (hb hby at_53) rfl rfl k) ?_
        obtain ⟨_, _, ⟨T151, L151, k151, n151⟩, -, X151, ⟨Lc151, hQ151, l151, y151, z151⟩, st151⟩ := X145.specialBack hx (y := (⟨"com/example/draftd/draftd/odata/ServiceSettings", "<init>", "()V"⟩ : MethodName)) rfl hown (mvT hZ (hw _ (List.mem_of_getElem? (i := 8) rfl))) (mvT hZ (hw _ (List.mem_of_getElem? (i := 9) rfl))) (mvT hZ (hw _ (List.mem_of_getElem? (i := 10) rfl))) (by decide) (backOf (W := 1) (Q := Qini Z b145 (.ref wL) (.ref wD) 100 h145 n0) (own_ini0 l Z a0 hw [] b145 wL wD (.null) (.null) ((.int (0 : Int32))) h145 n0 Z145 F146 F147 A145 ge145 F148 F149 F150) hZ (hw _ (List.mem_of_getElem? (i := 10) rfl)) (hw _ (List.mem_of_getElem? (i := 7) rfl)) (by decide) (by decide)) (g := (mkF m 54 #[.val (.int p0), .val (.int p1), .val (.int p2), .val (.int (0 : Int32)), .val (.int (1 : Int32)), .val (.int (0 : Int32)), .val (.int (own_pos p1)), .val (.int (own_pos p2)), .unset, .unset, .unset, .unset, .unset, .unset] [(.ref b145), (.ref b145)])) rfl (by rw [hml]; rfl) (Steps.refl _) (a := b145) (argsL := []) (rest := [(.ref b145)]) (lenOf own_pd5 rfl) rfl (by show 2 * 0 + _ ≤ _; exact Nat.le_of_eq rfl) (hb hby at_54) (fun _ _ => ⟨rfl, e145, (by decide : 1 + 0 ≤ _), (by decide : 3 + 0 ≤ _)⟩)
        dsimp only [Pt.U, Pt.locs, Pt.cells, Pt.slots] at X151 l151 y151 z151 st151 hQ151
        subst l151 y151 z151
        obtain ⟨rfl, N151q, K151, G151a, G151b, G151c⟩ := hQ151
        have N151 := Fr.app N144 N151q
        have Z151 : n0 ≤ T151.heap.size := Nat.le_trans Z145 K151.1
        have F152 := own_sta_keep F146 K151 (allS (own_plain A145) all0)
        have F153 := own_sta_keep F147 K151 (allS (own_plain A145) all0)
        have F154 := A145.keep K151
        refine Go.step (T' := T151) (g' := (mkF m 57 #[.val (.int p0), .val (.int p1), .val (.int p2), .val (.int (0 : Int32)), .val (.int (1 : Int32)), .val (.int (0 : Int32)), .val (.int (own_pos p1)), .val (.int (own_pos p2)), .unset, .unset, .unset, .unset, .unset, .unset] [(.ref b145)])) (fun _ k => st151.trans k) ?_
        refine Go.step (T' := T151) (g' := (mkF m 59 #[.val (.int p0), .val (.int p1), .val (.int p2), .val (.int (0 : Int32)), .val (.int (1 : Int32)), .val (.int (0 : Int32)), .val (.int (own_pos p1)), .val (.int (own_pos p2)), .val (.ref b145), .unset, .unset, .unset, .unset, .unset] [])) (fun _ k => XS.astore X151.here hx rfl (hb hby at_57) rfl rfl (l' := #[.val (.int p0), .val (.int p1), .val (.int p2), .val (.int (0 : Int32)), .val (.int (1 : Int32)), .val (.int (0 : Int32)), .val (.int (own_pos p1)), .val (.int (own_pos p2)), .val (.ref b145), .unset, .unset, .unset, .unset, .unset]) rfl k) ?_
        refine Go.step (T' := T151) (g' := (mkF m 61 #[.val (.int p0), .val (.int p1), .val (.int p2), .val (.int (0 : Int32)), .val (.int (1 : Int32)), .val (.int (0 : Int32)), .val (.int (own_pos p1)), .val (.int (own_pos p2)), .val (.ref b145), .unset, .unset, .unset, .unset, .unset] [(.int (1 : Int32))])) (fun _ k => XS.iload X151.here hx rfl (hb hby at_59) rfl  k) ?_
        refine Go.step (T' := T151) (g' := (mkF m 64 #[.val (.int p0), .val (.int p1), .val (.int p2), .val (.int (0 : Int32)), .val (.int (1 : Int32)), .val (.int (0 : Int32)), .val (.int (own_pos p1)), .val (.int (own_pos p2)), .val (.ref b145), .unset, .unset, .unset, .unset, .unset] [])) (fun _ k => XS.ifNo X151.here hx rfl (hb hby at_61) rfl ((if0 _ _).trans (feq (by decide : ¬ ((1 : Int32) = (0 : Int32)))).1) k) ?_
        refine Go.step (T' := T151) (g' := (mkF m 66 #[.val (.int p0), .val (.int p1), .val (.int p2), .val (.int (0 : Int32)), .val (.int (1 : Int32)), .val (.int (0 : Int32)), .val (.int (own_pos p1)), .val (.int (own_pos p2)), .val (.ref b145), .unset, .unset, .unset, .unset, .unset] [(.ref b145)])) (fun _ k => XS.aload X151.here hx rfl (hb hby at_64) rfl rfl k) ?_
        obtain ⟨T155, X155, e155, st155⟩ := getS2 X151 hx hZ hown (host := "") (Or.inl (hw _ (List.mem_of_getElem? (i := 25) rfl))) Via.refl rfl F153 (g := (mkF m 66 #[.val (.int p0), .val (.int p1), .val (.int p2), .val (.int (0 : Int32)), .val (.int (1 : Int32)), .val (.int (0 : Int32)), .val (.int (own_pos p1)), .val (.int (own_pos p2)), .val (.ref b145), .unset, .unset, .unset, .unset, .unset] [(.ref b145)])) rfl (hb hby at_66)
        refine Go.step (T' := T155) (g' := (mkF m 69 #[.val (.int p0), .val (.int p1), .val (.int p2), .val (.int (0 : Int32)), .val (.int (1 : Int32)), .val (.int (0 : Int32)), .val (.int (own_pos p1)), .val (.int (own_pos p2)), .val (.ref b145), .unset, .unset, .unset, .unset, .unset] [(.ref wD), (.ref b145)])) st155 ?_
        obtain ⟨cq156, kq156, q156a, q156b, q156c⟩ := isOf hZ e155 F154
        obtain ⟨_, _, ⟨T156, L156, k156, n156⟩, -, X156, ⟨Lc156, hQ156, l156, y156, z156⟩, st156⟩ := X155.virtualBack hx (y := (⟨"com/example/draftd/draftd/odata/ServiceSettings", "withLockTimeout", "(Ljava/time/Duration;)Lcom/example/draftd/draftd/odata/ServiceSettings;"⟩ : MethodName)) (z := (⟨"com/example/draftd/draftd/odata/ServiceSettings", "withLockTimeout", "(Ljava/time/Duration;)Lcom/example/draftd/draftd/odata/ServiceSettings;"⟩ : MethodName)) hown (mvT hZ (hw _ (List.mem_of_getElem? (i := 55) rfl))) (mvT hZ (hw _ (List.mem_of_getElem? (i := 56) rfl))) (notFace_of_selects (args := #[]) (mvT hZ (hw _ (List.mem_of_getElem? (i := 58) rfl)))) (mvT hZ (hw _ (List.mem_of_getElem? (i := 58) rfl))) (mvT hZ (hw _ (List.mem_of_getElem? (i := 57) rfl))) (by decide) (backOf (W := 0) (Q := Qwith Z (.ref wD) (.ref wD) 100 T151.heap n0) (own_withLockTimeout l Z a0 hw [] b145 wD wL wD wL wD 100 T151.heap n0 Z151 F152 F153 F154 G151a G151b G151c ) hZ (hw _ (List.mem_of_getElem? (i := 59) rfl)) (hw _ (List.mem_of_getElem? (i := 7) rfl)) (by decide) (by decide)) q156a q156c (g := (mkF m 69 #[.val (.int p0), .val (.int p1), .val (.int p2), .val (.int (0 : Int32)), .val (.int (1 : Int32)), .val (.int (0 : Int32)), .val (.int (own_pos p1)), .val (.int (own_pos p2)), .val (.ref b145), .unset, .unset, .unset, .unset, .unset] [(.ref wD), (.ref b145)])) rfl (by rw [hml]; rfl) (Steps.refl _) (argsL := [(.ref wD)]) (rest := []) (lenOf own_pd6 rfl) rfl (by show 2 * 0 + _ ≤ _; exact Nat.le_of_eq rfl) (hb hby at_69) (fun _ _ => ⟨rfl, e155, (by decide : 1 + 1 ≤ _), (by decide : 3 + 3 ≤ _)⟩)
        dsimp only [Pt.U, Pt.locs, Pt.cells, Pt.slots] at X156 l156 y156 z156 st156 hQ156
        subst l156 y156 z156
        obtain ⟨b156, rfl, N156q, K156, sz156, E156, G156a, G156b, G156c⟩ := hQ156
        have N156 := Fr.app N151 N156q
        have ne157 : b145 ≠ b156 := Nat.ne_of_lt (Nat.lt_of_lt_of_le F154.lt sz156)
        have ge158 : n0 ≤ b156 := Nat.le_trans Z151 sz156
        have Z156 : n0 ≤ T156.heap.size := Nat.le_trans Z151 K156.1
        have F159 := own_sta_keep F152 K156 all0
        have F160 := own_sta_keep F153 K156 all0
        have F161 := F154.keep K156
        have F162 := G151a.keep K156 nin0
        have F163 := G151b.keep K156 nin0
        have F164 := G151c.keep K156 nin0
        refine Go.step (T' := T156) (g' := (mkF m 72 #[.val (.int p0), .val (.int p1), .val (.int p2), .val (.int (0 : Int32)), .val (.int (1 : Int32)), .val (.int (0 : Int32)), .val (.int (own_pos p1)), .val (.int (own_pos p2)), .val (.ref b145), .unset, .unset, .unset, .unset, .unset] [(.ref b156)])) (fun _ k => st156.trans k) ?_
        refine Go.step (T' := T156) (g' := (mkF m 74 #[.val (.int p0), .val (.int p1), .val (.int p2), .val (.int (0 : Int32)), .val (.int (1 : Int32)), .val (.int (0 : Int32)), .val (.int (own_pos p1)), .val (.int (own_pos p2)), .val (.ref b156), .unset, .unset, .unset, .unset, .unset] [])) (fun _ k => XS.astore X156.here hx rfl (hb hby at_72) rfl rfl (l' := #[.val (.int p0), .val (.int p1), .val (.int p2), .val (.int (0 : Int32)), .val (.int (1 : Int32)), .val (.int (0 : Int32)), .val (.int (own_pos p1)), .val (.int (own_pos p2)), .val (.ref b156), .unset, .unset, .unset, .unset, .unset]) rfl k) ?_
        refine Go.step (T' := T156) (g' := (mkF m 76 #[.val (.int p0), .val (.int p1), .val (.int p2), .val (.int (0 : Int32)), .val (.int (1 : Int32)), .val (.int (0 : Int32)), .val (.int (own_pos p1)), .val (.int (own_pos p2)), .val (.ref b156), .unset, .unset, .unset, .unset, .unset] [(.int (0 : Int32))])) (fun _ k => XS.iload X156.here hx rfl (hb hby at_74) rfl  k) ?_
        refine Go.step (T' := T156) (g' := (mkF m 89 #[.val (.int p0), .val (.int p1), .val (.int p2), .val (.int (0 : Int32)), .val (.int (1 : Int32)), .val (.int (0 : Int32)), .val (.int (own_pos p1)), .val (.int (own_pos p2)), .val (.ref b156), .unset, .unset, .unset, .unset, .unset] [])) (fun _ k => XS.ifYes X156.here hx rfl (pc0 := 76) (pc' := 89) rfl (hb hby at_76) rfl ((if0 _ _).trans (teq (by decide : (0 : Int32) = (0 : Int32))).1) (by decide) (by decide) k) ?_
        refine Go.step (T' := T156) (g' := (mkF m 90 #[.val (.int p0), .val (.int p1), .val (.int p2), .val (.int (0 : Int32)), .val (.int (1 : Int32)), .val (.int (0 : Int32)), .val (.int (own_pos p1)), .val (.int (own_pos p2)), .val (.ref b156), .unset, .unset, .unset, .unset, .unset] [(.int (0 : Int32))])) (fun _ k => XS.iloadN X156.here hx rfl (hb hby at_89) rfl  k) ?_
        refine Go.step (T' := T156) (g' := (mkF m 102 #[.val (.int p0), .val (.int p1), .val (.int p2), .val (.int (0 : Int32)), .val (.int (1 : Int32)), .val (.int (0 : Int32)), .val (.int (own_pos p1)), .val (.int (own_pos p2)), .val (.ref b156), .unset, .unset, .unset, .unset, .unset] [])) (fun _ k => XS.ifYes X156.here hx rfl (pc0 := 90) (pc' := 102) rfl (hb hby at_90) rfl ((if0 _ _).trans (teq (by decide : (0 : Int32) = (0 : Int32))).1) (by decide) (by decide) k) ?_
        refine Go.step (T' := T156) (g' := (mkF m 103 #[.val (.int p0), .val (.int p1), .val (.int p2), .val (.int (0 : Int32)), .val (.int (1 : Int32)), .val (.int (0 : Int32)), .val (.int (own_pos p1)), .val (.int (own_pos p2)), .val (.ref b156), .unset, .unset, .unset, .unset, .unset] [(.int (0 : Int32))])) (fun _ k => XS.iloadN X156.here hx rfl (hb hby at_102) rfl  k) ?_
        refine Go.step (T' := T156) (g' := (mkF m 111 #[.val (.int p0), .val (.int p1), .val (.int p2), .val (.int (0 : Int32)), .val (.int (1 : Int32)), .val (.int (0 : Int32)), .val (.int (own_pos p1)), .val (.int (own_pos p2)), .val (.ref b156), .unset, .unset, .unset, .unset, .unset] [])) (fun _ k => XS.ifYes X156.here hx rfl (pc0 := 103) (pc' := 111) rfl (hb hby at_103) rfl ((if0 _ _).trans (teq (by decide : (0 : Int32) = (0 : Int32))).1) (by decide) (by decide) k) ?_
        refine Go.step (T' := T156) (g' := (mkF m 113 #[.val (.int p0), .val (.int p1), .val (.int p2), .val (.int (0 : Int32)), .val (.int (1 : Int32)), .val (.int (0 : Int32)), .val (.int (own_pos p1)), .val (.int (own_pos p2)), .val (.ref b156), .unset, .unset, .unset, .unset, .unset] [(.int (100 : Int32))])) (fun _ k => XS.bipush X156.here hx rfl (hb hby at_111) k) ?_
        refine Go.step (T' := T156) (g' := (mkF m 115 #[.val (.int p0), .val (.int p1), .val (.int p2), .val (.int (0 : Int32)), .val (.int (1 : Int32)), .val (.int (0 : Int32)), .val (.int (own_pos p1)), .val (.int (own_pos p2)), .val (.ref b156), .val (.int (100 : Int32)), .unset, .unset, .unset, .unset] [])) (fun _ k => XS.istore X156.here hx rfl (hb hby at_113) rfl (l' := #[.val (.int p0), .val (.int p1), .val (.int p2), .val (.int (0 : Int32)), .val (.int (1 : Int32)), .val (.int (0 : Int32)), .val (.int (own_pos p1)), .val (.int (own_pos p2)), .val (.ref b156), .val (.int (100 : Int32)), .unset, .unset, .unset, .unset]) rfl k) ?_
        refine Go.step (T' := T156) (g' := (mkF m 117 #[.val (.int p0), .val (.int p1), .val (.int p2), .val (.int (0 : Int32)), .val (.int (1 : Int32)), .val (.int (0 : Int32)), .val (.int (own_pos p1)), .val (.int (own_pos p2)), .val (.ref b156), .val (.int (100 : Int32)), .unset, .unset, .unset, .unset] [(.int (1 : Int32))])) (fun _ k => XS.iload X156.here hx rfl (hb hby at_115) rfl  k) ?_
        refine Go.step (T' := T156) (g' := (mkF m 120 #[.val (.int p0), .val (.int p1), .val (.int p2), .val (.int (0 : Int32)), .val (.int (1 : Int32)), .val (.int (0 : Int32)), .val (.int (own_pos p1)), .val (.int (own_pos p2)), .val (.ref b156), .val (.int (100 : Int32)), .unset, .unset, .unset, .unset] [])) (fun _ k => XS.ifNo X156.here hx rfl (hb hby at_117) rfl ((if0 _ _).trans (feq (by decide : ¬ ((1 : Int32) = (0 : Int32)))).1) k) ?_
        obtain ⟨T165, X165, e165, st165⟩ := getS2 X156 hx hZ hown (host := "") (Or.inl (hw _ (List.mem_of_getElem? (i := 25) rfl))) Via.refl rfl F160 (g := (mkF m 120 #[.val (.int p0), .val (.int p1), .val (.int p2), .val (.int (0 : Int32)), .val (.int (1 : Int32)), .val (.int (0 : Int32)), .val (.int (own_pos p1)), .val (.int (own_pos p2)), .val (.ref b156), .val (.int (100 : Int32)), .unset, .unset, .unset, .unset] [])) rfl (hb hby at_120)
        refine Go.step (T' := T165) (g' := (mkF m 123 #[.val (.int p0), .val (.int p1), .val (.int p2), .val (.int (0 : Int32)), .val (.int (1 : Int32)), .val (.int (0 : Int32)), .val (.int (own_pos p1)), .val (.int (own_pos p2)), .val (.ref b156), .val (.int (100 : Int32)), .unset, .unset, .unset, .unset] [(.ref wD)])) st165 ?_
        refine Go.step (T' := T165) (g' := (mkF m 129 #[.val (.int p0), .val (.int p1), .val (.int p2), .val (.int (0 : Int32)), .val (.int (1 : Int32)), .val (.int (0 : Int32)), .val (.int (own_pos p1)), .val (.int (own_pos p2)), .val (.ref b156), .val (.int (100 : Int32)), .unset, .unset, .unset, .unset] [(.ref wD)])) (fun _ k => XS.goto X165.here hx rfl (pc0 := 123) (pc' := 129) rfl (hb hby at_123) (by decide) (by decide) k) ?_
        refine Go.step (T' := T165) (g' := (mkF m 131 #[.val (.int p0), .val (.int p1), .val (.int p2), .val (.int (0 : Int32)), .val (.int (1 : Int32)), .val (.int (0 : Int32)), .val (.int (own_pos p1)), .val (.int (own_pos p2)), .val (.ref b156), .val (.int (100 : Int32)), .val (.ref wD), .unset, .unset, .unset] [])) (fun _ k => XS.astore X165.here hx rfl (hb hby at_129) rfl rfl (l' := #[.val (.int p0), .val (.int p1), .val (.int p2), .val (.int (0 : Int32)), .val (.int (1 : Int32)), .val (.int (0 : Int32)), .val (.int (own_pos p1)), .val (.int (own_pos p2)), .val (.ref b156), .val (.int (100 : Int32)), .val (.ref wD), .unset, .unset, .unset]) rfl k) ?_
        refine Go.step (T' := T165) (g' := (mkF m 133 #[.val (.int p0), .val (.int p1), .val (.int p2), .val (.int (0 : Int32)), .val (.int (1 : Int32)), .val (.int (0 : Int32)), .val (.int (own_pos p1)), .val (.int (own_pos p2)), .val (.ref b156), .val (.int (100 : Int32)), .val (.ref wD), .unset, .unset, .unset] [(.int (0 : Int32))])) (fun _ k => XS.iload X165.here hx rfl (hb hby at_131) rfl  k) ?_
        refine Go.step (T' := T165) (g' := (mkF m 142 #[.val (.int p0), .val (.int p1), .val (.int p2), .val (.int (0 : Int32)), .val (.int (1 : Int32)), .val (.int (0 : Int32)), .val (.int (own_pos p1)), .val (.int (own_pos p2)), .val (.ref b156), .val (.int (100 : Int32)), .val (.ref wD), .unset, .unset, .unset] [])) (fun _ k => XS.ifYes X165.here hx rfl (pc0 := 133) (pc' := 142) rfl (hb hby at_133) rfl ((if0 _ _).trans (teq (by decide : (0 : Int32) = (0 : Int32))).1) (by decide) (by decide) k) ?_
        obtain ⟨T166, X166, e166, st166⟩ := getS2 X165 hx hZ hown (host := "") (Or.inl (hw _ (List.mem_of_getElem? (i := 25) rfl))) Via.refl e165 F160 (g := (mkF m 142 #[.val (.int p0), .val (.int p1), .val (.int p2), .val (.int (0 : Int32)), .val (.int (1 : Int32)), .val (.int (0 : Int32)), .val (.int (own_pos p1)), .val (.int (own_pos p2)), .val (.ref b156), .val (.int (100 : Int32)), .val (.ref wD), .unset, .unset, .unset] [])) rfl (hb hby at_142)
        refine Go.step (T' := T166) (g' := (mkF m 145 #[.val (.int p0), .val (.int p1), .val (.int p2), .val (.int (0 : Int32)), .val (.int (1 : Int32)), .val (.int (0 : Int32)), .val (.int (own_pos p1)), .val (.int (own_pos p2)), .val (.ref b156), .val (.int (100 : Int32)), .val (.ref wD), .unset, .unset, .unset] [(.ref wD)])) st166 ?_
        refine Go.step (T' := T166) (g' := (mkF m 147 #[.val (.int p0), .val (.int p1), .val (.int p2), .val (.int (0 : Int32)), .val (.int (1 : Int32)), .val (.int (0 : Int32)), .val (.int (own_pos p1)), .val (.int (own_pos p2)), .val (.ref b156), .val (.int (100 : Int32)), .val (.ref wD), .val (.ref wD), .unset, .unset] [])) (fun _ k => XS.astore X166.here hx rfl (hb hby at_145) rfl rfl (l' := #[.val (.int p0), .val (.int p1), .val (.int p2), .val (.int (0 : Int32)), .val (.int (1 : Int32)), .val (.int (0 : Int32)), .val (.int (own_pos p1)), .val (.int (own_pos p2)), .val (.ref b156), .val (.int (100 : Int32)), .val (.ref wD), .val (.ref wD), .unset, .unset]) rfl k) ?_
        exact own_tail p0 p1 p2 (0 : Int32) (1 : Int32) (0 : Int32) (own_pos p1) (own_pos p2) (100 : Int32) b156 wD wD wL wD X166 hx hZ hw hby hml hown hret hlk e166 N156 Z156 (by decide) (by decide) F159 F160 E156 G156a G156b G156c (own_pos_ge _)
      · skip
        refine Go.step (T' := s₁) (g' := (mkF m 31 #[.val (.int p0), .val (.int p1), .val (.int p2), .val (.int (0 : Int32)), .val (.int (1 : Int32)), .unset, .unset, .unset, .unset, .unset, .unset, .unset, .unset, .unset] [])) (fun _ k => XS.ifNo X0.here hx rfl (hb hby at_28) rfl ((if0 _ _).trans (feq hc142).1) k) ?_
        refine Go.step (T' := s₁) (g' := (mkF m 32 #[.val (.int p0), .val (.int p1), .val (.int p2), .val (.int (0 : Int32)), .val (.int (1 : Int32)), .unset, .unset, .unset, .unset, .unset, .unset, .unset, .unset, .unset] [(.int (1 : Int32))])) (fun _ k => XS.iconst X0.here hx rfl (hb hby at_31) k) ?_
        refine Go.step (T' := s₁) (g' := (mkF m 36 #[.val (.int p0), .val (.int p1), .val (.int p2), .val (.int (0 : Int32)), .val (.int (1 : Int32)), .unset, .unset, .unset, .unset, .unset, .unset, .unset, .unset, .unset] [(.int (1 : Int32))])) (fun _ k => XS.goto X0.here hx rfl (pc0 := 32) (pc' := 36) rfl (hb hby at_32) (by decide) (by decide) k) ?_
        refine Go.step (T' := s₁) (g' := (mkF m 38 #[.val (.int p0), .val (.int p1), .val (.int p2), .val (.int (0 : Int32)), .val (.int (1 : Int32)), .val (.int (1 : Int32)), .unset, .unset, .unset, .unset, .unset, .unset, .unset, .unset] [])) (fun _ k => XS.istore X0.here hx rfl (hb hby at_36) rfl (l' := #[.val (.int p0), .val (.int p1), .val (.int p2), .val (.int (0 : Int32)), .val (.int (1 : Int32)), .val (.int (1 : Int32)), .unset, .unset, .unset, .unset, .unset, .unset, .unset, .unset]) rfl k) ?_
        refine Go.step (T' := s₁) (g' := (mkF m 39 #[.val (.int p0), .val (.int p1), .val (.int p2), .val (.int (0 : Int32)), .val (.int (1 : Int32)), .val (.int (1 : Int32)), .unset, .unset, .unset, .unset, .unset, .unset, .unset, .unset] [(.int p1)])) (fun _ k => XS.iloadN X0.here hx rfl (hb hby at_38) rfl  k) ?_
        obtain ⟨_, _, ⟨T167, L167, k167, n167⟩, -, X167, ⟨Lc167, hQ167, l167, y167, z167⟩, st167⟩ := Jvm.LawKit.callS X0 hx (y := (⟨"com/example/draftd/draftd/odata/ServiceSettingsWithPageSizePinLaw", "positive", "(I)I"⟩ : MethodName)) hown (mvT hZ (hw _ (List.mem_of_getElem? (i := 0) rfl))) (mvT hZ (hw _ (List.mem_of_getElem? (i := 1) rfl))) (mvT hZ (hw _ (List.mem_of_getElem? (i := 2) rfl))) (mvT hZ (hw _ (List.mem_of_getElem? (i := 3) rfl))) (by decide) (backOf (W := 0) (Q := Qret (some (.int (own_pos p1))) h0 n0) (own_rpos l Z a0 hw [] p1 h0 n0 Z0) hZ (hw _ (List.mem_of_getElem? (i := 3) rfl)) (hw _ (List.mem_of_getElem? (i := 2) rfl)) (by decide) (by decide)) (g := (mkF m 39 #[.val (.int p0), .val (.int p1), .val (.int p2), .val (.int (0 : Int32)), .val (.int (1 : Int32)), .val (.int (1 : Int32)), .unset, .unset, .unset, .unset, .unset, .unset, .unset, .unset] [(.int p1)])) rfl (by rw [hml]; rfl) (argsL := [(.int p1)]) (rest := []) (lenOf own_pd4 rfl) rfl (by show 2 * 0 + _ ≤ _; exact Nat.le_of_eq rfl) (hb hby at_39) (fun _ _ => ⟨rfl, e0, (by decide : 0 + 0 ≤ _), (by decide : 0 + 0 ≤ _)⟩)
        dsimp only [Pt.U, Pt.locs, Pt.cells, Pt.slots] at X167 l167 y167 z167 st167 hQ167
        subst l167 y167 z167
        obtain ⟨rfl, N167q, eh167⟩ := hQ167
        have N167 := Fr.app N0 N167q
        refine Go.step (T' := T167) (g' := (mkF m 42 #[.val (.int p0), .val (.int p1), .val (.int p2), .val (.int (0 : Int32)), .val (.int (1 : Int32)), .val (.int (1 : Int32)), .unset, .unset, .unset, .unset, .unset, .unset, .unset, .unset] [(.int (own_pos p1))])) (st167) ?_
        refine Go.step (T' := T167) (g' := (mkF m 44 #[.val (.int p0), .val (.int p1), .val (.int p2), .val (.int (0 : Int32)), .val (.int (1 : Int32)), .val (.int (1 : Int32)), .val (.int (own_pos p1)), .unset, .unset, .unset, .unset, .unset, .unset, .unset] [])) (fun _ k => XS.istore X167.here hx rfl (hb hby at_42) rfl (l' := #[.val (.int p0), .val (.int p1), .val (.int p2), .val (.int (0 : Int32)), .val (.int (1 : Int32)), .val (.int (1 : Int32)), .val (.int (own_pos p1)), .unset, .unset, .unset, .unset, .unset, .unset, .unset]) rfl k) ?_
        refine Go.step (T' := T167) (g' := (mkF m 45 #[.val (.int p0), .val (.int p1), .val (.int p2), .val (.int (0 : Int32)), .val (.int (1 : Int32)), .val (.int (1 : Int32)), .val (.int (own_pos p1)), .unset, .unset, .unset, .unset, .unset, .unset, .unset] [(.int p2)])) (fun _ k => XS.iloadN X167.here hx rfl (hb hby at_44) rfl  k) ?_
        obtain ⟨_, _, ⟨T168, L168, k168, n168⟩, -, X168, ⟨Lc168, hQ168, l168, y168, z168⟩, st168⟩ := Jvm.LawKit.callS X167 hx (y := (⟨"com/example/draftd/draftd/odata/ServiceSettingsWithPageSizePinLaw", "positive", "(I)I"⟩ : MethodName)) hown (mvT hZ (hw _ (List.mem_of_getElem? (i := 0) rfl))) (mvT hZ (hw _ (List.mem_of_getElem? (i := 1) rfl))) (mvT hZ (hw _ (List.mem_of_getElem? (i := 2) rfl))) (mvT hZ (hw _ (List.mem_of_getElem? (i := 3) rfl))) (by decide) (backOf (W := 0) (Q := Qret (some (.int (own_pos p2))) h0 n0) (own_rpos l Z a0 hw [] p2 h0 n0 Z0) hZ (hw _ (List.mem_of_getElem? (i := 3) rfl)) (hw _ (List.mem_of_getElem? (i := 2) rfl)) (by decide) (by decide)) (g := (mkF m 45 #[.val (.int p0), .val (.int p1), .val (.int p2), .val (.int (0 : Int32)), .val (.int (1 : Int32)), .val (.int (1 : Int32)), .val (.int (own_pos p1)), .unset, .unset, .unset, .unset, .unset, .unset, .unset] [(.int p2)])) rfl (by rw [hml]; rfl) (argsL := [(.int p2)]) (rest := []) (lenOf own_pd4 rfl) rfl (by show 2 * 0 + _ ≤ _; exact Nat.le_of_eq rfl) (hb hby at_45) (fun _ _ => ⟨rfl, eh167, (by decide : 0 + 0 ≤ _), (by decide : 0 + 0 ≤ _)⟩)
        dsimp only [Pt.U, Pt.locs, Pt.cells, Pt.slots] at X168 l168 y168 z168 st168 hQ168
        subst l168 y168 z168
        obtain ⟨rfl, N168q, eh168⟩ := hQ168
        have N168 := Fr.app N167 N168q
        refine Go.step (T' := T168) (g' := (mkF m 48 #[.val (.int p0), .val (.int p1), .val (.int p2), .val (.int (0 : Int32)), .val (.int (1 : Int32)), .val (.int (1 : Int32)), .val (.int (own_pos p1)), .unset, .unset, .unset, .unset, .unset, .unset, .unset] [(.int (own_pos p2))])) (st168) ?_
        refine Go.step (T' := T168) (g' := (mkF m 50 #[.val (.int p0), .val (.int p1), .val (.int p2), .val (.int (0 : Int32)), .val (.int (1 : Int32)), .val (.int (1 : Int32)), .val (.int (own_pos p1)), .val (.int (own_pos p2)), .unset, .unset, .unset, .unset, .unset, .unset] [])) (fun _ k => XS.istore X168.here hx rfl (hb hby at_48) rfl (l' := #[.val (.int p0), .val (.int p1), .val (.int p2), .val (.int (0 : Int32)), .val (.int (1 : Int32)), .val (.int (1 : Int32)), .val (.int (own_pos p1)), .val (.int (own_pos p2)), .unset, .unset, .unset, .unset, .unset, .unset]) rfl k) ?_
        obtain ⟨T169, h169, X169, e169, E169, A169, D169, -, st169⟩ := newO X168 hx hZ hown (hw _ (List.mem_of_getElem? (i := 5) rfl)) (hw _ (List.mem_of_getElem? (i := 6) rfl)) (hw _ (List.mem_of_getElem? (i := 7) rfl)) eh168 (g := (mkF m 50 #[.val (.int p0), .val (.int p1), .val (.int p2), .val (.int (0 : Int32)), .val (.int (1 : Int32)), .val (.int (1 : Int32)), .val (.int (own_pos p1)), .val (.int (own_pos p2)), .unset, .unset, .unset, .unset, .unset, .unset] [])) rfl (hb hby at_50) (by decide) (by decide)
        obtain ⟨b169, g169⟩ : ∃ z, z = h0.size := ⟨_, rfl⟩
        rw [← g169] at A169 D169 st169
        have ge169 : n0 ≤ b169 := Nat.le_trans Z0 (Nat.le_of_eq g169.symm)
        have Z169 : n0 ≤ h169.size := Nat.le_trans Z0 E169.1
        have F170 := S0.ext E169
        have F171 := S1.ext E169
        have F172 : Fld Z h169 b169 "com/example/draftd/draftd/odata/ServiceSettings" "lockTimeout" "Ljava/time/Duration;" .null := D169 (Or.inl (hw _ (List.mem_of_getElem? (i := 17) rfl))) (ty := (.object "java/time/Duration")) (by decide)
        have F173 : Fld Z h169 b169 "com/example/draftd/draftd/odata/ServiceSettings" "draftLifetime" "Ljava/time/Duration;" .null := D169 (Or.inl (hw _ (List.mem_of_getElem? (i := 21) rfl))) (ty := (.object "java/time/Duration")) (by decide)
        have F174 : Fld Z h169 b169 "com/example/draftd/draftd/odata/ServiceSettings" "pageSize" "I" (.int (0 : Int32)) := D169 (Or.inl (hw _ (List.mem_of_getElem? (i := 23) rfl))) (ty := .int) (by decide)
        refine Go.step (T' := T169) (g' := (mkF m 53 #[.val (.int p0), .val (.int p1), .val (.int p2), .val (.int (0 : Int32)), .val (.int (1 : Int32)), .val (.int (1 : Int32)), .val (.int (own_pos p1)), .val (.int (own_pos p2)), .unset, .unset, .unset, .unset, .unset, .unset] [(.ref b169)])) st169 ?_
        refine Go.step (T' := T169) (g' := (mkF m 54 #[.val (.int p0), .val (.int p1), .val (.int p2), .val (.int (0 : Int32)), .val (.int (1 : Int32)), .val (.int (1 : Int32)), .val (.int (own_pos p1)), .val (.int (own_pos p2)), .unset, .unset, .unset, .unset, .unset, .unset] [(.ref b169), (.ref b169)])) (fun _ k => XS.dup X169.here hx rfl (hb hby at_53) rfl rfl k) ?_
        obtain ⟨_, _, ⟨T175, L175, k175, n175⟩, -, X175, ⟨Lc175, hQ175, l175, y175, z175⟩, st175⟩ := X169.specialBack hx (y := (⟨"com/example/draftd/draftd/odata/ServiceSettings", "<init>", "()V"⟩ : MethodName)) rfl hown (mvT hZ (hw _ (List.mem_of_getElem? (i := 8) rfl))) (mvT hZ (hw _ (List.mem_of_getElem? (i := 9) rfl))) (mvT hZ (hw _ (List.mem_of_getElem? (i := 10) rfl))) (by decide) (backOf (W := 1) (Q := Qini Z b169 (.ref wL) (.ref wD) 100 h169 n0) (own_ini0 l Z a0 hw [] b169 wL wD (.null) (.null) ((.int (0 : Int32))) h169 n0 Z169 F170 F171 A169 ge169 F172 F173 F174) hZ (hw _ (List.mem_of_getElem? (i := 10) rfl)) (hw _ (List.mem_of_getElem? (i := 7) rfl)) (by decide) (by decide)) (g := (mkF m 54 #[.val (.int p0), .val (.int p1), .val (.int p2), .val (.int (0 : Int32)), .val (.int (1 : Int32)), .val (.int (1 : Int32)), .val (.int (own_pos p1)), .val (.int (own_pos p2)), .unset, .unset, .unset, .unset, .unset, .unset] [(.ref b169), (.ref b169)])) rfl (by rw [hml]; rfl) (Steps.refl _) (a := b169) (argsL := []) (rest := [(.ref b169)]) (lenOf own_pd5 rfl) rfl (by show 2 * 0 + _ ≤ _; exact Nat.le_of_eq rfl) (hb hby at_54) (fun _ _ => ⟨rfl, e169, (by decide : 1 + 0 ≤ _), (by decide : 3 + 0 ≤ _)⟩)
        dsimp only [Pt.U, Pt.locs, Pt.cells, Pt.slots] at X175 l175 y175 z175 st175 hQ175
        subst l175 y175 z175
        obtain ⟨rfl, N175q, K175, G175a, G175b, G175c⟩ := hQ175
        have N175 := Fr.app N168 N175q
        have Z175 : n0 ≤ T175.heap.size := Nat.le_trans Z169 K175.1
        have F176 := own_sta_keep F170 K175 (allS (own_plain A169) all0)
        have F177 := own_sta_keep F171 K175 (allS (own_plain A169) all0)
        have F178 := A169.keep K175
        refine Go.step (T' := T175) (g' := (mkF m 57 #[.val (.int p0), .val (.int p1), .val (.int p2), .val (.int (0 : Int32)), .val (.int (1 : Int32)), .val (.int (1 : Int32)), .val (.int (own_pos p1)), .val (.int (own_pos p2)), .unset, .unset, .unset, .unset, .unset, .unset] [(.ref b169)])) (fun _ k => st175.trans k) ?_
        refine Go.step (T' := T175) (g' := (mkF m 59 #[.val (.int p0), .val (.int p1), .val (.int p2), .val (.int (0 : Int32)), .val (.int (1 : Int32)), .val (.int (1 : Int32)), .val (.int (own_pos p1)), .val (.int (own_pos p2)), .val (.ref b169), .unset, .unset, .unset, .unset, .unset] [])) (fun _ k => XS.astore X175.here hx rfl (hb hby at_57) rfl rfl (l' := #[.val (.int p0), .val (.int p1), .val (.int p2), .val (.int (0 : Int32)), .val (.int (1 : Int32)), .val (.int (1 : Int32)), .val (.int (own_pos p1)), .val (.int (own_pos p2)), .val (.ref b169), .unset, .unset, .unset, .unset, .unset]) rfl k) ?_
        refine Go.step (T' := T175) (g' := (mkF m 61 #[.val (.int p0), .val (.int p1), .val (.int p2), .val (.int (0 : Int32)), .val (.int (1 : Int32)), .val (.int (1 : Int32)), .val (.int (own_pos p1)), .val (.int (own_pos p2)), .val (.ref b169), .unset, .unset, .unset, .unset, .unset] [(.int (1 : Int32))])) (fun _ k => XS.iload X175.here hx rfl (hb hby at_59) rfl  k) ?_
        refine Go.step (T' := T175) (g' := (mkF m 64 #[.val (.int p0), .val (.int p1), .val (.int p2), .val (.int (0 : Int32)), .val (.int (1 : Int32)), .val (.int (1 : Int32)), .val (.int (own_pos p1)), .val (.int (own_pos p2)), .val (.ref b169), .unset, .unset, .unset, .unset, .unset] [])) (fun _ k => XS.ifNo X175.here hx rfl (hb hby at_61) rfl ((if0 _ _).trans (feq (by decide : ¬ ((1 : Int32) = (0 : Int32)))).1) k) ?_
        refine Go.step (T' := T175) (g' := (mkF m 66 #[.val (.int p0), .val (.int p1), .val (.int p2), .val (.int (0 : Int32)), .val (.int (1 : Int32)), .val (.int (1 : Int32)), .val (.int (own_pos p1)), .val (.int (own_pos p2)), .val (.ref b169), .unset, .unset, .unset, .unset, .unset] [(.ref b169)])) (fun _ k => XS.aload X175.here hx rfl (hb hby at_64) rfl rfl k) ?_
        obtain ⟨T179, X179, e179, st179⟩ := getS2 X175 hx hZ hown (host := "") (Or.inl (hw _ (List.mem_of_getElem? (i := 25) rfl))) Via.refl rfl F177 (g := (mkF m 66 #[.val (.int p0), .val (.int p1), .val (.int p2), .val (.int (0 : Int32)), .val (.int (1 : Int32)), .val (.int (1 : Int32)), .val (.int (own_pos p1)), .val (.int (own_pos p2)), .val (.ref b169), .unset, .unset, .unset, .unset, .unset] [(.ref b169)])) rfl (hb hby at_66)
        refine Go.step (T' := T179) (g' := (mkF m 69 #[.val (.int p0), .val (.int p1), .val (.int p2), .val (.int (0 : Int32)), .val (.int (1 : Int32)), .val (.int (1 : Int32)), .val (.int (own_pos p1)), .val (.int (own_pos p2)), .val (.ref b169), .unset, .unset, .unset, .unset, .unset] [(.ref wD), (.ref b169)])) st179 ?_
        obtain ⟨cq180, kq180, q180a, q180b, q180c⟩ := isOf hZ e179 F178
        obtain ⟨_, _, ⟨T180, L180, k180, n180⟩, -, X180, ⟨Lc180, hQ180, l180, y180, z180⟩, st180⟩ := X179.virtualBack hx (y := (⟨"com/example/draftd/draftd/odata/ServiceSettings", "withLockTimeout", "(Ljava/time/Duration;)Lcom/example/draftd/draftd/odata/ServiceSettings;"⟩ : MethodName)) (z := (⟨"com/example/draftd/draftd/odata/ServiceSettings", "withLockTimeout", "(Ljava/time/Duration;)Lcom/example/draftd/draftd/odata/ServiceSettings;"⟩ : MethodName)) hown (mvT hZ (hw _ (List.mem_of_getElem? (i := 55) rfl))) (mvT hZ (hw _ (List.mem_of_getElem? (i := 56) rfl))) (notFace_of_selects (args := #[]) (mvT hZ (hw _ (List.mem_of_getElem? (i := 58) rfl)))) (mvT hZ (hw _ (List.mem_of_getElem? (i := 58) rfl))) (mvT hZ (hw _ (List.mem_of_getElem? (i := 57) rfl))) (by decide) (backOf (W := 0) (Q := Qwith Z (.ref wD) (.ref wD) 100 T175.heap n0) (own_withLockTimeout l Z a0 hw [] b169 wD wL wD wL wD 100 T175.heap n0 Z175 F176 F177 F178 G175a G175b G175c ) hZ (hw _ (List.mem_of_getElem? (i := 59) rfl)) (hw _ (List.mem_of_getElem? (i := 7) rfl)) (by decide) (by decide)) q180a q180c (g := (mkF m 69 #[.val (.int p0), .val (.int p1), .val (.int p2), .val (.int (0 : Int32)), .val (.int (1 : Int32)), .val (.int (1 : Int32)), .val (.int (own_pos p1)), .val (.int (own_pos p2)), .val (.ref b169), .unset, .unset, .unset, .unset, .unset] [(.ref wD), (.ref b169)])) rfl (by rw [hml]; rfl) (Steps.refl _) (argsL := [(.ref wD)]) (rest := []) (lenOf own_pd6 rfl) rfl (by show 2 * 0 + _ ≤ _; exact Nat.le_of_eq rfl) (hb hby at_69) (fun _ _ => ⟨rfl, e179, (by decide : 1 + 1 ≤ _), (by decide : 3 + 3 ≤ _)⟩)
        dsimp only [Pt.U, Pt.locs, Pt.cells, Pt.slots] at X180 l180 y180 z180 st180 hQ180
        subst l180 y180 z180
        obtain ⟨b180, rfl, N180q, K180, sz180, E180, G180a, G180b, G180c⟩ := hQ180
        have N180 := Fr.app N175 N180q
        have ne181 : b169 ≠ b180 := Nat.ne_of_lt (Nat.lt_of_lt_of_le F178.lt sz180)
        have ge182 : n0 ≤ b180 := Nat.le_trans Z175 sz180
        have Z180 : n0 ≤ T180.heap.size := Nat.le_trans Z175 K180.1
        have F183 := own_sta_keep F176 K180 all0
        have F184 := own_sta_keep F177 K180 all0
        have F185 := F178.keep K180
        have F186 := G175a.keep K180 nin0
        have F187 := G175b.keep K180 nin0
        have F188 := G175c.keep K180 nin0
        refine Go.step (T' := T180) (g' := (mkF m 72 #[.val (.int p0), .val (.int p1), .val (.int p2), .val (.int (0 : Int32)), .val (.int (1 : Int32)), .val (.int (1 : Int32)), .val (.int (own_pos p1)), .val (.int (own_pos p2)), .val (.ref b169), .unset, .unset, .unset, .unset, .unset] [(.ref b180)])) (fun _ k => st180.trans k) ?_
        refine Go.step (T' := T180) (g' := (mkF m 74 #[.val (.int p0), .val (.int p1), .val (.int p2), .val (.int (0 : Int32)), .val (.int (1 : Int32)), .val (.int (1 : Int32)), .val (.int (own_pos p1)), .val (.int (own_pos p2)), .val (.ref b180), .unset, .unset, .unset, .unset, .unset] [])) (fun _ k => XS.astore X180.here hx rfl (hb hby at_72) rfl rfl (l' := #[.val (.int p0), .val (.int p1), .val (.int p2), .val (.int (0 : Int32)), .val (.int (1 : Int32)), .val (.int (1 : Int32)), .val (.int (own_pos p1)), .val (.int (own_pos p2)), .val (.ref b180), .unset, .unset, .unset, .unset, .unset]) rfl k) ?_
        refine Go.step (T' := T180) (g' := (mkF m 76 #[.val (.int p0), .val (.int p1), .val (.int p2), .val (.int (0 : Int32)), .val (.int (1 : Int32)), .val (.int (1 : Int32)), .val (.int (own_pos p1)), .val (.int (own_pos p2)), .val (.ref b180), .unset, .unset, .unset, .unset, .unset] [(.int (1 : Int32))])) (fun _ k => XS.iload X180.here hx rfl (hb hby at_74) rfl  k) ?_
        refine Go.step (T' := T180) (g' := (mkF m 79 #[.val (.int p0), .val (.int p1), .val (.int p2), .val (.int (0 : Int32)), .val (.int (1 : Int32)), .val (.int (1 : Int32)), .val (.int (own_pos p1)), .val (.int (own_pos p2)), .val (.ref b180), .unset, .unset, .unset, .unset, .unset] [])) (fun _ k => XS.ifNo X180.here hx rfl (hb hby at_76) rfl ((if0 _ _).trans (feq (by decide : ¬ ((1 : Int32) = (0 : Int32)))).1) k) ?_
        refine Go.step (T' := T180) (g' := (mkF m 81 #[.val (.int p0), .val (.int p1), .val (.int p2), .val (.int (0 : Int32)), .val (.int (1 : Int32)), .val (.int (1 : Int32)), .val (.int (own_pos p1)), .val (.int (own_pos p2)), .val (.ref b180), .unset, .unset, .unset, .unset, .unset] [(.ref b180)])) (fun _ k => XS.aload X180.here hx rfl (hb hby at_79) rfl rfl k) ?_
        obtain ⟨T189, X189, e189, st189⟩ := getS2 X180 hx hZ hown (host := "") (Or.inl (hw _ (List.mem_of_getElem? (i := 24) rfl))) Via.refl rfl F183 (g := (mkF m 81 #[.val (.int p0), .val (.int p1), .val (.int p2), .val (.int (0 : Int32)), .val (.int (1 : Int32)), .val (.int (1 : Int32)), .val (.int (own_pos p1)), .val (.int (own_pos p2)), .val (.ref b180), .unset, .unset, .unset, .unset, .unset] [(.ref b180)])) rfl (hb hby at_81)
        refine Go.step (T' := T189) (g' := (mkF m 84 #[.val (.int p0), .val (.int p1), .val (.int p2), .val (.int (0 : Int32)), .val (.int (1 : Int32)), .val (.int (1 : Int32)), .val (.int (own_pos p1)), .val (.int (own_pos p2)), .val (.ref b180), .unset, .unset, .unset, .unset, .unset] [(.ref wL), (.ref b180)])) st189 ?_
        obtain ⟨cq190, kq190, q190a, q190b, q190c⟩ := isOf hZ e189 E180
        obtain ⟨_, _, ⟨T190, L190, k190, n190⟩, -, X190, ⟨Lc190, hQ190, l190, y190, z190⟩, st190⟩ := X189.virtualBack hx (y := (⟨"com/example/draftd/draftd/odata/ServiceSettings", "withDraftLifetime", "(Ljava/time/Duration;)Lcom/example/draftd/draftd/odata/ServiceSettings;"⟩ : MethodName)) (z := (⟨"com/example/draftd/draftd/odata/ServiceSettings", "withDraftLifetime", "(Ljava/time/Duration;)Lcom/example/draftd/draftd/odata/ServiceSettings;"⟩ : MethodName)) hown (mvT hZ (hw _ (List.mem_of_getElem? (i := 50) rfl))) (mvT hZ (hw _ (List.mem_of_getElem? (i := 51) rfl))) (notFace_of_selects (args := #[]) (mvT hZ (hw _ (List.mem_of_getElem? (i := 53) rfl)))) (mvT hZ (hw _ (List.mem_of_getElem? (i := 53) rfl))) (mvT hZ (hw _ (List.mem_of_getElem? (i := 52) rfl))) (by decide) (backOf (W := 0) (Q := Qwith Z (.ref wD) (.ref wL) 100 T180.heap n0) (own_withDraftLifetime l Z a0 hw [] b180 wL wL wD wD wD 100 T180.heap n0 Z180 F183 F184 E180 G180a G180b G180c ) hZ (hw _ (List.mem_of_getElem? (i := 54) rfl)) (hw _ (List.mem_of_getElem? (i := 7) rfl)) (by decide) (by decide)) q190a q190c (g := (mkF m 84 #[.val (.int p0), .val (.int p1), .val (.int p2), .val (.int (0 : Int32)), .val (.int (1 : Int32)), .val (.int (1 : Int32)), .val (.int (own_pos p1)), .val (.int (own_pos p2)), .val (.ref b180), .unset, .unset, .unset, .unset, .unset] [(.ref wL), (.ref b180)])) rfl (by rw [hml]; rfl) (Steps.refl _) (argsL := [(.ref wL)]) (rest := []) (lenOf own_pd6 rfl) rfl (by show 2 * 0 + _ ≤ _; exact Nat.le_of_eq rfl) (hb hby at_84) (fun _ _ => ⟨rfl, e189, (by decide : 2 + 1 ≤ _), (by decide : 6 + 3 ≤ _)⟩)
        dsimp only [Pt.U, Pt.locs, Pt.cells, Pt.slots] at X190 l190 y190 z190 st190 hQ190
        subst l190 y190 z190
        obtain ⟨b190, rfl, N190q, K190, sz190, E190, G190a, G190b, G190c⟩ := hQ190
        have N190 := Fr.app N180 N190q
        have ne191 : b169 ≠ b190 := Nat.ne_of_lt (Nat.lt_of_lt_of_le F185.lt sz190)
        have ne192 : b180 ≠ b190 := Nat.ne_of_lt (Nat.lt_of_lt_of_le G180a.lt sz190)
        have ge193 : n0 ≤ b190 := Nat.le_trans Z180 sz190
        have Z190 : n0 ≤ T190.heap.size := Nat.le_trans Z180 K190.1
        have F194 := own_sta_keep F183 K190 all0
        have F195 := own_sta_keep F184 K190 all0
        have F196 := F185.keep K190
        have F197 := F186.keep K190 nin0
        have F198 := F187.keep K190 nin0
        have F199 := F188.keep K190 nin0
        have F200 := G180a.keep K190 nin0
        have F201 := G180b.keep K190 nin0
        have F202 := G180c.keep K190 nin0
        have F203 := E180.keep K190
        refine Go.step (T' := T190) (g' := (mkF m 87 #[.val (.int p0), .val (.int p1), .val (.int p2), .val (.int (0 : Int32)), .val (.int (1 : Int32)), .val (.int (1 : Int32)), .val (.int (own_pos p1)), .val (.int (own_pos p2)), .val (.ref b180), .unset, .unset, .unset, .unset, .unset] [(.ref b190)])) (fun _ k => st190.trans k) ?_
        refine Go.step (T' := T190) (g' := (mkF m 89 #[.val (.int p0), .val (.int p1), .val (.int p2), .val (.int (0 : Int32)), .val (.int (1 : Int32)), .val (.int (1 : Int32)), .val (.int (own_pos p1)), .val (.int (own_pos p2)), .val (.ref b190), .unset, .unset, .unset, .unset, .unset] [])) (fun _ k => XS.astore X190.here hx rfl (hb hby at_87) rfl rfl (l' := #[.val (.int p0), .val (.int p1), .val (.int p2), .val (.int (0 : Int32)), .val (.int (1 : Int32)), .val (.int (1 : Int32)), .val (.int (own_pos p1)), .val (.int (own_pos p2)), .val (.ref b190), .unset, .unset, .unset, .unset, .unset]) rfl k) ?_
        refine Go.step (T' := T190) (g' := (mkF m 90 #[.val (.int p0), .val (.int p1), .val (.int p2), .val (.int (0 : Int32)), .val (.int (1 : Int32)), .val (.int (1 : Int32)), .val (.int (own_pos p1)), .val (.int (own_pos p2)), .val (.ref b190), .unset, .unset, .unset, .unset, .unset] [(.int (0 : Int32))])) (fun _ k => XS.iloadN X190.here hx rfl (hb hby at_89) rfl  k) ?_
        refine Go.step (T' := T190) (g' := (mkF m 102 #[.val (.int p0), .val (.int p1), .val (.int p2), .val (.int (0 : Int32)), .val (.int (1 : Int32)), .val (.int (1 : Int32)), .val (.int (own_pos p1)), .val (.int (own_pos p2)), .val (.ref b190), .unset, .unset, .unset, .unset, .unset] [])) (fun _ k => XS.ifYes X190.here hx rfl (pc0 := 90) (pc' := 102) rfl (hb hby at_90) rfl ((if0 _ _).trans (teq (by decide : (0 : Int32) = (0 : Int32))).1) (by decide) (by decide) k) ?_
        refine Go.step (T' := T190) (g' := (mkF m 103 #[.val (.int p0), .val (.int p1), .val (.int p2), .val (.int (0 : Int32)), .val (.int (1 : Int32)), .val (.int (1 : Int32)), .val (.int (own_pos p1)), .val (.int (own_pos p2)), .val (.ref b190), .unset, .unset, .unset, .unset, .unset] [(.int (0 : Int32))])) (fun _ k => XS.iloadN X190.here hx rfl (hb hby at_102) rfl  k) ?_
        refine Go.step (T' := T190) (g' := (mkF m 111 #[.val (.int p0), .val (.int p1), .val (.int p2), .val (.int (0 : Int32)), .val (.int (1 : Int32)), .val (.int (1 : Int32)), .val (.int (own_pos p1)), .val (.int (own_pos p2)), .val (.ref b190), .unset, .unset, .unset, .unset, .unset] [])) (fun _ k => XS.ifYes X190.here hx rfl (pc0 := 103) (pc' := 111) rfl (hb hby at_103) rfl ((if0 _ _).trans (teq (by decide : (0 : Int32) = (0 : Int32))).1) (by decide) (by decide) k) ?_
        refine Go.step (T' := T190) (g' := (mkF m 113 #[.val (.int p0), .val (.int p1), .val (.int p2), .val (.int (0 : Int32)), .val (.int (1 : Int32)), .val (.int (1 : Int32)), .val (.int (own_pos p1)), .val (.int (own_pos p2)), .val (.ref b190), .unset, .unset, .unset, .unset, .unset] [(.int (100 : Int32))])) (fun _ k => XS.bipush X190.here hx rfl (hb hby at_111) k) ?_
        refine Go.step (T' := T190) (g' := (mkF m 115 #[.val (.int p0), .val (.int p1), .val (.int p2), .val (.int (0 : Int32)), .val (.int (1 : Int32)), .val (.int (1 : Int32)), .val (.int (own_pos p1)), .val (.int (own_pos p2)), .val (.ref b190), .val (.int (100 : Int32)), .unset, .unset, .unset, .unset] [])) (fun _ k => XS.istore X190.here hx rfl (hb hby at_113) rfl (l' := #[.val (.int p0), .val (.int p1), .val (.int p2), .val (.int (0 : Int32)), .val (.int (1 : Int32)), .val (.int (1 : Int32)), .val (.int (own_pos p1)), .val (.int (own_pos p2)), .val (.ref b190), .val (.int (100 : Int32)), .unset, .unset, .unset, .unset]) rfl k) ?_
        refine Go.step (T' := T190) (g' := (mkF m 117 #[.val (.int p0), .val (.int p1), .val (.int p2), .val (.int (0 : Int32)), .val (.int (1 : Int32)), .val (.int (1 : Int32)), .val (.int (own_pos p1)), .val (.int (own_pos p2)), .val (.ref b190), .val (.int (100 : Int32)), .unset, .unset, .unset, .unset] [(.int (1 : Int32))])) (fun _ k => XS.iload X190.here hx rfl (hb hby at_115) rfl  k) ?_
        refine Go.step (T' := T190) (g' := (mkF m 120 #[.val (.int p0), .val (.int p1), .val (.int p2), .val (.int (0 : Int32)), .val (.int (1 : Int32)), .val (.int (1 : Int32)), .val (.int (own_pos p1)), .val (.int (own_pos p2)), .val (.ref b190), .val (.int (100 : Int32)), .unset, .unset, .unset, .unset] [])) (fun _ k => XS.ifNo X190.here hx rfl (hb hby at_117) rfl ((if0 _ _).trans (feq (by decide : ¬ ((1 : Int32) = (0 : Int32)))).1) k) ?_
        obtain ⟨T204, X204, e204, st204⟩ := getS2 X190 hx hZ hown (host := "") (Or.inl (hw _ (List.mem_of_getElem? (i := 25) rfl))) Via.refl rfl F195 (g := (mkF m 120 #[.val (.int p0), .val (.int p1), .val (.int p2), .val (.int (0 : Int32)), .val (.int (1 : Int32)), .val (.int (1 : Int32)), .val (.int (own_pos p1)), .val (.int (own_pos p2)), .val (.ref b190), .val (.int (100 : Int32)), .unset, .unset, .unset, .unset] [])) rfl (hb hby at_120)
        refine Go.step (T' := T204) (g' := (mkF m 123 #[.val (.int p0), .val (.int p1), .val (.int p2), .val (.int (0 : Int32)), .val (.int (1 : Int32)), .val (.int (1 : Int32)), .val (.int (own_pos p1)), .val (.int (own_pos p2)), .val (.ref b190), .val (.int (100 : Int32)), .unset, .unset, .unset, .unset] [(.ref wD)])) st204 ?_
        refine Go.step (T' := T204) (g' := (mkF m 129 #[.val (.int p0), .val (.int p1), .val (.int p2), .val (.int (0 : Int32)), .val (.int (1 : Int32)), .val (.int (1 : Int32)), .val (.int (own_pos p1)), .val (.int (own_pos p2)), .val (.ref b190), .val (.int (100 : Int32)), .unset, .unset, .unset, .unset] [(.ref wD)])) (fun _ k => XS.goto X204.here hx rfl (pc0 := 123) (pc' := 129) rfl (hb hby at_123) (by decide) (by decide) k) ?_
        refine Go.step (T' := T204) (g' := (mkF m 131 #[.val (.int p0), .val (.int p1), .val (.int p2), .val (.int (0 : Int32)), .val (.int (1 : Int32)), .val (.int (1 : Int32)), .val (.int (own_pos p1)), .val (.int (own_pos p2)), .val (.ref b190), .val (.int (100 : Int32)), .val (.ref wD), .unset, .unset, .unset] [])) (fun _ k => XS.astore X204.here hx rfl (hb hby at_129) rfl rfl (l' := #[.val (.int p0), .val (.int p1), .val (.int p2), .val (.int (0 : Int32)), .val (.int (1 : Int32)), .val (.int (1 : Int32)), .val (.int (own_pos p1)), .val (.int (own_pos p2)), .val (.ref b190), .val (.int (100 : Int32)), .val (.ref wD), .unset, .unset, .unset]) rfl k) ?_
        refine Go.step (T' := T204) (g' := (mkF m 133 #[.val (.int p0), .val (.int p1), .val (.int p2), .val (.int (0 : Int32)), .val (.int (1 : Int32)), .val (.int (1 : Int32)), .val (.int (own_pos p1)), .val (.int (own_pos p2)), .val (.ref b190), .val (.int (100 : Int32)), .val (.ref wD), .unset, .unset, .unset] [(.int (1 : Int32))])) (fun _ k => XS.iload X204.here hx rfl (hb hby at_131) rfl  k) ?_
        refine Go.step (T' := T204) (g' := (mkF m 136 #[.val (.int p0), .val (.int p1), .val (.int p2), .val (.int (0 : Int32)), .val (.int (1 : Int32)), .val (.int (1 : Int32)), .val (.int (own_pos p1)), .val (.int (own_pos p2)), .val (.ref b190), .val (.int (100 : Int32)), .val (.ref wD), .unset, .unset, .unset] [])) (fun _ k => XS.ifNo X204.here hx rfl (hb hby at_133) rfl ((if0 _ _).trans (feq (by decide : ¬ ((1 : Int32) = (0 : Int32)))).1) k) ?_
        obtain ⟨T205, X205, e205, st205⟩ := getS2 X204 hx hZ hown (host := "") (Or.inl (hw _ (List.mem_of_getElem? (i := 24) rfl))) Via.refl e204 F194 (g := (mkF m 136 #[.val (.int p0), .val (.int p1), .val (.int p2), .val (.int (0 : Int32)), .val (.int (1 : Int32)), .val (.int (1 : Int32)), .val (.int (own_pos p1)), .val (.int (own_pos p2)), .val (.ref b190), .val (.int (100 : Int32)), .val (.ref wD), .unset, .unset, .unset] [])) rfl (hb hby at_136)
        refine Go.step (T' := T205) (g' := (mkF m 139 #[.val (.int p0), .val (.int p1), .val (.int p2), .val (.int (0 : Int32)), .val (.int (1 : Int32)), .val (.int (1 : Int32)), .val (.int (own_pos p1)), .val (.int (own_pos p2)), .val (.ref b190), .val (.int (100 : Int32)), .val (.ref wD), .unset, .unset, .unset] [(.ref wL)])) st205 ?_
        refine Go.step (T' := T205) (g' := (mkF m 145 #[.val (.int p0), .val (.int p1), .val (.int p2), .val (.int (0 : Int32)), .val (.int (1 : Int32)), .val (.int (1 : Int32)), .val (.int (own_pos p1)), .val (.int (own_pos p2)), .val (.ref b190), .val (.int (100 : Int32)), .val (.ref wD), .unset, .unset, .unset] [(.ref wL)])) (fun _ k => XS.goto X205.here hx rfl (pc0 := 139) (pc' := 145) rfl (hb hby at_139) (by decide) (by decide) k) ?_
        refine Go.step (T' := T205) (g' := (mkF m 147 #[.val (.int p0), .val (.int p1), .val (.int p2), .val (.int (0 : Int32)), .val (.int (1 : Int32)), .val (.int (1 : Int32)), .val (.int (own_pos p1)), .val (.int (own_pos p2)), .val (.ref b190), .val (.int (100 : Int32)), .val (.ref wD), .val (.ref wL), .unset, .unset] [])) (fun _ k => XS.astore X205.here hx rfl (hb hby at_145) rfl rfl (l' := #[.val (.int p0), .val (.int p1), .val (.int p2), .val (.int (0 : Int32)), .val (.int (1 : Int32)), .val (.int (1 : Int32)), .val (.int (own_pos p1)), .val (.int (own_pos p2)), .val (.ref b190), .val (.int (100 : Int32)), .val (.ref wD), .val (.ref wL), .unset, .unset]) rfl k) ?_
        exact own_tail p0 p1 p2 (0 : Int32) (1 : Int32) (1 : Int32) (own_pos p1) (own_pos p2) (100 : Int32) b190 wD wL wL wD X205 hx hZ hw hby hml hown hret hlk e205 N190 Z190 (by decide) (by decide) F194 F195 E190 G190a G190b G190c (own_pos_ge _)
  · skip
    refine Go.step (T' := s₁) (g' := (mkF m 6 #[.val (.int p0), .val (.int p1), .val (.int p2), .unset, .unset, .unset, .unset, .unset, .unset, .unset, .unset, .unset, .unset, .unset] [])) (fun _ k => XS.ifNo X0.here hx rfl (hb hby at_3) rfl ((if0 _ _).trans (feq hc101).1) k) ?_
    refine Go.step (T' := s₁) (g' := (mkF m 7 #[.val (.int p0), .val (.int p1), .val (.int p2), .unset, .unset, .unset, .unset, .unset, .unset, .unset, .unset, .unset, .unset, .unset] [(.int (1 : Int32))])) (fun _ k => XS.iconst X0.here hx rfl (hb hby at_6) k) ?_
    refine Go.step (T' := s₁) (g' := (mkF m 11 #[.val (.int p0), .val (.int p1), .val (.int p2), .unset, .unset, .unset, .unset, .unset, .unset, .unset, .unset, .unset, .unset, .unset] [(.int (1 : Int32))])) (fun _ k => XS.goto X0.here hx rfl (pc0 := 7) (pc' := 11) rfl (hb hby at_7) (by decide) (by decide) k) ?_
    refine Go.step (T' := s₁) (g' := (mkF m 12 #[.val (.int p0), .val (.int p1), .val (.int p2), .val (.int (1 : Int32)), .unset, .unset, .unset, .unset, .unset, .unset, .unset, .unset, .unset, .unset] [])) (fun _ k => XS.istoreN X0.here hx rfl (hb hby at_11) rfl (l' := #[.val (.int p0), .val (.int p1), .val (.int p2), .val (.int (1 : Int32)), .unset, .unset, .unset, .unset, .unset, .unset, .unset, .unset, .unset, .unset]) rfl k) ?_
    refine Go.step (T' := s₁) (g' := (mkF m 13 #[.val (.int p0), .val (.int p1), .val (.int p2), .val (.int (1 : Int32)), .unset, .unset, .unset, .unset, .unset, .unset, .unset, .unset, .unset, .unset] [(.int p0)])) (fun _ k => XS.iloadN X0.here hx rfl (hb hby at_12) rfl  k) ?_
    refine Go.step (T' := s₁) (g' := (mkF m 14 #[.val (.int p0), .val (.int p1), .val (.int p2), .val (.int (1 : Int32)), .unset, .unset, .unset, .unset, .unset, .unset, .unset, .unset, .unset, .unset] [(.int (2 : Int32)), (.int p0)])) (fun _ k => XS.iconst X0.here hx rfl (hb hby at_13) k) ?_
    refine Go.step (T' := s₁) (g' := (mkF m 15 #[.val (.int p0), .val (.int p1), .val (.int p2), .val (.int (1 : Int32)), .unset, .unset, .unset, .unset, .unset, .unset, .unset, .unset, .unset, .unset] [(.int (p0 &&& (2 : Int32)))])) (fun _ k => XS.iand X0.here hx rfl (hb hby at_14) rfl k) ?_
    by_cases hc206 : (p0 &&& (2 : Int32)) = (0 : Int32)
    · skip
      refine Go.step (T' := s₁) (g' := (mkF m 22 #[.val (.int p0), .val (.int p1), .val (.int p2), .val (.int (1 : Int32)), .unset, .unset, .unset, .unset, .unset, .unset, .unset, .unset, .unset, .unset] [])) (fun _ k => XS.ifYes X0.here hx rfl (pc0 := 15) (pc' := 22) rfl (hb hby at_15) rfl ((if0 _ _).trans (teq hc206).1) (by decide) (by decide) k) ?_
      refine Go.step (T' := s₁) (g' := (mkF m 23 #[.val (.int p0), .val (.int p1), .val (.int p2), .val (.int (1 : Int32)), .unset, .unset, .unset, .unset, .unset, .unset, .unset, .unset, .unset, .unset] [(.int (0 : Int32))])) (fun _ k => XS.iconst X0.here hx rfl (hb hby at_22) k) ?_
      refine Go.step (T' := s₁) (g' := (mkF m 25 #[.val (.int p0), .val (.int p1), .val (.int p2), .val (.int (1 : Int32)), .val (.int (0 : Int32)), .unset, .unset, .unset, .unset, .unset, .unset, .unset, .unset, .unset] [])) (fun _ k => XS.istore X0.here hx rfl (hb hby at_23) rfl (l' := #[.val (.int p0), .val (.int p1), .val (.int p2), .val (.int (1 : Int32)), .val (.int (0 : Int32)), .unset, .unset, .unset, .unset, .unset, .unset, .unset, .unset, .unset]) rfl k) ?_
      refine Go.step (T' := s₁) (g' := (mkF m 26 #[.val (.int p0), .val (.int p1), .val (.int p2), .val (.int (1 : Int32)), .val (.int (0 : Int32)), .unset, .unset, .unset, .unset, .unset, .unset, .unset, .unset, .unset] [(.int p0)])) (fun _ k => XS.iloadN X0.here hx rfl (hb hby at_25) rfl  k) ?_
      refine Go.step (T' := s₁) (g' := (mkF m 27 #[.val (.int p0), .val (.int p1), .val (.int p2), .val (.int (1 : Int32)), .val (.int (0 : Int32)), .unset, .unset, .unset, .unset, .unset, .unset, .unset, .unset, .unset] [(.int (4 : Int32)), (.int p0)])) (fun _ k => XS.iconst X0.here hx rfl (hb hby at_26) k) ?_
      refine Go.step (T' := s₁) (g' := (mkF m 28 #[.val (.int p0), .val (.int p1), .val (.int p2), .val (.int (1 : Int32)), .val (.int (0 : Int32)), .unset, .unset, .unset, .unset, .unset, .unset, .unset, .unset, .unset] [(.int (p0 &&& (4 : Int32)))])) (fun _ k => XS.iand X0.here hx rfl (hb hby at_27) rfl k) ?_
      by_cases hc207 : (p0 &&& (4 : Int32)) = (0 : Int32)
      · skip
        refine Go.step (T' := s₁) (g' := (mkF m 35 #[.val (.int p0), .val (.int p1), .val (.int p2), .val (.int (1 : Int32)), .val (.int (0 : Int32)), .unset, .unset, .unset, .unset, .unset, .unset, .unset, .unset, .unset] [])) (fun _ k => XS.ifYes X0.here hx rfl (pc0 := 28) (pc' := 35) rfl (hb hby at_28) rfl ((if0 _ _).trans (teq hc207).1) (by decide) (by decide) k) ?_
        refine Go.step (T' := s₁) (g' := (mkF m 36 #[.val (.int p0), .val (.int p1), .val (.int p2), .val (.int (1 : Int32)), .val (.int (0 : Int32)), .unset, .unset, .unset, .unset, .unset, .unset, .unset, .unset, .unset] [(.int (0 : Int32))])) (fun _ k => XS.iconst X0.here hx rfl (hb hby at_35) k) ?_
        refine Go.step (T' := s₁) (g' := (mkF m 38 #[.val (.int p0), .val (.int p1), .val (.int p2), .val (.int (1 : Int32)), .val (.int (0 : Int32)), .val (.int (0 : Int32)), .unset, .unset, .unset, .unset, .unset, .unset, .unset, .unset] [])) (fun _ k => XS.istore X0.here hx rfl (hb hby at_36) rfl (l' := #[.val (.int p0), .val (.int p1), .val (.int p2), .val (.int (1 : Int32)), .val (.int (0 : Int32)), .val (.int (0 : Int32)), .unset, .unset, .unset, .unset, .unset, .unset, .unset, .unset]) rfl k) ?_
        refine Go.step (T' := s₁) (g' := (mkF m 39 #[.val (.int p0), .val (.int p1), .val (.int p2), .val (.int (1 : Int32)), .val (.int (0 : Int32)), .val (.int (0 : Int32)), .unset, .unset, .unset, .unset, .unset, .unset, .unset, .unset] [(.int p1)])) (fun _ k => XS.iloadN X0.here hx rfl (hb hby at_38) rfl  k) ?_
        obtain ⟨_, _, ⟨T208, L208, k208, n208⟩, -, X208, ⟨Lc208, hQ208, l208, y208, z208⟩, st208⟩ := Jvm.LawKit.callS X0 hx (y := (⟨"com/example/draftd/draftd/odata/ServiceSettingsWithPageSizePinLaw", "positive", "(I)I"⟩ : MethodName)) hown (mvT hZ (hw _ (List.mem_of_getElem? (i := 0) rfl))) (mvT hZ (hw _ (List.mem_of_getElem? (i := 1) rfl))) (mvT hZ (hw _ (List.mem_of_getElem? (i := 2) rfl))) (mvT hZ (hw _ (List.mem_of_getElem? (i := 3) rfl))) (by decide) (backOf (W := 0) (Q := Qret (some (.int (own_pos p1))) h0 n0) (own_rpos l Z a0 hw [] p1 h0 n0 Z0) hZ (hw _ (List.mem_of_getElem? (i := 3) rfl)) (hw _ (List.mem_of_getElem? (i := 2) rfl)) (by decide) (by decide)) (g := (mkF m 39 #[.val (.int p0), .val (.int p1), .val (.int p2), .val (.int (1 : Int32)), .val (.int (0 : Int32)), .val (.int (0 : Int32)), .unset, .unset, .unset, .unset, .unset, .unset, .unset, .unset] [(.int p1)])) rfl (by rw [hml]; rfl) (argsL := [(.int p1)]) (rest := []) (lenOf own_pd4 rfl) rfl (by show 2 * 0 + _ ≤ _; exact Nat.le_of_eq rfl) (hb hby at_39) (fun _ _ => ⟨rfl, e0, (by decide : 0 + 0 ≤ _), (by decide : 0 + 0 ≤ _)⟩)
        dsimp only [Pt.U, Pt.locs, Pt.cells, Pt.slots] at X208 l208 y208 z208 st208 hQ208
        subst l208 y208 z208
        obtain ⟨rfl, N208q, eh208⟩ := hQ208
        have N208 := Fr.app N0 N208q
        refine Go.step (T' := T208) (g' := (mkF m 42 #[.val (.int p0), .val (.int p1), .val (.int p2), .val (.int (1 : Int32)), .val (.int (0 : Int32)), .val (.int (0 : Int32)), .unset, .unset, .unset, .unset, .unset, .unset, .unset, .unset] [(.int (own_pos p1))])) (st208) ?_
        refine Go.step (T' := T208) (g' := (mkF m 44 #[.val (.int p0), .val (.int p1), .val (.int p2), .val (.int (1 : Int32)), .val (.int (0 : Int32)), .val (.int (0 : Int32)), .val (.int (own_pos p1)), .unset, .unset, .unset, .unset, .unset, .unset, .unset] [])) (fun _ k => XS.istore X208.here hx rfl (hb hby at_42) rfl (l' := #[.val (.int p0), .val (.int p1), .val (.int p2), .val (.int (1 : Int32)), .val (.int (0 : Int32)), .val (.int (0 : Int32)), .val (.int (own_pos p1)), .unset, .unset, .unset, .unset, .unset, .unset, .unset]) rfl k) ?_
        refine Go.step (T' := T208) (g' := (mkF m 45 #[.val (.int p0), .val (.int p1), .val (.int p2), .val (.int (1 : Int32)), .val (.int (0 : Int32)), .val (.int (0 : Int32)), .val (.int (own_pos p1)), .unset, .unset, .unset, .unset, .unset, .unset, .unset] [(.int p2)])) (fun _ k => XS.iloadN X208.here hx rfl (hb hby at_44) rfl  k) ?_
        obtain ⟨_, _, ⟨T209, L209, k209, n209⟩, -, X209, ⟨Lc209, hQ209, l209, y209, z209⟩, st209⟩ := Jvm.LawKit.callS X208 hx (y := (⟨"com/example/draftd/draftd/odata/ServiceSettingsWithPageSizePinLaw", "positive", "(I)I"⟩ : MethodName)) hown (mvT hZ (hw _ (List.mem_of_getElem? (i := 0) rfl))) (mvT hZ (hw _ (List.mem_of_getElem? (i := 1) rfl))) (mvT hZ (hw _ (List.mem_of_getElem? (i := 2) rfl))) (mvT hZ (hw _ (List.mem_of_getElem? (i := 3) rfl))) (by decide) (backOf (W := 0) (Q := Qret (some (.int (own_pos p2))) h0 n0) (own_rpos l Z a0 hw [] p2 h0 n0 Z0) hZ (hw _ (List.mem_of_getElem? (i := 3) rfl)) (hw _ (List.mem_of_getElem? (i := 2) rfl)) (by decide) (by decide)) (g := (mkF m 45 #[.val (.int p0), .val (.int p1), .val (.int p2), .val (.int (1 : Int32)), .val (.int (0 : Int32)), .val (.int (0 : Int32)), .val (.int (own_pos p1)), .unset, .unset, .unset, .unset, .unset, .unset, .unset] [(.int p2)])) rfl (by rw [hml]; rfl) (argsL := [(.int p2)]) (rest := []) (lenOf own_pd4 rfl) rfl (by show 2 * 0 + _ ≤ _; exact Nat.le_of_eq rfl) (hb hby at_45) (fun _ _ => ⟨rfl, eh208, (by decide : 0 + 0 ≤ _), (by decide : 0 + 0 ≤ _)⟩)
        dsimp only [Pt.U, Pt.locs, Pt.cells, Pt.slots] at X209 l209 y209 z209 st209 hQ209
        subst l209 y209 z209
        obtain ⟨rfl, N209q, eh209⟩ := hQ209
        have N209 := Fr.app N208 N209q
        refine Go.step (T' := T209) (g' := (mkF m 48 #[.val (.int p0), .val (.int p1), .val (.int p2), .val (.int (1 : Int32)), .val (.int (0 : Int32)), .val (.int (0 : Int32)), .val (.int (own_pos p1)), .unset, .unset, .unset, .unset, .unset, .unset, .unset] [(.int (own_pos p2))])) (st209) ?_
        refine Go.step (T' := T209) (g' := (mkF m 50 #[.val (.int p0), .val (.int p1), .val (.int p2), .val (.int (1 : Int32)), .val (.int (0 : Int32)), .val (.int (0 : Int32)), .val (.int (own_pos p1)), .val (.int (own_pos p2)), .unset, .unset, .unset, .unset, .unset, .unset] [])) (fun _ k => XS.istore X209.here hx rfl (hb hby at_48) rfl (l' := #[.val (.int p0), .val (.int p1), .val (.int p2), .val (.int (1 : Int32)), .val (.int (0 : Int32)), .val (.int (0 : Int32)), .val (.int (own_pos p1)), .val (.int (own_pos p2)), .unset, .unset, .unset, .unset, .unset, .unset]) rfl k) ?_
        obtain ⟨T210, h210, X210, e210, E210, A210, D210, -, st210⟩ := newO X209 hx hZ hown (hw _ (List.mem_of_getElem? (i := 5) rfl)) (hw _ (List.mem_of_getElem? (i := 6) rfl)) (hw _ (List.mem_of_getElem? (i := 7) rfl)) eh209 (g := (mkF m 50 #[.val (.int p0), .val (.int p1), .val (.int p2), .val (.int (1 : Int32)), .val (.int (0 : Int32)), .val (.int (0 : Int32)), .val (.int (own_pos p1)), .val (.int (own_pos p2)), .unset, .unset, .unset, .unset, .unset, .unset] [])) rfl (hb hby at_50) (by decide) (by decide)
        obtain ⟨b210, g210⟩ : ∃ z, z = h0.size := ⟨_, rfl⟩
        rw [← g210] at A210 D210 st210
        have ge210 : n0 ≤ b210 := Nat.le_trans Z0 (Nat.le_of_eq g210.symm)
        have Z210 : n0 ≤ h210.size := Nat.le_trans Z0 E210.1
        have F211 := S0.ext E210
        have F212 := S1.ext E210
        have F213 : Fld Z h210 b210 "com/example/draftd/draftd/odata/ServiceSettings" "lockTimeout" "Ljava/time/Duration;" .null := D210 (Or.inl (hw _ (List.mem_of_getElem? (i := 17) rfl))) (ty := (.object "java/time/Duration")) (by decide)
        have F214 : Fld Z h210 b210 "com/example/draftd/draftd/odata/ServiceSettings" "draftLifetime" "Ljava/time/Duration;" .null := D210 (Or.inl (hw _ (List.mem_of_getElem? (i := 21) rfl))) (ty := (.object "java/time/Duration")) (by decide)
        have F215 : Fld Z h210 b210 "com/example/draftd/draftd/odata/ServiceSettings" "pageSize" "I" (.int (0 : Int32)) := D210 (Or.inl (hw _ (List.mem_of_getElem? (i := 23) rfl))) (ty := .int) (by decide)
        refine Go.step (T' := T210) (g' := (mkF m 53 #[.val (.int p0), .val (.int p1), .val (.int p2), .val (.int (1 : Int32)), .val (.int (0 : Int32)), .val (.int (0 : Int32)), .val (.int (own_pos p1)), .val (.int (own_pos p2)), .unset, .unset, .unset, .unset, .unset, .unset] [(.ref b210)])) st210 ?_
        refine Go.step (T' := T210) (g' := (mkF m 54 #[.val (.int p0), .val (.int p1), .val (.int p2), .val (.int (1 : Int32)), .val (.int (0 : Int32)), .val (.int (0 : Int32)), .val (.int (own_pos p1)), .val (.int (own_pos p2)), .unset, .unset, .unset, .unset, .unset, .unset] [(.ref b210), (.ref b210)])) (fun _ k => XS.dup X210.here hx rfl (hb hby at_53) rfl rfl k) ?_
        obtain ⟨_, _, ⟨T216, L216, k216, n216⟩, -, X216, ⟨Lc216, hQ216, l216, y216, z216⟩, st216⟩ := X210.specialBack hx (y := (⟨"com/example/draftd/draftd/odata/ServiceSettings", "<init>", "()V"⟩ : MethodName)) rfl hown (mvT hZ (hw _ (List.mem_of_getElem? (i := 8) rfl))) (mvT hZ (hw _ (List.mem_of_getElem? (i := 9) rfl))) (mvT hZ (hw _ (List.mem_of_getElem? (i := 10) rfl))) (by decide) (backOf (W := 1) (Q := Qini Z b210 (.ref wL) (.ref wD) 100 h210 n0) (own_ini0 l Z a0 hw [] b210 wL wD (.null) (.null) ((.int (0 : Int32))) h210 n0 Z210 F211 F212 A210 ge210 F213 F214 F215) hZ (hw _ (List.mem_of_getElem? (i := 10) rfl)) (hw _ (List.mem_of_getElem? (i := 7) rfl)) (by decide) (by decide)) (g := (mkF m 54 #[.val (.int p0), .val (.int p1), .val (.int p2), .val (.int (1 : Int32)), .val (.int (0 : Int32)), .val (.int (0 : Int32)), .val (.int (own_pos p1)), .val (.int (own_pos p2)), .unset, .unset, .unset, .unset, .unset, .unset] [(.ref b210), (.ref b210)])) rfl (by rw [hml]; rfl) (Steps.refl _) (a := b210) (argsL := []) (rest := [(.ref b210)]) (lenOf own_pd5 rfl) rfl (by show 2 * 0 + _ ≤ _; exact Nat.le_of_eq rfl) (hb hby at_54) (fun _ _ => ⟨rfl, e210, (by decide : 1 + 0 ≤ _), (by decide : 3 + 0 ≤ _)⟩)
        dsimp only [Pt.U, Pt.locs, Pt.cells, Pt.slots] at X216 l216 y216 z216 st216 hQ216
        subst l216 y216 z216
        obtain ⟨rfl, N216q, K216, G216a, G216b, G216c⟩ := hQ216
        have N216 := Fr.app N209 N216q
        have Z216 : n0 ≤ T216.heap.size := Nat.le_trans Z210 K216.1
        have F217 := own_sta_keep F211 K216 (allS (own_plain A210) all0)
        have F218 := own_sta_keep F212 K216 (allS (own_plain A210) all0)
        have F219 := A210.keep K216
        refine Go.step (T' := T216) (g' := (mkF m 57 #[.val (.int p0), .val (.int p1), .val (.int p2), .val (.int (1 : Int32)), .val (.int (0 : Int32)), .val (.int (0 : Int32)), .val (.int (own_pos p1)), .val (.int (own_pos p2)), .unset, .unset, .unset, .unset, .unset, .unset] [(.ref b210)])) (fun _ k => st216.trans k) ?_
        refine Go.step (T' := T216) (g' := (mkF m 59 #[.val (.int p0), .val (.int p1), .val (.int p2), .val (.int (1 : Int32)), .val (.int (0 : Int32)), .val (.int (0 : Int32)), .val (.int (own_pos p1)), .val (.int (own_pos p2)), .val (.ref b210), .unset, .unset, .unset, .unset, .unset] [])) (fun _ k => XS.astore X216.here hx rfl (hb hby at_57) rfl rfl (l' := #[.val (.int p0), .val (.int p1), .val (.int p2), .val (.int (1 : Int32)), .val (.int (0 : Int32)), .val (.int (0 : Int32)), .val (.int (own_pos p1)), .val (.int (own_pos p2)), .val (.ref b210), .unset, .unset, .unset, .unset, .unset]) rfl k) ?_
        refine Go.step (T' := T216) (g' := (mkF m 61 #[.val (.int p0), .val (.int p1), .val (.int p2), .val (.int (1 : Int32)), .val (.int (0 : Int32)), .val (.int (0 : Int32)), .val (.int (own_pos p1)), .val (.int (own_pos p2)), .val (.ref b210), .unset, .unset, .unset, .unset, .unset] [(.int (0 : Int32))])) (fun _ k => XS.iload X216.here hx rfl (hb hby at_59) rfl  k) ?_
        refine Go.step (T' := T216) (g' := (mkF m 74 #[.val (.int p0), .val (.int p1), .val (.int p2), .val (.int (1 : Int32)), .val (.int (0 : Int32)), .val (.int (0 : Int32)), .val (.int (own_pos p1)), .val (.int (own_pos p2)), .val (.ref b210), .unset, .unset, .unset, .unset, .unset] [])) (fun _ k => XS.ifYes X216.here hx rfl (pc0 := 61) (pc' := 74) rfl (hb hby at_61) rfl ((if0 _ _).trans (teq (by decide : (0 : Int32) = (0 : Int32))).1) (by decide) (by decide) k) ?_
        refine Go.step (T' := T216) (g' := (mkF m 76 #[.val (.int p0), .val (.int p1), .val (.int p2), .val (.int (1 : Int32)), .val (.int (0 : Int32)), .val (.int (0 : Int32)), .val (.int (own_pos p1)), .val (.int (own_pos p2)), .val (.ref b210), .unset, .unset, .unset, .unset, .unset] [(.int (0 : Int32))])) (fun _ k => XS.iload X216.here hx rfl (hb hby at_74) rfl  k) ?_
        refine Go.step (T' := T216) (g' := (mkF m 89 #[.val (.int p0), .val (.int p1), .val (.int p2), .val (.int (1 : Int32)), .val (.int (0 : Int32)), .val (.int (0 : Int32)), .val (.int (own_pos p1)), .val (.int (own_pos p2)), .val (.ref b210), .unset, .unset, .unset, .unset, .unset] [])) (fun _ k => XS.ifYes X216.here hx rfl (pc0 := 76) (pc' := 89) rfl (hb hby at_76) rfl ((if0 _ _).trans (teq (by decide : (0 : Int32) = (0 : Int32))).1) (by decide) (by decide) k) ?_
        refine Go.step (T' := T216) (g' := (mkF m 90 #[.val (.int p0), .val (.int p1), .val (.int p2), .val (.int (1 : Int32)), .val (.int (0 : Int32)), .val (.int (0 : Int32)), .val (.int (own_pos p1)), .val (.int (own_pos p2)), .val (.ref b210), .unset, .unset, .unset, .unset, .unset] [(.int (1 : Int32))])) (fun _ k => XS.iloadN X216.here hx rfl (hb hby at_89) rfl  k) ?_
        refine Go.step (T' := T216) (g' := (mkF m 93 #[.val (.int p0), .val (.int p1), .val (.int p2), .val (.int (1 : Int32)), .val (.int (0 : Int32)), .val (.int (0 : Int32)), .val (.int (own_pos p1)), .val (.int (own_pos p2)), .val (.ref b210), .unset, .unset, .unset, .unset, .unset] [])) (fun _ k => XS.ifNo X216.here hx rfl (hb hby at_90) rfl ((if0 _ _).trans (feq (by decide : ¬ ((1 : Int32) = (0 : Int32)))).1) k) ?_
        refine Go.step (T' := T216) (g' := (mkF m 95 #[.val (.int p0), .val (.int p1), .val (.int p2), .val (.int (1 : Int32)), .val (.int (0 : Int32)), .val (.int (0 : Int32)), .val (.int (own_pos p1)), .val (.int (own_pos p2)), .val (.ref b210), .unset, .unset, .unset, .unset, .unset] [(.ref b210)])) (fun _ k => XS.aload X216.here hx rfl (hb hby at_93) rfl rfl k) ?_
        refine Go.step (T' := T216) (g' := (mkF m 97 #[.val (.int p0), .val (.int p1), .val (.int p2), .val (.int (1 : Int32)), .val (.int (0 : Int32)), .val (.int (0 : Int32)), .val (.int (own_pos p1)), .val (.int (own_pos p2)), .val (.ref b210), .unset, .unset, .unset, .unset, .unset] [(.int (own_pos p1)), (.ref b210)])) (fun _ k => XS.iload X216.here hx rfl (hb hby at_95) rfl  k) ?_
        obtain ⟨cq220, kq220, q220a, q220b, q220c⟩ := isOf hZ rfl F219
        obtain ⟨_, _, ⟨T220, L220, k220, n220⟩, -, X220, ⟨Lc220, hQ220, l220, y220, z220⟩, st220⟩ := X216.virtualBack hx (y := (⟨"com/example/draftd/draftd/odata/ServiceSettings", "withPageSize", "(I)Lcom/example/draftd/draftd/odata/ServiceSettings;"⟩ : MethodName)) (z := (⟨"com/example/draftd/draftd/odata/ServiceSettings", "withPageSize", "(I)Lcom/example/draftd/draftd/odata/ServiceSettings;"⟩ : MethodName)) hown (mvT hZ (hw _ (List.mem_of_getElem? (i := 26) rfl))) (mvT hZ (hw _ (List.mem_of_getElem? (i := 27) rfl))) (notFace_of_selects (args := #[]) (mvT hZ (hw _ (List.mem_of_getElem? (i := 29) rfl)))) (mvT hZ (hw _ (List.mem_of_getElem? (i := 29) rfl))) (mvT hZ (hw _ (List.mem_of_getElem? (i := 28) rfl))) (by decide) (backOf (W := 0) (Q := Qwith Z (.ref wL) (.ref wD) (own_pos p1) T216.heap n0) (own_withPageSize l Z a0 hw [] b210 (own_pos p1) wL wD wL wD 100 T216.heap n0 Z216 F217 F218 F219 G216a G216b G216c (own_pos_ge _)) hZ (hw _ (List.mem_of_getElem? (i := 30) rfl)) (hw _ (List.mem_of_getElem? (i := 7) rfl)) (by decide) (by decide)) q220a q220c (g := (mkF m 97 #[.val (.int p0), .val (.int p1), .val (.int p2), .val (.int (1 : Int32)), .val (.int (0 : Int32)), .val (.int (0 : Int32)), .val (.int (own_pos p1)), .val (.int (own_pos p2)), .val (.ref b210), .unset, .unset, .unset, .unset, .unset] [(.int (own_pos p1)), (.ref b210)])) rfl (by rw [hml]; rfl) (Steps.refl _) (argsL := [(.int (own_pos p1))]) (rest := []) (lenOf own_pd1 rfl) rfl (by show 2 * 0 + _ ≤ _; exact Nat.le_of_eq rfl) (hb hby at_97) (fun _ _ => ⟨rfl, rfl, (by decide : 1 + 1 ≤ _), (by decide : 3 + 3 ≤ _)⟩)
        dsimp only [Pt.U, Pt.locs, Pt.cells, Pt.slots] at X220 l220 y220 z220 st220 hQ220
        subst l220 y220 z220
        obtain ⟨b220, rfl, N220q, K220, sz220, E220, G220a, G220b, G220c⟩ := hQ220
        have N220 := Fr.app N216 N220q
        have ne221 : b210 ≠ b220 := Nat.ne_of_lt (Nat.lt_of_lt_of_le F219.lt sz220)
        have ge222 : n0 ≤ b220 := Nat.le_trans Z216 sz220
        have Z220 : n0 ≤ T220.heap.size := Nat.le_trans Z216 K220.1
        have F223 := own_sta_keep F217 K220 all0
        have F224 := own_sta_keep F218 K220 all0
        have F225 := F219.keep K220
        have F226 := G216a.keep K220 nin0
        have F227 := G216b.keep K220 nin0
        have F228 := G216c.keep K220 nin0
        refine Go.step (T' := T220) (g' := (mkF m 100 #[.val (.int p0), .val (.int p1), .val (.int p2), .val (.int (1 : Int32)), .val (.int (0 : Int32)), .val (.int (0 : Int32)), .val (.int (own_pos p1)), .val (.int (own_pos p2)), .val (.ref b210), .unset, .unset, .unset, .unset, .unset] [(.ref b220)])) (fun _ k => st220.trans k) ?_
        refine Go.step (T' := T220) (g' := (mkF m 102 #[.val (.int p0), .val (.int p1), .val (.int p2), .val (.int (1 : Int32)), .val (.int (0 : Int32)), .val (.int (0 : Int32)), .val (.int (own_pos p1)), .val (.int (own_pos p2)), .val (.ref b220), .unset, .unset, .unset, .unset, .unset] [])) (fun _ k => XS.astore X220.here hx rfl (hb hby at_100) rfl rfl (l' := #[.val (.int p0), .val (.int p1), .val (.int p2), .val (.int (1 : Int32)), .val (.int (0 : Int32)), .val (.int (0 : Int32)), .val (.int (own_pos p1)), .val (.int (own_pos p2)), .val (.ref b220), .unset, .unset, .unset, .unset, .unset]) rfl k) ?_
        refine Go.step (T' := T220) (g' := (mkF m 103 #[.val (.int p0), .val (.int p1), .val (.int p2), .val (.int (1 : Int32)), .val (.int (0 : Int32)), .val (.int (0 : Int32)), .val (.int (own_pos p1)), .val (.int (own_pos p2)), .val (.ref b220), .unset, .unset, .unset, .unset, .unset] [(.int (1 : Int32))])) (fun _ k => XS.iloadN X220.here hx rfl (hb hby at_102) rfl  k) ?_
        refine Go.step (T' := T220) (g' := (mkF m 106 #[.val (.int p0), .val (.int p1), .val (.int p2), .val (.int (1 : Int32)), .val (.int (0 : Int32)), .val (.int (0 : Int32)), .val (.int (own_pos p1)), .val (.int (own_pos p2)), .val (.ref b220), .unset, .unset, .unset, .unset, .unset] [])) (fun _ k => XS.ifNo X220.here hx rfl (hb hby at_103) rfl ((if0 _ _).trans (feq (by decide : ¬ ((1 : Int32) = (0 : Int32)))).1) k) ?_
        refine Go.step (T' := T220) (g' := (mkF m 108 #[.val (.int p0), .val (.int p1), .val (.int p2), .val (.int (1 : Int32)), .val (.int (0 : Int32)), .val (.int (0 : Int32)), .val (.int (own_pos p1)), .val (.int (own_pos p2)), .val (.ref b220), .unset, .unset, .unset, .unset, .unset] [(.int (own_pos p1))])) (fun _ k => XS.iload X220.here hx rfl (hb hby at_106) rfl  k) ?_
        refine Go.step (T' := T220) (g' := (mkF m 113 #[.val (.int p0), .val (.int p1), .val (.int p2), .val (.int (1 : Int32)), .val (.int (0 : Int32)), .val (.int (0 : Int32)), .val (.int (own_pos p1)), .val (.int (own_pos p2)), .val (.ref b220), .unset, .unset, .unset, .unset, .unset] [(.int (own_pos p1))])) (fun _ k => XS.goto X220.here hx rfl (pc0 := 108) (pc' := 113) rfl (hb hby at_108) (by decide) (by decide) k) ?_
        refine Go.step (T' := T220) (g' := (mkF m 115 #[.val (.int p0), .val (.int p1), .val (.int p2), .val (.int (1 : Int32)), .val (.int (0 : Int32)), .val (.int (0 : Int32)), .val (.int (own_pos p1)), .val (.int (own_pos p2)), .val (.ref b220), .val (.int (own_pos p1)), .unset, .unset, .unset, .unset] [])) (fun _ k => XS.istore X220.here hx rfl (hb hby at_113) rfl (l' := #[.val (.int p0), .val (.int p1), .val (.int p2), .val (.int (1 : Int32)), .val (.int (0 : Int32)), .val (.int (0 : Int32)), .val (.int (own_pos p1)), .val (.int (own_pos p2)), .val (.ref b220), .val (.int (own_pos p1)), .unset, .unset, .unset, .unset]) rfl k) ?_
        refine Go.step (T' := T220) (g' := (mkF m 117 #[.val (.int p0), .val (.int p1), .val (.int p2), .val (.int (1 : Int32)), .val (.int (0 : Int32)), .val (.int (0 : Int32)), .val (.int (own_pos p1)), .val (.int (own_pos p2)), .val (.ref b220), .val (.int (own_pos p1)), .unset, .unset, .unset, .unset] [(.int (0 : Int32))])) (fun _ k => XS.iload X220.here hx rfl (hb hby at_115) rfl  k) ?_
        refine Go.step (T' := T220) (g' := (mkF m 126 #[.val (.int p0), .val (.int p1), .val (.int p2), .val (.int (1 : Int32)), .val (.int (0 : Int32)), .val (.int (0 : Int32)), .val (.int (own_pos p1)), .val (.int (own_pos p2)), .val (.ref b220), .val (.int (own_pos p1)), .unset, .unset, .unset, .unset] [])) (fun _ k => XS.ifYes X220.here hx rfl (pc0 := 117) (pc' := 126) rfl (hb hby at_117) rfl ((if0 _ _).trans (teq (by decide : (0 : Int32) = (0 : Int32))).1) (by decide) (by decide) k) ?_
        obtain ⟨T229, X229, e229, st229⟩ := getS2 X220 hx hZ hown (host := "") (Or.inl (hw _ (List.mem_of_getElem? (i := 24) rfl))) Via.refl rfl F223 (g := (mkF m 126 #[.val (.int p0), .val (.int p1), .val (.int p2), .val (.int (1 : Int32)), .val (.int (0 : Int32)), .val (.int (0 : Int32)), .val (.int (own_pos p1)), .val (.int (own_pos p2)), .val (.ref b220), .val (.int (own_pos p1)), .unset, .unset, .unset, .unset] [])) rfl (hb hby at_126)
        refine Go.step (T' := T229) (g' := (mkF m 129 #[.val (.int p0), .val (.int p1), .val (.int p2), .val (.int (1 : Int32)), .val (.int (0 : Int32)), .val (.int (0 : Int32)), .val (.int (own_pos p1)), .val (.int (own_pos p2)), .val (.ref b220), .val (.int (own_pos p1)), .unset, .unset, .unset, .unset] [(.ref wL)])) st229 ?_
        refine Go.step (T' := T229) (g' := (mkF m 131 #[.val (.int p0), .val (.int p1), .val (.int p2), .val (.int (1 : Int32)), .val (.int (0 : Int32)), .val (.int (0 : Int32)), .val (.int (own_pos p1)), .val (.int (own_pos p2)), .val (.ref b220), .val (.int (own_pos p1)), .val (.ref wL), .unset, .unset, .unset] [])) (fun _ k => XS.astore X229.here hx rfl (hb hby at_129) rfl rfl (l' := #[.val (.int p0), .val (.int p1), .val (.int p2), .val (.int (1 : Int32)), .val (.int (0 : Int32)), .val (.int (0 : Int32)), .val (.int (own_pos p1)), .val (.int (own_pos p2)), .val (.ref b220), .val (.int (own_pos p1)), .val (.ref wL), .unset, .unset, .unset]) rfl k) ?_
        refine Go.step (T' := T229) (g' := (mkF m 133 #[.val (.int p0), .val (.int p1), .val (.int p2), .val (.int (1 : Int32)), .val (.int (0 : Int32)), .val (.int (0 : Int32)), .val (.int (own_pos p1)), .val (.int (own_pos p2)), .val (.ref b220), .val (.int (own_pos p1)), .val (.ref wL), .unset, .unset, .unset] [(.int (0 : Int32))])) (fun _ k => XS.iload X229.here hx rfl (hb hby at_131) rfl  k) ?_
        refine Go.step (T' := T229) (g' := (mkF m 142 #[.val (.int p0), .val (.int p1), .val (.int p2), .val (.int (1 : Int32)), .val (.int (0 : Int32)), .val (.int (0 : Int32)), .val (.int (own_pos p1)), .val (.int (own_pos p2)), .val (.ref b220), .val (.int (own_pos p1)), .val (.ref wL), .unset, .unset, .unset] [])) (fun _ k => XS.ifYes X229.here hx rfl (pc0 := 133) (pc' := 142) rfl (hb hby at_133) rfl ((if0 _ _).trans (teq (by decide : (0 : Int32) = (0 : Int32))).1) (by decide) (by decide) k) ?_
        obtain ⟨T230, X230, e230, st230⟩ := getS2 X229 hx hZ hown (host := "") (Or.inl (hw _ (List.mem_of_getElem? (i := 25) rfl))) Via.refl e229 F224 (g := (mkF m 142 #[.val (.int p0), .val (.int p1), .val (.int p2), .val (.int (1 : Int32)), .val (.int (0 : Int32)), .val (.int (0 : Int32)), .val (.int (own_pos p1)), .val (.int (own_pos p2)), .val (.ref b220), .val (.int (own_pos p1)), .val (.ref wL), .unset, .unset, .unset] [])) rfl (hb hby at_142)
        refine Go.step (T' := T230) (g' := (mkF m 145 #[.val (.int p0), .val (.int p1), .val (.int p2), .val (.int (1 : Int32)), .val (.int (0 : Int32)), .val (.int (0 : Int32)), .val (.int (own_pos p1)), .val (.int (own_pos p2)), .val (.ref b220), .val (.int (own_pos p1)), .val (.ref wL), .unset, .unset, .unset] [(.ref wD)])) st230 ?_
        refine Go.step (T' := T230) (g' := (mkF m 147 #[.val (.int p0), .val (.int p1), .val (.int p2), .val (.int (1 : Int32)), .val (.int (0 : Int32)), .val (.int (0 : Int32)), .val (.int (own_pos p1)), .val (.int (own_pos p2)), .val (.ref b220), .val (.int (own_pos p1)), .val (.ref wL), .val (.ref wD), .unset, .unset] [])) (fun _ k => XS.astore X230.here hx rfl (hb hby at_145) rfl rfl (l' := #[.val (.int p0), .val (.int p1), .val (.int p2), .val (.int (1 : Int32)), .val (.int (0 : Int32)), .val (.int (0 : Int32)), .val (.int (own_pos p1)), .val (.int (own_pos p2)), .val (.ref b220), .val (.int (own_pos p1)), .val (.ref wL), .val (.ref wD), .unset, .unset]) rfl k) ?_
        exact own_tail p0 p1 p2 (1 : Int32) (0 : Int32) (0 : Int32) (own_pos p1) (own_pos p2) (own_pos p1) b220 wL wD wL wD X230 hx hZ hw hby hml hown hret hlk e230 N220 Z220 (by decide) (by decide) F223 F224 E220 G220a G220b G220c (own_pos_ge _)
      · skip
        refine Go.step (T' := s₁) (g' := (mkF m 31 #[.val (.int p0), .val (.int p1), .val (.int p2), .val (.int (1 : Int32)), .val (.int (0 : Int32)), .unset, .unset, .unset, .unset, .unset, .unset, .unset, .unset, .unset] [])) (fun _ k => XS.ifNo X0.here hx rfl (hb hby at_28) rfl ((if0 _ _).trans (feq hc207).1) k) ?_
        refine Go.step (T' := s₁) (g' := (mkF m 32 #[.val (.int p0), .val (.int p1), .val (.int p2), .val (.int (1 : Int32)), .val (.int (0 : Int32)), .unset, .unset, .unset, .unset, .unset, .unset, .unset, .unset, .unset] [(.int (1 : Int32))])) (fun _ k => XS.iconst X0.here hx rfl (hb hby at_31) k) ?_
        refine Go.step (T' := s₁) (g' := (mkF m 36 #[.val (.int p0), .val (.int p1), .val (.int p2), .val (.int (1 : Int32)), .val (.int (0 : Int32)), .unset, .unset, .unset, .unset, .unset, .unset, .unset, .unset, .unset] [(.int (1 : Int32))])) (fun _ k => XS.goto X0.here hx rfl (pc0 := 32) (pc' := 36) rfl (hb hby at_32) (by decide) (by decide) k) ?_
        refine Go.step (T' := s₁) (g' := (mkF m 38 #[.val (.int p0), .val (.int p1), .val (.int p2), .val (.int (1 : Int32)), .val (.int (0 : Int32)), .val (.int (1 : Int32)), .unset, .unset, .unset, .unset, .unset, .unset, .unset, .unset] [])) (fun _ k => XS.istore X0.here hx rfl (hb hby at_36) rfl (l' := #[.val (.int p0), .val (.int p1), .val (.int p2), .val (.int (1 : Int32)), .val (.int (0 : Int32)), .val (.int (1 : Int32)), .unset, .unset, .unset, .unset, .unset, .unset, .unset, .unset]) rfl k) ?_
        refine Go.step (T' := s₁) (g' := (mkF m 39 #[.val (.int p0), .val (.int p1), .val (.int p2), .val (.int (1 : Int32)), .val (.int (0 : Int32)), .val (.int (1 : Int32)), .unset, .unset, .unset, .unset, .unset, .unset, .unset, .unset] [(.int p1)])) (fun _ k => XS.iloadN X0.here hx rfl (hb hby at_38) rfl  k) ?_
        obtain ⟨_, _, ⟨T231, L231, k231, n231⟩, -, X231, ⟨Lc231, hQ231, l231, y231, z231⟩, st231⟩ := Jvm.LawKit.callS X0 hx (y := (⟨"com/example/draftd/draftd/odata/ServiceSettingsWithPageSizePinLaw", "positive", "(I)I"⟩ : MethodName)) hown (mvT hZ (hw _ (List.mem_of_getElem? (i := 0) rfl))) (mvT hZ (hw _ (List.mem_of_getElem? (i := 1) rfl))) (mvT hZ (hw _ (List.mem_of_getElem? (i := 2) rfl))) (mvT hZ (hw _ (List.mem_of_getElem? (i := 3) rfl))) (by decide) (backOf (W := 0) (Q := Qret (some (.int (own_pos p1))) h0 n0) (own_rpos l Z a0 hw [] p1 h0 n0 Z0) hZ (hw _ (List.mem_of_getElem? (i := 3) rfl)) (hw _ (List.mem_of_getElem? (i := 2) rfl)) (by decide) (by decide)) (g := (mkF m 39 #[.val (.int p0), .val (.int p1), .val (.int p2), .val (.int (1 : Int32)), .val (.int (0 : Int32)), .val (.int (1 : Int32)), .unset, .unset, .unset, .unset, .unset, .unset, .unset, .unset] [(.int p1)])) rfl (by rw [hml]; rfl) (argsL := [(.int p1)]) (rest := []) (lenOf own_pd4 rfl) rfl (by show 2 * 0 + _ ≤ _; exact Nat.le_of_eq rfl) (hb hby at_39) (fun _ _ => ⟨rfl, e0, (by decide : 0 + 0 ≤ _), (by decide : 0 + 0 ≤ _)⟩)
        dsimp only [Pt.U, Pt.locs, Pt.cells, Pt.slots] at X231 l231 y231 z231 st231 hQ231
        subst l231 y231 z231
        obtain ⟨rfl, N231q, eh231⟩ := hQ231
        have N231 := Fr.app N0 N231q
        refine Go.step (T' := T231) (g' := (mkF m 42 #[.val (.int p0), .val (.int p1), .val (.int p2), .val (.int (1 : Int32)), .val (.int (0 : Int32)), .val (.int (1 : Int32)), .unset, .unset, .unset, .unset, .unset, .unset, .unset, .unset] [(.int (own_pos p1))])) (st231) ?_
        refine Go.step (T' := T231) (g' := (mkF m 44 #[.val (.int p0), .val (.int p1), .val (.int p2), .val (.int (1 : Int32)), .val (.int (0 : Int32)), .val (.int (1 : Int32)), .val (.int (own_pos p1)), .unset, .unset, .unset, .unset, .unset, .unset, .unset] [])) (fun _ k => XS.istore X231.here hx rfl (hb hby at_42) rfl (l' := #[.val (.int p0), .val (.int p1), .val (.int p2), .val (.int (1 : Int32)), .val (.int (0 : Int32)), .val (.int (1 : Int32)), .val (.int (own_pos p1)), .unset, .unset, .unset, .unset, .unset, .unset, .unset]) rfl k) ?_
        refine Go.step (T' := T231) (g' := (mkF m 45 #[.val (.int p0), .val (.int p1), .val (.int p2), .val (.int (1 : Int32)), .val (.int (0 : Int32)), .val (.int (1 : Int32)), .val (.int (own_pos p1)), .unset, .unset, .unset, .unset, .unset, .unset, .unset] [(.int p2)])) (fun _ k => XS.iloadN X231.here hx rfl (hb hby at_44) rfl  k) ?_
        obtain ⟨_, _, ⟨T232, L232, k232, n232⟩, -, X232, ⟨Lc232, hQ232, l232, y232, z232⟩, st232⟩ := Jvm.LawKit.callS X231 hx (y := (⟨"com/example/draftd/draftd/odata/ServiceSettingsWithPageSizePinLaw", "positive", "(I)I"⟩ : MethodName)) hown (mvT hZ (hw _ (List.mem_of_getElem? (i := 0) rfl))) (mvT hZ (hw _ (List.mem_of_getElem? (i := 1) rfl))) (mvT hZ (hw _ (List.mem_of_getElem? (i := 2) rfl))) (mvT hZ (hw _ (List.mem_of_getElem? (i := 3) rfl))) (by decide) (backOf (W := 0) (Q := Qret (some (.int (own_pos p2))) h0 n0) (own_rpos l Z a0 hw [] p2 h0 n0 Z0) hZ (hw _ (List.mem_of_getElem? (i := 3) rfl)) (hw _ (List.mem_of_getElem? (i := 2) rfl)) (by decide) (by decide)) (g := (mkF m 45 #[.val (.int p0), .val (.int p1), .val (.int p2), .val (.int (1 : Int32)), .val (.int (0 : Int32)), .val (.int (1 : Int32)), .val (.int (own_pos p1)), .unset, .unset, .unset, .unset, .unset, .unset, .unset] [(.int p2)])) rfl (by rw [hml]; rfl) (argsL := [(.int p2)]) (rest := []) (lenOf own_pd4 rfl) rfl (by show 2 * 0 + _ ≤ _; exact Nat.le_of_eq rfl) (hb hby at_45) (fun _ _ => ⟨rfl, eh231, (by decide : 0 + 0 ≤ _), (by decide : 0 + 0 ≤ _)⟩)
        dsimp only [Pt.U, Pt.locs, Pt.cells, Pt.slots] at X232 l232 y232 z232 st232 hQ232
        subst l232 y232 z232
        obtain ⟨rfl, N232q, eh232⟩ := hQ232
        have N232 := Fr.app N231 N232q
        refine Go.step (T' := T232) (g' := (mkF m 48 #[.val (.int p0), .val (.int p1), .val (.int p2), .val (.int (1 : Int32)), .val (.int (0 : Int32)), .val (.int (1 : Int32)), .val (.int (own_pos p1)), .unset, .unset, .unset, .unset, .unset, .unset, .unset] [(.int (own_pos p2))])) (st232) ?_
        refine Go.step (T' := T232) (g' := (mkF m 50 #[.val (.int p0), .val (.int p1), .val (.int p2), .val (.int (1 : Int32)), .val (.int (0 : Int32)), .val (.int (1 : Int32)), .val (.int (own_pos p1)), .val (.int (own_pos p2)), .unset, .unset, .unset, .unset, .unset, .unset] [])) (fun _ k => XS.istore X232.here hx rfl (hb hby at_48) rfl (l' := #[.val (.int p0), .val (.int p1), .val (.int p2), .val (.int (1 : Int32)), .val (.int (0 : Int32)), .val (.int (1 : Int32)), .val (.int (own_pos p1)), .val (.int (own_pos p2)), .unset, .unset, .unset, .unset, .unset, .unset]) rfl k) ?_
        obtain ⟨T233, h233, X233, e233, E233, A233, D233, -, st233⟩ := newO X232 hx hZ hown (hw _ (List.mem_of_getElem? (i := 5) rfl)) (hw _ (List.mem_of_getElem? (i := 6) rfl)) (hw _ (List.mem_of_getElem? (i := 7) rfl)) eh232 (g := (mkF m 50 #[.val (.int p0), .val (.int p1), .val (.int p2), .val (.int (1 : Int32)), .val (.int (0 : Int32)), .val (.int (1 : Int32)), .val (.int (own_pos p1)), .val (.int (own_pos p2)), .unset, .unset, .unset, .unset, .unset, .unset] [])) rfl (hb hby at_50) (by decide) (by decide)
        obtain ⟨b233, g233⟩ : ∃ z, z = h0.size := ⟨_, rfl⟩
        rw [← g233] at A233 D233 st233
        have ge233 : n0 ≤ b233 := Nat.le_trans Z0 (Nat.le_of_eq g233.symm)
        have Z233 : n0 ≤ h233.size := Nat.le_trans Z0 E233.1
        have F234 := S0.ext E233
        have F235 := S1.ext E233
        have F236 : Fld Z h233 b233 "com/example/draftd/draftd/odata/ServiceSettings" "lockTimeout" "Ljava/time/Duration;" .null := D233 (Or.inl (hw _ (List.mem_of_getElem? (i := 17) rfl))) (ty := (.object "java/time/Duration")) (by decide)
        have F237 : Fld Z h233 b233 "com/example/draftd/draftd/odata/ServiceSettings" "draftLifetime" "Ljava/time/Duration;" .null := D233 (Or.inl (hw _ (List.mem_of_getElem? (i := 21) rfl))) (ty := (.object "java/time/Duration")) (by decide)
        have F238 : Fld Z h233 b233 "com/example/draftd/draftd/odata/ServiceSettings" "pageSize" "I" (.int (0 : Int32)) := D233 (Or.inl (hw _ (List.mem_of_getElem? (i := 23) rfl))) (ty := .int) (by decide)
        refine Go.step (T' := T233) (g' := (mkF m 53 #[.val (.int p0), .val (.int p1), .val (.int p2), .val (.int (1 : Int32)), .val (.int (0 : Int32)), .val (.int (1 : Int32)), .val (.int (own_pos p1)), .val (.int (own_pos p2)), .unset, .unset, .unset, .unset, .unset, .unset] [(.ref b233)])) st233 ?_
        refine Go.step (T' := T233) (g' := (mkF m 54 #[.val (.int p0), .val (.int p1), .val (.int p2), .val (.int (1 : Int32)), .val (.int (0 : Int32)), .val (.int (1 : Int32)), .val (.int (own_pos p1)), .val (.int (own_pos p2)), .unset, .unset, .unset, .unset, .unset, .unset] [(.ref b233), (.ref b233)])) (fun _ k => XS.dup X233.here hx rfl (hb hby at_53) rfl rfl k) ?_
        obtain ⟨_, _, ⟨T239, L239, k239, n239⟩, -, X239, ⟨Lc239, hQ239, l239, y239, z239⟩, st239⟩ := X233.specialBack hx (y := (⟨"com/example/draftd/draftd/odata/ServiceSettings", "<init>", "()V"⟩ : MethodName)) rfl hown (mvT hZ (hw _ (List.mem_of_getElem? (i := 8) rfl))) (mvT hZ (hw _ (List.mem_of_getElem? (i := 9) rfl))) (mvT hZ (hw _ (List.mem_of_getElem? (i := 10) rfl))) (by decide) (backOf (W := 1) (Q := Qini Z b233 (.ref wL) (.ref wD) 100 h233 n0) (own_ini0 l Z a0 hw [] b233 wL wD (.null) (.null) ((.int (0 : Int32))) h233 n0 Z233 F234 F235 A233 ge233 F236 F237 F238) hZ (hw _ (List.mem_of_getElem? (i := 10) rfl)) (hw _ (List.mem_of_getElem? (i := 7) rfl)) (by decide) (by decide)) (g := (mkF m 54 #[.val (.int p0), .val (.int p1), .val (.int p2), .val (.int (1 : Int32)), .val (.int (0 : Int32)), .val (.int (1 : Int32)), .val (.int (own_pos p1)), .val (.int (own_pos p2)), .unset, .unset, .unset, .unset, .unset, .unset] [(.ref b233), (.ref b233)])) rfl (by rw [hml]; rfl) (Steps.refl _) (a := b233) (argsL := []) (rest := [(.ref b233)]) (lenOf own_pd5 rfl) rfl (by show 2 * 0 + _ ≤ _; exact Nat.le_of_eq rfl) (hb hby at_54) (fun _ _ => ⟨rfl, e233, (by decide : 1 + 0 ≤ _), (by decide : 3 + 0 ≤ _)⟩)
        dsimp only [Pt.U, Pt.locs, Pt.cells, Pt.slots] at X239 l239 y239 z239 st239 hQ239
        subst l239 y239 z239
        obtain ⟨rfl, N239q, K239, G239a, G239b, G239c⟩ := hQ239
        have N239 := Fr.app N232 N239q
        have Z239 : n0 ≤ T239.heap.size := Nat.le_trans Z233 K239.1
        have F240 := own_sta_keep F234 K239 (allS (own_plain A233) all0)
        have F241 := own_sta_keep F235 K239 (allS (own_plain A233) all0)
        have F242 := A233.keep K239
        refine Go.step (T' := T239) (g' := (mkF m 57 #[.val (.int p0), .val (.int p1), .val (.int p2), .val (.int (1 : Int32)), .val (.int (0 : Int32)), .val (.int (1 : Int32)), .val (.int (own_pos p1)), .val (.int (own_pos p2)), .unset, .unset, .unset, .unset, .unset, .unset] [(.ref b233)])) (fun _ k => st239.trans k) ?_
        refine Go.step (T' := T239) (g' := (mkF m 59 #[.val (.int p0), .val (.int p1), .val (.int p2), .val (.int (1 : Int32)), .val (.int (0 : Int32)), .val (.int (1 : Int32)), .val (.int (own_pos p1)), .val (.int (own_pos p2)), .val (.ref b233), .unset, .unset, .unset, .unset, .unset] [])) (fun _ k => XS.astore X239.here hx rfl (hb hby at_57) rfl rfl (l' := #[.val (.int p0), .val (.int p1), .val (.int p2), .val (.int (1 : Int32)), .val (.int (0 : Int32)), .val (.int (1 : Int32)), .val (.int (own_pos p1)), .val (.int (own_pos p2)), .val (.ref b233), .unset, .unset, .unset, .unset, .unset]) rfl k) ?_
        refine Go.step (T' := T239) (g' := (mkF m 61 #[.val (.int p0), .val (.int p1), .val (.int p2), .val (.int (1 : Int32)), .val (.int (0 : Int32)), .val (.int (1 : Int32)), .val (.int (own_pos p1)), .val (.int (own_pos p2)), .val (.ref b233), .unset, .unset, .unset, .unset, .unset] [(.int (0 : Int32))])) (fun _ k => XS.iload X239.here hx rfl (hb hby at_59) rfl  k) ?_
        refine Go.step (T' := T239) (g' := (mkF m 74 #[.val (.int p0), .val (.int p1), .val (.int p2), .val (.int (1 : Int32)), .val (.int (0 : Int32)), .val (.int (1 : Int32)), .val (.int (own_pos p1)), .val (.int (own_pos p2)), .val (.ref b233), .unset, .unset, .unset, .unset, .unset] [])) (fun _ k => XS.ifYes X239.here hx rfl (pc0 := 61) (pc' := 74) rfl (hb hby at_61) rfl ((if0 _ _).trans (teq (by decide : (0 : Int32) = (0 : Int32))).1) (by decide) (by decide) k) ?_
        refine Go.step (T' := T239) (g' := (mkF m 76 #[.val (.int p0), .val (.int p1), .val (.int p2), .val (.int (1 : Int32)), .val (.int (0 : Int32)), .val (.int (1 : Int32)), .val (.int (own_pos p1)), .val (.int (own_pos p2)), .val (.ref b233), .unset, .unset, .unset, .unset, .unset] [(.int (1 : Int32))])) (fun _ k => XS.iload X239.here hx rfl (hb hby at_74) rfl  k) ?_
        refine Go.step (T' := T239) (g' := (mkF m 79 #[.val (.int p0), .val (.int p1), .val (.int p2), .val (.int (1 : Int32)), .val (.int (0 : Int32)), .val (.int (1 : Int32)), .val (.int (own_pos p1)), .val (.int (own_pos p2)), .val (.ref b233), .unset, .unset, .unset, .unset, .unset] [])) (fun _ k => XS.ifNo X239.here hx rfl (hb hby at_76) rfl ((if0 _ _).trans (feq (by decide : ¬ ((1 : Int32) = (0 : Int32)))).1) k) ?_
        refine Go.step (T' := T239) (g' := (mkF m 81 #[.val (.int p0), .val (.int p1), .val (.int p2), .val (.int (1 : Int32)), .val (.int (0 : Int32)), .val (.int (1 : Int32)), .val (.int (own_pos p1)), .val (.int (own_pos p2)), .val (.ref b233), .unset, .unset, .unset, .unset, .unset] [(.ref b233)])) (fun _ k => XS.aload X239.here hx rfl (hb hby at_79) rfl rfl k) ?_
        obtain ⟨T243, X243, e243, st243⟩ := getS2 X239 hx hZ hown (host := "") (Or.inl (hw _ (List.mem_of_getElem? (i := 24) rfl))) Via.refl rfl F240 (g := (mkF m 81 #[.val (.int p0), .val (.int p1), .val (.int p2), .val (.int (1 : Int32)), .val (.int (0 : Int32)), .val (.int (1 : Int32)), .val (.int (own_pos p1)), .val (.int (own_pos p2)), .val (.ref b233), .unset, .unset, .unset, .unset, .unset] [(.ref b233)])) rfl (hb hby at_81)
        refine Go.step (T' := T243) (g' := (mkF m 84 #[.val (.int p0), .val (.int p1), .val (.int p2), .val (.int (1 : Int32)), .val (.int (0 : Int32)), .val (.int (1 : Int32)), .val (.int (own_pos p1)), .val (.int (own_pos p2)), .val (.ref b233), .unset, .unset, .unset, .unset, .unset] [(.ref wL), (.ref b233)])) st243 ?_
        obtain ⟨cq244, kq244, q244a, q244b, q244c⟩ := isOf hZ e243 F242
        obtain ⟨_, _, ⟨T244, L244, k244, n244⟩, -, X244, ⟨Lc244, hQ244, l244, y244, z244⟩, st244⟩ := X243.virtualBack hx (y := (⟨"com/example/draftd/draftd/odata/ServiceSettings", "withDraftLifetime", "(Ljava/time/Duration;)Lcom/example/draftd/draftd/odata/ServiceSettings;"⟩ : MethodName)) (z := (⟨"com/example/draftd/draftd/odata/ServiceSettings", "withDraftLifetime", "(Ljava/time/Duration;)Lcom/example/draftd/draftd/odata/ServiceSettings;"⟩ : MethodName)) hown (mvT hZ (hw _ (List.mem_of_getElem? (i := 50) rfl))) (mvT hZ (hw _ (List.mem_of_getElem? (i := 51) rfl))) (notFace_of_selects (args := #[]) (mvT hZ (hw _ (List.mem_of_getElem? (i := 53) rfl)))) (mvT hZ (hw _ (List.mem_of_getElem? (i := 53) rfl))) (mvT hZ (hw _ (List.mem_of_getElem? (i := 52) rfl))) (by decide) (backOf (W := 0) (Q := Qwith Z (.ref wL) (.ref wL) 100 T239.heap n0) (own_withDraftLifetime l Z a0 hw [] b233 wL wL wD wL wD 100 T239.heap n0 Z239 F240 F241 F242 G239a G239b G239c ) hZ (hw _ (List.mem_of_getElem? (i := 54) rfl)) (hw _ (List.mem_of_getElem? (i := 7) rfl)) (by decide) (by decide)) q244a q244c (g := (mkF m 84 #[.val (.int p0), .val (.int p1), .val (.int p2), .val (.int (1 : Int32)), .val (.int (0 : Int32)), .val (.int (1 : Int32)), .val (.int (own_pos p1)), .val (.int (own_pos p2)), .val (.ref b233), .unset, .unset, .unset, .unset, .unset] [(.ref wL), (.ref b233)])) rfl (by rw [hml]; rfl) (Steps.refl _) (argsL := [(.ref wL)]) (rest := []) (lenOf own_pd6 rfl) rfl (by show 2 * 0 + _ ≤ _; exact Nat.le_of_eq rfl) (hb hby at_84) (fun _ _ => ⟨rfl, e243, (by decide : 1 + 1 ≤ _), (by decide : 3 + 3 ≤ _)⟩)
        dsimp only [Pt.U, Pt.locs, Pt.cells, Pt.slots] at X244 l244 y244 z244 st244 hQ244
        subst l244 y244 z244
        obtain ⟨b244, rfl, N244q, K244, sz244, E244, G244a, G244b, G244c⟩ := hQ244
        have N244 := Fr.app N239 N244q
        have ne245 : b233 ≠ b244 := Nat.ne_of_lt (Nat.lt_of_lt_of_le F242.lt sz244)
        have ge246 : n0 ≤ b244 := Nat.le_trans Z239 sz244
        have Z244 : n0 ≤ T244.heap.size := Nat.le_trans Z239 K244.1
        have F247 := own_sta_keep F240 K244 all0
        have F248 := own_sta_keep F241 K244 all0
        have F249 := F242.keep K244
        have F250 := G239a.keep K244 nin0
        have F251 := G239b.keep K244 nin0
        have F252 := G239c.keep K244 nin0
        refine Go.step (T' := T244) (g' := (mkF m 87 #[.val (.int p0), .val (.int p1), .val (.int p2), .val (.int (1 : Int32)), .val (.int (0 : Int32)), .val (.int (1 : Int32)), .val (.int (own_pos p1)), .val (.int (own_pos p2)), .val (.ref b233), .unset, .unset, .unset, .unset, .unset] [(.ref b244)])) (fun _ k => st244.trans k) ?_
        refine Go.step (T' := T244) (g' := (mkF m 89 #[.val (.int p0), .val (.int p1), .val (.int p2), .val (.int (1 : Int32)), .val (.int (0 : Int32)), .val (.int (1 : Int32)), .val (.int (own_pos p1)), .val (.int (own_pos p2)), .val (.ref b244), .unset, .unset, .unset, .unset, .unset] [])) (fun _ k => XS.astore X244.here hx rfl (hb hby at_87) rfl rfl (l' := #[.val (.int p0), .val (.int p1), .val (.int p2), .val (.int (1 : Int32)), .val (.int (0 : Int32)), .val (.int (1 : Int32)), .val (.int (own_pos p1)), .val (.int (own_pos p2)), .val (.ref b244), .unset, .unset, .unset, .unset, .unset]) rfl k) ?_
        refine Go.step (T' := T244) (g' := (mkF m 90 #[.val (.int p0), .val (.int p1), .val (.int p2), .val (.int (1 : Int32)), .val (.int (0 : Int32)), .val (.int (1 : Int32)), .val (.int (own_pos p1)), .val (.int (own_pos p2)), .val (.ref b244), .unset, .unset, .unset, .unset, .unset] [(.int (1 : Int32))])) (fun _ k => XS.iloadN X244.here hx rfl (hb hby at_89) rfl  k) ?_
        refine Go.step (T' := T244) (g' := (mkF m 93 #[.val (.int p0), .val (.int p1), .val (.int p2), .val (.int (1 : Int32)), .val (.int (0 : Int32)), .val (.int (1 : Int32)), .val (.int (own_pos p1)), .val (.int (own_pos p2)), .val (.ref b244), .unset, .unset, .unset, .unset, .unset] [])) (fun _ k => XS.ifNo X244.here hx rfl (hb hby at_90) rfl ((if0 _ _).trans (feq (by decide : ¬ ((1 : Int32) = (0 : Int32)))).1) k) ?_
        refine Go.step (T' := T244) (g' := (mkF m 95 #[.val (.int p0), .val (.int p1), .val (.int p2), .val (.int (1 : Int32)), .val (.int (0 : Int32)), .val (.int (1 : Int32)), .val (.int (own_pos p1)), .val (.int (own_pos p2)), .val (.ref b244), .unset, .unset, .unset, .unset, .unset] [(.ref b244)])) (fun _ k => XS.aload X244.here hx rfl (hb hby at_93) rfl rfl k) ?_
        refine Go.step (T' := T244) (g' := (mkF m 97 #[.val (.int p0), .val (.int p1), .val (.int p2), .val (.int (1 : Int32)), .val (.int (0 : Int32)), .val (.int (1 : Int32)), .val (.int (own_pos p1)), .val (.int (own_pos p2)), .val (.ref b244), .unset, .unset, .unset, .unset, .unset] [(.int (own_pos p1)), (.ref b244)])) (fun _ k => XS.iload X244.here hx rfl (hb hby at_95) rfl  k) ?_
        obtain ⟨cq253, kq253, q253a, q253b, q253c⟩ := isOf hZ rfl E244
        obtain ⟨_, _, ⟨T253, L253, k253, n253⟩, -, X253, ⟨Lc253, hQ253, l253, y253, z253⟩, st253⟩ := X244.virtualBack hx (y := (⟨"com/example/draftd/draftd/odata/ServiceSettings", "withPageSize", "(I)Lcom/example/draftd/draftd/odata/ServiceSettings;"⟩ : MethodName)) (z := (⟨"com/example/draftd/draftd/odata/ServiceSettings", "withPageSize", "(I)Lcom/example/draftd/draftd/odata/ServiceSettings;"⟩ : MethodName)) hown (mvT hZ (hw _ (List.mem_of_getElem? (i := 26) rfl))) (mvT hZ (hw _ (List.mem_of_getElem? (i := 27) rfl))) (notFace_of_selects (args := #[]) (mvT hZ (hw _ (List.mem_of_getElem? (i := 29) rfl)))) (mvT hZ (hw _ (List.mem_of_getElem? (i := 29) rfl))) (mvT hZ (hw _ (List.mem_of_getElem? (i := 28) rfl))) (by decide) (backOf (W := 0) (Q := Qwith Z (.ref wL) (.ref wL) (own_pos p1) T244.heap n0) (own_withPageSize l Z a0 hw [] b244 (own_pos p1) wL wD wL wL 100 T244.heap n0 Z244 F247 F248 E244 G244a G244b G244c (own_pos_ge _)) hZ (hw _ (List.mem_of_getElem? (i := 30) rfl)) (hw _ (List.mem_of_getElem? (i := 7) rfl)) (by decide) (by decide)) q253a q253c (g := (mkF m 97 #[.val (.int p0), .val (.int p1), .val (.int p2), .val (.int (1 : Int32)), .val (.int (0 : Int32)), .val (.int (1 : Int32)), .val (.int (own_pos p1)), .val (.int (own_pos p2)), .val (.ref b244), .unset, .unset, .unset, .unset, .unset] [(.int (own_pos p1)), (.ref b244)])) rfl (by rw [hml]; rfl) (Steps.refl _) (argsL := [(.int (own_pos p1))]) (rest := []) (lenOf own_pd1 rfl) rfl (by show 2 * 0 + _ ≤ _; exact Nat.le_of_eq rfl) (hb hby at_97) (fun _ _ => ⟨rfl, rfl, (by decide : 2 + 1 ≤ _), (by decide : 6 + 3 ≤ _)⟩)
        dsimp only [Pt.U, Pt.locs, Pt.cells, Pt.slots] at X253 l253 y253 z253 st253 hQ253
        subst l253 y253 z253
        obtain ⟨b253, rfl, N253q, K253, sz253, E253, G253a, G253b, G253c⟩ := hQ253
        have N253 := Fr.app N244 N253q
        have ne254 : b233 ≠ b253 := Nat.ne_of_lt (Nat.lt_of_lt_of_le F249.lt sz253)
        have ne255 : b244 ≠ b253 := Nat.ne_of_lt (Nat.lt_of_lt_of_le G244a.lt sz253)
        have ge256 : n0 ≤ b253 := Nat.le_trans Z244 sz253
        have Z253 : n0 ≤ T253.heap.size := Nat.le_trans Z244 K253.1
        have F257 := own_sta_keep F247 K253 all0
        have F258 := own_sta_keep F248 K253 all0
        have F259 := F249.keep K253
        have F260 := F250.keep K253 nin0
        have F261 := F251.keep K253 nin0
        have F262 := F252.keep K253 nin0
        have F263 := G244a.keep K253 nin0
        have F264 := G244b.keep K253 nin0
        have F265 := G244c.keep K253 nin0
        have F266 := E244.keep K253
        refine Go.step (T' := T253) (g' := (mkF m 100 #[.val (.int p0), .val (.int p1), .val (.int p2), .val (.int (1 : Int32)), .val (.int (0 : Int32)), .val (.int (1 : Int32)), .val (.int (own_pos p1)), .val (.int (own_pos p2)), .val (.ref b244), .unset, .unset, .unset, .unset, .unset] [(.ref b253)])) (fun _ k => st253.trans k) ?_
        refine Go.step (T' := T253) (g' := (mkF m 102 #[.val (.int p0), .val (.int p1), .val (.int p2), .val (.int (1 : Int32)), .val (.int (0 : Int32)), .val (.int (1 : Int32)), .val (.int (own_pos p1)), .val (.int (own_pos p2)), .val (.ref b253), .unset, .unset, .unset, .unset, .unset] [])) (fun _ k => XS.astore X253.here hx rfl (hb hby at_100) rfl rfl (l' := #[.val (.int p0), .val (.int p1), .val (.int p2), .val (.int (1 : Int32)), .val (.int (0 : Int32)), .val (.int (1 : Int32)), .val (.int (own_pos p1)), .val (.int (own_pos p2)), .val (.ref b253), .unset, .unset, .unset, .unset, .unset]) rfl k) ?_
        refine Go.step (T' := T253) (g' := (mkF m 103 #[.val (.int p0), .val (.int p1), .val (.int p2), .val (.int (1 : Int32)), .val (.int (0 : Int32)), .val (.int (1 : Int32)), .val (.int (own_pos p1)), .val (.int (own_pos p2)), .val (.ref b253), .unset, .unset, .unset, .unset, .unset] [(.int (1 : Int32))])) (fun _ k => XS.iloadN X253.here hx rfl (hb hby at_102) rfl  k) ?_
        refine Go.step (T' := T253) (g' := (mkF m 106 #[.val (.int p0), .val (.int p1), .val (.int p2), .val (.int (1 : Int32)), .val (.int (0 : Int32)), .val (.int (1 : Int32)), .val (.int (own_pos p1)), .val (.int (own_pos p2)), .val (.ref b253), .unset, .unset, .unset, .unset, .unset] [])) (fun _ k => XS.ifNo X253.here hx rfl (hb hby at_103) rfl ((if0 _ _).trans (feq (by decide : ¬ ((1 : Int32) = (0 : Int32)))).1) k) ?_
        refine Go.step (T' := T253) (g' := (mkF m 108 #[.val (.int p0), .val (.int p1), .val (.int p2), .val (.int (1 : Int32)), .val (.int (0 : Int32)), .val (.int (1 : Int32)), .val (.int (own_pos p1)), .val (.int (own_pos p2)), .val (.ref b253), .unset, .unset, .unset, .unset, .unset] [(.int (own_pos p1))])) (fun _ k => XS.iload X253.here hx rfl (hb hby at_106) rfl  k) ?_
        refine Go.step (T' := T253) (g' := (mkF m 113 #[.val (.int p0), .val (.int p1), .val (.int p2), .val (.int (1 : Int32)), .val (.int (0 : Int32)), .val (.int (1 : Int32)), .val (.int (own_pos p1)), .val (.int (own_pos p2)), .val (.ref b253), .unset, .unset, .unset, .unset, .unset] [(.int (own_pos p1))])) (fun _ k => XS.goto X253.here hx rfl (pc0 := 108) (pc' := 113) rfl (hb hby at_108) (by decide) (by decide) k) ?_
        refine Go.step (T' := T253) (g' := (mkF m 115 #[.val (.int p0), .val (.int p1), .val (.int p2), .val (.int (1 : Int32)), .val (.int (0 : Int32)), .val (.int (1 : Int32)), .val (.int (own_pos p1)), .val (.int (own_pos p2)), .val (.ref b253), .val (.int (own_pos p1)), .unset, .unset, .unset, .unset] [])) (fun _ k => XS.istore X253.here hx rfl (hb hby at_113) rfl (l' := #[.val (.int p0), .val (.int p1), .val (.int p2), .val (.int (1 : Int32)), .val (.int (0 : Int32)), .val (.int (1 : Int32)), .val (.int (own_pos p1)), .val (.int (own_pos p2)), .val (.ref b253), .val (.int (own_pos p1)), .unset, .unset, .unset, .unset]) rfl k) ?_
        refine Go.step (T' := T253) (g' := (mkF m 117 #[.val (.int p0), .val (.int p1), .val (.int p2), .val (.int (1 : Int32)), .val (.int (0 : Int32)), .val (.int (1 : Int32)), .val (.int (own_pos p1)), .val (.int (own_pos p2)), .val (.ref b253), .val (.int (own_pos p1)), .unset, .unset, .unset, .unset] [(.int (0 : Int32))])) (fun _ k => XS.iload X253.here hx rfl (hb hby at_115) rfl  k) ?_
        refine Go.step (T' := T253) (g' := (mkF m 126 #[.val (.int p0), .val (.int p1), .val (.int p2), .val (.int (1 : Int32)), .val (.int (0 : Int32)), .val (.int (1 : Int32)), .val (.int (own_pos p1)), .val (.int (own_pos p2)), .val (.ref b253), .val (.int (own_pos p1)), .unset, .unset, .unset, .unset] [])) (fun _ k => XS.ifYes X253.here hx rfl (pc0 := 117) (pc' := 126) rfl (hb hby at_117) rfl ((if0 _ _).trans (teq (by decide : (0 : Int32) = (0 : Int32))).1) (by decide) (by decide) k) ?_
        obtain ⟨T267, X267, e267, st267⟩ := getS2 X253 hx hZ hown (host := "") (Or.inl (hw _ (List.mem_of_getElem? (i := 24) rfl))) Via.refl rfl F257 (g := (mkF m 126 #[.val (.int p0), .val (.int p1), .val (.int p2), .val (.int (1 : Int32)), .val (.int (0 : Int32)), .val (.int (1 : Int32)), .val (.int (own_pos p1)), .val (.int (own_pos p2)), .val (.ref b253), .val (.int (own_pos p1)), .unset, .unset, .unset, .unset] [])) rfl (hb hby at_126)
        refine Go.step (T' := T267) (g' := (mkF m 129 #[.val (.int p0), .val (.int p1), .val (.int p2), .val (.int (1 : Int32)), .val (.int (0 : Int32)), .val (.int (1 : Int32)), .val (.int (own_pos p1)), .val (.int (own_pos p2)), .val (.ref b253), .val (.int (own_pos p1)), .unset, .unset, .unset, .unset] [(.ref wL)])) st267 ?_
        refine Go.step (T' := T267) (g' := (mkF m 131 #[.val (.int p0), .val (.int p1), .val (.int p2), .val (.int (1 : Int32)), .val (.int (0 : Int32)), .val (.int (1 : Int32)), .val (.int (own_pos p1)), .val (.int (own_pos p2)), .val (.ref b253), .val (.int (own_pos p1)), .val (.ref wL), .unset, .unset, .unset] [])) (fun _ k => XS.astore X267.here hx rfl (hb hby at_129) rfl rfl (l' := #[.val (.int p0), .val (.int p1), .val (.int p2), .val (.int (1 : Int32)), .val (.int (0 : Int32)), .val (.int (1 : Int32)), .val (.int (own_pos p1)), .val (.int (own_pos p2)), .val (.ref b253), .val (.int (own_pos p1)), .val (.ref wL), .unset, .unset, .unset]) rfl k) ?_
        refine Go.step (T' := T267) (g' := (mkF m 133 #[.val (.int p0), .val (.int p1), .val (.int p2), .val (.int (1 : Int32)), .val (.int (0 : Int32)), .val (.int (1 : Int32)), .val (.int (own_pos p1)), .val (.int (own_pos p2)), .val (.ref b253), .val (.int (own_pos p1)), .val (.ref wL), .unset, .unset, .unset] [(.int (1 : Int32))])) (fun _ k => XS.iload X267.here hx rfl (hb hby at_131) rfl  k) ?_
        refine Go.step (T' := T267) (g' := (mkF m 136 #[.val (.int p0), .val (.int p1), .val (.int p2), .val (.int (1 : Int32)), .val (.int (0 : Int32)), .val (.int (1 : Int32)), .val (.int (own_pos p1)), .val (.int (own_pos p2)), .val (.ref b253), .val (.int (own_pos p1)), .val (.ref wL), .unset, .unset, .unset] [])) (fun _ k => XS.ifNo X267.here hx rfl (hb hby at_133) rfl ((if0 _ _).trans (feq (by decide : ¬ ((1 : Int32) = (0 : Int32)))).1) k) ?_
        obtain ⟨T268, X268, e268, st268⟩ := getS2 X267 hx hZ hown (host := "") (Or.inl (hw _ (List.mem_of_getElem? (i := 24) rfl))) Via.refl e267 F257 (g := (mkF m 136 #[.val (.int p0), .val (.int p1), .val (.int p2), .val (.int (1 : Int32)), .val (.int (0 : Int32)), .val (.int (1 : Int32)), .val (.int (own_pos p1)), .val (.int (own_pos p2)), .val (.ref b253), .val (.int (own_pos p1)), .val (.ref wL), .unset, .unset, .unset] [])) rfl (hb hby at_136)
        refine Go.step (T' := T268) (g' := (mkF m 139 #[.val (.int p0), .val (.int p1), .val (.int p2), .val (.int (1 : Int32)), .val (.int (0 : Int32)), .val (.int (1 : Int32)), .val (.int (own_pos p1)), .val (.int (own_pos p2)), .val (.ref b253), .val (.int (own_pos p1)), .val (.ref wL), .unset, .unset, .unset] [(.ref wL)])) st268 ?_
        refine Go.step (T' := T268) (g' := (mkF m 145 #[.val (.int p0), .val (.int p1), .val (.int p2), .val (.int (1 : Int32)), .val (.int (0 : Int32)), .val (.int (1 : Int32)), .val (.int (own_pos p1)), .val (.int (own_pos p2)), .val (.ref b253), .val (.int (own_pos p1)), .val (.ref wL), .unset, .unset, .unset] [(.ref wL)])) (fun _ k => XS.goto X268.here hx rfl (pc0 := 139) (pc' := 145) rfl (hb hby at_139) (by decide) (by decide) k) ?_
        refine Go.step (T' := T268) (g' := (mkF m 147 #[.val (.int p0), .val (.int p1), .val (.int p2), .val (.int (1 : Int32)), .val (.int (0 : Int32)), .val (.int (1 : Int32)), .val (.int (own_pos p1)), .val (.int (own_pos p2)), .val (.ref b253), .val (.int (own_pos p1)), .val (.ref wL), .val (.ref wL), .unset, .unset] [])) (fun _ k => XS.astore X268.here hx rfl (hb hby at_145) rfl rfl (l' := #[.val (.int p0), .val (.int p1), .val (.int p2), .val (.int (1 : Int32)), .val (.int (0 : Int32)), .val (.int (1 : Int32)), .val (.int (own_pos p1)), .val (.int (own_pos p2)), .val (.ref b253), .val (.int (own_pos p1)), .val (.ref wL), .val (.ref wL), .unset, .unset]) rfl k) ?_
        exact own_tail p0 p1 p2 (1 : Int32) (0 : Int32) (1 : Int32) (own_pos p1) (own_pos p2) (own_pos p1) b253 wL wL wL wD X268 hx hZ hw hby hml hown hret hlk e268 N253 Z253 (by decide) (by decide) F257 F258 E253 G253a G253b G253c (own_pos_ge _)
    · skip
      refine Go.step (T' := s₁) (g' := (mkF m 18 #[.val (.int p0), .val (.int p1), .val (.int p2), .val (.int (1 : Int32)), .unset, .unset, .unset, .unset, .unset, .unset, .unset, .unset, .unset, .unset] [])) (fun _ k => XS.ifNo X0.here hx rfl (hb hby at_15) rfl ((if0 _ _).trans (feq hc206).1) k) ?_
      refine Go.step (T' := s₁) (g' := (mkF m 19 #[.val (.int p0), .val (.int p1), .val (.int p2), .val (.int (1 : Int32)), .unset, .unset, .unset, .unset, .unset, .unset, .unset, .unset, .unset, .unset] [(.int (1 : Int32))])) (fun _ k => XS.iconst X0.here hx rfl (hb hby at_18) k) ?_
      refine Go.step (T' := s₁) (g' := (mkF m 23 #[.val (.int p0), .val (.int p1), .val (.int p2), .val (.int (1 : Int32)), .unset, .unset, .unset, .unset, .unset, .unset, .unset, .unset, .unset, .unset] [(.int (1 : Int32))])) (fun _ k => XS.goto X0.here hx rfl (pc0 := 19) (pc' := 23) rfl (hb hby at_19) (by decide) (by decide) k) ?_
      refine Go.step (T' := s₁) (g' := (mkF m 25 #[.val (.int p0), .val (.int p1), .val (.int p2), .val (.int (1 : Int32)), .val (.int (1 : Int32)), .unset, .unset, .unset, .unset, .unset, .unset, .unset, .unset, .unset] [])) (fun _ k => XS.istore X0.here hx rfl (hb hby at_23) rfl (l' := #[.val (.int p0), .val (.int p1), .val (.int p2), .val (.int (1 : Int32)), .val (.int (1 : Int32)), .unset, .unset, .unset, .unset, .unset, .unset, .unset, .unset, .unset]) rfl k) ?_
      refine Go.step (T' := s₁) (g' := (mkF m 26 #[.val (.int p0), .val (.int p1), .val (.int p2), .val (.int (1 : Int32)), .val (.int (1 : Int32)), .unset, .unset, .unset, .unset, .unset, .unset, .unset, .unset, .unset] [(.int p0)])) (fun _ k => XS.iloadN X0.here hx rfl (hb hby at_25) rfl  k) ?_
      refine Go.step (T' := s₁) (g' := (mkF m 27 #[.val (.int p0), .val (.int p1), .val (.int p2), .val (.int (1 : Int32)), .val (.int (1 : Int32)), .unset, .unset, .unset, .unset, .unset, .unset, .unset, .unset, .unset] [(.int (4 : Int32)), (.int p0)])) (fun _ k => XS.iconst X0.here hx rfl (hb hby at_26) k) ?_
      refine Go.step (T' := s₁) (g' := (mkF m 28 #[.val (.int p0), .val (.int p1), .val (.int p2), .val (.int (1 : Int32)), .val (.int (1 : Int32)), .unset, .unset, .unset, .unset, .unset, .unset, .unset, .unset, .unset] [(.int (p0 &&& (4 : Int32)))])) (fun _ k => XS.iand X0.here hx rfl (hb hby at_27) rfl k) ?_
      by_cases hc269 : (p0 &&& (4 : Int32)) = (0 : Int32)
      · skip
        refine Go.step (T' := s₁) (g' := (mkF m 35 #[.val (.int p0), .val (.int p1), .val (.int p2), .val (.int (1 : Int32)), .val (.int (1 : Int32)), .unset, .unset, .unset, .unset, .unset, .unset, .unset, .unset, .unset] [])) (fun _ k => XS.ifYes X0.here hx rfl (pc0 := 28) (pc' := 35) rfl (hb hby at_28) rfl ((if0 _ _).trans (teq hc269).1) (by decide) (by decide) k) ?_
        refine Go.step (T' := s₁) (g' := (mkF m 36 #[.val (.int p0), .val (.int p1), .val (.int p2), .val (.int (1 : Int32)), .val (.int (1 : Int32)), .unset, .unset, .unset, .unset, .unset, .unset, .unset, .unset, .unset] [(.int (0 : Int32))])) (fun _ k => XS.iconst X0.here hx rfl (hb hby at_35) k) ?_
        refine Go.step (T' := s₁) (g' := (mkF m 38 #[.val (.int p0), .val (.int p1), .val (.int p2), .val (.int (1 : Int32)), .val (.int (1 : Int32)), .val (.int (0 : Int32)), .unset, .unset, .unset, .unset, .unset, .unset, .unset, .unset] [])) (fun _ k => XS.istore X0.here hx rfl (hb hby at_36) rfl (l' := #[.val (.int p0), .val (.int p1), .val (.int p2), .val (.int (1 : Int32)), .val (.int (1 : Int32)), .val (.int (0 : Int32)), .unset, .unset, .unset, .unset, .unset, .unset, .unset, .unset]) rfl k) ?_
        refine Go.step (T' := s₁) (g' := (mkF m 39 #[.val (.int p0), .val (.int p1), .val (.int p2), .val (.int (1 : Int32)), .val (.int (1 : Int32)), .val (.int (0 : Int32)), .unset, .unset, .unset, .unset, .unset, .unset, .unset, .unset] [(.int p1)])) (fun _ k => XS.iloadN X0.here hx rfl (hb hby at_38) rfl  k) ?_
        obtain ⟨_, _, ⟨T270, L270, k270, n270⟩, -, X270, ⟨Lc270, hQ270, l270, y270, z270⟩, st270⟩ := Jvm.LawKit.callS X0 hx (y := (⟨"com/example/draftd/draftd/odata/ServiceSettingsWithPageSizePinLaw", "positive", "(I)I"⟩ : MethodName)) hown (mvT hZ (hw _ (List.mem_of_getElem? (i := 0) rfl))) (mvT hZ (hw _ (List.mem_of_getElem? (i := 1) rfl))) (mvT hZ (hw _ (List.mem_of_getElem? (i := 2) rfl))) (mvT hZ (hw _ (List.mem_of_getElem? (i := 3) rfl))) (by decide) (backOf (W := 0) (Q := Qret (some (.int (own_pos p1))) h0 n0) (own_rpos l Z a0 hw [] p1 h0 n0 Z0) hZ (hw _ (List.mem_of_getElem? (i := 3) rfl)) (hw _ (List.mem_of_getElem? (i := 2) rfl)) (by decide) (by decide)) (g := (mkF m 39 #[.val (.int p0), .val (.int p1), .val (.int p2), .val (.int (1 : Int32)), .val (.int (1 : Int32)), .val (.int (0 : Int32)), .unset, .unset, .unset, .unset, .unset, .unset, .unset, .unset] [(.int p1)])) rfl (by rw [hml]; rfl) (argsL := [(.int p1)]) (rest := []) (lenOf own_pd4 rfl) rfl (by show 2 * 0 + _ ≤ _; exact Nat.le_of_eq rfl) (hb hby at_39) (fun _ _ => ⟨rfl, e0, (by decide : 0 + 0 ≤ _), (by decide : 0 + 0 ≤ _)⟩)
        dsimp only [Pt.U, Pt.locs, Pt.cells, Pt.slots] at X270 l270 y270 z270 st270 hQ270
        subst l270 y270 z270
        obtain ⟨rfl, N270q, eh270⟩ := hQ270
        have N270 := Fr.app N0 N270q
        refine Go.step (T' := T270) (g' := (mkF m 42 #[.val (.int p0), .val (.int p1), .val (.int p2), .val (.int (1 : Int32)), .val (.int (1 : Int32)), .val (.int (0 : Int32)), .unset, .unset, .unset, .unset, .unset, .unset, .unset, .unset] [(.int (own_pos p1))])) (st270) ?_
        refine Go.step (T' := T270) (g' := (mkF m 44 #[.val (.int p0), .val (.int p1), .val (.int p2), .val (.int (1 : Int32)), .val (.int (1 : Int32)), .val (.int (0 : Int32)), .val (.int (own_pos p1)), .unset, .unset, .unset, .unset, .unset, .unset, .unset] [])) (fun _ k => XS.istore X270.here hx rfl (hb hby at_42) rfl (l' := #[.val (.int p0), .val (.int p1), .val (.int p2), .val (.int (1 : Int32)), .val (.int (1 : Int32)), .val (.int (0 : Int32)), .val (.int (own_pos p1)), .unset, .unset, .unset, .unset, .unset, .unset, .unset]) rfl k) ?_
        refine Go.step (T' := T270) (g' := (mkF m 45 #[.val (.int p0), .val (.int p1), .val (.int p2), .val (.int (1 : Int32)), .val (.int (1 : Int32)), .val (.int (0 : Int32)), .val (.int (own_pos p1)), .unset, .unset, .unset, .unset, .unset, .unset, .unset] [(.int p2)])) (fun _ k => XS.iloadN X270.here hx rfl (hb hby at_44) rfl  k) ?_
        obtain ⟨_, _, ⟨T271, L271, k271, n271⟩, -, X271, ⟨Lc271, hQ271, l271, y271, z271⟩, st271⟩ := Jvm.LawKit.callS X270 hx (y := (⟨"com/example/draftd/draftd/odata/ServiceSettingsWithPageSizePinLaw", "positive", "(I)I"⟩ : MethodName)) hown (mvT hZ (hw _ (List.mem_of_getElem? (i := 0) rfl))) (mvT hZ (hw _ (List.mem_of_getElem? (i := 1) rfl))) (mvT hZ (hw _ (List.mem_of_getElem? (i := 2) rfl))) (mvT hZ (hw _ (List.mem_of_getElem? (i := 3) rfl))) (by decide) (backOf (W := 0) (Q := Qret (some (.int (own_pos p2))) h0 n0) (own_rpos l Z a0 hw [] p2 h0 n0 Z0) hZ (hw _ (List.mem_of_getElem? (i := 3) rfl)) (hw _ (List.mem_of_getElem? (i := 2) rfl)) (by decide) (by decide)) (g := (mkF m 45 #[.val (.int p0), .val (.int p1), .val (.int p2), .val (.int (1 : Int32)), .val (.int (1 : Int32)), .val (.int (0 : Int32)), .val (.int (own_pos p1)), .unset, .unset, .unset, .unset, .unset, .unset, .unset] [(.int p2)])) rfl (by rw [hml]; rfl) (argsL := [(.int p2)]) (rest := []) (lenOf own_pd4 rfl) rfl (by show 2 * 0 + _ ≤ _; exact Nat.le_of_eq rfl) (hb hby at_45) (fun _ _ => ⟨rfl, eh270, (by decide : 0 + 0 ≤ _), (by decide : 0 + 0 ≤ _)⟩)
        dsimp only [Pt.U, Pt.locs, Pt.cells, Pt.slots] at X271 l271 y271 z271 st271 hQ271
        subst l271 y271 z271
        obtain ⟨rfl, N271q, eh271⟩ := hQ271
        have N271 := Fr.app N270 N271q
        refine Go.step (T' := T271) (g' := (mkF m 48 #[.val (.int p0), .val (.int p1), .val (.int p2), .val (.int (1 : Int32)), .val (.int (1 : Int32)), .val (.int (0 : Int32)), .val (.int (own_pos p1)), .unset, .unset, .unset, .unset, .unset, .unset, .unset] [(.int (own_pos p2))])) (st271) ?_
        refine Go.step (T' := T271) (g' := (mkF m 50 #[.val (.int p0), .val (.int p1), .val (.int p2), .val (.int (1 : Int32)), .val (.int (1 : Int32)), .val (.int (0 : Int32)), .val (.int (own_pos p1)), .val (.int (own_pos p2)), .unset, .unset, .unset, .unset, .unset, .unset] [])) (fun _ k => XS.istore X271.here hx rfl (hb hby at_48) rfl (l' := #[.val (.int p0), .val (.int p1), .val (.int p2), .val (.int (1 : Int32)), .val (.int (1 : Int32)), .val (.int (0 : Int32)), .val (.int (own_pos p1)), .val (.int (own_pos p2)), .unset, .unset, .unset, .unset, .unset, .unset]) rfl k) ?_
        obtain ⟨T272, h272, X272, e272, E272, A272, D272, -, st272⟩ := newO X271 hx hZ hown (hw _ (List.mem_of_getElem? (i := 5) rfl)) (hw _ (List.mem_of_getElem? (i := 6) rfl)) (hw _ (List.mem_of_getElem? (i := 7) rfl)) eh271 (g := (mkF m 50 #[.val (.int p0), .val (.int p1), .val (.int p2), .val (.int (1 : Int32)), .val (.int (1 : Int32)), .val (.int (0 : Int32)), .val (.int (own_pos p1)), .val (.int (own_pos p2)), .unset, .unset, .unset, .unset, .unset, .unset] [])) rfl (hb hby at_50) (by decide) (by decide)
        obtain ⟨b272, g272⟩ : ∃ z, z = h0.size := ⟨_, rfl⟩
        rw [← g272] at A272 D272 st272
        have ge272 : n0 ≤ b272 := Nat.le_trans Z0 (Nat.le_of_eq g272.symm)
        have Z272 : n0 ≤ h272.size := Nat.le_trans Z0 E272.1
        have F273 := S0.ext E272
        have F274 := S1.ext E272
        have F275 : Fld Z h272 b272 "com/example/draftd/draftd/odata/ServiceSettings" "lockTimeout" "Ljava/time/Duration;" .null := D272 (Or.inl (hw _ (List.mem_of_getElem? (i := 17) rfl))) (ty := (.object "java/time/Duration")) (by decide)
        have F276 : Fld Z h272 b272 "com/example/draftd/draftd/odata/ServiceSettings" "draftLifetime" "Ljava/time/Duration;" .null := D272 (Or.inl (hw _ (List.mem_of_getElem? (i := 21) rfl))) (ty := (.object "java/time/Duration")) (by decide)
        have F277 : Fld Z h272 b272 "com/example/draftd/draftd/odata/ServiceSettings" "pageSize" "I" (.int (0 : Int32)) := D272 (Or.inl (hw _ (List.mem_of_getElem? (i := 23) rfl))) (ty := .int) (by decide)
        refine Go.step (T' := T272) (g' := (mkF m 53 #[.val (.int p0), .val (.int p1), .val (.int p2), .val (.int (1 : Int32)), .val (.int (1 : Int32)), .val (.int (0 : Int32)), .val (.int (own_pos p1)), .val (.int (own_pos p2)), .unset, .unset, .unset, .unset, .unset, .unset] [(.ref b272)])) st272 ?_
        refine Go.step (T' := T272) (g' := (mkF m 54 #[.val (.int p0), .val (.int p1), .val (.int p2), .val (.int (1 : Int32)), .val (.int (1 : Int32)), .val (.int (0 : Int32)), .val (.int (own_pos p1)), .val (.int (own_pos p2)), .unset, .unset, .unset, .unset, .unset, .unset] [(.ref b272), (.ref b272)])) (fun _ k => XS.dup X272.here hx rfl (hb hby at_53) rfl rfl k) ?_
        obtain ⟨_, _, ⟨T278, L278, k278, n278⟩, -, X278, ⟨Lc278, hQ278, l278, y278, z278⟩, st278⟩ := X272.specialBack hx (y := (⟨"com/example/draftd/draftd/odata/ServiceSettings", "<init>", "()V"⟩ : MethodName)) rfl hown (mvT hZ (hw _ (List.mem_of_getElem? (i := 8) rfl))) (mvT hZ (hw _ (List.mem_of_getElem? (i := 9) rfl))) (mvT hZ (hw _ (List.mem_of_getElem? (i := 10) rfl))) (by decide) (backOf (W := 1) (Q := Qini Z b272 (.ref wL) (.ref wD) 100 h272 n0) (own_ini0 l Z a0 hw [] b272 wL wD (.null) (.null) ((.int (0 : Int32))) h272 n0 Z272 F273 F274 A272 ge272 F275 F276 F277) hZ (hw _ (List.mem_of_getElem? (i := 10) rfl)) (hw _ (List.mem_of_getElem? (i := 7) rfl)) (by decide) (by decide)) (g := (mkF m 54 #[.val (.int p0), .val (.int p1), .val (.int p2), .val (.int (1 : Int32)), .val (.int (1 : Int32)), .val (.int (0 : Int32)), .val (.int (own_pos p1)), .val (.int (own_pos p2)), .unset, .unset, .unset, .unset, .unset, .unset] [(.ref b272), (.ref b272)])) rfl (by rw [hml]; rfl) (Steps.refl _) (a := b272) (argsL := []) (rest := [(.ref b272)]) (lenOf own_pd5 rfl) rfl (by show 2 * 0 + _ ≤ _; exact Nat.le_of_eq rfl) (hb hby at_54) (fun _ _ => ⟨rfl, e272, (by decide : 1 + 0 ≤ _), (by decide : 3 + 0 ≤ _)⟩)
        dsimp only [Pt.U, Pt.locs, Pt.cells, Pt.slots] at X278 l278 y278 z278 st278 hQ278
        subst l278 y278 z278
        obtain ⟨rfl, N278q, K278, G278a, G278b, G278c⟩ := hQ278
        have N278 := Fr.app N271 N278q
        have Z278 : n0 ≤ T278.heap.size := Nat.le_trans Z272 K278.1
        have F279 := own_sta_keep F273 K278 (allS (own_plain A272) all0)
        have F280 := own_sta_keep F274 K278 (allS (own_plain A272) all0)
        have F281 := A272.keep K278
        refine Go.step (T' := T278) (g' := (mkF m 57 #[.val (.int p0), .val (.int p1), .val (.int p2), .val (.int (1 : Int32)), .val (.int (1 : Int32)), .val (.int (0 : Int32)), .val (.int (own_pos p1)), .val (.int (own_pos p2)), .unset, .unset, .unset, .unset, .unset, .unset] [(.ref b272)])) (fun _ k => st278.trans k) ?_
        refine Go.step (T' := T278) (g' := (mkF m 59 #[.val (.int p0), .val (.int p1), .val (.int p2), .val (.int (1 : Int32)), .val (.int (1 : Int32)), .val (.int (0 : Int32)), .val (.int (own_pos p1)), .val (.int (own_pos p2)), .val (.ref b272), .unset, .unset, .unset, .unset, .unset] [])) (fun _ k => XS.astore X278.here hx rfl (hb hby at_57) rfl rfl (l' := #[.val (.int p0), .val (.int p1), .val (.int p2), .val (.int (1 : Int32)), .val (.int (1 : Int32)), .val (.int (0 : Int32)), .val (.int (own_pos p1)), .val (.int (own_pos p2)), .val (.ref b272), .unset, .unset, .unset, .unset, .unset]) rfl k) ?_
        refine Go.step (T' := T278) (g' := (mkF m 61 #[.val (.int p0), .val (.int p1), .val (.int p2), .val (.int (1 : Int32)), .val (.int (1 : Int32)), .val (.int (0 : Int32)), .val (.int (own_pos p1)), .val (.int (own_pos p2)), .val (.ref b272), .unset, .unset, .unset, .unset, .unset] [(.int (1 : Int32))])) (fun _ k => XS.iload X278.here hx rfl (hb hby at_59) rfl  k) ?_
        refine Go.step (T' := T278) (g' := (mkF m 64 #[.val (.int p0), .val (.int p1), .val (.int p2), .val (.int (1 : Int32)), .val (.int (1 : Int32)), .val (.int (0 : Int32)), .val (.int (own_pos p1)), .val (.int (own_pos p2)), .val (.ref b272), .unset, .unset, .unset, .unset, .unset] [])) (fun _ k => XS.ifNo X278.here hx rfl (hb hby at_61) rfl ((if0 _ _).trans (feq (by decide : ¬ ((1 : Int32) = (0 : Int32)))).1) k) ?_
        refine Go.step (T' := T278) (g' := (mkF m 66 #[.val (.int p0), .val (.int p1), .val (.int p2), .val (.int (1 : Int32)), .val (.int (1 : Int32)), .val (.int (0 : Int32)), .val (.int (own_pos p1)), .val (.int (own_pos p2)), .val (.ref b272), .unset, .unset, .unset, .unset, .unset] [(.ref b272)])) (fun _ k => XS.aload X278.here hx rfl (hb hby at_64) rfl rfl k) ?_
        obtain ⟨T282, X282, e282, st282⟩ := getS2 X278 hx hZ hown (host := "") (Or.inl (hw _ (List.mem_of_getElem? (i := 25) rfl))) Via.refl rfl F280 (g := (mkF m 66 #[.val (.int p0), .val (.int p1), .val (.int p2), .val (.int (1 : Int32)), .val (.int (1 : Int32)), .val (.int (0 : Int32)), .val (.int (own_pos p1)), .val (.int (own_pos p2)), .val (.ref b272), .unset, .unset, .unset, .unset, .unset] [(.ref b272)])) rfl (hb hby at_66)
        refine Go.step (T' := T282) (g' := (mkF m 69 #[.val (.int p0), .val (.int p1), .val (.int p2), .val (.int (1 : Int32)), .val (.int (1 : Int32)), .val (.int (0 : Int32)), .val (.int (own_pos p1)), .val (.int (own_pos p2)), .val (.ref b272), .unset, .unset, .unset, .unset, .unset] [(.ref wD), (.ref b272)])) st282 ?_
        obtain ⟨cq283, kq283, q283a, q283b, q283c⟩ := isOf hZ e282 F281
        obtain ⟨_, _, ⟨T283, L283, k283, n283⟩, -, X283, ⟨Lc283, hQ283, l283, y283, z283⟩, st283⟩ := X282.virtualBack hx (y := (⟨"com/example/draftd/draftd/odata/ServiceSettings", "withLockTimeout", "(Ljava/time/Duration;)Lcom/example/draftd/draftd/odata/ServiceSettings;"⟩ : MethodName)) (z := (⟨"com/example/draftd/draftd/odata/ServiceSettings", "withLockTimeout", "(Ljava/time/Duration;)Lcom/example/draftd/draftd/odata/ServiceSettings;"⟩ : MethodName)) hown (mvT hZ (hw _ (List.mem_of_getElem? (i := 55) rfl))) (mvT hZ (hw _ (List.mem_of_getElem? (i := 56) rfl))) (notFace_of_selects (args := #[]) (mvT hZ (hw _ (List.mem_of_getElem? (i := 58) rfl)))) (mvT hZ (hw _ (List.mem_of_getElem? (i := 58) rfl))) (mvT hZ (hw _ (List.mem_of_getElem? (i := 57) rfl))) (by decide) (backOf (W := 0) (Q := Qwith Z (.ref wD) (.ref wD) 100 T278.heap n0) (own_withLockTimeout l Z a0 hw [] b272 wD wL wD wL wD 100 T278.heap n0 Z278 F279 F280 F281 G278a G278b G278c ) hZ (hw _ (List.mem_of_getElem? (i := 59) rfl)) (hw _ (List.mem_of_getElem? (i := 7) rfl)) (by decide) (by decide)) q283a q283c (g := (mkF m 69 #[.val (.int p0), .val (.int p1), .val (.int p2), .val (.int (1 : Int32)), .val (.int (1 : Int32)), .val (.int (0 : Int32)), .val (.int (own_pos p1)), .val (.int (own_pos p2)), .val (.ref b272), .unset, .unset, .unset, .unset, .unset] [(.ref wD), (.ref b272)])) rfl (by rw [hml]; rfl) (Steps.refl _) (argsL := [(.ref wD)]) (rest := []) (lenOf own_pd6 rfl) rfl (by show 2 * 0 + _ ≤ _; exact Nat.le_of_eq rfl) (hb hby at_69) (fun _ _ => ⟨rfl, e282, (by decide : 1 + 1 ≤ _), (by decide : 3 + 3 ≤ _)⟩)
        dsimp only [Pt.U, Pt.locs, Pt.cells, Pt.slots] at X283 l283 y283 z283 st283 hQ283
        subst l283 y283 z283
        obtain ⟨b283, rfl, N283q, K283, sz283, E283, G283a, G283b, G283c⟩ := hQ283
        have N283 := Fr.app N278 N283q
        have ne284 : b272 ≠ b283 := Nat.ne_of_lt (Nat.lt_of_lt_of_le F281.lt sz283)
        have ge285 : n0 ≤ b283 := Nat.le_trans Z278 sz283
        have Z283 : n0 ≤ T283.heap.size := Nat.le_trans Z278 K283.1
        have F286 := own_sta_keep F279 K283 all0
        have F287 := own_sta_keep F280 K283 all0
        have F288 := F281.keep K283
        have F289 := G278a.keep K283 nin0
        have F290 := G278b.keep K283 nin0
        have F291 := G278c.keep K283 nin0
        refine Go.step (T' := T283) (g' := (mkF m 72 #[.val (.int p0), .val (.int p1), .val (.int p2), .val (.int (1 : Int32)), .val (.int (1 : Int32)), .val (.int (0 : Int32)), .val (.int (own_pos p1)), .val (.int (own_pos p2)), .val (.ref b272), .unset, .unset, .unset, .unset, .unset] [(.ref b283)])) (fun _ k => st283.trans k) ?_
        refine Go.step (T' := T283) (g' := (mkF m 74 #[.val (.int p0), .val (.int p1), .val (.int p2), .val (.int (1 : Int32)), .val (.int (1 : Int32)), .val (.int (0 : Int32)), .val (.int (own_pos p1)), .val (.int (own_pos p2)), .val (.ref b283), .unset, .unset, .unset, .unset, .unset] [])) (fun _ k => XS.astore X283.here hx rfl (hb hby at_72) rfl rfl (l' := #[.val (.int p0), .val (.int p1), .val (.int p2), .val (.int (1 : Int32)), .val (.int (1 : Int32)), .val (.int (0 : Int32)), .val (.int (own_pos p1)), .val (.int (own_pos p2)), .val (.ref b283), .unset, .unset, .unset, .unset, .unset]) rfl k) ?_
        refine Go.step (T' := T283) (g' := (mkF m 76 #[.val (.int p0), .val (.int p1), .val (.int p2), .val (.int (1 : Int32)), .val (.int (1 : Int32)), .val (.int (0 : Int32)), .val (.int (own_pos p1)), .val (.int (own_pos p2)), .val (.ref b283), .unset, .unset, .unset, .unset, .unset] [(.int (0 : Int32))])) (fun _ k => XS.iload X283.here hx rfl (hb hby at_74) rfl  k) ?_
        refine Go.step (T' := T283) (g' := (mkF m 89 #[.val (.int p0), .val (.int p1), .val (.int p2), .val (.int (1 : Int32)), .val (.int (1 : Int32)), .val (.int (0 : Int32)), .val (.int (own_pos p1)), .val (.int (own_pos p2)), .val (.ref b283), .unset, .unset, .unset, .unset, .unset] [])) (fun _ k => XS.ifYes X283.here hx rfl (pc0 := 76) (pc' := 89) rfl (hb hby at_76) rfl ((if0 _ _).trans (teq (by decide : (0 : Int32) = (0 : Int32))).1) (by decide) (by decide) k) ?_
        refine Go.step (T' := T283) (g' := (mkF m 90 #[.val (.int p0), .val (.int p1), .val (.int p2), .val (.int (1 : Int32)), .val (.int (1 : Int32)), .val (.int (0 : Int32)), .val (.int (own_pos p1)), .val (.int (own_pos p2)), .val (.ref b283), .unset, .unset, .unset, .unset, .unset] [(.int (1 : Int32))])) (fun _ k => XS.iloadN X283.here hx rfl (hb hby at_89) rfl  k) ?_
        refine Go.step (T' := T283) (g' := (mkF m 93 #[.val (.int p0), .val (.int p1), .val (.int p2), .val (.int (1 : Int32)), .val (.int (1 : Int32)), .val (.int (0 : Int32)), .val (.int (own_pos p1)), .val (.int (own_pos p2)), .val (.ref b283), .unset, .unset, .unset, .unset, .unset] [])) (fun _ k => XS.ifNo X283.here hx rfl (hb hby at_90) rfl ((if0 _ _).trans (feq (by decide : ¬ ((1 : Int32) = (0 : Int32)))).1) k) ?_
        refine Go.step (T' := T283) (g' := (mkF m 95 #[.val (.int p0), .val (.int p1), .val (.int p2), .val (.int (1 : Int32)), .val (.int (1 : Int32)), .val (.int (0 : Int32)), .val (.int (own_pos p1)), .val (.int (own_pos p2)), .val (.ref b283), .unset, .unset, .unset, .unset, .unset] [(.ref b283)])) (fun _ k => XS.aload X283.here hx rfl (hb hby at_93) rfl rfl k) ?_
        refine Go.step (T' := T283) (g' := (mkF m 97 #[.val (.int p0), .val (.int p1), .val (.int p2), .val (.int (1 : Int32)), .val (.int (1 : Int32)), .val (.int (0 : Int32)), .val (.int (own_pos p1)), .val (.int (own_pos p2)), .val (.ref b283), .unset, .unset, .unset, .unset, .unset] [(.int (own_pos p1)), (.ref b283)])) (fun _ k => XS.iload X283.here hx rfl (hb hby at_95) rfl  k) ?_
        obtain ⟨cq292, kq292, q292a, q292b, q292c⟩ := isOf hZ rfl E283
        obtain ⟨_, _, ⟨T292, L292, k292, n292⟩, -, X292, ⟨Lc292, hQ292, l292, y292, z292⟩, st292⟩ := X283.virtualBack hx (y := (⟨"com/example/draftd/draftd/odata/ServiceSettings", "withPageSize", "(I)Lcom/example/draftd/draftd/odata/ServiceSettings;"⟩ : MethodName)) (z := (⟨"com/example/draftd/draftd/odata/ServiceSettings", "withPageSize", "(I)Lcom/example/draftd/draftd/odata/ServiceSettings;"⟩ : MethodName)) hown (mvT hZ (hw _ (List.mem_of_getElem? (i := 26) rfl))) (mvT hZ (hw _ (List.mem_of_getElem? (i := 27) rfl))) (notFace_of_selects (args := #[]) (mvT hZ (hw _ (List.mem_of_getElem? (i := 29) rfl)))) (mvT hZ (hw _ (List.mem_of_getElem? (i := 29) rfl))) (mvT hZ (hw _ (List.mem_of_getElem? (i := 28) rfl))) (by decide) (backOf (W := 0) (Q := Qwith Z (.ref wD) (.ref wD) (own_pos p1) T283.heap n0) (own_withPageSize l Z a0 hw [] b283 (own_pos p1) wL wD wD wD 100 T283.heap n0 Z283 F286 F287 E283 G283a G283b G283c (own_pos_ge _)) hZ (hw _ (List.mem_of_getElem? (i := 30) rfl)) (hw _ (List.mem_of_getElem? (i := 7) rfl)) (by decide) (by decide)) q292a q292c (g := (mkF m 97 #[.val (.int p0), .val (.int p1), .val (.int p2), .val (.int (1 : Int32)), .val (.int (1 : Int32)), .val (.int (0 : Int32)), .val (.int (own_pos p1)), .val (.int (own_pos p2)), .val (.ref b283), .unset, .unset, .unset, .unset, .unset] [(.int (own_pos p1)), (.ref b283)])) rfl (by rw [hml]; rfl) (Steps.refl _) (argsL := [(.int (own_pos p1))]) (rest := []) (lenOf own_pd1 rfl) rfl (by show 2 * 0 + _ ≤ _; exact Nat.le_of_eq rfl) (hb hby at_97) (fun _ _ => ⟨rfl, rfl, (by decide : 2 + 1 ≤ _), (by decide : 6 + 3 ≤ _)⟩)
        dsimp only [Pt.U, Pt.locs, Pt.cells, Pt.slots] at X292 l292 y292 z292 st292 hQ292
        subst l292 y292 z292
        obtain ⟨b292, rfl, N292q, K292, sz292, E292, G292a, G292b, G292c⟩ := hQ292
        have N292 := Fr.app N283 N292q
        have ne293 : b272 ≠ b292 := Nat.ne_of_lt (Nat.lt_of_lt_of_le F288.lt sz292)
        have ne294 : b283 ≠ b292 := Nat.ne_of_lt (Nat.lt_of_lt_of_le G283a.lt sz292)
        have ge295 : n0 ≤ b292 := Nat.le_trans Z283 sz292
        have Z292 : n0 ≤ T292.heap.size := Nat.le_trans Z283 K292.1
        have F296 := own_sta_keep F286 K292 all0
        have F297 := own_sta_keep F287 K292 all0
        have F298 := F288.keep K292
        have F299 := F289.keep K292 nin0
        have F300 := F290.keep K292 nin0
        have F301 := F291.keep K292 nin0
        have F302 := G283a.keep K292 nin0
        have F303 := G283b.keep K292 nin0
        have F304 := G283c.keep K292 nin0
        have F305 := E283.keep K292
        refine Go.step (T' := T292) (g' := (mkF m 100 #[.val (.int p0), .val (.int p1), .val (.int p2), .val (.int (1 : Int32)), .val (.int (1 : Int32)), .val (.int (0 : Int32)), .val (.int (own_pos p1)), .val (.int (own_pos p2)), .val (.ref b283), .unset, .unset, .unset, .unset, .unset] [(.ref b292)])) (fun _ k => st292.trans k) ?_
        refine Go.step (T' := T292) (g' := (mkF m 102 #[.val (.int p0), .val (.int p1), .val (.int p2), .val (.int (1 : Int32)), .val (.int (1 : Int32)), .val (.int (0 : Int32)), .val (.int (own_pos p1)), .val (.int (own_pos p2)), .val (.ref b292), .unset, .unset, .unset, .unset, .unset] [])) (fun _ k => XS.astore X292.here hx rfl (hb hby at_100) rfl rfl (l' := #[.val (.int p0), .val (.int p1), .val (.int p2), .val (.int (1 : Int32)), .val (.int (1 : Int32)), .val (.int (0 : Int32)), .val (.int (own_pos p1)), .val (.int (own_pos p2)), .val (.ref b292), .unset, .unset, .unset, .unset, .unset]) rfl k) ?_
        refine Go.step (T' := T292) (g' := (mkF m 103 #[.val (.int p0), .val (.int p1), .val (.int p2), .val (.int (1 : Int32)), .val (.int (1 : Int32)), .val (.int (0 : Int32)), .val (.int (own_pos p1)), .val (.int (own_pos p2)), .val (.ref b292), .unset, .unset, .unset, .unset, .unset] [(.int (1 : Int32))])) (fun _ k => XS.iloadN X292.here hx rfl (hb hby at_102) rfl  k) ?_
        refine Go.step (T' := T292) (g' := (mkF m 106 #[.val (.int p0), .val (.int p1), .val (.int p2), .val (.int (1 : Int32)), .val (.int (1 : Int32)), .val (.int (0 : Int32)), .val (.int (own_pos p1)), .val (.int (own_pos p2)), .val (.ref b292), .unset, .unset, .unset, .unset, .unset] [])) (fun _ k => XS.ifNo X292.here hx rfl (hb hby at_103) rfl ((if0 _ _).trans (feq (by decide : ¬ ((1 : Int32) = (0 : Int32)))).1) k) ?_
        refine Go.step (T' := T292) (g' := (mkF m 108 #[.val (.int p0), .val (.int p1), .val (.int p2), .val (.int (1 : Int32)), .val (.int (1 : Int32)), .val (.int (0 : Int32)), .val (.int (own_pos p1)), .val (.int (own_pos p2)), .val (.ref b292), .unset, .unset, .unset, .unset, .unset] [(.int (own_pos p1))])) (fun _ k => XS.iload X292.here hx rfl (hb hby at_106) rfl  k) ?_
        refine Go.step (T' := T292) (g' := (mkF m 113 #[.val (.int p0), .val (.int p1), .val (.int p2), .val (.int (1 : Int32)), .val (.int (1 : Int32)), .val (.int (0 : Int32)), .val (.int (own_pos p1)), .val (.int (own_pos p2)), .val (.ref b292), .unset, .unset, .unset, .unset, .unset] [(.int (own_pos p1))])) (fun _ k => XS.goto X292.here hx rfl (pc0 := 108) (pc' := 113) rfl (hb hby at_108) (by decide) (by decide) k) ?_
        refine Go.step (T' := T292) (g' := (mkF m 115 #[.val (.int p0), .val (.int p1), .val (.int p2), .val (.int (1 : Int32)), .val (.int (1 : Int32)), .val (.int (0 : Int32)), .val (.int (own_pos p1)), .val (.int (own_pos p2)), .val (.ref b292), .val (.int (own_pos p1)), .unset, .unset, .unset, .unset] [])) (fun _ k => XS.istore X292.here hx rfl (hb hby at_113) rfl (l' := #[.val (.int p0), .val (.int p1), .val (.int p2), .val (.int (1 : Int32)), .val (.int (1 : Int32)), .val (.int (0 : Int32)), .val (.int (own_pos p1)), .val (.int (own_pos p2)), .val (.ref b292), .val (.int (own_pos p1)), .unset, .unset, .unset, .unset]) rfl k) ?_
        refine Go.step (T' := T292) (g' := (mkF m 117 #[.val (.int p0), .val (.int p1), .val (.int p2), .val (.int (1 : Int32)), .val (.int (1 : Int32)), .val (.int (0 : Int32)), .val (.int (own_pos p1)), .val (.int (own_pos p2)), .val (.ref b292), .val (.int (own_pos p1)), .unset, .unset, .unset, .unset] [(.int (1 : Int32))])) (fun _ k => XS.iload X292.here hx rfl (hb hby at_115) rfl  k) ?_
        refine Go.step (T' := T292) (g' := (mkF m 120 #[.val (.int p0), .val (.int p1), .val (.int p2), .val (.int (1 : Int32)), .val (.int (1 : Int32)), .val (.int (0 : Int32)), .val (.int (own_pos p1)), .val (.int (own_pos p2)), .val (.ref b292), .val (.int (own_pos p1)), .unset, .unset, .unset, .unset] [])) (fun _ k => XS.ifNo X292.here hx rfl (hb hby at_117) rfl ((if0 _ _).trans (feq (by decide : ¬ ((1 : Int32) = (0 : Int32)))).1) k) ?_
        obtain ⟨T306, X306, e306, st306⟩ := getS2 X292 hx hZ hown (host := "") (Or.inl (hw _ (List.mem_of_getElem? (i := 25) rfl))) Via.refl rfl F297 (g := (mkF m 120 #[.val (.int p0), .val (.int p1), .val (.int p2), .val (.int (1 : Int32)), .val (.int (1 : Int32)), .val (.int (0 : Int32)), .val (.int (own_pos p1)), .val (.int (own_pos p2)), .val (.ref b292), .val (.int (own_pos p1)), .unset, .unset, .unset, .unset] [])) rfl (hb hby at_120)
        refine Go.step (T' := T306) (g' := (mkF m 123 #[.val (.int p0), .val (.int p1), .val (.int p2), .val (.int (1 : Int32)), .val (.int (1 : Int32)), .val (.int (0 : Int32)), .val (.int (own_pos p1)), .val (.int (own_pos p2)), .val (.ref b292), .val (.int (own_pos p1)), .unset, .unset, .unset, .unset] [(.ref wD)])) st306 ?_
        refine Go.step (T' := T306) (g' := (mkF m 129 #[.val (.int p0), .val (.int p1), .val (.int p2), .val (.int (1 : Int32)), .val (.int (1 : Int32)), .val (.int (0 : Int32)), .val (.int (own_pos p1)), .val (.int (own_pos p2)), .val (.ref b292), .val (.int (own_pos p1)), .unset, .unset, .unset, .unset] [(.ref wD)])) (fun _ k => XS.goto X306.here hx rfl (pc0 := 123) (pc' := 129) rfl (hb hby at_123) (by decide) (by decide) k) ?_
        refine Go.step (T' := T306) (g' := (mkF m 131 #[.val (.int p0), .val (.int p1), .val (.int p2), .val (.int (1 : Int32)), .val (.int (1 : Int32)), .val (.int (0 : Int32)), .val (.int (own_pos p1)), .val (.int (own_pos p2)), .val (.ref b292), .val (.int (own_pos p1)), .val (.ref wD), .unset, .unset, .unset] [])) (fun _ k => XS.astore X306.here hx rfl (hb hby at_129) rfl rfl (l' := #[.val (.int p0), .val (.int p1), .val (.int p2), .val (.int (1 : Int32)), .val (.int (1 : Int32)), .val (.int (0 : Int32)), .val (.int (own_pos p1)), .val (.int (own_pos p2)), .val (.ref b292), .val (.int (own_pos p1)), .val (.ref wD), .unset, .unset, .unset]) rfl k) ?_
        refine Go.step (T' := T306) (g' := (mkF m 133 #[.val (.int p0), .val (.int p1), .val (.int p2), .val (.int (1 : Int32)), .val (.int (1 : Int32)), .val (.int (0 : Int32)), .val (.int (own_pos p1)), .val (.int (own_pos p2)), .val (.ref b292), .val (.int (own_pos p1)), .val (.ref wD), .unset, .unset, .unset] [(.int (0 : Int32))])) (fun _ k => XS.iload X306.here hx rfl (hb hby at_131) rfl  k) ?_
        refine Go.step (T' := T306) (g' := (mkF m 142 #[.val (.int p0), .val (.int p1), .val (.int p2), .val (.int (1 : Int32)), .val (.int (1 : Int32)), .val (.int (0 : Int32)), .val (.int (own_pos p1)), .val (.int (own_pos p2)), .val (.ref b292), .val (.int (own_pos p1)), .val (.ref wD), .unset, .unset, .unset] [])) (fun _ k => XS.ifYes X306.here hx rfl (pc0 := 133) (pc' := 142) rfl (hb hby at_133) rfl ((if0 _ _).trans (teq (by decide : (0 : Int32) = (0 : Int32))).1) (by decide) (by decide) k) ?_
        obtain ⟨T307, X307, e307, st307⟩ := getS2 X306 hx hZ hown (host := "") (Or.inl (hw _ (List.mem_of_getElem? (i := 25) rfl))) Via.refl e306 F297 (g := (mkF m 142 #[.val (.int p0), .val (.int p1), .val (.int p2), .val (.int (1 : Int32)), .val (.int (1 : Int32)), .val (.int (0 : Int32)), .val (.int (own_pos p1)), .val (.int (own_pos p2)), .val (.ref b292), .val (.int (own_pos p1)), .val (.ref wD), .unset, .unset, .unset] [])) rfl (hb hby at_142)
        refine Go.step (T' := T307) (g' := (mkF m 145 #[.val (.int p0), .val (.int p1), .val (.int p2), .val (.int (1 : Int32)), .val (.int (1 : Int32)), .val (.int (0 : Int32)), .val (.int (own_pos p1)), .val (.int (own_pos p2)), .val (.ref b292), .val (.int (own_pos p1)), .val (.ref wD), .unset, .unset, .unset] [(.ref wD)])) st307 ?_
        refine Go.step (T' := T307) (g' := (mkF m 147 #[.val (.int p0), .val (.int p1), .val (.int p2), .val (.int (1 : Int32)), .val (.int (1 : Int32)), .val (.int (0 : Int32)), .val (.int (own_pos p1)), .val (.int (own_pos p2)), .val (.ref b292), .val (.int (own_pos p1)), .val (.ref wD), .val (.ref wD), .unset, .unset] [])) (fun _ k => XS.astore X307.here hx rfl (hb hby at_145) rfl rfl (l' := #[.val (.int p0), .val (.int p1), .val (.int p2), .val (.int (1 : Int32)), .val (.int (1 : Int32)), .val (.int (0 : Int32)), .val (.int (own_pos p1)), .val (.int (own_pos p2)), .val (.ref b292), .val (.int (own_pos p1)), .val (.ref wD), .val (.ref wD), .unset, .unset]) rfl k) ?_
        exact own_tail p0 p1 p2 (1 : Int32) (1 : Int32) (0 : Int32) (own_pos p1) (own_pos p2) (own_pos p1) b292 wD wD wL wD X307 hx hZ hw hby hml hown hret hlk e307 N292 Z292 (by decide) (by decide) F296 F297 E292 G292a G292b G292c (own_pos_ge _)
      · skip
        refine Go.step (T' := s₁) (g' := (mkF m 31 #[.val (.int p0), .val (.int p1), .val (.int p2), .val (.int (1 : Int32)), .val (.int (1 : Int32)), .unset, .unset, .unset, .unset, .unset, .unset, .unset, .unset, .unset] [])) (fun _ k => XS.ifNo X0.here hx rfl (hb hby at_28) rfl ((if0 _ _).trans (feq hc269).1) k) ?_
        refine Go.step (T' := s₁) (g' := (mkF m 32 #[.val (.int p0), .val (.int p1), .val (.int p2), .val (.int (1 : Int32)), .val (.int (1 : Int32)), .unset, .unset, .unset, .unset, .unset, .unset, .unset, .unset, .unset] [(.int (1 : Int32))])) (fun _ k => XS.iconst X0.here hx rfl (hb hby at_31) k) ?_
        refine Go.step (T' := s₁) (g' := (mkF m 36 #[.val (.int p0), .val (.int p1), .val (.int p2), .val (.int (1 : Int32)), .val (.int (1 : Int32)), .unset, .unset, .unset, .unset, .unset, .unset, .unset, .unset, .unset] [(.int (1 : Int32))])) (fun _ k => XS.goto X0.here hx rfl (pc0 := 32) (pc' := 36) rfl (hb hby at_32) (by decide) (by decide) k) ?_
        refine Go.step (T' := s₁) (g' := (mkF m 38 #[.val (.int p0), .val (.int p1), .val (.int p2), .val (.int (1 : Int32)), .val (.int (1 : Int32)), .val (.int (1 : Int32)), .unset, .unset, .unset, .unset, .unset, .unset, .unset, .unset] [])) (fun _ k => XS.istore X0.here hx rfl (hb hby at_36) rfl (l' := #[.val (.int p0), .val (.int p1), .val (.int p2), .val (.int (1 : Int32)), .val (.int (1 : Int32)), .val (.int (1 : Int32)), .unset, .unset, .unset, .unset, .unset, .unset, .unset, .unset]) rfl k) ?_
        refine Go.step (T' := s₁) (g' := (mkF m 39 #[.val (.int p0), .val (.int p1), .val (.int p2), .val (.int (1 : Int32)), .val (.int (1 : Int32)), .val (.int (1 : Int32)), .unset, .unset, .unset, .unset, .unset, .unset, .unset, .unset] [(.int p1)])) (fun _ k => XS.iloadN X0.here hx rfl (hb hby at_38) rfl  k) ?_
        obtain ⟨_, _, ⟨T308, L308, k308, n308⟩, -, X308, ⟨Lc308, hQ308, l308, y308, z308⟩, st308⟩ := Jvm.LawKit.callS X0 hx (y := (⟨"com/example/draftd/draftd/odata/ServiceSettingsWithPageSizePinLaw", "positive", "(I)I"⟩ : MethodName)) hown (mvT hZ (hw _ (List.mem_of_getElem? (i := 0) rfl))) (mvT hZ (hw _ (List.mem_of_getElem? (i := 1) rfl))) (mvT hZ (hw _ (List.mem_of_getElem? (i := 2) rfl))) (mvT hZ (hw _ (List.mem_of_getElem? (i := 3) rfl))) (by decide) (backOf (W := 0) (Q := Qret (some (.int (own_pos p1))) h0 n0) (own_rpos l Z a0 hw [] p1 h0 n0 Z0) hZ (hw _ (List.mem_of_getElem? (i := 3) rfl)) (hw _ (List.mem_of_getElem? (i := 2) rfl)) (by decide) (by decide)) (g := (mkF m 39 #[.val (.int p0), .val (.int p1), .val (.int p2), .val (.int (1 : Int32)), .val (.int (1 : Int32)), .val (.int (1 : Int32)), .unset, .unset, .unset, .unset, .unset, .unset, .unset, .unset] [(.int p1)])) rfl (by rw [hml]; rfl) (argsL := [(.int p1)]) (rest := []) (lenOf own_pd4 rfl) rfl (by show 2 * 0 + _ ≤ _; exact Nat.le_of_eq rfl) (hb hby at_39) (fun _ _ => ⟨rfl, e0, (by decide : 0 + 0 ≤ _), (by decide : 0 + 0 ≤ _)⟩)
        dsimp only [Pt.U, Pt.locs, Pt.cells, Pt.slots] at X308 l308 y308 z308 st308 hQ308
        subst l308 y308 z308
        obtain ⟨rfl, N308q, eh308⟩ := hQ308
        have N308 := Fr.app N0 N308q
        refine Go.step (T' := T308) (g' := (mkF m 42 #[.val (.int p0), .val (.int p1), .val (.int p2), .val (.int (1 : Int32)), .val (.int (1 : Int32)), .val (.int (1 : Int32)), .unset, .unset, .unset, .unset, .unset, .unset, .unset, .unset] [(.int (own_pos p1))])) (st308) ?_
        refine Go.step (T' := T308) (g' := (mkF m 44 #[.val (.int p0), .val (.int p1), .val (.int p2), .val (.int (1 : Int32)), .val (.int (1 : Int32)), .val (.int (1 : Int32)), .val (.int (own_pos p1)), .unset, .unset, .unset, .unset, .unset, .unset, .unset] [])) (fun _ k => XS.istore X308.here hx rfl (hb hby at_42) rfl (l' := #[.val (.int p0), .val (.int p1), .val (.int p2), .val (.int (1 : Int32)), .val (.int (1 : Int32)), .val (.int (1 : Int32)), .val (.int (own_pos p1)), .unset, .unset, .unset, .unset, .unset, .unset, .unset]) rfl k) ?_
        refine Go.step (T' := T308) (g' := (mkF m 45 #[.val (.int p0), .val (.int p1), .val (.int p2), .val (.int (1 : Int32)), .val (.int (1 : Int32)), .val (.int (1 : Int32)), .val (.int (own_pos p1)), .unset, .unset, .unset, .unset, .unset, .unset, .unset] [(.int p2)])) (fun _ k => XS.iloadN X308.here hx rfl (hb hby at_44) rfl  k) ?_
        obtain ⟨_, _, ⟨T309, L309, k309, n309⟩, -, X309, ⟨Lc309, hQ309, l309, y309, z309⟩, st309⟩ := Jvm.LawKit.callS X308 hx (y := (⟨"com/example/draftd/draftd/odata/ServiceSettingsWithPageSizePinLaw", "positive", "(I)I"⟩ : MethodName)) hown (mvT hZ (hw _ (List.mem_of_getElem? (i := 0) rfl))) (mvT hZ (hw _ (List.mem_of_getElem? (i := 1) rfl))) (mvT hZ (hw _ (List.mem_of_getElem? (i := 2) rfl))) (mvT hZ (hw _ (List.mem_of_getElem? (i := 3) rfl))) (by decide) (backOf (W := 0) (Q := Qret (some (.int (own_pos p2))) h0 n0) (own_rpos l Z a0 hw [] p2 h0 n0 Z0) hZ (hw _ (List.mem_of_getElem? (i := 3) rfl)) (hw _ (List.mem_of_getElem? (i := 2) rfl)) (by decide) (by decide)) (g := (mkF m 45 #[.val (.int p0), .val (.int p1), .val (.int p2), .val (.int (1 : Int32)), .val (.int (1 : Int32)), .val (.int (1 : Int32)), .val (.int (own_pos p1)), .unset, .unset, .unset, .unset, .unset, .unset, .unset] [(.int p2)])) rfl (by rw [hml]; rfl) (argsL := [(.int p2)]) (rest := []) (lenOf own_pd4 rfl) rfl (by show 2 * 0 + _ ≤ _; exact Nat.le_of_eq rfl) (hb hby at_45) (fun _ _ => ⟨rfl, eh308, (by decide : 0 + 0 ≤ _), (by decide : 0 + 0 ≤ _)⟩)
        dsimp only [Pt.U, Pt.locs, Pt.cells, Pt.slots] at X309 l309 y309 z309 st309 hQ309
        subst l309 y309 z309
        obtain ⟨rfl, N309q, eh309⟩ := hQ309
        have N309 := Fr.app N308 N309q
        refine Go.step (T' := T309) (g' := (mkF m 48 #[.val (.int p0), .val (.int p1), .val (.int p2), .val (.int (1 : Int32)), .val (.int (1 : Int32)), .val (.int (1 : Int32)), .val (.int (own_pos p1)), .unset, .unset, .unset, .unset, .unset, .unset, .unset] [(.int (own_pos p2))])) (st309) ?_
        refine Go.step (T' := T309) (g' := (mkF m 50 #[.val (.int p0), .val (.int p1), .val (.int p2), .val (.int (1 : Int32)), .val (.int (1 : Int32)), .val (.int (1 : Int32)), .val (.int (own_pos p1)), .val (.int (own_pos p2)), .unset, .unset, .unset, .unset, .unset, .unset] [])) (fun _ k => XS.istore X309.here hx rfl (hb hby at_48) rfl (l' := #[.val (.int p0), .val (.int p1), .val (.int p2), .val (.int (1 : Int32)), .val (.int (1 : Int32)), .val (.int (1 : Int32)), .val (.int (own_pos p1)), .val (.int (own_pos p2)), .unset, .unset, .unset, .unset, .unset, .unset]) rfl k) ?_
        obtain ⟨T310, h310, X310, e310, E310, A310, D310, -, st310⟩ := newO X309 hx hZ hown (hw _ (List.mem_of_getElem? (i := 5) rfl)) (hw _ (List.mem_of_getElem? (i := 6) rfl)) (hw _ (List.mem_of_getElem? (i := 7) rfl)) eh309 (g := (mkF m 50 #[.val (.int p0), .val (.int p1), .val (.int p2), .val (.int (1 : Int32)), .val (.int (1 : Int32)), .val (.int (1 : Int32)), .val (.int (own_pos p1)), .val (.int (own_pos p2)), .unset, .unset, .unset, .unset, .unset, .unset] [])) rfl (hb hby at_50) (by decide) (by decide)
        obtain ⟨b310, g310⟩ : ∃ z, z = h0.size := ⟨_, rfl⟩
        rw [← g310] at A310 D310 st310
        have ge310 : n0 ≤ b310 := Nat.le_trans Z0 (Nat.le_of_eq g310.symm)
        have Z310 : n0 ≤ h310.size := Nat.le_trans Z0 E310.1
        have F311 := S0.ext E310
        have F312 := S1.ext E310
        have F313 : Fld Z h310 b310 "com/example/draftd/draftd/odata/ServiceSettings" "lockTimeout" "Ljava/time/Duration;" .null := D310 (Or.inl (hw _ (List.mem_of_getElem? (i := 17) rfl))) (ty := (.object "java/time/Duration")) (by decide)
        have F314 : Fld Z h310 b310 "com/example/draftd/draftd/odata/ServiceSettings" "draftLifetime" "Ljava/time/Duration;" .null := D310 (Or.inl (hw _ (List.mem_of_getElem? (i := 21) rfl))) (ty := (.object "java/time/Duration")) (by decide)
        have F315 : Fld Z h310 b310 "com/example/draftd/draftd/odata/ServiceSettings" "pageSize" "I" (.int (0 : Int32)) := D310 (Or.inl (hw _ (List.mem_of_getElem? (i := 23) rfl))) (ty := .int) (by decide)
        refine Go.step (T' := T310) (g' := (mkF m 53 #[.val (.int p0), .val (.int p1), .val (.int p2), .val (.int (1 : Int32)), .val (.int (1 : Int32)), .val (.int (1 : Int32)), .val (.int (own_pos p1)), .val (.int (own_pos p2)), .unset, .unset, .unset, .unset, .unset, .unset] [(.ref b310)])) st310 ?_
        refine Go.step (T' := T310) (g' := (mkF m 54 #[.val (.int p0), .val (.int p1), .val (.int p2), .val (.int (1 : Int32)), .val (.int (1 : Int32)), .val (.int (1 : Int32)), .val (.int (own_pos p1)), .val (.int (own_pos p2)), .unset, .unset, .unset, .unset, .unset, .unset] [(.ref b310), (.ref b310)])) (fun _ k => XS.dup X310.here hx rfl (hb hby at_53) rfl rfl k) ?_
        obtain ⟨_, _, ⟨T316, L316, k316, n316⟩, -, X316, ⟨Lc316, hQ316, l316, y316, z316⟩, st316⟩ := X310.specialBack hx (y := (⟨"com/example/draftd/draftd/odata/ServiceSettings", "<init>", "()V"⟩ : MethodName)) rfl hown (mvT hZ (hw _ (List.mem_of_getElem? (i := 8) rfl))) (mvT hZ (hw _ (List.mem_of_getElem? (i := 9) rfl))) (mvT hZ (hw _ (List.mem_of_getElem? (i := 10) rfl))) (by decide) (backOf (W := 1) (Q := Qini Z b310 (.ref wL) (.ref wD) 100 h310 n0) (own_ini0 l Z a0 hw [] b310 wL wD (.null) (.null) ((.int (0 : Int32))) h310 n0 Z310 F311 F312 A310 ge310 F313 F314 F315) hZ (hw _ (List.mem_of_getElem? (i := 10) rfl)) (hw _ (List.mem_of_getElem? (i := 7) rfl)) (by decide) (by decide)) (g := (mkF m 54 #[.val (.int p0), .val (.int p1), .val (.int p2), .val (.int (1 : Int32)), .val (.int (1 : Int32)), .val (.int (1 : Int32)), .val (.int (own_pos p1)), .val (.int (own_pos p2)), .unset, .unset, .unset, .unset, .unset, .unset] [(.ref b310), (.ref b310)])) rfl (by rw [hml]; rfl) (Steps.refl _) (a := b310) (argsL := []) (rest := [(.ref b310)]) (lenOf own_pd5 rfl) rfl (by show 2 * 0 + _ ≤ _; exact Nat.le_of_eq rfl) (hb hby at_54) (fun _ _ => ⟨rfl, e310, (by decide : 1 + 0 ≤ _), (by decide : 3 + 0 ≤ _)⟩)
        dsimp only [Pt.U, Pt.locs, Pt.cells, Pt.slots] at X316 l316 y316 z316 st316 hQ316
        subst l316 y316 z316
        obtain ⟨rfl, N316q, K316, G316a, G316b, G316c⟩ := hQ316
        have N316 := Fr.app N309 N316q
        have Z316 : n0 ≤ T316.heap.size := Nat.le_trans Z310 K316.1
        have F317 := own_sta_keep F311 K316 (allS (own_plain A310) all0)
        have F318 := own_sta_keep F312 K316 (allS (own_plain A310) all0)
        have F319 := A310.keep K316
        refine Go.step (T' := T316) (g' := (mkF m 57 #[.val (.int p0), .val (.int p1), .val (.int p2), .val (.int (1 : Int32)), .val (.int (1 : Int32)), .val (.int (1 : Int32)), .val (.int (own_pos p1)), .val (.int (own_pos p2)), .unset, .unset, .unset, .unset, .unset, .unset] [(.ref b310)])) (fun _ k => st316.trans k) ?_
        refine Go.step (T' := T316) (g' := (mkF m 59 #[.val (.int p0), .val (.int p1), .val (.int p2), .val (.int (1 : Int32)), .val (.int (1 : Int32)), .val (.int (1 : Int32)), .val (.int (own_pos p1)), .val (.int (own_pos p2)), .val (.ref b310), .unset, .unset, .unset, .unset, .unset] [])) (fun _ k => XS.astore X316.here hx rfl (hb hby at_57) rfl rfl (l' := #[.val (.int p0), .val (.int p1), .val (.int p2), .val (.int (1 : Int32)), .val (.int (1 : Int32)), .val (.int (1 : Int32)), .val (.int (own_pos p1)), .val (.int (own_pos p2)), .val (.ref b310), .unset, .unset, .unset, .unset, .unset]) rfl k) ?_
        refine Go.step (T' := T316) (g' := (mkF m 61 #[.val (.int p0), .val (.int p1), .val (.int p2), .val (.int (1 : Int32)), .val (.int (1 : Int32)), .val (.int (1 : Int32)), .val (.int (own_pos p1)), .val (.int (own_pos p2)), .val (.ref b310), .unset, .unset, .unset, .unset, .unset] [(.int (1 : Int32))])) (fun _ k => XS.iload X316.here hx rfl (hb hby at_59) rfl  k) ?_
        refine Go.step (T' := T316) (g' := (mkF m 64 #[.val (.int p0), .val (.int p1), .val (.int p2), .val (.int (1 : Int32)), .val (.int (1 : Int32)), .val (.int (1 : Int32)), .val (.int (own_pos p1)), .val (.int (own_pos p2)), .val (.ref b310), .unset, .unset, .unset, .unset, .unset] [])) (fun _ k => XS.ifNo X316.here hx rfl (hb hby at_61) rfl ((if0 _ _).trans (feq (by decide : ¬ ((1 : Int32) = (0 : Int32)))).1) k) ?_
        refine Go.step (T' := T316) (g' := (mkF m 66 #[.val (.int p0), .val (.int p1), .val (.int p2), .val (.int (1 : Int32)), .val (.int (1 : Int32)), .val (.int (1 : Int32)), .val (.int (own_pos p1)), .val (.int (own_pos p2)), .val (.ref b310), .unset, .unset, .unset, .unset, .unset] [(.ref b310)])) (fun _ k => XS.aload X316.here hx rfl (hb hby at_64) rfl rfl k) ?_
        obtain ⟨T320, X320, e320, st320⟩ := getS2 X316 hx hZ hown (host := "") (Or.inl (hw _ (List.mem_of_getElem? (i := 25) rfl))) Via.refl rfl F318 (g := (mkF m 66 #[.val (.int p0), .val (.int p1), .val (.int p2), .val (.int (1 : Int32)), .val (.int (1 : Int32)), .val (.int (1 : Int32)), .val (.int (own_pos p1)), .val (.int (own_pos p2)), .val (.ref b310), .unset, .unset, .unset, .unset, .unset] [(.ref b310)])) rfl (hb hby at_66)
        refine Go.step (T' := T320) (g' := (mkF m 69 #[.val (.int p0), .val (.int p1), .val (.int p2), .val (.int (1 : Int32)), .val (.int (1 : Int32)), .val (.int (1 : Int32)), .val (.int (own_pos p1)), .val (.int (own_pos p2)), .val (.ref b310), .unset, .unset, .unset, .unset, .unset] [(.ref wD), (.ref b310)])) st320 ?_
        obtain ⟨cq321, kq321, q321a, q321b, q321c⟩ := isOf hZ e320 F319
        obtain ⟨_, _, ⟨T321, L321, k321, n321⟩, -, X321, ⟨Lc321, hQ321, l321, y321, z321⟩, st321⟩ := X320.virtualBack hx (y := (⟨"com/example/draftd/draftd/odata/ServiceSettings", "withLockTimeout", "(Ljava/time/Duration;)Lcom/example/draftd/draftd/odata/ServiceSettings;"⟩ : MethodName)) (z := (⟨"com/example/draftd/draftd/odata/ServiceSettings", "withLockTimeout", "(Ljava/time/Duration;)Lcom/example/draftd/draftd/odata/ServiceSettings;"⟩ : MethodName)) hown (mvT hZ (hw _ (List.mem_of_getElem? (i := 55) rfl))) (mvT hZ (hw _ (List.mem_of_getElem? (i := 56) rfl))) (notFace_of_selects (args := #[]) (mvT hZ (hw _ (List.mem_of_getElem? (i := 58) rfl)))) (mvT hZ (hw _ (List.mem_of_getElem? (i := 58) rfl))) (mvT hZ (hw _ (List.mem_of_getElem? (i := 57) rfl))) (by decide) (backOf (W := 0) (Q := Qwith Z (.ref wD) (.ref wD) 100 T316.heap n0) (own_withLockTimeout l Z a0 hw [] b310 wD wL wD wL wD 100 T316.heap n0 Z316 F317 F318 F319 G316a G316b G316c ) hZ (hw _ (List.mem_of_getElem? (i := 59) rfl)) (hw _ (List.mem_of_getElem? (i := 7) rfl)) (by decide) (by decide)) q321a q321c (g := (mkF m 69 #[.val (.int p0), .val (.int p1), .val (.int p2), .val (.int (1 : Int32)), .val (.int (1 : Int32)), .val (.int (1 : Int32)), .val (.int (own_pos p1)), .val (.int (own_pos p2)), .val (.ref b310), .unset, .unset, .unset, .unset, .unset] [(.ref wD), (.ref b310)])) rfl (by rw [hml]; rfl) (Steps.refl _) (argsL := [(.ref wD)]) (rest := []) (lenOf own_pd6 rfl) rfl (by show 2 * 0 + _ ≤ _; exact Nat.le_of_eq rfl) (hb hby at_69) (fun _ _ => ⟨rfl, e320, (by decide : 1 + 1 ≤ _), (by decide : 3 + 3 ≤ _)⟩)
        dsimp only [Pt.U, Pt.locs, Pt.cells, Pt.slots] at X321 l321 y321 z321 st321 hQ321
        subst l321 y321 z321
        obtain ⟨b321, rfl, N321q, K321, sz321, E321, G321a, G321b, G321c⟩ := hQ321
        have N321 := Fr.app N316 N321q
        have ne322 : b310 ≠ b321 := Nat.ne_of_lt (Nat.lt_of_lt_of_le F319.lt sz321)
        have ge323 : n0 ≤ b321 := Nat.le_trans Z316 sz321
        have Z321 : n0 ≤ T321.heap.size := Nat.le_trans Z316 K321.1
        have F324 := own_sta_keep F317 K321 all0
        have F325 := own_sta_keep F318 K321 all0
        have F326 := F319.keep K321
        have F327 := G316a.keep K321 nin0
        have F328 := G316b.keep K321 nin0
        have F329 := G316c.keep K321 nin0
        refine Go.step (T' := T321) (g' := (mkF m 72 #[.val (.int p0), .val (.int p1), .val (.int p2), .val (.int (1 : Int32)), .val (.int (1 : Int32)), .val (.int (1 : Int32)), .val (.int (own_pos p1)), .val (.int (own_pos p2)), .val (.ref b310), .unset, .unset, .unset, .unset, .unset] [(.ref b321)])) (fun _ k => st321.trans k) ?_
        refine Go.step (T' := T321) (g' := (mkF m 74 #[.val (.int p0), .val (.int p1), .val (.int p2), .val (.int (1 : Int32)), .val (.int (1 : Int32)), .val (.int (1 : Int32)), .val (.int (own_pos p1)), .val (.int (own_pos p2)), .val (.ref b321), .unset, .unset, .unset, .unset, .unset] [])) (fun _ k => XS.astore X321.here hx rfl (hb hby at_72) rfl rfl (l' := #[.val (.int p0), .val (.int p1), .val (.int p2), .val (.int (1 : Int32)), .val (.int (1 : Int32)), .val (.int (1 : Int32)), .val (.int (own_pos p1)), .val (.int (own_pos p2)), .val (.ref b321), .unset, .unset, .unset, .unset, .unset]) rfl k) ?_
        refine Go.step (T' := T321) (g' := (mkF m 76 #[.val (.int p0), .val (.int p1), .val (.int p2), .val (.int (1 : Int32)), .val (.int (1 : Int32)), .val (.int (1 : Int32)), .val (.int (own_pos p1)), .val (.int (own_pos p2)), .val (.ref b321), .unset, .unset, .unset, .unset, .unset] [(.int (1 : Int32))])) (fun _ k => XS.iload X321.here hx rfl (hb hby at_74) rfl  k) ?_
        refine Go.step (T' := T321) (g' := (mkF m 79 #[.val (.int p0), .val (.int p1), .val (.int p2), .val (.int (1 : Int32)), .val (.int (1 : Int32)), .val (.int (1 : Int32)), .val (.int (own_pos p1)), .val (.int (own_pos p2)), .val (.ref b321), .unset, .unset, .unset, .unset, .unset] [])) (fun _ k => XS.ifNo X321.here hx rfl (hb hby at_76) rfl ((if0 _ _).trans (feq (by decide : ¬ ((1 : Int32) = (0 : Int32)))).1) k) ?_
        refine Go.step (T' := T321) (g' := (mkF m 81 #[.val (.int p0), .val (.int p1), .val (.int p2), .val (.int (1 : Int32)), .val (.int (1 : Int32)), .val (.int (1 : Int32)), .val (.int (own_pos p1)), .val (.int (own_pos p2)), .val (.ref b321), .unset, .unset, .unset, .unset, .unset] [(.ref b321)])) (fun _ k => XS.aload X321.here hx rfl (hb hby at_79) rfl rfl k) ?_
        obtain ⟨T330, X330, e330, st330⟩ := getS2 X321 hx hZ hown (host := "") (Or.inl (hw _ (List.mem_of_getElem? (i := 24) rfl))) Via.refl rfl F324 (g := (mkF m 81 #[.val (.int p0), .val (.int p1), .val (.int p2), .val (.int (1 : Int32)), .val (.int (1 : Int32)), .val (.int (1 : Int32)), .val (.int (own_pos p1)), .val (.int (own_pos p2)), .val (.ref b321), .unset, .unset, .unset, .unset, .unset] [(.ref b321)])) rfl (hb hby at_81)
        refine Go.step (T' := T330) (g' := (mkF m 84 #[.val (.int p0), .val (.int p1), .val (.int p2), .val (.int (1 : Int32)), .val (.int (1 : Int32)), .val (.int (1 : Int32)), .val (.int (own_pos p1)), .val (.int (own_pos p2)), .val (.ref b321), .unset, .unset, .unset, .unset, .unset] [(.ref wL), (.ref b321)])) st330 ?_
        obtain ⟨cq331, kq331, q331a, q331b, q331c⟩ := isOf hZ e330 E321
        obtain ⟨_, _, ⟨T331, L331, k331, n331⟩, -, X331, ⟨Lc331, hQ331, l331, y331, z331⟩, st331⟩ := X330.virtualBack hx (y := (⟨"com/example/draftd/draftd/odata/ServiceSettings", "withDraftLifetime", "(Ljava/time/Duration;)Lcom/example/draftd/draftd/odata/ServiceSettings;"⟩ : MethodName)) (z := (⟨"com/example/draftd/draftd/odata/ServiceSettings", "withDraftLifetime", "(Ljava/time/Duration;)Lcom/example/draftd/draftd/odata/ServiceSettings;"⟩ : MethodName)) hown (mvT hZ (hw _ (List.mem_of_getElem? (i := 50) rfl))) (mvT hZ (hw _ (List.mem_of_getElem? (i := 51) rfl))) (notFace_of_selects (args := #[]) (mvT hZ (hw _ (List.mem_of_getElem? (i := 53) rfl)))) (mvT hZ (hw _ (List.mem_of_getElem? (i := 53) rfl))) (mvT hZ (hw _ (List.mem_of_getElem? (i := 52) rfl))) (by decide) (backOf (W := 0) (Q := Qwith Z (.ref wD) (.ref wL) 100 T321.heap n0) (own_withDraftLifetime l Z a0 hw [] b321 wL wL wD wD wD 100 T321.heap n0 Z321 F324 F325 E321 G321a G321b G321c ) hZ (hw _ (List.mem_of_getElem? (i := 54) rfl)) (hw _ (List.mem_of_getElem? (i := 7) rfl)) (by decide) (by decide)) q331a q331c (g := (mkF m 84 #[.val (.int p0), .val (.int p1), .val (.int p2), .val (.int (1 : Int32)), .val (.int (1 : Int32)), .val (.int (1 : Int32)), .val (.int (own_pos p1)), .val (.int (own_pos p2)), .val (.ref b321), .unset, .unset, .unset, .unset, .unset] [(.ref wL), (.ref b321)])) rfl (by rw [hml]; rfl) (Steps.refl _) (argsL := [(.ref wL)]) (rest := []) (lenOf own_pd6 rfl) rfl (by show 2 * 0 + _ ≤ _; exact Nat.le_of_eq rfl) (hb hby at_84) (fun _ _ => ⟨rfl, e330, (by decide : 2 + 1 ≤ _), (by decide : 6 + 3 ≤ _)⟩)
        dsimp only [Pt.U, Pt.locs, Pt.cells, Pt.slots] at X331 l331 y331 z331 st331 hQ331
        subst l331 y331 z331
        obtain ⟨b331, rfl, N331q, K331, sz331, E331, G331a, G331b, G331c⟩ := hQ331
        have N331 := Fr.app N321 N331q
        have ne332 : b310 ≠ b331 := Nat.ne_of_lt (Nat.lt_of_lt_of_le F326.lt sz331)
        have ne333 : b321 ≠ b331 := Nat.ne_of_lt (Nat.lt_of_lt_of_le G321a.lt sz331)
        have ge334 : n0 ≤ b331 := Nat.le_trans Z321 sz331
        have Z331 : n0 ≤ T331.heap.size := Nat.le_trans Z321 K331.1
        have F335 := own_sta_keep F324 K331 all0
        have F336 := own_sta_keep F325 K331 all0
        have F337 := F326.keep K331
        have F338 := F327.keep K331 nin0
        have F339 := F328.keep K331 nin0
        have F340 := F329.keep K331 nin0
        have F341 := G321a.keep K331 nin0
        have F342 := G321b.keep K331 nin0
        have F343 := G321c.keep K331 nin0
        have F344 := E321.keep K331
        refine Go.step (T' := T331) (g' := (mkF m 87 #[.val (.int p0), .val (.int p1), .val (.int p2), .val (.int (1 : Int32)), .val (.int (1 : Int32)), .val (.int (1 : Int32)), .val (.int (own_pos p1)), .val (.int (own_pos p2)), .val (.ref b321), .unset, .unset, .unset, .unset, .unset] [(.ref b331)])) (fun _ k => st331.trans k) ?_
        refine Go.step (T' := T331) (g' := (mkF m 89 #[.val (.int p0), .val (.int p1), .val (.int p2), .val (.int (1 : Int32)), .val (.int (1 : Int32)), .val (.int (1 : Int32)), .val (.int (own_pos p1)), .val (.int (own_pos p2)), .val (.ref b331), .unset, .unset, .unset, .unset, .unset] [])) (fun _ k => XS.astore X331.here hx rfl (hb hby at_87) rfl rfl (l' := #[.val (.int p0), .val (.int p1), .val (.int p2), .val (.int (1 : Int32)), .val (.int (1 : Int32)), .val (.int (1 : Int32)), .val (.int (own_pos p1)), .val (.int (own_pos p2)), .val (.ref b331), .unset, .unset, .unset, .unset, .unset]) rfl k) ?_
        refine Go.step (T' := T331) (g' := (mkF m 90 #[.val (.int p0), .val (.int p1), .val (.int p2), .val (.int (1 : Int32)), .val (.int (1 : Int32)), .val (.int (1 : Int32)), .val (.int (own_pos p1)), .val (.int (own_pos p2)), .val (.ref b331), .unset, .unset, .unset, .unset, .unset] [(.int (1 : Int32))])) (fun _ k => XS.iloadN X331.here hx rfl (hb hby at_89) rfl  k) ?_
        refine Go.step (T' := T331) (g' := (mkF m 93 #[.val (.int p0), .val (.int p1), .val (.int p2), .val (.int (1 : Int32)), .val (.int (1 : Int32)), .val (.int (1 : Int32)), .val (.int (own_pos p1)), .val (.int (own_pos p2)), .val (.ref b331), .unset, .unset, .unset, .unset, .unset] [])) (fun _ k => XS.ifNo X331.here hx rfl (hb hby at_90) rfl ((if0 _ _).trans (feq (by decide : ¬ ((1 : Int32) = (0 : Int32)))).1) k) ?_
        refine Go.step (T' := T331) (g' := (mkF m 95 #[.val (.int p0), .val (.int p1), .val (.int p2), .val (.int (1 : Int32)), .val (.int (1 : Int32)), .val (.int (1 : Int32)), .val (.int (own_pos p1)), .val (.int (own_pos p2)), .val (.ref b331), .unset, .unset, .unset, .unset, .unset] [(.ref b331)])) (fun _ k => XS.aload X331.here hx rfl (hb hby at_93) rfl rfl k) ?_
        refine Go.step (T' := T331) (g' := (mkF m 97 #[.val (.int p0), .val (.int p1), .val (.int p2), .val (.int (1 : Int32)), .val (.int (1 : Int32)), .val (.int (1 : Int32)), .val (.int (own_pos p1)), .val (.int (own_pos p2)), .val (.ref b331), .unset, .unset, .unset, .unset, .unset] [(.int (own_pos p1)), (.ref b331)])) (fun _ k => XS.iload X331.here hx rfl (hb hby at_95) rfl  k) ?_
        obtain ⟨cq345, kq345, q345a, q345b, q345c⟩ := isOf hZ rfl E331
        obtain ⟨_, _, ⟨T345, L345, k345, n345⟩, -, X345, ⟨Lc345, hQ345, l345, y345, z345⟩, st345⟩ := X331.virtualBack hx (y := (⟨"com/example/draftd/draftd/odata/ServiceSettings", "withPageSize", "(I)Lcom/example/draftd/draftd/odata/ServiceSettings;"⟩ : MethodName)) (z := (⟨"com/example/draftd/draftd/odata/ServiceSettings", "withPageSize", "(I)Lcom/example/draftd/draftd/odata/ServiceSettings;"⟩ : MethodName)) hown (mvT hZ (hw _ (List.mem_of_getElem? (i := 26) rfl))) (mvT hZ (hw _ (List.mem_of_getElem? (i := 27) rfl))) (notFace_of_selects (args := #[]) (mvT hZ (hw _ (List.mem_of_getElem? (i := 29) rfl)))) (mvT hZ (hw _ (List.mem_of_getElem? (i := 29) rfl))) (mvT hZ (hw _ (List.mem_of_getElem? (i := 28) rfl))) (by decide) (backOf (W := 0) (Q := Qwith Z (.ref wD) (.ref wL) (own_pos p1) T331.heap n0) (own_withPageSize l Z a0 hw [] b331 (own_pos p1) wL wD wD wL 100 T331.heap n0 Z331 F335 F336 E331 G331a G331b G331c (own_pos_ge _)) hZ (hw _ (List.mem_of_getElem? (i := 30) rfl)) (hw _ (List.mem_of_getElem? (i := 7) rfl)) (by decide) (by decide)) q345a q345c (g := (mkF m 97 #[.val (.int p0), .val (.int p1), .val (.int p2), .val (.int (1 : Int32)), .val (.int (1 : Int32)), .val (.int (1 : Int32)), .val (.int (own_pos p1)), .val (.int (own_pos p2)), .val (.ref b331), .unset, .unset, .unset, .unset, .unset] [(.int (own_pos p1)), (.ref b331)])) rfl (by rw [hml]; rfl) (Steps.refl _) (argsL := [(.int (own_pos p1))]) (rest := []) (lenOf own_pd1 rfl) rfl (by show 2 * 0 + _ ≤ _; exact Nat.le_of_eq rfl) (hb hby at_97) (fun _ _ => ⟨rfl, rfl, (by decide : 3 + 1 ≤ _), (by decide : 9 + 3 ≤ _)⟩)
        dsimp only [Pt.U, Pt.locs, Pt.cells, Pt.slots] at X345 l345 y345 z345 st345 hQ345
        subst l345 y345 z345
        obtain ⟨b345, rfl, N345q, K345, sz345, E345, G345a, G345b, G345c⟩ := hQ345
        have N345 := Fr.app N331 N345q
        have ne346 : b310 ≠ b345 := Nat.ne_of_lt (Nat.lt_of_lt_of_le F337.lt sz345)
        have ne347 : b321 ≠ b345 := Nat.ne_of_lt (Nat.lt_of_lt_of_le F341.lt sz345)
        have ne348 : b331 ≠ b345 := Nat.ne_of_lt (Nat.lt_of_lt_of_le G331a.lt sz345)
        have ge349 : n0 ≤ b345 := Nat.le_trans Z331 sz345
        have Z345 : n0 ≤ T345.heap.size := Nat.le_trans Z331 K345.1
        have F350 := own_sta_keep F335 K345 all0
        have F351 := own_sta_keep F336 K345 all0
        have F352 := F337.keep K345
        have F353 := F338.keep K345 nin0
        have F354 := F339.keep K345 nin0
        have F355 := F340.keep K345 nin0
        have F356 := F341.keep K345 nin0
        have F357 := F342.keep K345 nin0
        have F358 := F343.keep K345 nin0
        have F359 := F344.keep K345
        have F360 := G331a.keep K345 nin0
        have F361 := G331b.keep K345 nin0
        have F362 := G331c.keep K345 nin0
        have F363 := E331.keep K345
        refine Go.step (T' := T345) (g' := (mkF m 100 #[.val (.int p0), .val (.int p1), .val (.int p2), .val (.int (1 : Int32)), .val (.int (1 : Int32)), .val (.int (1 : Int32)), .val (.int (own_pos p1)), .val (.int (own_pos p2)), .val (.ref b331), .unset, .unset, .unset, .unset, .unset] [(.ref b345)])) (fun _ k => st345.trans k) ?_
        refine Go.step (T' := T345) (g' := (mkF m 102 #[.val (.int p0), .val (.int p1), .val (.int p2), .val (.int (1 : Int32)), .val (.int (1 : Int32)), .val (.int (1 : Int32)), .val (.int (own_pos p1)), .val (.int (own_pos p2)), .val (.ref b345), .unset, .unset, .unset, .unset, .unset] [])) (fun _ k => XS.astore X345.here hx rfl (hb hby at_100) rfl rfl (l' := #[.val (.int p0), .val (.int p1), .val (.int p2), .val (.int (1 : Int32)), .val (.int (1 : Int32)), .val (.int (1 : Int32)), .val (.int (own_pos p1)), .val (.int (own_pos p2)), .val (.ref b345), .unset, .unset, .unset, .unset, .unset]) rfl k) ?_
        refine Go.step (T' := T345) (g' := (mkF m 103 #[.val (.int p0), .val (.int p1), .val (.int p2), .val (.int (1 : Int32)), .val (.int (1 : Int32)), .val (.int (1 : Int32)), .val (.int (own_pos p1)), .val (.int (own_pos p2)), .val (.ref b345), .unset, .unset, .unset, .unset, .unset] [(.int (1 : Int32))])) (fun _ k => XS.iloadN X345.here hx rfl (hb hby at_102) rfl  k) ?_
        refine Go.step (T' := T345) (g' := (mkF m 106 #[.val (.int p0), .val (.int p1), .val (.int p2), .val (.int (1 : Int32)), .val (.int (1 : Int32)), .val (.int (1 : Int32)), .val (.int (own_pos p1)), .val (.int (own_pos p2)), .val (.ref b345), .unset, .unset, .unset, .unset, .unset] [])) (fun _ k => XS.ifNo X345.here hx rfl (hb hby at_103) rfl ((if0 _ _).trans (feq (by decide : ¬ ((1 : Int32) = (0 : Int32)))).1) k) ?_
        refine Go.step (T' := T345) (g' := (mkF m 108 #[.val (.int p0), .val (.int p1), .val (.int p2), .val (.int (1 : Int32)), .val (.int (1 : Int32)), .val (.int (1 : Int32)), .val (.int (own_pos p1)), .val (.int (own_pos p2)), .val (.ref b345), .unset, .unset, .unset, .unset, .unset] [(.int (own_pos p1))])) (fun _ k => XS.iload X345.here hx rfl (hb hby at_106) rfl  k) ?_
        refine Go.step (T' := T345) (g' := (mkF m 113 #[.val (.int p0), .val (.int p1), .val (.int p2), .val (.int (1 : Int32)), .val (.int (1 : Int32)), .val (.int (1 : Int32)), .val (.int (own_pos p1)), .val (.int (own_pos p2)), .val (.ref b345), .unset, .unset, .unset, .unset, .unset] [(.int (own_pos p1))])) (fun _ k => XS.goto X345.here hx rfl (pc0 := 108) (pc' := 113) rfl (hb hby at_108) (by decide) (by decide) k) ?_
        refine Go.step (T' := T345) (g' := (mkF m 115 #[.val (.int p0), .val (.int p1), .val (.int p2), .val (.int (1 : Int32)), .val (.int (1 : Int32)), .val (.int (1 : Int32)), .val (.int (own_pos p1)), .val (.int (own_pos p2)), .val (.ref b345), .val (.int (own_pos p1)), .unset, .unset, .unset, .unset] [])) (fun _ k => XS.istore X345.here hx rfl (hb hby at_113) rfl (l' := #[.val (.int p0), .val (.int p1), .val (.int p2), .val (.int (1 : Int32)), .val (.int (1 : Int32)), .val (.int (1 : Int32)), .val (.int (own_pos p1)), .val (.int (own_pos p2)), .val (.ref b345), .val (.int (own_pos p1)), .unset, .unset, .unset, .unset]) rfl k) ?_
        refine Go.step (T' := T345) (g' := (mkF m 117 #[.val (.int p0), .val (.int p1), .val (.int p2), .val (.int (1 : Int32)), .val (.int (1 : Int32)), .val (.int (1 : Int32)), .val (.int (own_pos p1)), .val (.int (own_pos p2)), .val (.ref b345), .val (.int (own_pos p1)), .unset, .unset, .unset, .unset] [(.int (1 : Int32))])) (fun _ k => XS.iload X345.here hx rfl (hb hby at_115) rfl  k) ?_
        refine Go.step (T' := T345) (g' := (mkF m 120 #[.val (.int p0), .val (.int p1), .val (.int p2), .val (.int (1 : Int32)), .val (.int (1 : Int32)), .val (.int (1 : Int32)), .val (.int (own_pos p1)), .val (.int (own_pos p2)), .val (.ref b345), .val (.int (own_pos p1)), .unset, .unset, .unset, .unset] [])) (fun _ k => XS.ifNo X345.here hx rfl (hb hby at_117) rfl ((if0 _ _).trans (feq (by decide : ¬ ((1 : Int32) = (0 : Int32)))).1) k) ?_
        obtain ⟨T364, X364, e364, st364⟩ := getS2 X345 hx hZ hown (host := "") (Or.inl (hw _ (List.mem_of_getElem? (i := 25) rfl))) Via.refl rfl F351 (g := (mkF m 120 #[.val (.int p0), .val (.int p1), .val (.int p2), .val (.int (1 : Int32)), .val (.int (1 : Int32)), .val (.int (1 : Int32)), .val (.int (own_pos p1)), .val (.int (own_pos p2)), .val (.ref b345), .val (.int (own_pos p1)), .unset, .unset, .unset, .unset] [])) rfl (hb hby at_120)
        refine Go.step (T' := T364) (g' := (mkF m 123 #[.val (.int p0), .val (.int p1), .val (.int p2), .val (.int (1 : Int32)), .val (.int (1 : Int32)), .val (.int (1 : Int32)), .val (.int (own_pos p1)), .val (.int (own_pos p2)), .val (.ref b345), .val (.int (own_pos p1)), .unset, .unset, .unset, .unset] [(.ref wD)])) st364 ?_
        refine Go.step (T' := T364) (g' := (mkF m 129 #[.val (.int p0), .val (.int p1), .val (.int p2), .val (.int (1 : Int32)), .val (.int (1 : Int32)), .val (.int (1 : Int32)), .val (.int (own_pos p1)), .val (.int (own_pos p2)), .val (.ref b345), .val (.int (own_pos p1)), .unset, .unset, .unset, .unset] [(.ref wD)])) (fun _ k => XS.goto X364.here hx rfl (pc0 := 123) (pc' := 129) rfl (hb hby at_123) (by decide) (by decide) k) ?_
        refine Go.step (T' := T364) (g' := (mkF m 131 #[.val (.int p0), .val (.int p1), .val (.int p2), .val (.int (1 : Int32)), .val (.int (1 : Int32)), .val (.int (1 : Int32)), .val (.int (own_pos p1)), .val (.int (own_pos p2)), .val (.ref b345), .val (.int (own_pos p1)), .val (.ref wD), .unset, .unset, .unset] [])) (fun _ k => XS.astore X364.here hx rfl (hb hby at_129) rfl rfl (l' := #[.val (.int p0), .val (.int p1), .val (.int p2), .val (.int (1 : Int32)), .val (.int (1 : Int32)), .val (.int (1 : Int32)), .val (.int (own_pos p1)), .val (.int (own_pos p2)), .val (.ref b345), .val (.int (own_pos p1)), .val (.ref wD), .unset, .unset, .unset]) rfl k) ?_
        refine Go.step (T' := T364) (g' := (mkF m 133 #[.val (.int p0), .val (.int p1), .val (.int p2), .val (.int (1 : Int32)), .val (.int (1 : Int32)), .val (.int (1 : Int32)), .val (.int (own_pos p1)), .val (.int (own_pos p2)), .val (.ref b345), .val (.int (own_pos p1)), .val (.ref wD), .unset, .unset, .unset] [(.int (1 : Int32))])) (fun _ k => XS.iload X364.here hx rfl (hb hby at_131) rfl  k) ?_
        refine Go.step (T' := T364) (g' := (mkF m 136 #[.val (.int p0), .val (.int p1), .val (.int p2), .val (.int (1 : Int32)), .val (.int (1 : Int32)), .val (.int (1 : Int32)), .val (.int (own_pos p1)), .val (.int (own_pos p2)), .val (.ref b345), .val (.int (own_pos p1)), .val (.ref wD), .unset, .unset, .unset] [])) (fun _ k => XS.ifNo X364.here hx rfl (hb hby at_133) rfl ((if0 _ _).trans (feq (by decide : ¬ ((1 : Int32) = (0 : Int32)))).1) k) ?_
        obtain ⟨T365, X365, e365, st365⟩ := getS2 X364 hx hZ hown (host := "") (Or.inl (hw _ (List.mem_of_getElem? (i := 24) rfl))) Via.refl e364 F350 (g := (mkF m 136 #[.val (.int p0), .val (.int p1), .val (.int p2), .val (.int (1 : Int32)), .val (.int (1 : Int32)), .val (.int (1 : Int32)), .val (.int (own_pos p1)), .val (.int (own_pos p2)), .val (.ref b345), .val (.int (own_pos p1)), .val (.ref wD), .unset, .unset, .unset] [])) rfl (hb hby at_136)
        refine Go.step (T' := T365) (g' := (mkF m 139 #[.val (.int p0), .val (.int p1), .val (.int p2), .val (.int (1 : Int32)), .val (.int (1 : Int32)), .val (.int (1 : Int32)), .val (.int (own_pos p1)), .val (.int (own_pos p2)), .val (.ref b345), .val (.int (own_pos p1)), .val (.ref wD), .unset, .unset, .unset] [(.ref wL)])) st365 ?_
        refine Go.step (T' := T365) (g' := (mkF m 145 #[.val (.int p0), .val (.int p1), .val (.int p2), .val (.int (1 : Int32)), .val (.int (1 : Int32)), .val (.int (1 : Int32)), .val (.int (own_pos p1)), .val (.int (own_pos p2)), .val (.ref b345), .val (.int (own_pos p1)), .val (.ref wD), .unset, .unset, .unset] [(.ref wL)])) (fun _ k => XS.goto X365.here hx rfl (pc0 := 139) (pc' := 145) rfl (hb hby at_139) (by decide) (by decide) k) ?_
        refine Go.step (T' := T365) (g' := (mkF m 147 #[.val (.int p0), .val (.int p1), .val (.int p2), .val (.int (1 : Int32)), .val (.int (1 : Int32)), .val (.int (1 : Int32)), .val (.int (own_pos p1)), .val (.int (own_pos p2)), .val (.ref b345), .val (.int (own_pos p1)), .val (.ref wD), .val (.ref wL), .unset, .unset] [])) (fun _ k => XS.astore X365.here hx rfl (hb hby at_145) rfl rfl (l' := #[.val (.int p0), .val (.int p1), .val (.int p2), .val (.int (1 : Int32)), .val (.int (1 : Int32)), .val (.int (1 : Int32)), .val (.int (own_pos p1)), .val (.int (own_pos p2)), .val (.ref b345), .val (.int (own_pos p1)), .val (.ref wD), .val (.ref wL), .unset, .unset]) rfl k) ?_
        exact own_tail p0 p1 p2 (1 : Int32) (1 : Int32) (1 : Int32) (own_pos p1) (own_pos p2) (own_pos p1) b345 wD wL wL wD X365 hx hZ hw hby hml hown hret hlk e365 N345 Z345 (by decide) (by decide) F350 F351 E345 G345a G345b G345c (own_pos_ge _)
set_option maxRecDepth 65536 in
set_option maxHeartbeats 40000000 in
theorem comes_1 {Post : Tables → Env → Array Value → State → Outcome → State → Prop} (hpost : ∀ tb e args s v u, (limb_1_1.after args s (.returned v) u = true ∧ limb_1_2.after args s (.returned v) u = true ∧ True) → FrameEnd s (.returned v) u (Jvm.fieldLocs frame_1_writes args s ++ Jvm.arrayLocs frame_1_arrays args s ++ Jvm.staticLocs frame_1_statics s) 24 128 → Post tb e args s (.returned v) u) :
    ArmFor flags0 classFile x code maxLocals ret World_1 tables_1 room_1 Calls_1 rest_1 Pre_1 Post := by
  intro l hfl _ _ p e ha hc hk s m args below hf hA hF happ hP
  obtain ⟨hcalls, hrest, hpre⟩ := hP
  obtain ⟨-, -, -, hnamed, -, -, -, hat⟩ := (Spec.applies_iff hf).mp happ
  obtain ⟨hg, hn⟩ := and_e (Cond.before_iff.mp (show (Jvm.Cond.and given_1 narrow_1).before args s = true from hpre))
  obtain ⟨g0a, g0b⟩ := and_e hg
  obtain ⟨g1a, g1b⟩ := and_e g0b
  obtain ⟨g2a, g2b⟩ := and_e g1b
  obtain ⟨vw0, vw1, vw2, rfl⟩ : ∃ vw0 vw1 vw2 : Value, args = #[vw0, vw1, vw2] := by
    have hs : args.size = 3 := by simpa [Cond.value, given_1] using g0a
    obtain ⟨L⟩ := args
    match L, hs with
    | [vw0, vw1, vw2], _ => exact ⟨vw0, vw1, vw2, rfl⟩
  have hw := fun d (hd : d ∈ tables_1) => atoms_spec (ws := Jvm.Cond.code x code maxLocals ret :: tables_1) hat d (List.mem_cons_of_mem _ hd)
  have hfit : Fit s := fun {y c} hc i hi => by
    obtain ⟨ha, rfl⟩ := Array.getElem?_eq_some_iff.mp hc
    have q := List.all_eq_true.mp ((Array.all_eq_true_iff_forall_mem.mp hF) _ (Array.getElem_mem ha)) i (List.mem_range.mpr hi)
    simpa [Array.getElem?_eq_getElem hi] using q
  obtain ⟨i0, ei0⟩ := is_v g1a
  obtain rfl : vw0 = (.int i0) := Option.some.inj ei0
  obtain ⟨i1, ei1⟩ := is_v g2a
  obtain rfl : vw1 = (.int i1) := Option.some.inj ei1
  obtain ⟨i2, ei2⟩ := is_v g2b
  obtain rfl : vw2 = (.int i2) := Option.some.inj ei2
  obtain ⟨m0a, m0b⟩ := and_e hn
  obtain ⟨w0, ev0⟩ := exa_v m0a
  have S0 := Sta.start ev0 (Or.inr ⟨(hw _ (List.mem_of_getElem? (i := 7) rfl)), (hw _ (List.mem_of_getElem? (i := 15) rfl))⟩)
  obtain ⟨w1, ev1⟩ := exa_v m0b
  have S1 := Sta.start ev1 (Or.inr ⟨(hw _ (List.mem_of_getElem? (i := 7) rfl)), (hw _ (List.mem_of_getElem? (i := 19) rfl))⟩)
  obtain ⟨n, o, h1, h2, h3, _, L, rfl, ⟨rfl, N⟩, hq⟩ := rm0 l s _ hw tables_1 i0 i1 i2 w0 w1 s.heap s.heap.size (Nat.le_refl _) S0 S1 p e ha hc hk s m _ below hf ((Spec.applies_iff_loose hf).mp happ).1 ⟨rfl, State.Warmed39.refl s, rfl⟩ trivial
  refine ⟨n, _, h1, h2, h3, hpost _ _ _ _ _ _ ⟨Cond.after_iff.mpr rfl, Cond.after_iff.mpr (eq_i res_at (Term.int_eval (1)) rfl), trivial⟩ ⟨hq.1, hq.2.1, (hq.2.2.sift fun y hy => Or.inr (N y hy)).mono (by decide) (by decide)⟩⟩
theorem main_1_1 : Claimed_1_1 := comes_1 fun _ _ _ _ _ _ h hF => ⟨h.1, hF⟩
theorem main_1_2 : Claimed_1_2 := comes_1 fun _ _ _ _ _ _ h hF => ⟨h.2.1, hF⟩
end Jvm.Pilot.@@N@@
namespace Jvm.Pilot.@@N@@
open Jvm Jvm.ClassFile Sem Op Lib Jvm.Free Jvm.Stand Jvm.Pilot.@@N@@.Jvm.D
/-! MADE BY PROGRAM (witnessworld.py) out of the Statement's table words and the real class files: 12 classes; the members and pool entries that the words name. The judged class is class 1, her method 2. -/
namespace start1
open Jvm.ClassFile
def u (s : String) : CpInfo := .utf8 (stringToUtf16 s)
/-- a pool by its gaps: so many unusable entries, then the entry; so many at the end -/
def gap : Nat → List CpInfo → List CpInfo
  | 0, r => r
  | n + 1, r => .unusable :: gap n r
def poolList (es : List (Nat × CpInfo)) (last : Nat) : List CpInfo := es.foldr (fun e r => gap e.1 (e.2 :: r)) (gap last [])
def pool (es : List (Nat × CpInfo)) (last : Nat) : Array CpInfo := ⟨poolList es last⟩
def fileOf (pool : Array CpInfo) (this : Nat) (attrs : Array Attribute := #[]) (ms : Array MethodInfo := #[]) (fl : Nat := 33) (sup : Nat := 0) (ifs : Array Nat := #[]) (fds : Array FieldInfo := #[]) : ClassFile where
  minorVersion := 0
  majorVersion := 65
  constantPool := pool
  accessFlags := fl
  thisClass := this
  superClass := sup
  interfaces := ifs
  fields := fds
  methods := ms
  attributes := attrs
def plain (name : String) (sup : Option ClassId) : Class where
  name := name
  kind := .ordinary
  loader := none
  accessFlags := 33
  super := sup
  interfaces := #[]
  cf := none
  fields := #[]
  methods := #[]
  instanceTypes := #[]
  staticTypes := #[]
  resolved := #[]
  callSites := []
  init := .initialized
  statics := none
  mirror := none

def pool0 : Array CpInfo := pool [(5, u "<init>"), (0, u "()V"), (1, .class_ 10), (1, u "java/lang/Object")] 113

def k0c0 : Code := { maxStack := 0, maxLocals := 1, code := object_method_1_code, exceptionTable := #[], attributes := #[] }
def k0m0 : Method := { name := "<init>", desc := "()V", sig := { parameters := [], returnType := none }, accessFlags := 1, code := some k0c0 }
/-- java/lang/Object -/
def k0 : Class := { plain "java/lang/Object" none with
  accessFlags := 33
  interfaces := #[]
  cf := some (fileOf pool0 8 #[] #[{ accessFlags := 1, nameIndex := 5, descriptorIndex := 6, attributes := #[] }] 33 0 #[] #[])
  fields := #[]
  methods := #[k0m0]
  instanceTypes := #[]
  staticTypes := #[]
  resolved := Array.replicate 124 none
  statics := none }

def pool1 : Array CpInfo := pool [(2, .class_ 4), (0, .nameAndType 5 6), (0, u "java/lang/Object"), (0, u "<init>"), (0, u "()V"), (0, .integer 2147483647), (0, .methodref 9 10), (0, .class_ 11), (0, .nameAndType 12 13), (0, u "com/example/draftd/draftd/odata/ServiceSettingsWithPageSizePinLaw"), (0, u "positive"), (0, u "(I)I"), (0, .class_ 15), (0, u "com/example/draftd/draftd/odata/ServiceSettings"), (0, .methodref 14 3), (0, .fieldref 14 18), (0, .nameAndType 19 20), (0, u "DEFAULT_DRAFT_LIFETIME"), (0, u "Ljava/time/Duration;"), (0, .methodref 14 22), (0, .nameAndType 23 24), (0, u "withLockTimeout"), (0, u "(Ljava/time/Duration;)Lcom/example/draftd/draftd/odata/ServiceSettings;"), (0, .fieldref 14 26), (0, .nameAndType 27 20), (0, u "DEFAULT_LOCK_TIMEOUT"), (0, .methodref 14 29), (0, .nameAndType 30 24), (0, u "withDraftLifetime"), (0, .methodref 14 32), (0, .nameAndType 33 34), (0, u "withPageSize"), (0, u "(I)Lcom/example/draftd/draftd/odata/ServiceSettings;"), (0, .methodref 14 36), (0, .nameAndType 37 38), (0, u "getPageSize"), (0, u "()I"), (0, .methodref 14 40), (0, .nameAndType 41 42), (0, u "getLockTimeout"), (0, u "()Ljava/time/Duration;"), (0, .methodref 14 44), (0, .nameAndType 45 42), (0, u "getDraftLifetime"), (3, u "law"), (0, u "(III)Z")] 4

def k1m0 : Method := { name := "<init>", desc := "()V", sig := { parameters := [], returnType := none }, accessFlags := 1, code := none }
def k1c1 : Code := { maxStack := 2, maxLocals := 2, code := method_2_code, exceptionTable := #[], attributes := #[] }
def k1m1 : Method := { name := "positive", desc := "(I)I", sig := { parameters := [.int], returnType := some .int }, accessFlags := 10, code := some k1c1 }
def k1c2 : Code := { maxStack := 2, maxLocals := 14, code := code, exceptionTable := #[], attributes := #[] }
def k1m2 : Method := { name := "law", desc := "(III)Z", sig := { parameters := [.int, .int, .int], returnType := some .boolean }, accessFlags := 9, code := some k1c2 }
/-- com/example/draftd/draftd/odata/ServiceSettingsWithPageSizePinLaw -/
def k1 : Class := { plain "com/example/draftd/draftd/odata/ServiceSettingsWithPageSizePinLaw" (some 0) with
  accessFlags := 49
  interfaces := #[]
  cf := some (fileOf pool1 9 #[] #[{ accessFlags := 1, nameIndex := 5, descriptorIndex := 6, attributes := #[] }, { accessFlags := 10, nameIndex := 12, descriptorIndex := 13, attributes := #[] }, { accessFlags := 9, nameIndex := 49, descriptorIndex := 50, attributes := #[] }] 49 2 #[] #[])
  fields := #[]
  methods := #[k1m0, k1m1, k1m2]
  instanceTypes := #[]
  staticTypes := #[]
  resolved := Array.replicate 55 none
  statics := none }

def pool2 : Array CpInfo := pool [(1, .methodref 2 3), (0, .class_ 4), (0, .nameAndType 5 6), (0, u "java/lang/Object"), (0, u "<init>"), (0, u "()V"), (0, .fieldref 8 9), (0, .class_ 10), (0, .nameAndType 11 12), (0, u "com/example/draftd/draftd/odata/ServiceSettings"), (0, u "DEFAULT_LOCK_TIMEOUT"), (0, u "Ljava/time/Duration;"), (0, .fieldref 8 14), (0, .nameAndType 15 12), (0, u "lockTimeout"), (0, .fieldref 8 17), (0, .nameAndType 18 12), (0, u "DEFAULT_DRAFT_LIFETIME"), (0, .fieldref 8 20), (0, .nameAndType 21 12), (0, u "draftLifetime"), (0, .fieldref 8 23), (0, .nameAndType 24 25), (0, u "pageSize"), (0, u "I"), (0, .methodref 8 27), (0, .nameAndType 5 28), (0, u "(Lcom/example/draftd/draftd/odata/ServiceSettings;)V"), (22, u "DEFAULT_PAGE_SIZE"), (4, u "withLockTimeout"), (0, u "(Ljava/time/Duration;)Lcom/example/draftd/draftd/odata/ServiceSettings;"), (0, u "withDraftLifetime"), (0, u "withPageSize"), (0, u "(I)Lcom/example/draftd/draftd/odata/ServiceSettings;"), (1, u "getLockTimeout"), (0, u "()Ljava/time/Duration;"), (0, u "getDraftLifetime"), (0, u "getPageSize"), (0, u "()I")] 18

def k2c0 : Code := { maxStack := 2, maxLocals := 1, code := prog_25_method_1_code, exceptionTable := #[], attributes := #[] }
def k2m0 : Method := { name := "<init>", desc := "()V", sig := { parameters := [], returnType := none }, accessFlags := 1, code := some k2c0 }
def k2c1 : Code := { maxStack := 2, maxLocals := 2, code := prog_25_method_2_code, exceptionTable := #[], attributes := #[] }
def k2m1 : Method := { name := "<init>", desc := "(Lcom/example/draftd/draftd/odata/ServiceSettings;)V", sig := { parameters := [(.object "com/example/draftd/draftd/odata/ServiceSettings")], returnType := none }, accessFlags := 2, code := some k2c1 }
def k2c2 : Code := { maxStack := 3, maxLocals := 3, code := prog_25_method_3_code, exceptionTable := #[], attributes := #[] }
def k2m2 : Method := { name := "withLockTimeout", desc := "(Ljava/time/Duration;)Lcom/example/draftd/draftd/odata/ServiceSettings;", sig := { parameters := [(.object "java/time/Duration")], returnType := some (.object "com/example/draftd/draftd/odata/ServiceSettings") }, accessFlags := 1, code := some k2c2 }
def k2c3 : Code := { maxStack := 3, maxLocals := 3, code := prog_25_method_4_code, exceptionTable := #[], attributes := #[] }
def k2m3 : Method := { name := "withDraftLifetime", desc := "(Ljava/time/Duration;)Lcom/example/draftd/draftd/odata/ServiceSettings;", sig := { parameters := [(.object "java/time/Duration")], returnType := some (.object "com/example/draftd/draftd/odata/ServiceSettings") }, accessFlags := 1, code := some k2c3 }
def k2c4 : Code := { maxStack := 3, maxLocals := 3, code := prog_25_method_5_code, exceptionTable := #[], attributes := #[] }
def k2m4 : Method := { name := "withPageSize", desc := "(I)Lcom/example/draftd/draftd/odata/ServiceSettings;", sig := { parameters := [.int], returnType := some (.object "com/example/draftd/draftd/odata/ServiceSettings") }, accessFlags := 1, code := some k2c4 }
def k2c5 : Code := { maxStack := 1, maxLocals := 1, code := prog_25_method_6_code, exceptionTable := #[], attributes := #[] }
def k2m5 : Method := { name := "getLockTimeout", desc := "()Ljava/time/Duration;", sig := { parameters := [], returnType := some (.object "java/time/Duration") }, accessFlags := 1, code := some k2c5 }
def k2c6 : Code := { maxStack := 1, maxLocals := 1, code := prog_25_method_7_code, exceptionTable := #[], attributes := #[] }
def k2m6 : Method := { name := "getDraftLifetime", desc := "()Ljava/time/Duration;", sig := { parameters := [], returnType := some (.object "java/time/Duration") }, accessFlags := 1, code := some k2c6 }
def k2c7 : Code := { maxStack := 1, maxLocals := 1, code := prog_25_method_8_code, exceptionTable := #[], attributes := #[] }
def k2m7 : Method := { name := "getPageSize", desc := "()I", sig := { parameters := [], returnType := some .int }, accessFlags := 1, code := some k2c7 }
/-- com/example/draftd/draftd/odata/ServiceSettings -/
def k2 : Class := { plain "com/example/draftd/draftd/odata/ServiceSettings" (some 0) with
  accessFlags := 33
  interfaces := #[]
  cf := some (fileOf pool2 8 #[] #[{ accessFlags := 1, nameIndex := 5, descriptorIndex := 6, attributes := #[] }, { accessFlags := 2, nameIndex := 5, descriptorIndex := 28, attributes := #[] }, { accessFlags := 1, nameIndex := 56, descriptorIndex := 57, attributes := #[] }, { accessFlags := 1, nameIndex := 58, descriptorIndex := 57, attributes := #[] }, { accessFlags := 1, nameIndex := 59, descriptorIndex := 60, attributes := #[] }, { accessFlags := 1, nameIndex := 62, descriptorIndex := 63, attributes := #[] }, { accessFlags := 1, nameIndex := 64, descriptorIndex := 63, attributes := #[] }, { accessFlags := 1, nameIndex := 65, descriptorIndex := 66, attributes := #[] }] 33 2 #[] #[{ accessFlags := 25, nameIndex := 11, descriptorIndex := 12, attributes := #[] }, { accessFlags := 25, nameIndex := 18, descriptorIndex := 12, attributes := #[] }, { accessFlags := 25, nameIndex := 51, descriptorIndex := 25, attributes := #[] }, { accessFlags := 2, nameIndex := 15, descriptorIndex := 12, attributes := #[] }, { accessFlags := 2, nameIndex := 21, descriptorIndex := 12, attributes := #[] }, { accessFlags := 2, nameIndex := 24, descriptorIndex := 25, attributes := #[] }])
  fields := #[{ name := "DEFAULT_LOCK_TIMEOUT", type := (.object "java/time/Duration"), accessFlags := 25, slot := 0, constantValue := 0 }, { name := "DEFAULT_DRAFT_LIFETIME", type := (.object "java/time/Duration"), accessFlags := 25, slot := 1, constantValue := 0 }, { name := "DEFAULT_PAGE_SIZE", type := .int, accessFlags := 25, slot := 2, constantValue := 0 }, { name := "lockTimeout", type := (.object "java/time/Duration"), accessFlags := 2, slot := 0, constantValue := 0 }, { name := "draftLifetime", type := (.object "java/time/Duration"), accessFlags := 2, slot := 1, constantValue := 0 }, { name := "pageSize", type := .int, accessFlags := 2, slot := 2, constantValue := 0 }]
  methods := #[k2m0, k2m1, k2m2, k2m3, k2m4, k2m5, k2m6, k2m7]
  instanceTypes := #[(.object "java/time/Duration"), (.object "java/time/Duration"), .int]
  staticTypes := #[(.object "java/time/Duration"), (.object "java/time/Duration"), .int]
  resolved := Array.replicate 85 none
  statics := some 0 }

def pool3 : Array CpInfo := pool [(1, .class_ 2), (0, u "java/time/temporal/TemporalAmount"), (0, .class_ 4), (0, u "java/lang/Object")] 11

/-- java/time/temporal/TemporalAmount -/
def k3 : Class := { plain "java/time/temporal/TemporalAmount" (some 0) with
  accessFlags := 1537
  interfaces := #[]
  cf := some (fileOf pool3 1 #[] #[] 1537 3 #[] #[])
  fields := #[]
  methods := #[]
  instanceTypes := #[]
  staticTypes := #[]
  resolved := Array.replicate 16 none
  statics := none }

def pool4 : Array CpInfo := pool [(1, .class_ 2), (0, u "java/lang/Comparable"), (0, .class_ 4), (0, u "java/lang/Object")] 7

/-- java/lang/Comparable -/
def k4 : Class := { plain "java/lang/Comparable" (some 0) with
  accessFlags := 1537
  interfaces := #[]
  cf := some (fileOf pool4 1 #[] #[] 1537 3 #[] #[])
  fields := #[]
  methods := #[]
  instanceTypes := #[]
  staticTypes := #[]
  resolved := Array.replicate 12 none
  statics := none }

def pool5 : Array CpInfo := pool [(1, .class_ 2), (0, u "java/io/Serializable"), (0, .class_ 4), (0, u "java/lang/Object")] 2

/-- java/io/Serializable -/
def k5 : Class := { plain "java/io/Serializable" (some 0) with
  accessFlags := 1537
  interfaces := #[]
  cf := some (fileOf pool5 1 #[] #[] 1537 3 #[] #[])
  fields := #[]
  methods := #[]
  instanceTypes := #[]
  staticTypes := #[]
  resolved := Array.replicate 7 none
  statics := none }

def pool6 : Array CpInfo := pool [(11, .class_ 13), (1, u "java/time/Duration"), (20, u "ZERO"), (0, u "Ljava/time/Duration;"), (13, .class_ 51), (1, u "java/time/temporal/TemporalAmount"), (27, .class_ 81), (1, u "java/time/Duration$Lazy"), (35, u "seconds"), (101, .class_ 220), (0, u "java/lang/Object"), (2, u "J"), (2, u "nanos"), (0, u "I"), (11, .class_ 241), (1, u "java/time/Duration$DurationUnits"), (27, .class_ 271), (1, u "java/time/Duration$1"), (91, u "BI_NANOS_PER_SECOND"), (0, u "Ljava/math/BigInteger;"), (120, .class_ 486), (0, u "java/lang/Comparable"), (0, .class_ 488), (0, u "java/io/Serializable"), (0, u "serialVersionUID")] 166

/-- java/time/Duration -/
def k6 : Class := { plain "java/time/Duration" (some 0) with
  accessFlags := 49
  interfaces := #[3, 4, 5]
  cf := some (fileOf pool6 11 #[.nestMembers #[269, 239, 79]] #[] 49 219 #[49, 485, 487] #[{ accessFlags := 25, nameIndex := 34, descriptorIndex := 35, attributes := #[] }, { accessFlags := 26, nameIndex := 489, descriptorIndex := 223, attributes := #[] }, { accessFlags := 26, nameIndex := 363, descriptorIndex := 364, attributes := #[] }, { accessFlags := 18, nameIndex := 117, descriptorIndex := 223, attributes := #[] }, { accessFlags := 18, nameIndex := 226, descriptorIndex := 227, attributes := #[] }])
  fields := #[{ name := "ZERO", type := (.object "java/time/Duration"), accessFlags := 25, slot := 0, constantValue := 0 }, { name := "serialVersionUID", type := .long, accessFlags := 26, slot := 1, constantValue := 0 }, { name := "BI_NANOS_PER_SECOND", type := (.object "java/math/BigInteger"), accessFlags := 26, slot := 2, constantValue := 0 }, { name := "seconds", type := .long, accessFlags := 18, slot := 0, constantValue := 0 }, { name := "nanos", type := .int, accessFlags := 18, slot := 1, constantValue := 0 }]
  methods := #[]
  instanceTypes := #[.long, .int]
  staticTypes := #[(.object "java/time/Duration"), .long, (.object "java/math/BigInteger")]
  resolved := Array.replicate 656 none
  statics := none }

def pool7 : Array CpInfo := pool [(1, u "java/lang/Cloneable"), (0, .class_ 1), (0, u "java/lang/Object"), (0, .class_ 3)] 3

/-- java/lang/Cloneable -/
def k7 : Class := { plain "java/lang/Cloneable" (some 0) with
  accessFlags := 1537
  interfaces := #[]
  cf := some (fileOf pool7 2 #[] #[] 1537 4 #[] #[])
  fields := #[]
  methods := #[]
  instanceTypes := #[]
  staticTypes := #[]
  resolved := Array.replicate 8 none
  statics := none }

/-- the primitive byte -/
def k8 : Class := { plain "byte" none with kind := .primitive 'B', accessFlags := 0x411 }
/-- [B -/
def k9 : Class := { plain "[B" (some 0) with kind := .array 8 .byte, interfaces := #[7, 5], accessFlags := 1041 }

/-- the primitive int -/
def k10 : Class := { plain "int" none with kind := .primitive 'I', accessFlags := 0x411 }
/-- [I -/
def k11 : Class := { plain "[I" (some 0) with kind := .array 10 .int, interfaces := #[7, 5], accessFlags := 1041 }

def heap : Heap := #[{ cls := 2, slots := #[.ref 1, .ref 2, .int 0], vm := .statics 2 },
  { cls := 6, slots := #[.long 1, .int 0], vm := .none },
  { cls := 6, slots := #[.long 2, .int 0], vm := .none }]
def classes : Array Class := #[k0, k1, k2, k3, k4, k5, k6, k7, k8, k9, k10, k11]
def interned : List (Array UInt16 × Addr) := []
def slotsUsed : Nat := 7
def theMethod : MethodId := ⟨1, 2⟩
def args0 : Array Value := #[.int 1, .int 2, .int 3]
def aboutOver (below : List Frame) : State where
  vm := { classes := classes, interned := interned.toArray }
  heap := heap
  slotsUsed := slotsUsed
  threads := #[{ frames := .invoking theMethod args0 :: below }]
def below0 : List Frame := [.native { method := ⟨0, 0⟩, args := #[] }]
def about1 : State := aboutOver below0
def p0 : Program := .bare "" "" ""
def e0 : Env := launch0.env 0 0 0
theorem w_frames : about1.frames = Frame.invoking theMethod args0 :: below0 := rfl
set_option maxRecDepth 65536 in
theorem w_args : argsFit about1.vm theMethod args0 = true := by decide +kernel
set_option maxRecDepth 65536 in
theorem w_heap : heapFits about1 = true := by decide +kernel
set_option maxRecDepth 65536 in
theorem w_runnable : about1.curStatus? = some .runnable := by decide +kernel
set_option maxRecDepth 65536 in
theorem w_alone : about1.alone = true := by decide +kernel
set_option maxRecDepth 65536 in
theorem w_named : about1.methodNamed? x = some theMethod := by decide +kernel
set_option maxRecDepth 65536 in
theorem w_hears : about1.hears theMethod below0 = true := by decide +kernel
set_option maxRecDepth 65536 in
theorem w_ripe : about1.ripe theMethod args0 below0 = true := by decide +kernel
theorem w_running : about1.status = .running := rfl
set_option maxRecDepth 65536 in
theorem w_room : about1.hasRoom e0.platform room_1 = true :=
  launch0.hasRoom_least _ room_1 (by decide +kernel) (by decide +kernel) (by decide +kernel) (by decide +kernel) (by decide +kernel) (by decide +kernel)
theorem allAtoms_all (ts : List Jvm.Cond) (a : Array Jvm.Value) (st : Jvm.State) : (allAtoms ts).before a st = ts.all (fun c => c.before a st) := by
  induction ts with
  | nil => rfl
  | cons c t ih =>
    show (Jvm.Cond.and c (allAtoms t)).before a st = _
    rw [Jvm.Cond.before_and, ih, List.all_cons]
def words1 : List Jvm.Cond := Jvm.Cond.code x code maxLocals ret :: tables_1
/-- a 'code' word, met by the world's own term for the bytes: nothing is compared byte by byte -/
theorem code_word {y : MethodName} {bytes : ByteArray} {mx : Nat} {rt : Option FieldType} {a : Array Value} {s : State} {m : MethodId} {meth : Method} {c : Code} (h1 : s.methodNamed? y = some m) (h2 : s.vm.method? m = some meth) (h3 : meth.code = some c) (h4 : c.code = bytes)
    (h5 : (c.maxLocals == mx && c.exceptionTable.isEmpty && decide (c.maxStack ≤ mostOperands) && decide (meth.sig.returnType = rt) && !meth.locks && decide (parseMethodDescriptor y.desc = some meth.sig)) = true) : (Jvm.Cond.code y bytes mx rt).before a s = true := by
  simp only [Bool.and_eq_true, beq_iff_eq, Bool.not_eq_true', decide_eq_true_eq] at h5
  obtain ⟨⟨⟨⟨⟨g1, g2⟩, g3⟩, g4⟩, g5⟩, g6⟩ := h5
  simp [Cond.before, Cond.holds, Cond.value, h1, h2, h3, h4, g1, g2, g3, g4, g5, g6]
def isCode : Jvm.Cond → Bool
  | .code _ _ _ _ => true
  | _ => false
theorem all_split {L : List Jvm.Cond} {P : Jvm.Cond → Bool} (h1 : L.all (fun c => isCode c || P c) = true) (h2 : ∀ c ∈ L.filter isCode, P c = true) : L.all P = true := by
  refine List.all_eq_true.mpr fun c hc => ?_
  have h := List.all_eq_true.mp h1 c hc
  rcases Bool.eq_false_or_eq_true (isCode c) with hi | hi
  · exact h2 c (List.mem_filter.mpr ⟨hc, hi⟩)
  · simpa [hi] using h
set_option maxRecDepth 65536 in
theorem w_c0 : (Jvm.Cond.code x code maxLocals ret).before args0 about1 = true := code_word (m := ⟨1, 2⟩) (meth := k1m2) (c := k1c2) (by decide +kernel) rfl rfl rfl (by decide +kernel)
set_option maxRecDepth 65536 in
theorem w_c1 : (Jvm.Cond.code ({ cls := "com/example/draftd/draftd/odata/ServiceSettingsWithPageSizePinLaw", name := "positive", desc := "(I)I" } : Jvm.MethodName) method_2_code (2 : Nat) (Option.some Jvm.ClassFile.FieldType.int)).before args0 about1 = true := code_word (m := ⟨1, 1⟩) (meth := k1m1) (c := k1c1) (by decide +kernel) rfl rfl rfl (by decide +kernel)
set_option maxRecDepth 65536 in
theorem w_c2 : (Jvm.Cond.code ({ cls := "com/example/draftd/draftd/odata/ServiceSettings", name := "<init>", desc := "()V" } : Jvm.MethodName) prog_25_method_1_code (1 : Nat) (Option.none : Option Jvm.ClassFile.FieldType)).before args0 about1 = true := code_word (m := ⟨2, 0⟩) (meth := k2m0) (c := k2c0) (by decide +kernel) rfl rfl rfl (by decide +kernel)
set_option maxRecDepth 65536 in
theorem w_c3 : (Jvm.Cond.code ({ cls := "java/lang/Object", name := "<init>", desc := "()V" } : Jvm.MethodName) object_method_1_code (1 : Nat) (Option.none : Option Jvm.ClassFile.FieldType)).before args0 about1 = true := code_word (m := ⟨0, 0⟩) (meth := k0m0) (c := k0c0) (by decide +kernel) rfl rfl rfl (by decide +kernel)
set_option maxRecDepth 65536 in
theorem w_c4 : (Jvm.Cond.code ({ cls := "com/example/draftd/draftd/odata/ServiceSettings", name := "withPageSize", desc := "(I)Lcom/example/draftd/draftd/odata/ServiceSettings;" } : Jvm.MethodName) prog_25_method_5_code (3 : Nat) (Option.some (Jvm.ClassFile.FieldType.object "com/example/draftd/draftd/odata/ServiceSettings"))).before args0 about1 = true := code_word (m := ⟨2, 4⟩) (meth := k2m4) (c := k2c4) (by decide +kernel) rfl rfl rfl (by decide +kernel)
set_option maxRecDepth 65536 in
theorem w_c5 : (Jvm.Cond.code ({ cls := "com/example/draftd/draftd/odata/ServiceSettings", name := "<init>", desc := "(Lcom/example/draftd/draftd/odata/ServiceSettings;)V" } : Jvm.MethodName) prog_25_method_2_code (2 : Nat) (Option.none : Option Jvm.ClassFile.FieldType)).before args0 about1 = true := code_word (m := ⟨2, 1⟩) (meth := k2m1) (c := k2c1) (by decide +kernel) rfl rfl rfl (by decide +kernel)
set_option maxRecDepth 65536 in
theorem w_c6 : (Jvm.Cond.code ({ cls := "com/example/draftd/draftd/odata/ServiceSettings", name := "getPageSize", desc := "()I" } : Jvm.MethodName) prog_25_method_8_code (1 : Nat) (Option.some Jvm.ClassFile.FieldType.int)).before args0 about1 = true := code_word (m := ⟨2, 7⟩) (meth := k2m7) (c := k2c7) (by decide +kernel) rfl rfl rfl (by decide +kernel)
set_option maxRecDepth 65536 in
theorem w_c7 : (Jvm.Cond.code ({ cls := "com/example/draftd/draftd/odata/ServiceSettings", name := "getLockTimeout", desc := "()Ljava/time/Duration;" } : Jvm.MethodName) prog_25_method_6_code (1 : Nat) (Option.some (Jvm.ClassFile.FieldType.object "java/time/Duration"))).before args0 about1 = true := code_word (m := ⟨2, 5⟩) (meth := k2m5) (c := k2c5) (by decide +kernel) rfl rfl rfl (by decide +kernel)
set_option maxRecDepth 65536 in
theorem w_c8 : (Jvm.Cond.code ({ cls := "com/example/draftd/draftd/odata/ServiceSettings", name := "getDraftLifetime", desc := "()Ljava/time/Duration;" } : Jvm.MethodName) prog_25_method_7_code (1 : Nat) (Option.some (Jvm.ClassFile.FieldType.object "java/time/Duration"))).before args0 about1 = true := code_word (m := ⟨2, 6⟩) (meth := k2m6) (c := k2c6) (by decide +kernel) rfl rfl rfl (by decide +kernel)
set_option maxRecDepth 65536 in
theorem w_c9 : (Jvm.Cond.code ({ cls := "com/example/draftd/draftd/odata/ServiceSettings", name := "withDraftLifetime", desc := "(Ljava/time/Duration;)Lcom/example/draftd/draftd/odata/ServiceSettings;" } : Jvm.MethodName) prog_25_method_4_code (3 : Nat) (Option.some (Jvm.ClassFile.FieldType.object "com/example/draftd/draftd/odata/ServiceSettings"))).before args0 about1 = true := code_word (m := ⟨2, 3⟩) (meth := k2m3) (c := k2c3) (by decide +kernel) rfl rfl rfl (by decide +kernel)
set_option maxRecDepth 65536 in
theorem w_c10 : (Jvm.Cond.code ({ cls := "com/example/draftd/draftd/odata/ServiceSettings", name := "withLockTimeout", desc := "(Ljava/time/Duration;)Lcom/example/draftd/draftd/odata/ServiceSettings;" } : Jvm.MethodName) prog_25_method_3_code (3 : Nat) (Option.some (Jvm.ClassFile.FieldType.object "com/example/draftd/draftd/odata/ServiceSettings"))).before args0 about1 = true := code_word (m := ⟨2, 2⟩) (meth := k2m2) (c := k2c2) (by decide +kernel) rfl rfl rfl (by decide +kernel)
def codes1 : List Jvm.Cond := [Jvm.Cond.code x code maxLocals ret, Jvm.Cond.code ({ cls := "com/example/draftd/draftd/odata/ServiceSettingsWithPageSizePinLaw", name := "positive", desc := "(I)I" } : Jvm.MethodName) method_2_code (2 : Nat) (Option.some Jvm.ClassFile.FieldType.int), Jvm.Cond.code ({ cls := "com/example/draftd/draftd/odata/ServiceSettings", name := "<init>", desc := "()V" } : Jvm.MethodName) prog_25_method_1_code (1 : Nat) (Option.none : Option Jvm.ClassFile.FieldType), Jvm.Cond.code ({ cls := "java/lang/Object", name := "<init>", desc := "()V" } : Jvm.MethodName) object_method_1_code (1 : Nat) (Option.none : Option Jvm.ClassFile.FieldType), Jvm.Cond.code ({ cls := "com/example/draftd/draftd/odata/ServiceSettings", name := "withPageSize", desc := "(I)Lcom/example/draftd/draftd/odata/ServiceSettings;" } : Jvm.MethodName) prog_25_method_5_code (3 : Nat) (Option.some (Jvm.ClassFile.FieldType.object "com/example/draftd/draftd/odata/ServiceSettings")), Jvm.Cond.code ({ cls := "com/example/draftd/draftd/odata/ServiceSettings", name := "<init>", desc := "(Lcom/example/draftd/draftd/odata/ServiceSettings;)V" } : Jvm.MethodName) prog_25_method_2_code (2 : Nat) (Option.none : Option Jvm.ClassFile.FieldType), Jvm.Cond.code ({ cls := "com/example/draftd/draftd/odata/ServiceSettings", name := "getPageSize", desc := "()I" } : Jvm.MethodName) prog_25_method_8_code (1 : Nat) (Option.some Jvm.ClassFile.FieldType.int), Jvm.Cond.code ({ cls := "com/example/draftd/draftd/odata/ServiceSettings", name := "getLockTimeout", desc := "()Ljava/time/Duration;" } : Jvm.MethodName) prog_25_method_6_code (1 : Nat) (Option.some (Jvm.ClassFile.FieldType.object "java/time/Duration")), Jvm.Cond.code ({ cls := "com/example/draftd/draftd/odata/ServiceSettings", name := "getDraftLifetime", desc := "()Ljava/time/Duration;" } : Jvm.MethodName) prog_25_method_7_code (1 : Nat) (Option.some (Jvm.ClassFile.FieldType.object "java/time/Duration")), Jvm.Cond.code ({ cls := "com/example/draftd/draftd/odata/ServiceSettings", name := "withDraftLifetime", desc := "(Ljava/time/Duration;)Lcom/example/draftd/draftd/odata/ServiceSettings;" } : Jvm.MethodName) prog_25_method_4_code (3 : Nat) (Option.some (Jvm.ClassFile.FieldType.object "com/example/draftd/draftd/odata/ServiceSettings")), Jvm.Cond.code ({ cls := "com/example/draftd/draftd/odata/ServiceSettings", name := "withLockTimeout", desc := "(Ljava/time/Duration;)Lcom/example/draftd/draftd/odata/ServiceSettings;" } : Jvm.MethodName) prog_25_method_3_code (3 : Nat) (Option.some (Jvm.ClassFile.FieldType.object "com/example/draftd/draftd/odata/ServiceSettings"))]
set_option maxRecDepth 65536 in
theorem codes_eq : words1.filter isCode = codes1 := rfl
theorem w_codes : ∀ c ∈ words1.filter isCode, c.before args0 about1 = true := by
  rw [codes_eq]
  intro c hc
  simp only [codes1, List.mem_cons, List.not_mem_nil, or_false] at hc
  rcases hc with rfl | rfl | rfl | rfl | rfl | rfl | rfl | rfl | rfl | rfl | rfl
  · exact w_c0
  · exact w_c1
  · exact w_c2
  · exact w_c3
  · exact w_c4
  · exact w_c5
  · exact w_c6
  · exact w_c7
  · exact w_c8
  · exact w_c9
  · exact w_c10
set_option maxRecDepth 65536 in
theorem w_t1 : (words1.take 24).all (fun c => isCode c || c.before args0 about1) = true := by decide +kernel
set_option maxRecDepth 65536 in
theorem w_t2 : ((words1.drop 24).take 24).all (fun c => isCode c || c.before args0 about1) = true := by decide +kernel
set_option maxRecDepth 65536 in
theorem w_t3 : ((words1.drop 24).drop 24).all (fun c => isCode c || c.before args0 about1) = true := by decide +kernel
theorem w_tables : (allAtoms (Jvm.Cond.code x code maxLocals ret :: tables_1)).before args0 about1 = true := by
  rw [allAtoms_all]
  show words1.all (fun c => c.before args0 about1) = true
  refine all_split ?_ w_codes
  rw [← List.take_append_drop 24 words1, List.all_append, w_t1, ← List.take_append_drop 24 (words1.drop 24), List.all_append, w_t2, w_t3]
  rfl
set_option maxRecDepth 65536 in
theorem w_case : (Jvm.Cond.and given_1 narrow_1).before args0 about1 = true := by decide +kernel
theorem w_applies : (headSpec (Jvm.Cond.code x code maxLocals ret :: tables_1) room_1).applies x e0.platform about1 = true :=
  (Spec.applies_iff w_frames).mpr ⟨w_running, w_runnable, w_alone, w_named, w_hears, w_ripe, w_room, w_tables⟩
theorem atStart : AtStart classFile x code maxLocals ret World_1 tables_1 room_1 Calls_1 rest_1 Pre_1 launch0 p0 e0 about1 theMethod args0 below0 :=
  ⟨lists_1, trivial, launch0.admits_env _ _ _, launch0.least_env, fairChoices_fair.cas, fairChoices_fair.clock, w_frames, w_args, w_heap, w_applies, trivial, trivial, w_case⟩
end start1
theorem witness_1 : WitnessClaimed_1 := ⟨start1.p0, start1.e0, start1.about1, start1.theMethod, start1.args0, start1.below0, start1.atStart⟩
end Jvm.Pilot.@@N@@
