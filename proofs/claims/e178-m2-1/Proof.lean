import JvmDerived
import JvmDerived.Pilot.@@N@@Statement
import JvmDerived.Pilot.@@N@@Code
set_option linter.unusedVariables false
set_option linter.unusedSimpArgs false
@@BLOCK:NumsL.lean.txt@@
namespace Jvm.Pilot.@@N@@
open Jvm Jvm.ClassFile Sem Op Lib Jvm.Free Jvm.Stand Jvm.LawKit Jvm.RoadKit Bundle Jvm.Pilot.@@N@@.Jvm.D
section Own
variable {p : Program} {l : Launch} {e : Env} {R : Room} {s : State} {m : MethodId} {args : Array Value} {below : List Frame} {meth : Method} {c : Code} {T T' : State} {locs : List Loc} {cells slots kc ks : Nat} {g g' : JFrame} {Q : Option Value → Heap → List Loc → Prop}
/-- from here the run goes on to its return, with Q of what it returns, the heap and the places written -/
def own_Go (p : Program) (e : Env) (below : List Frame) (s T : State) (g : JFrame) (Q : Option Value → Heap → List Loc → Prop) (kc ks : Nat) : Prop :=
  ∃ s₂ o, Steps p.tables e below (T.setTop g) s₂ ∧ s₂.status = .running ∧ Ended s₂ below o ∧ ∃ v L, o = .returned v ∧ Q v s₂.heap L ∧ FrameEnd s o s₂ L kc ks
theorem own_st (st : ∀ t, Steps p.tables e below (T'.setTop g') t → Steps p.tables e below (T.setTop g) t) (k : own_Go p e below s T' g' Q kc ks) : own_Go p e below s T g Q kc ks := by
  obtain ⟨s₂, o, h1, h2⟩ := k
  exact ⟨s₂, o, st _ h1, h2⟩
theorem own_stt (st : Steps p.tables e below (T.setTop g) (T'.setTop g')) (k : own_Go p e below s T' g' Q kc ks) : own_Go p e below s T g Q kc ks := own_st (fun _ k => st.trans k) k
theorem own_cast (q : g = g') (k : own_Go p e below s T g' Q kc ks) : own_Go p e below s T g Q kc ks := q ▸ k
theorem own_retN (X : Stand p l e R s m args below meth c T locs cells slots) (hx : p.tables.exec = Jvm.exec) (hlk : meth.locks = false) {t : FieldType} (ht : t = .boolean ∨ t = .byte ∨ t = .char ∨ t = .short) (hret : meth.sig.returnType = some t)
    {pc : Nat} {Ls : Array Slot} {z : Int32} {rest : List Value} (hd : decode c.code pc = .ok (.ireturn, 1)) (hc : cells ≤ kc) (hs : slots ≤ ks) (hq : Q (some (.int (nar t z))) T.heap locs) :
    own_Go p e below s T (mkF m pc Ls (.int z :: rest)) Q kc ks := by
  obtain ⟨fs, hr, hrun, hended, hW, hsame⟩ := X.leave (v := some (.int (nar t z))) (fun h => by rw [hret] at h; cases h) hlk
  exact ⟨_, _, retN X hx hret ht hd hr, hrun, hended, _, _, rfl, hq, ⟨_, rfl⟩, hW, hsame.mono hc hs⟩
theorem own_retI (X : Stand p l e R s m args below meth c T locs cells slots) (hx : p.tables.exec = Jvm.exec) (hlk : meth.locks = false) (hret : meth.sig.returnType = some .int)
    {pc : Nat} {Ls : Array Slot} {z : Int32} {rest : List Value} (hd : decode c.code pc = .ok (.ireturn, 1)) (hc : cells ≤ kc) (hs : slots ≤ ks) (hq : Q (some (.int z)) T.heap locs) :
    own_Go p e below s T (mkF m pc Ls (.int z :: rest)) Q kc ks := by
  obtain ⟨fs, hr, hrun, hended, hW, hsame⟩ := X.leave (v := some (.int z)) (fun h => by rw [hret] at h; cases h) hlk
  exact ⟨_, _, retOut X hx hret rfl (Or.inl ⟨rfl, Or.inl rfl, _, rfl⟩) hd hr, hrun, hended, _, _, rfl, hq, ⟨_, rfl⟩, hW, hsame.mono hc hs⟩
theorem own_retJ (X : Stand p l e R s m args below meth c T locs cells slots) (hx : p.tables.exec = Jvm.exec) (hlk : meth.locks = false) (hret : meth.sig.returnType = some .long)
    {pc : Nat} {Ls : Array Slot} {z : Int64} {rest : List Value} (hd : decode c.code pc = .ok (.lreturn, 1)) (hc : cells ≤ kc) (hs : slots ≤ ks) (hq : Q (some (.long z)) T.heap locs) :
    own_Go p e below s T (mkF m pc Ls (.long z :: rest)) Q kc ks := by
  obtain ⟨fs, hr, hrun, hended, hW, hsame⟩ := X.leave (v := some (.long z)) (fun h => by rw [hret] at h; cases h) hlk
  exact ⟨_, _, retOut X hx hret rfl (Or.inr (Or.inl ⟨rfl, rfl, _, rfl⟩)) hd hr, hrun, hended, _, _, rfl, hq, ⟨_, rfl⟩, hW, hsame.mono hc hs⟩
theorem own_retV (X : Stand p l e R s m args below meth c T locs cells slots) (hx : p.tables.exec = Jvm.exec) (hlk : meth.locks = false) (hret : meth.sig.returnType = none)
    {pc : Nat} {Ls : Array Slot} (hd : decode c.code pc = .ok (.return_, 1)) (hc : cells ≤ kc) (hs : slots ≤ ks) (hq : Q none T.heap locs) :
    own_Go p e below s T (mkF m pc Ls []) Q kc ks := by
  obtain ⟨fs, hr, hrun, hended, hW, hsame⟩ := X.leave (v := none) (fun _ => rfl) hlk
  exact ⟨_, _, X.returnOut hx hret hd hr, hrun, hended, _, _, rfl, hq, ⟨_, rfl⟩, hW, hsame.mono hc hs⟩
end Own
/-- what a body that writes nothing leaves: its value, nothing old written, the heap as it was -/
def own_QP (w : Value) (h0 : Heap) (n0 : Nat) (v : Option Value) (h : Heap) (L : List Loc) : Prop := v = some w ∧ Fr n0 L ∧ h = h0
def own_Q0 (n0 : Nat) (v : Option Value) (h : Heap) (L : List Loc) : Prop := v = some (.int 1) ∧ Fr n0 L
def own_e (mn mx : Int32) : Int32 := if mx < mn then 1 else 0
def own_z (z : Int32) : Int32 := if z = 0 then 1 else 0
theorem own_d1_0 : decode jdk_29_method_69_code 0 = .ok (.iload_n 0, 1) := by decide +kernel
theorem own_d1_1 : decode jdk_29_method_69_code 1 = .ok (.iload_n 1, 1) := by decide +kernel
theorem own_d1_2 : decode jdk_29_method_69_code 2 = .ok (.if_icmp .gt 7, 3) := by decide +kernel
theorem own_d1_5 : decode jdk_29_method_69_code 5 = .ok (.iload_n 0, 1) := by decide +kernel
theorem own_d1_6 : decode jdk_29_method_69_code 6 = .ok (.goto 4, 3) := by decide +kernel
theorem own_d1_9 : decode jdk_29_method_69_code 9 = .ok (.iload_n 1, 1) := by decide +kernel
theorem own_d1_10 : decode jdk_29_method_69_code 10 = .ok (.ireturn, 1) := by decide +kernel
def own_f1_0 (x0 : Int32) (x1 : Int32) : Int32 := (if x1 < x0 then x1 else x0)
set_option maxRecDepth 65536 in
set_option maxHeartbeats 4000000 in
theorem own_b1_0 {p : Program} {l : Launch} {e : Env} {s : State} {m : MethodId} {args : Array Value} {below : List Frame} {meth : Method} {c : Code} {T : State} {locs : List Loc} {cells slots kc ks : Nat} {Z : State} {a0 : Array Value} {h0 : Heap} {n0 : Nat} (X0 : Stand p l e ({ frames := 0, cells := 0, slots := 0, locals := 0 } : Room) s m args below meth c T locs cells slots) (hx : p.tables.exec = Jvm.exec) (hlk : meth.locks = false) (hby : c.code = jdk_29_method_69_code) (hml : c.maxLocals = 2) (hret : meth.sig.returnType = some .int) (hown : s.vm.findClass "java/lang/Math" = some m.cls) (hZ : Z.Warmed39 s.vm) (hw : ∀ d ∈ tables_1, d.before a0 Z = true) (e0 : T.heap = h0) (N0 : Fr n0 locs) (hcs : cells ≤ kc) (hss : slots ≤ ks) (x0 : Int32) (x1 : Int32) :
    own_Go p e below s T (mkF m 0 #[.val (.int x0), .val (.int x1)] []) (own_QP (.int (own_f1_0 x0 x1)) h0 n0) kc ks := by
  unfold own_f1_0
  refine own_st (g' := (mkF m 1 #[.val (.int x0), .val (.int x1)] [(.int x0)])) (fun tt_ kk_ => XS.iloadN X0.here hx rfl (hb hby own_d1_0) rfl kk_) ?_
  refine own_st (g' := (mkF m 2 #[.val (.int x0), .val (.int x1)] [(.int x1), (.int x0)])) (fun tt_ kk_ => XS.iloadN X0.here hx rfl (hb hby own_d1_1) rfl kk_) ?_
  by_cases hc2 : x1 < x0
  · rw [if_pos hc2]
    refine own_st (g' := (mkF m 9 #[.val (.int x0), .val (.int x1)] [])) (fun tt_ kk_ => XS.icmpYes X0.here hx rfl (pc0 := 2) (pc' := 9) rfl (hb hby own_d1_2) rfl (tlt hc2).2.2.1 (by decide) (by decide) kk_) ?_
    refine own_st (g' := (mkF m 10 #[.val (.int x0), .val (.int x1)] [(.int x1)])) (fun tt_ kk_ => XS.iloadN X0.here hx rfl (hb hby own_d1_9) rfl kk_) ?_
    exact own_retI X0 hx hlk hret (hb hby own_d1_10) hcs hss ⟨rfl, N0, e0⟩
  rw [if_neg hc2]
  refine own_st (g' := (mkF m 5 #[.val (.int x0), .val (.int x1)] [])) (fun tt_ kk_ => XS.icmpNo X0.here hx rfl (hb hby own_d1_2) rfl (flt hc2).2.2.1 kk_) ?_
  refine own_st (g' := (mkF m 6 #[.val (.int x0), .val (.int x1)] [(.int x0)])) (fun tt_ kk_ => XS.iloadN X0.here hx rfl (hb hby own_d1_5) rfl kk_) ?_
  refine own_st (g' := (mkF m 10 #[.val (.int x0), .val (.int x1)] [(.int x0)])) (fun tt_ kk_ => XS.goto X0.here hx rfl (pc0 := 6) (pc' := 10) rfl (hb hby own_d1_6) (by decide) (by decide) kk_) ?_
  exact own_retI X0 hx hlk hret (hb hby own_d1_10) hcs hss ⟨rfl, N0, e0⟩
theorem own_ef1 (m : MethodId) (x0 : Int32) (x1 : Int32) : entryFrame m #[(.int x0), (.int x1)] 2 = mkF m 0 #[.val (.int x0), .val (.int x1)] [] := by first | (simp [entryFrame, mkF, argsToLocals, Value.category]; done) | rfl
set_option maxRecDepth 65536 in
set_option maxHeartbeats 4000000 in
theorem own_rm1 (l : Launch) (Z : State) (a0 : Array Value) (hw : ∀ d ∈ tables_1, d.before a0 Z = true) (ws : List Jvm.Cond) (x0 : Int32) (x1 : Int32) (h0 : Heap) (n0 : Nat) :
    MetFree l (⟨"java/lang/Math", "min", "(II)I"⟩ : MethodName) (head1 (Jvm.Cond.code (⟨"java/lang/Math", "min", "(II)I"⟩ : MethodName) jdk_29_method_69_code 2 (some .int) :: ws) ({ frames := 0, cells := 0, slots := 0, locals := 0 } : Room)) (fun aa UU => aa = #[(.int x0), (.int x1)] ∧ Z.Warmed39 UU.vm ∧ UU.heap = h0) (fun _ _ _ _ _ => True) (fun _ U o U' => ∃ v L, o = .returned v ∧ own_QP (.int (own_f1_0 x0 x1)) h0 n0 v U'.heap L ∧ FrameEnd U o U' L ({ frames := 0, cells := 0, slots := 0, locals := 0 } : Room).cells ({ frames := 0, cells := 0, slots := 0, locals := 0 } : Room).slots) := by
  refine MetFree.of_bodySF (Jvm.Free.JP.mathPlain rfl (by decide +kernel)) hisR ?_
  intro p e s m args below meth c s₁ Bd hml0 hP hK
  obtain ⟨rfl, hZ, hh⟩ := hP
  have X0 : Stand p l e ({ frames := 0, cells := 0, slots := 0, locals := 0 } : Room) s m #[(.int x0), (.int x1)] below meth c s₁ [] 0 0 := Stand.of_body Bd
  have e0 : s₁.heap = h0 := by rw [← hh, Bd.state]; rfl
  refine own_cast (own_ef1 m x0 x1) ?_
  exact own_b1_0 X0 Bd.exec Bd.notSynchronized Bd.bytes hml0 Bd.returns (findClass_of_methodNamed Bd.named) hZ hw e0 (Fr.nil n0) (by decide) (by decide) x0 x1
theorem own_d2_0 : decode jdk_29_method_65_code 0 = .ok (.iload_n 0, 1) := by decide +kernel
theorem own_d2_1 : decode jdk_29_method_65_code 1 = .ok (.iload_n 1, 1) := by decide +kernel
theorem own_d2_2 : decode jdk_29_method_65_code 2 = .ok (.if_icmp .lt 7, 3) := by decide +kernel
theorem own_d2_5 : decode jdk_29_method_65_code 5 = .ok (.iload_n 0, 1) := by decide +kernel
theorem own_d2_6 : decode jdk_29_method_65_code 6 = .ok (.goto 4, 3) := by decide +kernel
theorem own_d2_9 : decode jdk_29_method_65_code 9 = .ok (.iload_n 1, 1) := by decide +kernel
theorem own_d2_10 : decode jdk_29_method_65_code 10 = .ok (.ireturn, 1) := by decide +kernel
def own_f2_0 (x0 : Int32) (x1 : Int32) : Int32 := (if x0 < x1 then x1 else x0)
set_option maxRecDepth 65536 in
set_option maxHeartbeats 4000000 in
theorem own_b2_0 {p : Program} {l : Launch} {e : Env} {s : State} {m : MethodId} {args : Array Value} {below : List Frame} {meth : Method} {c : Code} {T : State} {locs : List Loc} {cells slots kc ks : Nat} {Z : State} {a0 : Array Value} {h0 : Heap} {n0 : Nat} (X0 : Stand p l e ({ frames := 0, cells := 0, slots := 0, locals := 0 } : Room) s m args below meth c T locs cells slots) (hx : p.tables.exec = Jvm.exec) (hlk : meth.locks = false) (hby : c.code = jdk_29_method_65_code) (hml : c.maxLocals = 2) (hret : meth.sig.returnType = some .int) (hown : s.vm.findClass "java/lang/Math" = some m.cls) (hZ : Z.Warmed39 s.vm) (hw : ∀ d ∈ tables_1, d.before a0 Z = true) (e0 : T.heap = h0) (N0 : Fr n0 locs) (hcs : cells ≤ kc) (hss : slots ≤ ks) (x0 : Int32) (x1 : Int32) :
    own_Go p e below s T (mkF m 0 #[.val (.int x0), .val (.int x1)] []) (own_QP (.int (own_f2_0 x0 x1)) h0 n0) kc ks := by
  unfold own_f2_0
  refine own_st (g' := (mkF m 1 #[.val (.int x0), .val (.int x1)] [(.int x0)])) (fun tt_ kk_ => XS.iloadN X0.here hx rfl (hb hby own_d2_0) rfl kk_) ?_
  refine own_st (g' := (mkF m 2 #[.val (.int x0), .val (.int x1)] [(.int x1), (.int x0)])) (fun tt_ kk_ => XS.iloadN X0.here hx rfl (hb hby own_d2_1) rfl kk_) ?_
  by_cases hc2 : x0 < x1
  · rw [if_pos hc2]
    refine own_st (g' := (mkF m 9 #[.val (.int x0), .val (.int x1)] [])) (fun tt_ kk_ => XS.icmpYes X0.here hx rfl (pc0 := 2) (pc' := 9) rfl (hb hby own_d2_2) rfl (tlt hc2).1 (by decide) (by decide) kk_) ?_
    refine own_st (g' := (mkF m 10 #[.val (.int x0), .val (.int x1)] [(.int x1)])) (fun tt_ kk_ => XS.iloadN X0.here hx rfl (hb hby own_d2_9) rfl kk_) ?_
    exact own_retI X0 hx hlk hret (hb hby own_d2_10) hcs hss ⟨rfl, N0, e0⟩
  rw [if_neg hc2]
  refine own_st (g' := (mkF m 5 #[.val (.int x0), .val (.int x1)] [])) (fun tt_ kk_ => XS.icmpNo X0.here hx rfl (hb hby own_d2_2) rfl (flt hc2).1 kk_) ?_
  refine own_st (g' := (mkF m 6 #[.val (.int x0), .val (.int x1)] [(.int x0)])) (fun tt_ kk_ => XS.iloadN X0.here hx rfl (hb hby own_d2_5) rfl kk_) ?_
  refine own_st (g' := (mkF m 10 #[.val (.int x0), .val (.int x1)] [(.int x0)])) (fun tt_ kk_ => XS.goto X0.here hx rfl (pc0 := 6) (pc' := 10) rfl (hb hby own_d2_6) (by decide) (by decide) kk_) ?_
  exact own_retI X0 hx hlk hret (hb hby own_d2_10) hcs hss ⟨rfl, N0, e0⟩
theorem own_ef2 (m : MethodId) (x0 : Int32) (x1 : Int32) : entryFrame m #[(.int x0), (.int x1)] 2 = mkF m 0 #[.val (.int x0), .val (.int x1)] [] := by first | (simp [entryFrame, mkF, argsToLocals, Value.category]; done) | rfl
set_option maxRecDepth 65536 in
set_option maxHeartbeats 4000000 in
theorem own_rm2 (l : Launch) (Z : State) (a0 : Array Value) (hw : ∀ d ∈ tables_1, d.before a0 Z = true) (ws : List Jvm.Cond) (x0 : Int32) (x1 : Int32) (h0 : Heap) (n0 : Nat) :
    MetFree l (⟨"java/lang/Math", "max", "(II)I"⟩ : MethodName) (head1 (Jvm.Cond.code (⟨"java/lang/Math", "max", "(II)I"⟩ : MethodName) jdk_29_method_65_code 2 (some .int) :: ws) ({ frames := 0, cells := 0, slots := 0, locals := 0 } : Room)) (fun aa UU => aa = #[(.int x0), (.int x1)] ∧ Z.Warmed39 UU.vm ∧ UU.heap = h0) (fun _ _ _ _ _ => True) (fun _ U o U' => ∃ v L, o = .returned v ∧ own_QP (.int (own_f2_0 x0 x1)) h0 n0 v U'.heap L ∧ FrameEnd U o U' L ({ frames := 0, cells := 0, slots := 0, locals := 0 } : Room).cells ({ frames := 0, cells := 0, slots := 0, locals := 0 } : Room).slots) := by
  refine MetFree.of_bodySF (Jvm.Free.JP.mathPlain rfl (by decide +kernel)) hisR ?_
  intro p e s m args below meth c s₁ Bd hml0 hP hK
  obtain ⟨rfl, hZ, hh⟩ := hP
  have X0 : Stand p l e ({ frames := 0, cells := 0, slots := 0, locals := 0 } : Room) s m #[(.int x0), (.int x1)] below meth c s₁ [] 0 0 := Stand.of_body Bd
  have e0 : s₁.heap = h0 := by rw [← hh, Bd.state]; rfl
  refine own_cast (own_ef2 m x0 x1) ?_
  exact own_b2_0 X0 Bd.exec Bd.notSynchronized Bd.bytes hml0 Bd.returns (findClass_of_methodNamed Bd.named) hZ hw e0 (Fr.nil n0) (by decide) (by decide) x0 x1
theorem own_d4_0 : decode jdk_30_method_1_code 0 = .ok (.aload_n 0, 1) := by decide +kernel
theorem own_d4_1 : decode jdk_30_method_1_code 1 = .ok (.invokespecial 1, 3) := by decide +kernel
theorem own_d4_4 : decode jdk_30_method_1_code 4 = .ok (.return_, 1) := by decide +kernel
theorem own_pd0 : parseMethodDescriptor "()V" = some ⟨[], none⟩ := by decide +kernel
theorem own_pn0 : plainName "java/lang/Record" = true := by first | (simp [plainName, overriddenIn]; done) | decide +kernel
def own_Qrec (Z : State) (a : Addr) (h0 : Heap) (n0 : Nat) (v : Option Value) (h : Heap) (L : List Loc) : Prop := v = none ∧ Fr n0 L ∧ h = h0
theorem own_efrec (m : MethodId) (a : Addr) : entryFrame m #[(.ref a)] 1 = mkF m 0 #[.val (.ref a)] [] := by first | (simp [entryFrame, mkF, argsToLocals, Value.category]; done) | rfl
set_option maxRecDepth 65536 in
set_option maxHeartbeats 16000000 in
theorem own_rmrec (l : Launch) (Z : State) (a0 : Array Value) (hw : ∀ d ∈ tables_1, d.before a0 Z = true) (ws : List Jvm.Cond) (a : Addr) (h0 : Heap) (n0 : Nat) (Z0 : n0 ≤ h0.size) :
    MetFree l (⟨"java/lang/Record", "<init>", "()V"⟩ : MethodName) (head1 (Jvm.Cond.code (⟨"java/lang/Record", "<init>", "()V"⟩ : MethodName) jdk_30_method_1_code 1 none :: ws) ({ frames := 1, cells := 0, slots := 0, locals := 12 } : Room)) (fun aa UU => aa = #[(.ref a)] ∧ Z.Warmed39 UU.vm ∧ UU.heap = h0) (fun _ _ _ _ _ => True) (fun _ U o U' => ∃ v L, o = .returned v ∧ own_Qrec Z a h0 n0 v U'.heap L ∧ FrameEnd U o U' L ({ frames := 1, cells := 0, slots := 0, locals := 12 } : Room).cells ({ frames := 1, cells := 0, slots := 0, locals := 12 } : Room).slots) := by
  refine MetFree.of_bodySF (plainFor_of_name own_pn0) hisR ?_
  intro p e s m args below meth c s₁ Bd hml hP hK
  obtain ⟨rfl, hZ, hh⟩ := hP
  have hx := Bd.exec
  have hlk := Bd.notSynchronized
  have hby := Bd.bytes
  have hret := Bd.returns
  have hown := findClass_of_methodNamed Bd.named
  have hnm := (name_of_methodNamed Bd.named Bd.method).1
  have X0 : Stand p l e ({ frames := 1, cells := 0, slots := 0, locals := 12 } : Room) s m #[(.ref a)] below meth c s₁ [] 0 0 := Stand.of_body Bd
  have e0 : s₁.heap = h0 := by rw [← hh, Bd.state]; rfl
  have N0 := Fr.nil n0
  refine own_cast (own_efrec m a) ?_
  show own_Go p e below s s₁ _ (own_Qrec Z a h0 n0) 0 0
  refine own_st (g' := (mkF m 1 #[.val (.ref a)] [(.ref a)])) (fun tt_ kk_ => XS.aloadN X0.here hx rfl (hb hby own_d4_0) rfl rfl kk_) ?_
  obtain ⟨T1, X1, e1, st1⟩ := initO X0 hx hZ hown (hw _ (List.mem_of_getElem? (i := 20) rfl)) (hw _ (List.mem_of_getElem? (i := 21) rfl)) (hw _ (List.mem_of_getElem? (i := 22) rfl)) e0 (g := (mkF m 1 #[.val (.ref a)] [(.ref a)])) rfl (by rw [hml]; rfl) rfl (hb hby own_d4_1) (by decide) (W := 0) (by show 2 * 0 + _ ≤ _; exact Nat.le_of_eq rfl) (by decide)
  refine own_st (g' := (mkF m 4 #[.val (.ref a)] [])) st1 ?_
  exact own_retV X1 hx hlk hret (hb hby own_d4_4) (by decide) (by decide) (by rw [e1]; exact ⟨rfl, N0, rfl⟩)
theorem own_d3_0 : decode prog_93_method_1_code 0 = .ok (.aload_n 0, 1) := by decide +kernel
theorem own_d3_1 : decode prog_93_method_1_code 1 = .ok (.invokespecial 1, 3) := by decide +kernel
theorem own_d3_4 : decode prog_93_method_1_code 4 = .ok (.aload_n 0, 1) := by decide +kernel
theorem own_d3_5 : decode prog_93_method_1_code 5 = .ok (.iload_n 1, 1) := by decide +kernel
theorem own_d3_6 : decode prog_93_method_1_code 6 = .ok (.putfield 7, 3) := by decide +kernel
theorem own_d3_9 : decode prog_93_method_1_code 9 = .ok (.aload_n 0, 1) := by decide +kernel
theorem own_d3_10 : decode prog_93_method_1_code 10 = .ok (.iload_n 2, 1) := by decide +kernel
theorem own_d3_11 : decode prog_93_method_1_code 11 = .ok (.putfield 13, 3) := by decide +kernel
theorem own_d3_14 : decode prog_93_method_1_code 14 = .ok (.aload_n 0, 1) := by decide +kernel
theorem own_d3_15 : decode prog_93_method_1_code 15 = .ok (.aload_n 3, 1) := by decide +kernel
theorem own_d3_16 : decode prog_93_method_1_code 16 = .ok (.putfield 16, 3) := by decide +kernel
theorem own_d3_19 : decode prog_93_method_1_code 19 = .ok (.aload_n 0, 1) := by decide +kernel
theorem own_d3_20 : decode prog_93_method_1_code 20 = .ok (.iload 4, 2) := by decide +kernel
theorem own_d3_22 : decode prog_93_method_1_code 22 = .ok (.putfield 20, 3) := by decide +kernel
theorem own_d3_25 : decode prog_93_method_1_code 25 = .ok (.return_, 1) := by decide +kernel
theorem own_pn1 : plainName "com/example/propagule/propagule/flatzinc/Expr$IntSet" = true := by first | (simp [plainName, overriddenIn]; done) | decide +kernel
def own_Qini0 (Z : State) (a : Addr) (mn : Int32) (mx : Int32) (li : Int32) (h0 : Heap) (n0 : Nat) (v : Option Value) (h : Heap) (L : List Loc) : Prop := v = none ∧ Fr n0 L ∧ Keep h0 h [a] ∧ Exa Z h a "com/example/propagule/propagule/flatzinc/Expr$IntSet" ∧ Fld Z h a "com/example/propagule/propagule/flatzinc/Expr$IntSet" "min" "I" (.int mn) ∧ Fld Z h a "com/example/propagule/propagule/flatzinc/Expr$IntSet" "max" "I" (.int mx) ∧ Fld Z h a "com/example/propagule/propagule/flatzinc/Expr$IntSet" "values" "[I" .null
theorem own_efini0 (m : MethodId) (a : Addr) (mn : Int32) (mx : Int32) (li : Int32) : entryFrame m #[(.ref a), (.int mn), (.int mx), .null, (.int li)] 5 = mkF m 0 #[.val (.ref a), .val (.int mn), .val (.int mx), .val .null, .val (.int li)] [] := by first | (simp [entryFrame, mkF, argsToLocals, Value.category]; done) | rfl
set_option maxRecDepth 65536 in
set_option maxHeartbeats 16000000 in
theorem own_rmini0 (l : Launch) (Z : State) (a0 : Array Value) (hw : ∀ d ∈ tables_1, d.before a0 Z = true) (ws : List Jvm.Cond) (a : Addr) (mn : Int32) (mx : Int32) (li : Int32) (h0 : Heap) (n0 : Nat) (Z0 : n0 ≤ h0.size) (E_a : Exa Z h0 a "com/example/propagule/propagule/flatzinc/Expr$IntSet") (F_min : Fld Z h0 a "com/example/propagule/propagule/flatzinc/Expr$IntSet" "min" "I" (.int (0 : Int32))) (F_max : Fld Z h0 a "com/example/propagule/propagule/flatzinc/Expr$IntSet" "max" "I" (.int (0 : Int32))) (F_values : Fld Z h0 a "com/example/propagule/propagule/flatzinc/Expr$IntSet" "values" "[I" .null) (F_line : Fld Z h0 a "com/example/propagule/propagule/flatzinc/Expr$IntSet" "line" "I" (.int (0 : Int32))) (g_a : n0 ≤ a) :
    MetFree l (⟨"com/example/propagule/propagule/flatzinc/Expr$IntSet", "<init>", "(II[II)V"⟩ : MethodName) (head1 (Jvm.Cond.code (⟨"com/example/propagule/propagule/flatzinc/Expr$IntSet", "<init>", "(II[II)V"⟩ : MethodName) prog_93_method_1_code 5 none :: ws) ({ frames := 2, cells := 0, slots := 0, locals := 24 } : Room)) (fun aa UU => aa = #[(.ref a), (.int mn), (.int mx), .null, (.int li)] ∧ Z.Warmed39 UU.vm ∧ UU.heap = h0) (fun _ _ _ _ _ => True) (fun _ U o U' => ∃ v L, o = .returned v ∧ own_Qini0 Z a mn mx li h0 n0 v U'.heap L ∧ FrameEnd U o U' L ({ frames := 2, cells := 0, slots := 0, locals := 24 } : Room).cells ({ frames := 2, cells := 0, slots := 0, locals := 24 } : Room).slots) := by
  refine MetFree.of_bodySF (plainFor_of_name own_pn1) hisR ?_
  intro p e s m args below meth c s₁ Bd hml hP hK
  obtain ⟨rfl, hZ, hh⟩ := hP
  have hx := Bd.exec
  have hlk := Bd.notSynchronized
  have hby := Bd.bytes
  have hret := Bd.returns
  have hown := findClass_of_methodNamed Bd.named
  have hnm := (name_of_methodNamed Bd.named Bd.method).1
  have X0 : Stand p l e ({ frames := 2, cells := 0, slots := 0, locals := 24 } : Room) s m #[(.ref a), (.int mn), (.int mx), .null, (.int li)] below meth c s₁ [] 0 0 := Stand.of_body Bd
  have e0 : s₁.heap = h0 := by rw [← hh, Bd.state]; rfl
  have N0 := Fr.nil n0
  refine own_cast (own_efini0 m a mn mx li) ?_
  show own_Go p e below s s₁ _ (own_Qini0 Z a mn mx li h0 n0) 0 0
  have K0 : Keep h0 h0 [a] := Keep.refl _ _
  refine own_st (g' := (mkF m 1 #[.val (.ref a), .val (.int mn), .val (.int mx), .val .null, .val (.int li)] [(.ref a)])) (fun tt_ kk_ => XS.aloadN X0.here hx rfl (hb hby own_d3_0) rfl rfl kk_) ?_
  obtain ⟨_, _, ⟨T2, L2, k2, n2⟩, -, X2, ⟨Lc2, hQ2, l2, y2, z2⟩, st2⟩ := X0.specialBack hx (y := (⟨"java/lang/Record", "<init>", "()V"⟩ : MethodName)) rfl hown (mvT hZ (hw _ (List.mem_of_getElem? (i := 15) rfl))) (mvT hZ (hw _ (List.mem_of_getElem? (i := 16) rfl))) (mvT hZ (hw _ (List.mem_of_getElem? (i := 19) rfl))) (by decide) (backOf (W := 0) (own_rmrec l Z a0 hw [] a h0 n0 Z0 ) hZ (hw _ (List.mem_of_getElem? (i := 19) rfl)) (hw _ (List.mem_of_getElem? (i := 18) rfl)) (by decide) (by decide)) (g := (mkF m 1 #[.val (.ref a), .val (.int mn), .val (.int mx), .val .null, .val (.int li)] [(.ref a)])) rfl (by rw [hml]; rfl) (Steps.refl _) (a := a) (argsL := []) (rest := []) (lenOf own_pd0 rfl) rfl (by show 2 * 0 + _ ≤ _; exact Nat.le_of_eq rfl) (hb hby own_d3_1) (fun _ _ => ⟨rfl, e0, (by decide : 0 + 0 ≤ _), (by decide : 0 + 0 ≤ _)⟩)
  dsimp only [Pt.U, Pt.locs, Pt.cells, Pt.slots] at X2 l2 y2 z2 st2 hQ2
  rw [l2, y2, z2] at X2
  obtain ⟨rfl, N2q, e2⟩ := hQ2
  have N2 := Fr.app N0 N2q
  refine own_st (g' := (mkF m 4 #[.val (.ref a), .val (.int mn), .val (.int mx), .val .null, .val (.int li)] [])) (fun t k => st2.trans k) ?_
  refine own_st (g' := (mkF m 5 #[.val (.ref a), .val (.int mn), .val (.int mx), .val .null, .val (.int li)] [(.ref a)])) (fun tt_ kk_ => XS.aloadN X2.here hx rfl (hb hby own_d3_4) rfl rfl kk_) ?_
  refine own_st (g' := (mkF m 6 #[.val (.ref a), .val (.int mn), .val (.int mx), .val .null, .val (.int li)] [(.int mn), (.ref a)])) (fun tt_ kk_ => XS.iloadN X2.here hx rfl (hb hby own_d3_5) rfl kk_) ?_
  obtain ⟨T3, h3, X3, e3, W3, st3⟩ := putF X2 hx hZ hown (host := "") (Or.inl (hw _ (List.mem_of_getElem? (i := 23) rfl))) Via.refl e2 F_min E_a (Or.inr ⟨(hw _ (List.mem_of_getElem? (i := 24) rfl)), rfl, hnm⟩) (hw _ (List.mem_of_getElem? (i := 10) rfl)) (ty := .int) (by decide) rfl rfl (g := (mkF m 6 #[.val (.ref a), .val (.int mn), .val (.int mx), .val .null, .val (.int li)] [(.int mn), (.ref a)])) rfl rfl (hb hby own_d3_6)
  have N3 := Fr.snoc X3 N2 g_a
  have Z3 : n0 ≤ h3.size := Nat.le_trans Z0 (Keep.of_wr W3).1
  have K3 : Keep h0 h3 [a] := K0.wr W3 (Or.inl (List.mem_of_getElem? (i := 0) rfl))
  have F3 : Fld Z h3 a "com/example/propagule/propagule/flatzinc/Expr$IntSet" "min" "I" (.int mn) := F_min.same W3
  refine own_st (g' := (mkF m 9 #[.val (.ref a), .val (.int mn), .val (.int mx), .val .null, .val (.int li)] [])) st3 ?_
  refine own_st (g' := (mkF m 10 #[.val (.ref a), .val (.int mn), .val (.int mx), .val .null, .val (.int li)] [(.ref a)])) (fun tt_ kk_ => XS.aloadN X3.here hx rfl (hb hby own_d3_9) rfl rfl kk_) ?_
  refine own_st (g' := (mkF m 11 #[.val (.ref a), .val (.int mn), .val (.int mx), .val .null, .val (.int li)] [(.int mx), (.ref a)])) (fun tt_ kk_ => XS.iloadN X3.here hx rfl (hb hby own_d3_10) rfl kk_) ?_
  have F5 := (F_max.other W3 (Or.inr (slot_ne (Or.inr (hw _ (List.mem_of_getElem? (i := 26) rfl))) (Or.inr (hw _ (List.mem_of_getElem? (i := 24) rfl))) (by decide) (t := .int) (t' := .int) (by decide) (by decide))))
  have F6 := (E_a.wr W3)
  obtain ⟨T4, h4, X4, e4, W4, st4⟩ := putF X3 hx hZ hown (host := "") (Or.inl (hw _ (List.mem_of_getElem? (i := 25) rfl))) Via.refl e3 F5 F6 (Or.inr ⟨(hw _ (List.mem_of_getElem? (i := 26) rfl)), rfl, hnm⟩) (hw _ (List.mem_of_getElem? (i := 10) rfl)) (ty := .int) (by decide) rfl rfl (g := (mkF m 11 #[.val (.ref a), .val (.int mn), .val (.int mx), .val .null, .val (.int li)] [(.int mx), (.ref a)])) rfl rfl (hb hby own_d3_11)
  have N4 := Fr.snoc X4 N3 g_a
  have Z4 : n0 ≤ h4.size := Nat.le_trans Z3 (Keep.of_wr W4).1
  have K4 : Keep h0 h4 [a] := K3.wr W4 (Or.inl (List.mem_of_getElem? (i := 0) rfl))
  have F4 : Fld Z h4 a "com/example/propagule/propagule/flatzinc/Expr$IntSet" "max" "I" (.int mx) := F5.same W4
  refine own_st (g' := (mkF m 14 #[.val (.ref a), .val (.int mn), .val (.int mx), .val .null, .val (.int li)] [])) st4 ?_
  refine own_st (g' := (mkF m 15 #[.val (.ref a), .val (.int mn), .val (.int mx), .val .null, .val (.int li)] [(.ref a)])) (fun tt_ kk_ => XS.aloadN X4.here hx rfl (hb hby own_d3_14) rfl rfl kk_) ?_
  refine own_st (g' := (mkF m 16 #[.val (.ref a), .val (.int mn), .val (.int mx), .val .null, .val (.int li)] [.null, (.ref a)])) (fun tt_ kk_ => XS.aloadN X4.here hx rfl (hb hby own_d3_15) rfl rfl kk_) ?_
  have F8 := ((F_values.other W3 (Or.inr (slot_ne (Or.inr (hw _ (List.mem_of_getElem? (i := 28) rfl))) (Or.inr (hw _ (List.mem_of_getElem? (i := 24) rfl))) (by decide) (t := (.array .int)) (t' := .int) (by decide) (by decide)))).other W4 (Or.inr (slot_ne (Or.inr (hw _ (List.mem_of_getElem? (i := 28) rfl))) (Or.inr (hw _ (List.mem_of_getElem? (i := 26) rfl))) (by decide) (t := (.array .int)) (t' := .int) (by decide) (by decide))))
  have F9 := (F6.wr W4)
  obtain ⟨T7, h7, X7, e7, W7, st7⟩ := putF X4 hx hZ hown (host := "") (Or.inl (hw _ (List.mem_of_getElem? (i := 27) rfl))) Via.refl e4 F8 F9 (Or.inr ⟨(hw _ (List.mem_of_getElem? (i := 28) rfl)), rfl, hnm⟩) (hw _ (List.mem_of_getElem? (i := 10) rfl)) (ty := (.array .int)) (by decide) rfl rfl (g := (mkF m 16 #[.val (.ref a), .val (.int mn), .val (.int mx), .val .null, .val (.int li)] [.null, (.ref a)])) rfl rfl (hb hby own_d3_16)
  have N7 := Fr.snoc X7 N4 g_a
  have Z7 : n0 ≤ h7.size := Nat.le_trans Z4 (Keep.of_wr W7).1
  have K7 : Keep h0 h7 [a] := K4.wr W7 (Or.inl (List.mem_of_getElem? (i := 0) rfl))
  have F7 : Fld Z h7 a "com/example/propagule/propagule/flatzinc/Expr$IntSet" "values" "[I" .null := F8.same W7
  refine own_st (g' := (mkF m 19 #[.val (.ref a), .val (.int mn), .val (.int mx), .val .null, .val (.int li)] [])) st7 ?_
  refine own_st (g' := (mkF m 20 #[.val (.ref a), .val (.int mn), .val (.int mx), .val .null, .val (.int li)] [(.ref a)])) (fun tt_ kk_ => XS.aloadN X7.here hx rfl (hb hby own_d3_19) rfl rfl kk_) ?_
  refine own_st (g' := (mkF m 22 #[.val (.ref a), .val (.int mn), .val (.int mx), .val .null, .val (.int li)] [(.int li), (.ref a)])) (fun tt_ kk_ => XS.iload X7.here hx rfl (hb hby own_d3_20) rfl kk_) ?_
  have F11 := (((F_line.other W3 (Or.inr (slot_ne (Or.inr (hw _ (List.mem_of_getElem? (i := 30) rfl))) (Or.inr (hw _ (List.mem_of_getElem? (i := 24) rfl))) (by decide) (t := .int) (t' := .int) (by decide) (by decide)))).other W4 (Or.inr (slot_ne (Or.inr (hw _ (List.mem_of_getElem? (i := 30) rfl))) (Or.inr (hw _ (List.mem_of_getElem? (i := 26) rfl))) (by decide) (t := .int) (t' := .int) (by decide) (by decide)))).other W7 (Or.inr (slot_ne (Or.inr (hw _ (List.mem_of_getElem? (i := 30) rfl))) (Or.inr (hw _ (List.mem_of_getElem? (i := 28) rfl))) (by decide) (t := .int) (t' := (.array .int)) (by decide) (by decide))))
  have F12 := (F9.wr W7)
  obtain ⟨T10, h10, X10, e10, W10, st10⟩ := putF X7 hx hZ hown (host := "") (Or.inl (hw _ (List.mem_of_getElem? (i := 29) rfl))) Via.refl e7 F11 F12 (Or.inr ⟨(hw _ (List.mem_of_getElem? (i := 30) rfl)), rfl, hnm⟩) (hw _ (List.mem_of_getElem? (i := 10) rfl)) (ty := .int) (by decide) rfl rfl (g := (mkF m 22 #[.val (.ref a), .val (.int mn), .val (.int mx), .val .null, .val (.int li)] [(.int li), (.ref a)])) rfl rfl (hb hby own_d3_22)
  have N10 := Fr.snoc X10 N7 g_a
  have Z10 : n0 ≤ h10.size := Nat.le_trans Z7 (Keep.of_wr W10).1
  have K10 : Keep h0 h10 [a] := K7.wr W10 (Or.inl (List.mem_of_getElem? (i := 0) rfl))
  have F10 : Fld Z h10 a "com/example/propagule/propagule/flatzinc/Expr$IntSet" "line" "I" (.int li) := F11.same W10
  refine own_st (g' := (mkF m 25 #[.val (.ref a), .val (.int mn), .val (.int mx), .val .null, .val (.int li)] [])) st10 ?_
  have F13 := (F12.wr W10)
  have F14 := (((F3.other W4 (Or.inr (slot_ne (Or.inr (hw _ (List.mem_of_getElem? (i := 24) rfl))) (Or.inr (hw _ (List.mem_of_getElem? (i := 26) rfl))) (by decide) (t := .int) (t' := .int) (by decide) (by decide)))).other W7 (Or.inr (slot_ne (Or.inr (hw _ (List.mem_of_getElem? (i := 24) rfl))) (Or.inr (hw _ (List.mem_of_getElem? (i := 28) rfl))) (by decide) (t := .int) (t' := (.array .int)) (by decide) (by decide)))).other W10 (Or.inr (slot_ne (Or.inr (hw _ (List.mem_of_getElem? (i := 24) rfl))) (Or.inr (hw _ (List.mem_of_getElem? (i := 30) rfl))) (by decide) (t := .int) (t' := .int) (by decide) (by decide))))
  have F15 := ((F4.other W7 (Or.inr (slot_ne (Or.inr (hw _ (List.mem_of_getElem? (i := 26) rfl))) (Or.inr (hw _ (List.mem_of_getElem? (i := 28) rfl))) (by decide) (t := .int) (t' := (.array .int)) (by decide) (by decide)))).other W10 (Or.inr (slot_ne (Or.inr (hw _ (List.mem_of_getElem? (i := 26) rfl))) (Or.inr (hw _ (List.mem_of_getElem? (i := 30) rfl))) (by decide) (t := .int) (t' := .int) (by decide) (by decide))))
  have F16 := (F7.other W10 (Or.inr (slot_ne (Or.inr (hw _ (List.mem_of_getElem? (i := 28) rfl))) (Or.inr (hw _ (List.mem_of_getElem? (i := 30) rfl))) (by decide) (t := (.array .int)) (t' := .int) (by decide) (by decide))))
  exact own_retV X10 hx hlk hret (hb hby own_d3_25) (by decide) (by decide) (by rw [e10]; exact ⟨rfl, N10, K10, F13, F14, F15, F16⟩)
def own_Qini1 (Z : State) (a : Addr) (mn : Int32) (mx : Int32) (vv : Addr) (li : Int32) (h0 : Heap) (n0 : Nat) (v : Option Value) (h : Heap) (L : List Loc) : Prop := v = none ∧ Fr n0 L ∧ Keep h0 h [a] ∧ Exa Z h a "com/example/propagule/propagule/flatzinc/Expr$IntSet" ∧ Fld Z h a "com/example/propagule/propagule/flatzinc/Expr$IntSet" "min" "I" (.int mn) ∧ Fld Z h a "com/example/propagule/propagule/flatzinc/Expr$IntSet" "max" "I" (.int mx) ∧ Fld Z h a "com/example/propagule/propagule/flatzinc/Expr$IntSet" "values" "[I" (.ref vv)
theorem own_efini1 (m : MethodId) (a : Addr) (mn : Int32) (mx : Int32) (vv : Addr) (li : Int32) : entryFrame m #[(.ref a), (.int mn), (.int mx), (.ref vv), (.int li)] 5 = mkF m 0 #[.val (.ref a), .val (.int mn), .val (.int mx), .val (.ref vv), .val (.int li)] [] := by first | (simp [entryFrame, mkF, argsToLocals, Value.category]; done) | rfl
set_option maxRecDepth 65536 in
set_option maxHeartbeats 16000000 in
theorem own_rmini1 (l : Launch) (Z : State) (a0 : Array Value) (hw : ∀ d ∈ tables_1, d.before a0 Z = true) (ws : List Jvm.Cond) (a : Addr) (mn : Int32) (mx : Int32) (vv : Addr) (li : Int32) (h0 : Heap) (n0 : Nat) (Z0 : n0 ≤ h0.size) (E_a : Exa Z h0 a "com/example/propagule/propagule/flatzinc/Expr$IntSet") (F_min : Fld Z h0 a "com/example/propagule/propagule/flatzinc/Expr$IntSet" "min" "I" (.int (0 : Int32))) (F_max : Fld Z h0 a "com/example/propagule/propagule/flatzinc/Expr$IntSet" "max" "I" (.int (0 : Int32))) (F_values : Fld Z h0 a "com/example/propagule/propagule/flatzinc/Expr$IntSet" "values" "[I" .null) (F_line : Fld Z h0 a "com/example/propagule/propagule/flatzinc/Expr$IntSet" "line" "I" (.int (0 : Int32))) (g_a : n0 ≤ a) :
    MetFree l (⟨"com/example/propagule/propagule/flatzinc/Expr$IntSet", "<init>", "(II[II)V"⟩ : MethodName) (head1 (Jvm.Cond.code (⟨"com/example/propagule/propagule/flatzinc/Expr$IntSet", "<init>", "(II[II)V"⟩ : MethodName) prog_93_method_1_code 5 none :: ws) ({ frames := 2, cells := 0, slots := 0, locals := 24 } : Room)) (fun aa UU => aa = #[(.ref a), (.int mn), (.int mx), (.ref vv), (.int li)] ∧ Z.Warmed39 UU.vm ∧ UU.heap = h0) (fun _ _ _ _ _ => True) (fun _ U o U' => ∃ v L, o = .returned v ∧ own_Qini1 Z a mn mx vv li h0 n0 v U'.heap L ∧ FrameEnd U o U' L ({ frames := 2, cells := 0, slots := 0, locals := 24 } : Room).cells ({ frames := 2, cells := 0, slots := 0, locals := 24 } : Room).slots) := by
  refine MetFree.of_bodySF (plainFor_of_name own_pn1) hisR ?_
  intro p e s m args below meth c s₁ Bd hml hP hK
  obtain ⟨rfl, hZ, hh⟩ := hP
  have hx := Bd.exec
  have hlk := Bd.notSynchronized
  have hby := Bd.bytes
  have hret := Bd.returns
  have hown := findClass_of_methodNamed Bd.named
  have hnm := (name_of_methodNamed Bd.named Bd.method).1
  have X0 : Stand p l e ({ frames := 2, cells := 0, slots := 0, locals := 24 } : Room) s m #[(.ref a), (.int mn), (.int mx), (.ref vv), (.int li)] below meth c s₁ [] 0 0 := Stand.of_body Bd
  have e0 : s₁.heap = h0 := by rw [← hh, Bd.state]; rfl
  have N0 := Fr.nil n0
  refine own_cast (own_efini1 m a mn mx vv li) ?_
  show own_Go p e below s s₁ _ (own_Qini1 Z a mn mx vv li h0 n0) 0 0
  have K0 : Keep h0 h0 [a] := Keep.refl _ _
  refine own_st (g' := (mkF m 1 #[.val (.ref a), .val (.int mn), .val (.int mx), .val (.ref vv), .val (.int li)] [(.ref a)])) (fun tt_ kk_ => XS.aloadN X0.here hx rfl (hb hby own_d3_0) rfl rfl kk_) ?_
  obtain ⟨_, _, ⟨T17, L17, k17, n17⟩, -, X17, ⟨Lc17, hQ17, l17, y17, z17⟩, st17⟩ := X0.specialBack hx (y := (⟨"java/lang/Record", "<init>", "()V"⟩ : MethodName)) rfl hown (mvT hZ (hw _ (List.mem_of_getElem? (i := 15) rfl))) (mvT hZ (hw _ (List.mem_of_getElem? (i := 16) rfl))) (mvT hZ (hw _ (List.mem_of_getElem? (i := 19) rfl))) (by decide) (backOf (W := 0) (own_rmrec l Z a0 hw [] a h0 n0 Z0 ) hZ (hw _ (List.mem_of_getElem? (i := 19) rfl)) (hw _ (List.mem_of_getElem? (i := 18) rfl)) (by decide) (by decide)) (g := (mkF m 1 #[.val (.ref a), .val (.int mn), .val (.int mx), .val (.ref vv), .val (.int li)] [(.ref a)])) rfl (by rw [hml]; rfl) (Steps.refl _) (a := a) (argsL := []) (rest := []) (lenOf own_pd0 rfl) rfl (by show 2 * 0 + _ ≤ _; exact Nat.le_of_eq rfl) (hb hby own_d3_1) (fun _ _ => ⟨rfl, e0, (by decide : 0 + 0 ≤ _), (by decide : 0 + 0 ≤ _)⟩)
  dsimp only [Pt.U, Pt.locs, Pt.cells, Pt.slots] at X17 l17 y17 z17 st17 hQ17
  rw [l17, y17, z17] at X17
  obtain ⟨rfl, N17q, e17⟩ := hQ17
  have N17 := Fr.app N0 N17q
  refine own_st (g' := (mkF m 4 #[.val (.ref a), .val (.int mn), .val (.int mx), .val (.ref vv), .val (.int li)] [])) (fun t k => st17.trans k) ?_
  refine own_st (g' := (mkF m 5 #[.val (.ref a), .val (.int mn), .val (.int mx), .val (.ref vv), .val (.int li)] [(.ref a)])) (fun tt_ kk_ => XS.aloadN X17.here hx rfl (hb hby own_d3_4) rfl rfl kk_) ?_
  refine own_st (g' := (mkF m 6 #[.val (.ref a), .val (.int mn), .val (.int mx), .val (.ref vv), .val (.int li)] [(.int mn), (.ref a)])) (fun tt_ kk_ => XS.iloadN X17.here hx rfl (hb hby own_d3_5) rfl kk_) ?_
  obtain ⟨T18, h18, X18, e18, W18, st18⟩ := putF X17 hx hZ hown (host := "") (Or.inl (hw _ (List.mem_of_getElem? (i := 23) rfl))) Via.refl e17 F_min E_a (Or.inr ⟨(hw _ (List.mem_of_getElem? (i := 24) rfl)), rfl, hnm⟩) (hw _ (List.mem_of_getElem? (i := 10) rfl)) (ty := .int) (by decide) rfl rfl (g := (mkF m 6 #[.val (.ref a), .val (.int mn), .val (.int mx), .val (.ref vv), .val (.int li)] [(.int mn), (.ref a)])) rfl rfl (hb hby own_d3_6)
  have N18 := Fr.snoc X18 N17 g_a
  have Z18 : n0 ≤ h18.size := Nat.le_trans Z0 (Keep.of_wr W18).1
  have K18 : Keep h0 h18 [a] := K0.wr W18 (Or.inl (List.mem_of_getElem? (i := 0) rfl))
  have F18 : Fld Z h18 a "com/example/propagule/propagule/flatzinc/Expr$IntSet" "min" "I" (.int mn) := F_min.same W18
  refine own_st (g' := (mkF m 9 #[.val (.ref a), .val (.int mn), .val (.int mx), .val (.ref vv), .val (.int li)] [])) st18 ?_
  refine own_st (g' := (mkF m 10 #[.val (.ref a), .val (.int mn), .val (.int mx), .val (.ref vv), .val (.int li)] [(.ref a)])) (fun tt_ kk_ => XS.aloadN X18.here hx rfl (hb hby own_d3_9) rfl rfl kk_) ?_
  refine own_st (g' := (mkF m 11 #[.val (.ref a), .val (.int mn), .val (.int mx), .val (.ref vv), .val (.int li)] [(.int mx), (.ref a)])) (fun tt_ kk_ => XS.iloadN X18.here hx rfl (hb hby own_d3_10) rfl kk_) ?_
  have F20 := (F_max.other W18 (Or.inr (slot_ne (Or.inr (hw _ (List.mem_of_getElem? (i := 26) rfl))) (Or.inr (hw _ (List.mem_of_getElem? (i := 24) rfl))) (by decide) (t := .int) (t' := .int) (by decide) (by decide))))
  have F21 := (E_a.wr W18)
  obtain ⟨T19, h19, X19, e19, W19, st19⟩ := putF X18 hx hZ hown (host := "") (Or.inl (hw _ (List.mem_of_getElem? (i := 25) rfl))) Via.refl e18 F20 F21 (Or.inr ⟨(hw _ (List.mem_of_getElem? (i := 26) rfl)), rfl, hnm⟩) (hw _ (List.mem_of_getElem? (i := 10) rfl)) (ty := .int) (by decide) rfl rfl (g := (mkF m 11 #[.val (.ref a), .val (.int mn), .val (.int mx), .val (.ref vv), .val (.int li)] [(.int mx), (.ref a)])) rfl rfl (hb hby own_d3_11)
  have N19 := Fr.snoc X19 N18 g_a
  have Z19 : n0 ≤ h19.size := Nat.le_trans Z18 (Keep.of_wr W19).1
  have K19 : Keep h0 h19 [a] := K18.wr W19 (Or.inl (List.mem_of_getElem? (i := 0) rfl))
  have F19 : Fld Z h19 a "com/example/propagule/propagule/flatzinc/Expr$IntSet" "max" "I" (.int mx) := F20.same W19
  refine own_st (g' := (mkF m 14 #[.val (.ref a), .val (.int mn), .val (.int mx), .val (.ref vv), .val (.int li)] [])) st19 ?_
  refine own_st (g' := (mkF m 15 #[.val (.ref a), .val (.int mn), .val (.int mx), .val (.ref vv), .val (.int li)] [(.ref a)])) (fun tt_ kk_ => XS.aloadN X19.here hx rfl (hb hby own_d3_14) rfl rfl kk_) ?_
  refine own_st (g' := (mkF m 16 #[.val (.ref a), .val (.int mn), .val (.int mx), .val (.ref vv), .val (.int li)] [(.ref vv), (.ref a)])) (fun tt_ kk_ => XS.aloadN X19.here hx rfl (hb hby own_d3_15) rfl rfl kk_) ?_
  have F23 := ((F_values.other W18 (Or.inr (slot_ne (Or.inr (hw _ (List.mem_of_getElem? (i := 28) rfl))) (Or.inr (hw _ (List.mem_of_getElem? (i := 24) rfl))) (by decide) (t := (.array .int)) (t' := .int) (by decide) (by decide)))).other W19 (Or.inr (slot_ne (Or.inr (hw _ (List.mem_of_getElem? (i := 28) rfl))) (Or.inr (hw _ (List.mem_of_getElem? (i := 26) rfl))) (by decide) (t := (.array .int)) (t' := .int) (by decide) (by decide))))
  have F24 := (F21.wr W19)
  obtain ⟨T22, h22, X22, e22, W22, st22⟩ := putF X19 hx hZ hown (host := "") (Or.inl (hw _ (List.mem_of_getElem? (i := 27) rfl))) Via.refl e19 F23 F24 (Or.inr ⟨(hw _ (List.mem_of_getElem? (i := 28) rfl)), rfl, hnm⟩) (hw _ (List.mem_of_getElem? (i := 10) rfl)) (ty := (.array .int)) (by decide) rfl rfl (g := (mkF m 16 #[.val (.ref a), .val (.int mn), .val (.int mx), .val (.ref vv), .val (.int li)] [(.ref vv), (.ref a)])) rfl rfl (hb hby own_d3_16)
  have N22 := Fr.snoc X22 N19 g_a
  have Z22 : n0 ≤ h22.size := Nat.le_trans Z19 (Keep.of_wr W22).1
  have K22 : Keep h0 h22 [a] := K19.wr W22 (Or.inl (List.mem_of_getElem? (i := 0) rfl))
  have F22 : Fld Z h22 a "com/example/propagule/propagule/flatzinc/Expr$IntSet" "values" "[I" (.ref vv) := F23.same W22
  refine own_st (g' := (mkF m 19 #[.val (.ref a), .val (.int mn), .val (.int mx), .val (.ref vv), .val (.int li)] [])) st22 ?_
  refine own_st (g' := (mkF m 20 #[.val (.ref a), .val (.int mn), .val (.int mx), .val (.ref vv), .val (.int li)] [(.ref a)])) (fun tt_ kk_ => XS.aloadN X22.here hx rfl (hb hby own_d3_19) rfl rfl kk_) ?_
  refine own_st (g' := (mkF m 22 #[.val (.ref a), .val (.int mn), .val (.int mx), .val (.ref vv), .val (.int li)] [(.int li), (.ref a)])) (fun tt_ kk_ => XS.iload X22.here hx rfl (hb hby own_d3_20) rfl kk_) ?_
  have F26 := (((F_line.other W18 (Or.inr (slot_ne (Or.inr (hw _ (List.mem_of_getElem? (i := 30) rfl))) (Or.inr (hw _ (List.mem_of_getElem? (i := 24) rfl))) (by decide) (t := .int) (t' := .int) (by decide) (by decide)))).other W19 (Or.inr (slot_ne (Or.inr (hw _ (List.mem_of_getElem? (i := 30) rfl))) (Or.inr (hw _ (List.mem_of_getElem? (i := 26) rfl))) (by decide) (t := .int) (t' := .int) (by decide) (by decide)))).other W22 (Or.inr (slot_ne (Or.inr (hw _ (List.mem_of_getElem? (i := 30) rfl))) (Or.inr (hw _ (List.mem_of_getElem? (i := 28) rfl))) (by decide) (t := .int) (t' := (.array .int)) (by decide) (by decide))))
  have F27 := (F24.wr W22)
  obtain ⟨T25, h25, X25, e25, W25, st25⟩ := putF X22 hx hZ hown (host := "") (Or.inl (hw _ (List.mem_of_getElem? (i := 29) rfl))) Via.refl e22 F26 F27 (Or.inr ⟨(hw _ (List.mem_of_getElem? (i := 30) rfl)), rfl, hnm⟩) (hw _ (List.mem_of_getElem? (i := 10) rfl)) (ty := .int) (by decide) rfl rfl (g := (mkF m 22 #[.val (.ref a), .val (.int mn), .val (.int mx), .val (.ref vv), .val (.int li)] [(.int li), (.ref a)])) rfl rfl (hb hby own_d3_22)
  have N25 := Fr.snoc X25 N22 g_a
  have Z25 : n0 ≤ h25.size := Nat.le_trans Z22 (Keep.of_wr W25).1
  have K25 : Keep h0 h25 [a] := K22.wr W25 (Or.inl (List.mem_of_getElem? (i := 0) rfl))
  have F25 : Fld Z h25 a "com/example/propagule/propagule/flatzinc/Expr$IntSet" "line" "I" (.int li) := F26.same W25
  refine own_st (g' := (mkF m 25 #[.val (.ref a), .val (.int mn), .val (.int mx), .val (.ref vv), .val (.int li)] [])) st25 ?_
  have F28 := (F27.wr W25)
  have F29 := (((F18.other W19 (Or.inr (slot_ne (Or.inr (hw _ (List.mem_of_getElem? (i := 24) rfl))) (Or.inr (hw _ (List.mem_of_getElem? (i := 26) rfl))) (by decide) (t := .int) (t' := .int) (by decide) (by decide)))).other W22 (Or.inr (slot_ne (Or.inr (hw _ (List.mem_of_getElem? (i := 24) rfl))) (Or.inr (hw _ (List.mem_of_getElem? (i := 28) rfl))) (by decide) (t := .int) (t' := (.array .int)) (by decide) (by decide)))).other W25 (Or.inr (slot_ne (Or.inr (hw _ (List.mem_of_getElem? (i := 24) rfl))) (Or.inr (hw _ (List.mem_of_getElem? (i := 30) rfl))) (by decide) (t := .int) (t' := .int) (by decide) (by decide))))
  have F30 := ((F19.other W22 (Or.inr (slot_ne (Or.inr (hw _ (List.mem_of_getElem? (i := 26) rfl))) (Or.inr (hw _ (List.mem_of_getElem? (i := 28) rfl))) (by decide) (t := .int) (t' := (.array .int)) (by decide) (by decide)))).other W25 (Or.inr (slot_ne (Or.inr (hw _ (List.mem_of_getElem? (i := 26) rfl))) (Or.inr (hw _ (List.mem_of_getElem? (i := 30) rfl))) (by decide) (t := .int) (t' := .int) (by decide) (by decide))))
  have F31 := (F22.other W25 (Or.inr (slot_ne (Or.inr (hw _ (List.mem_of_getElem? (i := 28) rfl))) (Or.inr (hw _ (List.mem_of_getElem? (i := 30) rfl))) (by decide) (t := (.array .int)) (t' := .int) (by decide) (by decide))))
  exact own_retV X25 hx hlk hret (hb hby own_d3_25) (by decide) (by decide) (by rw [e25]; exact ⟨rfl, N25, K25, F28, F29, F30, F31⟩)
theorem own_d6_0 : decode prog_93_method_2_code 0 = .ok (.aload_n 0, 1) := by decide +kernel
theorem own_d6_1 : decode prog_93_method_2_code 1 = .ok (.getfield 16, 3) := by decide +kernel
theorem own_d6_4 : decode prog_93_method_2_code 4 = .ok (.ifnonnull 22, 3) := by decide +kernel
theorem own_d6_7 : decode prog_93_method_2_code 7 = .ok (.aload_n 0, 1) := by decide +kernel
theorem own_d6_8 : decode prog_93_method_2_code 8 = .ok (.getfield 13, 3) := by decide +kernel
theorem own_d6_11 : decode prog_93_method_2_code 11 = .ok (.aload_n 0, 1) := by decide +kernel
theorem own_d6_12 : decode prog_93_method_2_code 12 = .ok (.getfield 7, 3) := by decide +kernel
theorem own_d6_15 : decode prog_93_method_2_code 15 = .ok (.if_icmp .ge 7, 3) := by decide +kernel
theorem own_d6_18 : decode prog_93_method_2_code 18 = .ok (.iconst 1, 1) := by decide +kernel
theorem own_d6_19 : decode prog_93_method_2_code 19 = .ok (.goto 20, 3) := by decide +kernel
theorem own_d6_22 : decode prog_93_method_2_code 22 = .ok (.iconst 0, 1) := by decide +kernel
theorem own_d6_23 : decode prog_93_method_2_code 23 = .ok (.goto 16, 3) := by decide +kernel
theorem own_d6_26 : decode prog_93_method_2_code 26 = .ok (.aload_n 0, 1) := by decide +kernel
theorem own_d6_27 : decode prog_93_method_2_code 27 = .ok (.getfield 16, 3) := by decide +kernel
theorem own_d6_30 : decode prog_93_method_2_code 30 = .ok (.arraylength, 1) := by decide +kernel
theorem own_d6_31 : decode prog_93_method_2_code 31 = .ok (.ifCond .ne 7, 3) := by decide +kernel
theorem own_d6_34 : decode prog_93_method_2_code 34 = .ok (.iconst 1, 1) := by decide +kernel
theorem own_d6_35 : decode prog_93_method_2_code 35 = .ok (.goto 4, 3) := by decide +kernel
theorem own_d6_38 : decode prog_93_method_2_code 38 = .ok (.iconst 0, 1) := by decide +kernel
theorem own_d6_39 : decode prog_93_method_2_code 39 = .ok (.ireturn, 1) := by decide +kernel
def own_Qemp0 (Z : State) (a : Addr) (mn : Int32) (mx : Int32) (h0 : Heap) (n0 : Nat) (v : Option Value) (h : Heap) (L : List Loc) : Prop := v = some (.int (own_e mn mx)) ∧ Fr n0 L ∧ h = h0
theorem own_efemp0 (m : MethodId) (a : Addr) : entryFrame m #[(.ref a)] 1 = mkF m 0 #[.val (.ref a)] [] := by first | (simp [entryFrame, mkF, argsToLocals, Value.category]; done) | rfl
set_option maxRecDepth 65536 in
set_option maxHeartbeats 16000000 in
theorem own_rmemp0 (l : Launch) (Z : State) (a0 : Array Value) (hw : ∀ d ∈ tables_1, d.before a0 Z = true) (ws : List Jvm.Cond) (a : Addr) (mn : Int32) (mx : Int32) (h0 : Heap) (n0 : Nat) (Z0 : n0 ≤ h0.size) (F_v : Fld Z h0 a "com/example/propagule/propagule/flatzinc/Expr$IntSet" "values" "[I" .null) (F_m : Fld Z h0 a "com/example/propagule/propagule/flatzinc/Expr$IntSet" "min" "I" (.int mn)) (F_x : Fld Z h0 a "com/example/propagule/propagule/flatzinc/Expr$IntSet" "max" "I" (.int mx)) :
    MetFree l (⟨"com/example/propagule/propagule/flatzinc/Expr$IntSet", "isEmpty", "()Z"⟩ : MethodName) (head1 (Jvm.Cond.code (⟨"com/example/propagule/propagule/flatzinc/Expr$IntSet", "isEmpty", "()Z"⟩ : MethodName) prog_93_method_2_code 1 (some .boolean) :: ws) ({ frames := 0, cells := 0, slots := 0, locals := 0 } : Room)) (fun aa UU => aa = #[(.ref a)] ∧ Z.Warmed39 UU.vm ∧ UU.heap = h0) (fun _ _ _ _ _ => True) (fun _ U o U' => ∃ v L, o = .returned v ∧ own_Qemp0 Z a mn mx h0 n0 v U'.heap L ∧ FrameEnd U o U' L ({ frames := 0, cells := 0, slots := 0, locals := 0 } : Room).cells ({ frames := 0, cells := 0, slots := 0, locals := 0 } : Room).slots) := by
  refine MetFree.of_bodySF (plainFor_of_name own_pn1) hisR ?_
  intro p e s m args below meth c s₁ Bd hml hP hK
  obtain ⟨rfl, hZ, hh⟩ := hP
  have hx := Bd.exec
  have hlk := Bd.notSynchronized
  have hby := Bd.bytes
  have hret := Bd.returns
  have hown := findClass_of_methodNamed Bd.named
  have hnm := (name_of_methodNamed Bd.named Bd.method).1
  have X0 : Stand p l e ({ frames := 0, cells := 0, slots := 0, locals := 0 } : Room) s m #[(.ref a)] below meth c s₁ [] 0 0 := Stand.of_body Bd
  have e0 : s₁.heap = h0 := by rw [← hh, Bd.state]; rfl
  have N0 := Fr.nil n0
  refine own_cast (own_efemp0 m a) ?_
  show own_Go p e below s s₁ _ (own_Qemp0 Z a mn mx h0 n0) 0 0
  refine own_st (g' := (mkF m 1 #[.val (.ref a)] [(.ref a)])) (fun tt_ kk_ => XS.aloadN X0.here hx rfl (hb hby own_d6_0) rfl rfl kk_) ?_
  obtain ⟨T32, X32, e32, st32⟩ := getF X0 hx hZ hown (host := "") (Or.inl (hw _ (List.mem_of_getElem? (i := 27) rfl))) Via.refl e0 F_v (g := (mkF m 1 #[.val (.ref a)] [(.ref a)])) rfl rfl (hb hby own_d6_1)
  refine own_st (g' := (mkF m 4 #[.val (.ref a)] [.null])) st32 ?_
  refine own_st (g' := (mkF m 7 #[.val (.ref a)] [])) (fun tt_ kk_ => XS.ifnonnullNo X32.here hx rfl (hb hby own_d6_4) rfl kk_) ?_
  refine own_st (g' := (mkF m 8 #[.val (.ref a)] [(.ref a)])) (fun tt_ kk_ => XS.aloadN X32.here hx rfl (hb hby own_d6_7) rfl rfl kk_) ?_
  obtain ⟨T33, X33, e33, st33⟩ := getF X32 hx hZ hown (host := "") (Or.inl (hw _ (List.mem_of_getElem? (i := 25) rfl))) Via.refl e32 F_x (g := (mkF m 8 #[.val (.ref a)] [(.ref a)])) rfl rfl (hb hby own_d6_8)
  refine own_st (g' := (mkF m 11 #[.val (.ref a)] [(.int mx)])) st33 ?_
  refine own_st (g' := (mkF m 12 #[.val (.ref a)] [(.ref a), (.int mx)])) (fun tt_ kk_ => XS.aloadN X33.here hx rfl (hb hby own_d6_11) rfl rfl kk_) ?_
  obtain ⟨T34, X34, e34, st34⟩ := getF X33 hx hZ hown (host := "") (Or.inl (hw _ (List.mem_of_getElem? (i := 23) rfl))) Via.refl e33 F_m (g := (mkF m 12 #[.val (.ref a)] [(.ref a), (.int mx)])) rfl rfl (hb hby own_d6_12)
  refine own_st (g' := (mkF m 15 #[.val (.ref a)] [(.int mn), (.int mx)])) st34 ?_
  by_cases hc15 : mx < mn
  · skip
    refine own_st (g' := (mkF m 18 #[.val (.ref a)] [])) (fun tt_ kk_ => XS.icmpNo X34.here hx rfl (hb hby own_d6_15) rfl (tlt hc15).2.1 kk_) ?_
    refine own_st (g' := (mkF m 19 #[.val (.ref a)] [(.int (1 : Int32))])) (fun tt_ kk_ => XS.iconst X34.here hx rfl (hb hby own_d6_18) kk_) ?_
    refine own_st (g' := (mkF m 39 #[.val (.ref a)] [(.int (1 : Int32))])) (fun tt_ kk_ => XS.goto X34.here hx rfl (pc0 := 19) (pc' := 39) rfl (hb hby own_d6_19) (by decide) (by decide) kk_) ?_
    exact own_retN X34 hx hlk (t := .boolean) (Or.inl rfl) hret (hb hby own_d6_39) (by decide) (by decide) (by rw [e34]; exact ⟨(by rw [own_e, if_pos hc15]; rfl), N0, rfl⟩)
  refine own_st (g' := (mkF m 22 #[.val (.ref a)] [])) (fun tt_ kk_ => XS.icmpYes X34.here hx rfl (pc0 := 15) (pc' := 22) rfl (hb hby own_d6_15) rfl (flt hc15).2.1 (by decide) (by decide) kk_) ?_
  refine own_st (g' := (mkF m 23 #[.val (.ref a)] [(.int (0 : Int32))])) (fun tt_ kk_ => XS.iconst X34.here hx rfl (hb hby own_d6_22) kk_) ?_
  refine own_st (g' := (mkF m 39 #[.val (.ref a)] [(.int (0 : Int32))])) (fun tt_ kk_ => XS.goto X34.here hx rfl (pc0 := 23) (pc' := 39) rfl (hb hby own_d6_23) (by decide) (by decide) kk_) ?_
  exact own_retN X34 hx hlk (t := .boolean) (Or.inl rfl) hret (hb hby own_d6_39) (by decide) (by decide) (by rw [e34]; exact ⟨(by rw [own_e, if_neg hc15]; rfl), N0, rfl⟩)
def own_Qemp1 (Z : State) (a : Addr) (vv : Addr) (kA : ClassId) (z : Int32) (vs : List Value) (dv : Value) (h0 : Heap) (n0 : Nat) (v : Option Value) (h : Heap) (L : List Loc) : Prop := v = some (.int (own_z z)) ∧ Fr n0 L ∧ h = h0
theorem own_efemp1 (m : MethodId) (a : Addr) : entryFrame m #[(.ref a)] 1 = mkF m 0 #[.val (.ref a)] [] := by first | (simp [entryFrame, mkF, argsToLocals, Value.category]; done) | rfl
set_option maxRecDepth 65536 in
set_option maxHeartbeats 16000000 in
theorem own_rmemp1 (l : Launch) (Z : State) (a0 : Array Value) (hw : ∀ d ∈ tables_1, d.before a0 Z = true) (ws : List Jvm.Cond) (a : Addr) (vv : Addr) (kA : ClassId) (z : Int32) (vs : List Value) (dv : Value) (h0 : Heap) (n0 : Nat) (Z0 : n0 ≤ h0.size) (F_v : Fld Z h0 a "com/example/propagule/propagule/flatzinc/Expr$IntSet" "values" "[I" (.ref vv)) (V_v : Arv Z h0 vv kA .int z vs dv) :
    MetFree l (⟨"com/example/propagule/propagule/flatzinc/Expr$IntSet", "isEmpty", "()Z"⟩ : MethodName) (head1 (Jvm.Cond.code (⟨"com/example/propagule/propagule/flatzinc/Expr$IntSet", "isEmpty", "()Z"⟩ : MethodName) prog_93_method_2_code 1 (some .boolean) :: ws) ({ frames := 0, cells := 0, slots := 0, locals := 0 } : Room)) (fun aa UU => aa = #[(.ref a)] ∧ Z.Warmed39 UU.vm ∧ UU.heap = h0) (fun _ _ _ _ _ => True) (fun _ U o U' => ∃ v L, o = .returned v ∧ own_Qemp1 Z a vv kA z vs dv h0 n0 v U'.heap L ∧ FrameEnd U o U' L ({ frames := 0, cells := 0, slots := 0, locals := 0 } : Room).cells ({ frames := 0, cells := 0, slots := 0, locals := 0 } : Room).slots) := by
  refine MetFree.of_bodySF (plainFor_of_name own_pn1) hisR ?_
  intro p e s m args below meth c s₁ Bd hml hP hK
  obtain ⟨rfl, hZ, hh⟩ := hP
  have hx := Bd.exec
  have hlk := Bd.notSynchronized
  have hby := Bd.bytes
  have hret := Bd.returns
  have hown := findClass_of_methodNamed Bd.named
  have hnm := (name_of_methodNamed Bd.named Bd.method).1
  have X0 : Stand p l e ({ frames := 0, cells := 0, slots := 0, locals := 0 } : Room) s m #[(.ref a)] below meth c s₁ [] 0 0 := Stand.of_body Bd
  have e0 : s₁.heap = h0 := by rw [← hh, Bd.state]; rfl
  have N0 := Fr.nil n0
  refine own_cast (own_efemp1 m a) ?_
  show own_Go p e below s s₁ _ (own_Qemp1 Z a vv kA z vs dv h0 n0) 0 0
  refine own_st (g' := (mkF m 1 #[.val (.ref a)] [(.ref a)])) (fun tt_ kk_ => XS.aloadN X0.here hx rfl (hb hby own_d6_0) rfl rfl kk_) ?_
  obtain ⟨T35, X35, e35, st35⟩ := getF X0 hx hZ hown (host := "") (Or.inl (hw _ (List.mem_of_getElem? (i := 27) rfl))) Via.refl e0 F_v (g := (mkF m 1 #[.val (.ref a)] [(.ref a)])) rfl rfl (hb hby own_d6_1)
  refine own_st (g' := (mkF m 4 #[.val (.ref a)] [(.ref vv)])) st35 ?_
  refine own_st (g' := (mkF m 26 #[.val (.ref a)] [])) (fun tt_ kk_ => XS.ifnonnullYes X35.here hx rfl (pc0 := 4) (pc' := 26) rfl (hb hby own_d6_4) rfl (by decide) (by decide) kk_) ?_
  refine own_st (g' := (mkF m 27 #[.val (.ref a)] [(.ref a)])) (fun tt_ kk_ => XS.aloadN X35.here hx rfl (hb hby own_d6_26) rfl rfl kk_) ?_
  obtain ⟨T36, X36, e36, st36⟩ := getF X35 hx hZ hown (host := "") (Or.inl (hw _ (List.mem_of_getElem? (i := 27) rfl))) Via.refl e35 F_v (g := (mkF m 27 #[.val (.ref a)] [(.ref a)])) rfl rfl (hb hby own_d6_27)
  refine own_st (g' := (mkF m 30 #[.val (.ref a)] [(.ref vv)])) st36 ?_
  obtain ⟨c37, A37, -, S37, M37, -, -⟩ := V_v
  have l37 := len_of S37 M37
  refine own_st (g' := (mkF m 31 #[.val (.ref a)] [(.int z)])) (fun tt_ kk_ => X36.arraylength hx (by rw [e36]; exact A37.1) (State.isArrayOf_alike hZ.alike A37.2.1) (g := (mkF m 30 #[.val (.ref a)] [(.ref vv)])) rfl rfl (hb hby own_d6_30) _ (by rw [l37]; exact kk_)) ?_
  by_cases hc31 : z = (0 : Int32)
  · skip
    refine own_st (g' := (mkF m 34 #[.val (.ref a)] [])) (fun tt_ kk_ => XS.ifNo X36.here hx rfl (hb hby own_d6_31) rfl ((if0 _ _).trans (teq hc31).2) kk_) ?_
    refine own_st (g' := (mkF m 35 #[.val (.ref a)] [(.int (1 : Int32))])) (fun tt_ kk_ => XS.iconst X36.here hx rfl (hb hby own_d6_34) kk_) ?_
    refine own_st (g' := (mkF m 39 #[.val (.ref a)] [(.int (1 : Int32))])) (fun tt_ kk_ => XS.goto X36.here hx rfl (pc0 := 35) (pc' := 39) rfl (hb hby own_d6_35) (by decide) (by decide) kk_) ?_
    exact own_retN X36 hx hlk (t := .boolean) (Or.inl rfl) hret (hb hby own_d6_39) (by decide) (by decide) (by rw [e36]; exact ⟨(by rw [own_z, if_pos hc31]; rfl), N0, rfl⟩)
  refine own_st (g' := (mkF m 38 #[.val (.ref a)] [])) (fun tt_ kk_ => XS.ifYes X36.here hx rfl (pc0 := 31) (pc' := 38) rfl (hb hby own_d6_31) rfl ((if0 _ _).trans (feq hc31).2) (by decide) (by decide) kk_) ?_
  refine own_st (g' := (mkF m 39 #[.val (.ref a)] [(.int (0 : Int32))])) (fun tt_ kk_ => XS.iconst X36.here hx rfl (hb hby own_d6_38) kk_) ?_
  exact own_retN X36 hx hlk (t := .boolean) (Or.inl rfl) hret (hb hby own_d6_39) (by decide) (by decide) (by rw [e36]; exact ⟨(by rw [own_z, if_neg hc31]; rfl), N0, rfl⟩)
theorem own_L (mn mx : Int32) : lcmpW (mx.toInt64 - mn.toInt64) 0 < 0 ↔ mx < mn := by
  rw [lw_lt, Int64.lt_iff_toInt_lt, Int32.lt_iff_toInt_lt]
  have a1 := Int32.toInt_lt mx; have a2 := Int32.le_toInt mx; have b1 := Int32.toInt_lt mn; have b2 := Int32.le_toInt mn
  have z : (0 : Int64).toInt = 0 := rfl
  rw [Jvm.Kit.i64_sub] <;> simp only [Int32.toInt_toInt64, z] <;> omega
theorem own_L1 {mn mx : Int32} (h : lcmpW (mx.toInt64 - mn.toInt64) 0 < 0) : own_e mn mx = 1 := if_pos ((own_L mn mx).mp h)
theorem own_L2 {mn mx : Int32} (h : ¬ lcmpW (mx.toInt64 - mn.toInt64) 0 < 0) : own_e mn mx = 0 := if_neg fun q => h ((own_L mn mx).mpr q)
theorem own_pd1 : parseMethodDescriptor "(II)I" = some ⟨[.int, .int], some .int⟩ := by decide +kernel
theorem own_pd2 : parseMethodDescriptor "(II[II)V" = some ⟨[.int, .int, (.array .int), .int], none⟩ := by decide +kernel
theorem own_pd3 : parseMethodDescriptor "()Z" = some ⟨[], some .boolean⟩ := by decide +kernel
theorem own_pn2 : plainName "com/example/propagule/propagule/flatzinc/IntSetIsEmptyPinLaw" = true := by first | (simp [plainName, overriddenIn]; done) | decide +kernel
set_option maxRecDepth 65536 in
set_option maxHeartbeats 8000000 in
theorem own_t0 {p : Program} {l : Launch} {e : Env} {s : State} {m : MethodId} {args : Array Value} {below : List Frame} {meth : Method} {c : Code} {T : State} {locs : List Loc} {cells slots : Nat} {Z : State} {a0 : Array Value} {h0 : Heap} {n0 : Nat} (X0 : Stand p l e room_1 s m args below meth c T locs cells slots) (hx : p.tables.exec = Jvm.exec) (hlk : meth.locks = false) (hby : c.code = code) (hml : c.maxLocals = 12) (hret : meth.sig.returnType = some .boolean) (hown : s.vm.findClass "com/example/propagule/propagule/flatzinc/IntSetIsEmptyPinLaw" = some m.cls) (hZ : Z.Warmed39 s.vm) (hw : ∀ d ∈ tables_1, d.before a0 Z = true) (e0 : T.heap = h0) (N0 : Fr n0 locs) (Z0 : n0 ≤ h0.size) (hcc : cells ≤ 0) (hss : slots ≤ 0) (x0 : Int32) (x1 : Int32) (x2 : Int32) (x3 : Int32) (x4 : Int32) (x5 : Int32) :
    own_Go p e below s T (mkF m 0 #[.val (.int x0), .val (.int x1), .val (.int x2), .val (.int x3), .val (.int x4), .val (.int x5), .unset, .unset, .unset, .unset, .unset, .unset] []) (own_Q0 n0) 16 128 := by
  refine own_st (g' := (mkF m 2 #[.val (.int x0), .val (.int x1), .val (.int x2), .val (.int x3), .val (.int x4), .val (.int x5), .unset, .unset, .unset, .unset, .unset, .unset] [(.int x5)])) (fun tt_ kk_ => XS.iload X0.here hx rfl (hb hby at_0) rfl kk_) ?_
  refine own_st (g' := (mkF m 3 #[.val (.int x0), .val (.int x1), .val (.int x2), .val (.int x3), .val (.int x4), .val (.int x5), .unset, .unset, .unset, .unset, .unset, .unset] [(.int (1 : Int32)), (.int x5)])) (fun tt_ kk_ => XS.iconst X0.here hx rfl (hb hby at_2) kk_) ?_
  refine own_st (g' := (mkF m 4 #[.val (.int x0), .val (.int x1), .val (.int x2), .val (.int x3), .val (.int x4), .val (.int x5), .unset, .unset, .unset, .unset, .unset, .unset] [(.int (x5 &&& (1 : Int32)))])) (fun tt_ kk_ => XS.iand X0.here hx rfl (hb hby at_3) rfl kk_) ?_
  by_cases hc4 : (x5 &&& (1 : Int32)) = (0 : Int32)
  · skip
    refine own_st (g' := (mkF m 11 #[.val (.int x0), .val (.int x1), .val (.int x2), .val (.int x3), .val (.int x4), .val (.int x5), .unset, .unset, .unset, .unset, .unset, .unset] [])) (fun tt_ kk_ => XS.ifYes X0.here hx rfl (pc0 := 4) (pc' := 11) rfl (hb hby at_4) rfl ((if0 _ _).trans (teq hc4).1) (by decide) (by decide) kk_) ?_
    refine own_st (g' := (mkF m 12 #[.val (.int x0), .val (.int x1), .val (.int x2), .val (.int x3), .val (.int x4), .val (.int x5), .unset, .unset, .unset, .unset, .unset, .unset] [(.int (0 : Int32))])) (fun tt_ kk_ => XS.iconst X0.here hx rfl (hb hby at_11) kk_) ?_
    refine own_st (g' := (mkF m 14 #[.val (.int x0), .val (.int x1), .val (.int x2), .val (.int x3), .val (.int x4), .val (.int x5), .val (.int (0 : Int32)), .unset, .unset, .unset, .unset, .unset] [])) (fun tt_ kk_ => XS.istore X0.here hx rfl (hb hby at_12) rfl (l' := #[.val (.int x0), .val (.int x1), .val (.int x2), .val (.int x3), .val (.int x4), .val (.int x5), .val (.int (0 : Int32)), .unset, .unset, .unset, .unset, .unset]) rfl kk_) ?_
    refine own_st (g' := (mkF m 16 #[.val (.int x0), .val (.int x1), .val (.int x2), .val (.int x3), .val (.int x4), .val (.int x5), .val (.int (0 : Int32)), .unset, .unset, .unset, .unset, .unset] [(.int x5)])) (fun tt_ kk_ => XS.iload X0.here hx rfl (hb hby at_14) rfl kk_) ?_
    refine own_st (g' := (mkF m 17 #[.val (.int x0), .val (.int x1), .val (.int x2), .val (.int x3), .val (.int x4), .val (.int x5), .val (.int (0 : Int32)), .unset, .unset, .unset, .unset, .unset] [(.int (1 : Int32)), (.int x5)])) (fun tt_ kk_ => XS.iconst X0.here hx rfl (hb hby at_16) kk_) ?_
    refine own_st (g' := (mkF m 18 #[.val (.int x0), .val (.int x1), .val (.int x2), .val (.int x3), .val (.int x4), .val (.int x5), .val (.int (0 : Int32)), .unset, .unset, .unset, .unset, .unset] [(.int ((x5.toUInt32 >>> ((1 : Int32) &&& 31).toUInt32).toInt32))])) (fun tt_ kk_ => XS.iushr X0.here hx rfl (hb hby at_17) rfl kk_) ?_
    refine own_st (g' := (mkF m 20 #[.val (.int x0), .val (.int x1), .val (.int x2), .val (.int x3), .val (.int x4), .val (.int x5), .val (.int (0 : Int32)), .val (.int ((x5.toUInt32 >>> ((1 : Int32) &&& 31).toUInt32).toInt32)), .unset, .unset, .unset, .unset] [])) (fun tt_ kk_ => XS.istore X0.here hx rfl (hb hby at_18) rfl (l' := #[.val (.int x0), .val (.int x1), .val (.int x2), .val (.int x3), .val (.int x4), .val (.int x5), .val (.int (0 : Int32)), .val (.int ((x5.toUInt32 >>> ((1 : Int32) &&& 31).toUInt32).toInt32)), .unset, .unset, .unset, .unset]) rfl kk_) ?_
    refine own_st (g' := (mkF m 21 #[.val (.int x0), .val (.int x1), .val (.int x2), .val (.int x3), .val (.int x4), .val (.int x5), .val (.int (0 : Int32)), .val (.int ((x5.toUInt32 >>> ((1 : Int32) &&& 31).toUInt32).toInt32)), .unset, .unset, .unset, .unset] [.null])) (fun tt_ kk_ => XS.aconstNull X0.here hx rfl (hb hby at_20) kk_) ?_
    refine own_st (g' := (mkF m 23 #[.val (.int x0), .val (.int x1), .val (.int x2), .val (.int x3), .val (.int x4), .val (.int x5), .val (.int (0 : Int32)), .val (.int ((x5.toUInt32 >>> ((1 : Int32) &&& 31).toUInt32).toInt32)), .val .null, .unset, .unset, .unset] [])) (fun tt_ kk_ => XS.astore X0.here hx rfl (hb hby at_21) rfl rfl (l' := #[.val (.int x0), .val (.int x1), .val (.int x2), .val (.int x3), .val (.int x4), .val (.int x5), .val (.int (0 : Int32)), .val (.int ((x5.toUInt32 >>> ((1 : Int32) &&& 31).toUInt32).toInt32)), .val .null, .unset, .unset, .unset]) rfl kk_) ?_
    refine own_st (g' := (mkF m 24 #[.val (.int x0), .val (.int x1), .val (.int x2), .val (.int x3), .val (.int x4), .val (.int x5), .val (.int (0 : Int32)), .val (.int ((x5.toUInt32 >>> ((1 : Int32) &&& 31).toUInt32).toInt32)), .val .null, .unset, .unset, .unset] [(.int (0 : Int32))])) (fun tt_ kk_ => XS.iconst X0.here hx rfl (hb hby at_23) kk_) ?_
    refine own_st (g' := (mkF m 26 #[.val (.int x0), .val (.int x1), .val (.int x2), .val (.int x3), .val (.int x4), .val (.int x5), .val (.int (0 : Int32)), .val (.int ((x5.toUInt32 >>> ((1 : Int32) &&& 31).toUInt32).toInt32)), .val .null, .val (.int (0 : Int32)), .unset, .unset] [])) (fun tt_ kk_ => XS.istore X0.here hx rfl (hb hby at_24) rfl (l' := #[.val (.int x0), .val (.int x1), .val (.int x2), .val (.int x3), .val (.int x4), .val (.int x5), .val (.int (0 : Int32)), .val (.int ((x5.toUInt32 >>> ((1 : Int32) &&& 31).toUInt32).toInt32)), .val .null, .val (.int (0 : Int32)), .unset, .unset]) rfl kk_) ?_
    refine own_st (g' := (mkF m 28 #[.val (.int x0), .val (.int x1), .val (.int x2), .val (.int x3), .val (.int x4), .val (.int x5), .val (.int (0 : Int32)), .val (.int ((x5.toUInt32 >>> ((1 : Int32) &&& 31).toUInt32).toInt32)), .val .null, .val (.int (0 : Int32)), .unset, .unset] [(.int (0 : Int32))])) (fun tt_ kk_ => XS.iload X0.here hx rfl (hb hby at_26) rfl kk_) ?_
    refine own_st (g' := (mkF m 114 #[.val (.int x0), .val (.int x1), .val (.int x2), .val (.int x3), .val (.int x4), .val (.int x5), .val (.int (0 : Int32)), .val (.int ((x5.toUInt32 >>> ((1 : Int32) &&& 31).toUInt32).toInt32)), .val .null, .val (.int (0 : Int32)), .unset, .unset] [])) (fun tt_ kk_ => XS.ifYes X0.here hx rfl (pc0 := 28) (pc' := 114) rfl (hb hby at_28) rfl ((if0 _ _).trans (teq (by decide : (0 : Int32) = (0 : Int32))).1) (by decide) (by decide) kk_) ?_
    obtain ⟨T38, h38, X38, e38, E38, A38, D38, -, st38⟩ := newO X0 hx hZ hown (hw _ (List.mem_of_getElem? (i := 9) rfl)) (hw _ (List.mem_of_getElem? (i := 10) rfl)) (hw _ (List.mem_of_getElem? (i := 11) rfl)) e0 (g := (mkF m 114 #[.val (.int x0), .val (.int x1), .val (.int x2), .val (.int x3), .val (.int x4), .val (.int x5), .val (.int (0 : Int32)), .val (.int ((x5.toUInt32 >>> ((1 : Int32) &&& 31).toUInt32).toInt32)), .val .null, .val (.int (0 : Int32)), .unset, .unset] [])) rfl (hb hby at_114) (show cells + 1 ≤ 16 by omega) (show slots + 4 ≤ 128 by omega)
    obtain ⟨b38, g38⟩ : ∃ z, z = h0.size := ⟨_, rfl⟩
    rw [← g38] at A38 D38 st38
    have gz38 : n0 ≤ b38 := Nat.le_trans Z0 (Nat.le_of_eq g38.symm)
    have Z38 : n0 ≤ h38.size := Nat.le_trans Z0 E38.1
    have F_min_b38 : Fld Z h38 b38 "com/example/propagule/propagule/flatzinc/Expr$IntSet" "min" "I" (.int (0 : Int32)) := D38 (Or.inr (hw _ (List.mem_of_getElem? (i := 24) rfl))) (ty := .int) (by decide)
    have F_max_b38 : Fld Z h38 b38 "com/example/propagule/propagule/flatzinc/Expr$IntSet" "max" "I" (.int (0 : Int32)) := D38 (Or.inr (hw _ (List.mem_of_getElem? (i := 26) rfl))) (ty := .int) (by decide)
    have F_values_b38 : Fld Z h38 b38 "com/example/propagule/propagule/flatzinc/Expr$IntSet" "values" "[I" .null := D38 (Or.inr (hw _ (List.mem_of_getElem? (i := 28) rfl))) (ty := (.array .int)) (by decide)
    have F_line_b38 : Fld Z h38 b38 "com/example/propagule/propagule/flatzinc/Expr$IntSet" "line" "I" (.int (0 : Int32)) := D38 (Or.inr (hw _ (List.mem_of_getElem? (i := 30) rfl))) (ty := .int) (by decide)
    refine own_st (g' := (mkF m 117 #[.val (.int x0), .val (.int x1), .val (.int x2), .val (.int x3), .val (.int x4), .val (.int x5), .val (.int (0 : Int32)), .val (.int ((x5.toUInt32 >>> ((1 : Int32) &&& 31).toUInt32).toInt32)), .val .null, .val (.int (0 : Int32)), .unset, .unset] [(.ref b38)])) st38 ?_
    refine own_st (g' := (mkF m 118 #[.val (.int x0), .val (.int x1), .val (.int x2), .val (.int x3), .val (.int x4), .val (.int x5), .val (.int (0 : Int32)), .val (.int ((x5.toUInt32 >>> ((1 : Int32) &&& 31).toUInt32).toInt32)), .val .null, .val (.int (0 : Int32)), .unset, .unset] [(.ref b38), (.ref b38)])) (fun tt_ kk_ => XS.dup X38.here hx rfl (hb hby at_117) rfl rfl kk_) ?_
    refine own_st (g' := (mkF m 119 #[.val (.int x0), .val (.int x1), .val (.int x2), .val (.int x3), .val (.int x4), .val (.int x5), .val (.int (0 : Int32)), .val (.int ((x5.toUInt32 >>> ((1 : Int32) &&& 31).toUInt32).toInt32)), .val .null, .val (.int (0 : Int32)), .unset, .unset] [(.int x0), (.ref b38), (.ref b38)])) (fun tt_ kk_ => XS.iloadN X38.here hx rfl (hb hby at_118) rfl kk_) ?_
    refine own_st (g' := (mkF m 120 #[.val (.int x0), .val (.int x1), .val (.int x2), .val (.int x3), .val (.int x4), .val (.int x5), .val (.int (0 : Int32)), .val (.int ((x5.toUInt32 >>> ((1 : Int32) &&& 31).toUInt32).toInt32)), .val .null, .val (.int (0 : Int32)), .unset, .unset] [(.int x1), (.int x0), (.ref b38), (.ref b38)])) (fun tt_ kk_ => XS.iloadN X38.here hx rfl (hb hby at_119) rfl kk_) ?_
    refine own_st (g' := (mkF m 122 #[.val (.int x0), .val (.int x1), .val (.int x2), .val (.int x3), .val (.int x4), .val (.int x5), .val (.int (0 : Int32)), .val (.int ((x5.toUInt32 >>> ((1 : Int32) &&& 31).toUInt32).toInt32)), .val .null, .val (.int (0 : Int32)), .unset, .unset] [.null, (.int x1), (.int x0), (.ref b38), (.ref b38)])) (fun tt_ kk_ => XS.aload X38.here hx rfl (hb hby at_120) rfl rfl kk_) ?_
    refine own_st (g' := (mkF m 124 #[.val (.int x0), .val (.int x1), .val (.int x2), .val (.int x3), .val (.int x4), .val (.int x5), .val (.int (0 : Int32)), .val (.int ((x5.toUInt32 >>> ((1 : Int32) &&& 31).toUInt32).toInt32)), .val .null, .val (.int (0 : Int32)), .unset, .unset] [(.int ((x5.toUInt32 >>> ((1 : Int32) &&& 31).toUInt32).toInt32)), .null, (.int x1), (.int x0), (.ref b38), (.ref b38)])) (fun tt_ kk_ => XS.iload X38.here hx rfl (hb hby at_122) rfl kk_) ?_
    obtain ⟨_, _, ⟨T39, L39, k39, n39⟩, -, X39, ⟨Lc39, hQ39, l39, y39, z39⟩, st39⟩ := X38.specialBack hx (y := (⟨"com/example/propagule/propagule/flatzinc/Expr$IntSet", "<init>", "(II[II)V"⟩ : MethodName)) rfl hown (mvT hZ (hw _ (List.mem_of_getElem? (i := 12) rfl))) (mvT hZ (hw _ (List.mem_of_getElem? (i := 13) rfl))) (mvT hZ (hw _ (List.mem_of_getElem? (i := 14) rfl))) (by decide) (backOf (W := 1) (own_rmini0 l Z a0 hw [] b38 x0 x1 ((x5.toUInt32 >>> ((1 : Int32) &&& 31).toUInt32).toInt32) h38 n0 Z38 A38 F_min_b38 F_max_b38 F_values_b38 F_line_b38 gz38) hZ (hw _ (List.mem_of_getElem? (i := 14) rfl)) (hw _ (List.mem_of_getElem? (i := 11) rfl)) (by decide) (by decide)) (g := (mkF m 124 #[.val (.int x0), .val (.int x1), .val (.int x2), .val (.int x3), .val (.int x4), .val (.int x5), .val (.int (0 : Int32)), .val (.int ((x5.toUInt32 >>> ((1 : Int32) &&& 31).toUInt32).toInt32)), .val .null, .val (.int (0 : Int32)), .unset, .unset] [(.int ((x5.toUInt32 >>> ((1 : Int32) &&& 31).toUInt32).toInt32)), .null, (.int x1), (.int x0), (.ref b38), (.ref b38)])) rfl (by rw [hml]; rfl) (Steps.refl _) (a := b38) (argsL := [(.int x0), (.int x1), .null, (.int ((x5.toUInt32 >>> ((1 : Int32) &&& 31).toUInt32).toInt32))]) (rest := [(.ref b38)]) (lenOf own_pd2 rfl) rfl (by show 2 * 0 + _ ≤ _; exact Nat.le_of_eq rfl) (hb hby at_124) (fun _ _ => ⟨rfl, e38, (show cells + 1 + 0 ≤ 16 by omega), (show slots + 4 + 0 ≤ 128 by omega)⟩)
    dsimp only [Pt.U, Pt.locs, Pt.cells, Pt.slots] at X39 l39 y39 z39 st39 hQ39
    rw [l39, y39, z39] at X39
    obtain ⟨rfl, N39q, K39q, f39_0, f39_1, f39_2, f39_3⟩ := hQ39
    obtain ⟨h39, e39⟩ : ∃ z, T39.heap = z := ⟨_, rfl⟩
    rw [e39] at K39q f39_0 f39_1 f39_2 f39_3
    have Z39 : n0 ≤ h39.size := Nat.le_trans Z38 K39q.1
    have N39 := Fr.app N0 N39q
    refine own_st (g' := (mkF m 127 #[.val (.int x0), .val (.int x1), .val (.int x2), .val (.int x3), .val (.int x4), .val (.int x5), .val (.int (0 : Int32)), .val (.int ((x5.toUInt32 >>> ((1 : Int32) &&& 31).toUInt32).toInt32)), .val .null, .val (.int (0 : Int32)), .unset, .unset] [(.ref b38)])) (fun t k => st39.trans k) ?_
    refine own_st (g' := (mkF m 129 #[.val (.int x0), .val (.int x1), .val (.int x2), .val (.int x3), .val (.int x4), .val (.int x5), .val (.int (0 : Int32)), .val (.int ((x5.toUInt32 >>> ((1 : Int32) &&& 31).toUInt32).toInt32)), .val .null, .val (.int (0 : Int32)), .val (.ref b38), .unset] [])) (fun tt_ kk_ => XS.astore X39.here hx rfl (hb hby at_127) rfl rfl (l' := #[.val (.int x0), .val (.int x1), .val (.int x2), .val (.int x3), .val (.int x4), .val (.int x5), .val (.int (0 : Int32)), .val (.int ((x5.toUInt32 >>> ((1 : Int32) &&& 31).toUInt32).toInt32)), .val .null, .val (.int (0 : Int32)), .val (.ref b38), .unset]) rfl kk_) ?_
    refine own_st (g' := (mkF m 131 #[.val (.int x0), .val (.int x1), .val (.int x2), .val (.int x3), .val (.int x4), .val (.int x5), .val (.int (0 : Int32)), .val (.int ((x5.toUInt32 >>> ((1 : Int32) &&& 31).toUInt32).toInt32)), .val .null, .val (.int (0 : Int32)), .val (.ref b38), .unset] [(.int (0 : Int32))])) (fun tt_ kk_ => XS.iload X39.here hx rfl (hb hby at_129) rfl kk_) ?_
    refine own_st (g' := (mkF m 147 #[.val (.int x0), .val (.int x1), .val (.int x2), .val (.int x3), .val (.int x4), .val (.int x5), .val (.int (0 : Int32)), .val (.int ((x5.toUInt32 >>> ((1 : Int32) &&& 31).toUInt32).toInt32)), .val .null, .val (.int (0 : Int32)), .val (.ref b38), .unset] [])) (fun tt_ kk_ => XS.ifYes X39.here hx rfl (pc0 := 131) (pc' := 147) rfl (hb hby at_131) rfl ((if0 _ _).trans (teq (by decide : (0 : Int32) = (0 : Int32))).1) (by decide) (by decide) kk_) ?_
    refine own_st (g' := (mkF m 148 #[.val (.int x0), .val (.int x1), .val (.int x2), .val (.int x3), .val (.int x4), .val (.int x5), .val (.int (0 : Int32)), .val (.int ((x5.toUInt32 >>> ((1 : Int32) &&& 31).toUInt32).toInt32)), .val .null, .val (.int (0 : Int32)), .val (.ref b38), .unset] [(.int x1)])) (fun tt_ kk_ => XS.iloadN X39.here hx rfl (hb hby at_147) rfl kk_) ?_
    refine own_st (g' := (mkF m 149 #[.val (.int x0), .val (.int x1), .val (.int x2), .val (.int x3), .val (.int x4), .val (.int x5), .val (.int (0 : Int32)), .val (.int ((x5.toUInt32 >>> ((1 : Int32) &&& 31).toUInt32).toInt32)), .val .null, .val (.int (0 : Int32)), .val (.ref b38), .unset] [(.long (x1.toInt64))])) (fun tt_ kk_ => XS.i2l X39.here hx rfl (hb hby at_148) rfl kk_) ?_
    refine own_st (g' := (mkF m 150 #[.val (.int x0), .val (.int x1), .val (.int x2), .val (.int x3), .val (.int x4), .val (.int x5), .val (.int (0 : Int32)), .val (.int ((x5.toUInt32 >>> ((1 : Int32) &&& 31).toUInt32).toInt32)), .val .null, .val (.int (0 : Int32)), .val (.ref b38), .unset] [(.int x0), (.long (x1.toInt64))])) (fun tt_ kk_ => XS.iloadN X39.here hx rfl (hb hby at_149) rfl kk_) ?_
    refine own_st (g' := (mkF m 151 #[.val (.int x0), .val (.int x1), .val (.int x2), .val (.int x3), .val (.int x4), .val (.int x5), .val (.int (0 : Int32)), .val (.int ((x5.toUInt32 >>> ((1 : Int32) &&& 31).toUInt32).toInt32)), .val .null, .val (.int (0 : Int32)), .val (.ref b38), .unset] [(.long (x0.toInt64)), (.long (x1.toInt64))])) (fun tt_ kk_ => XS.i2l X39.here hx rfl (hb hby at_150) rfl kk_) ?_
    refine own_st (g' := (mkF m 152 #[.val (.int x0), .val (.int x1), .val (.int x2), .val (.int x3), .val (.int x4), .val (.int x5), .val (.int (0 : Int32)), .val (.int ((x5.toUInt32 >>> ((1 : Int32) &&& 31).toUInt32).toInt32)), .val .null, .val (.int (0 : Int32)), .val (.ref b38), .unset] [(.long ((x1.toInt64) - (x0.toInt64)))])) (fun tt_ kk_ => XS.lsub X39.here hx rfl (hb hby at_151) rfl kk_) ?_
    refine own_st (g' := (mkF m 153 #[.val (.int x0), .val (.int x1), .val (.int x2), .val (.int x3), .val (.int x4), .val (.int x5), .val (.int (0 : Int32)), .val (.int ((x5.toUInt32 >>> ((1 : Int32) &&& 31).toUInt32).toInt32)), .val .null, .val (.int (0 : Int32)), .val (.ref b38), .unset] [(.long (0 : Int64)), (.long ((x1.toInt64) - (x0.toInt64)))])) (fun tt_ kk_ => XS.lconst X39.here hx rfl (hb hby at_152) kk_) ?_
    refine own_st (g' := (mkF m 154 #[.val (.int x0), .val (.int x1), .val (.int x2), .val (.int x3), .val (.int x4), .val (.int x5), .val (.int (0 : Int32)), .val (.int ((x5.toUInt32 >>> ((1 : Int32) &&& 31).toUInt32).toInt32)), .val .null, .val (.int (0 : Int32)), .val (.ref b38), .unset] [(.int (lcmpW ((x1.toInt64) - (x0.toInt64)) (0 : Int64)))])) (fun tt_ kk_ => XS.lcmp X39.here hx rfl (hb hby at_153) rfl kk_) ?_
    by_cases hc154 : (lcmpW ((x1.toInt64) - (x0.toInt64)) (0 : Int64)) < (0 : Int32)
    · skip
      refine own_st (g' := (mkF m 157 #[.val (.int x0), .val (.int x1), .val (.int x2), .val (.int x3), .val (.int x4), .val (.int x5), .val (.int (0 : Int32)), .val (.int ((x5.toUInt32 >>> ((1 : Int32) &&& 31).toUInt32).toInt32)), .val .null, .val (.int (0 : Int32)), .val (.ref b38), .unset] [])) (fun tt_ kk_ => XS.ifNo X39.here hx rfl (hb hby at_154) rfl ((if0 _ _).trans (tlt hc154).2.1) kk_) ?_
      refine own_st (g' := (mkF m 158 #[.val (.int x0), .val (.int x1), .val (.int x2), .val (.int x3), .val (.int x4), .val (.int x5), .val (.int (0 : Int32)), .val (.int ((x5.toUInt32 >>> ((1 : Int32) &&& 31).toUInt32).toInt32)), .val .null, .val (.int (0 : Int32)), .val (.ref b38), .unset] [(.int (1 : Int32))])) (fun tt_ kk_ => XS.iconst X39.here hx rfl (hb hby at_157) kk_) ?_
      refine own_st (g' := (mkF m 162 #[.val (.int x0), .val (.int x1), .val (.int x2), .val (.int x3), .val (.int x4), .val (.int x5), .val (.int (0 : Int32)), .val (.int ((x5.toUInt32 >>> ((1 : Int32) &&& 31).toUInt32).toInt32)), .val .null, .val (.int (0 : Int32)), .val (.ref b38), .unset] [(.int (1 : Int32))])) (fun tt_ kk_ => XS.goto X39.here hx rfl (pc0 := 158) (pc' := 162) rfl (hb hby at_158) (by decide) (by decide) kk_) ?_
      refine own_st (g' := (mkF m 164 #[.val (.int x0), .val (.int x1), .val (.int x2), .val (.int x3), .val (.int x4), .val (.int x5), .val (.int (0 : Int32)), .val (.int ((x5.toUInt32 >>> ((1 : Int32) &&& 31).toUInt32).toInt32)), .val .null, .val (.int (0 : Int32)), .val (.ref b38), .val (.int (1 : Int32))] [])) (fun tt_ kk_ => XS.istore X39.here hx rfl (hb hby at_162) rfl (l' := #[.val (.int x0), .val (.int x1), .val (.int x2), .val (.int x3), .val (.int x4), .val (.int x5), .val (.int (0 : Int32)), .val (.int ((x5.toUInt32 >>> ((1 : Int32) &&& 31).toUInt32).toInt32)), .val .null, .val (.int (0 : Int32)), .val (.ref b38), .val (.int (1 : Int32))]) rfl kk_) ?_
      refine own_st (g' := (mkF m 166 #[.val (.int x0), .val (.int x1), .val (.int x2), .val (.int x3), .val (.int x4), .val (.int x5), .val (.int (0 : Int32)), .val (.int ((x5.toUInt32 >>> ((1 : Int32) &&& 31).toUInt32).toInt32)), .val .null, .val (.int (0 : Int32)), .val (.ref b38), .val (.int (1 : Int32))] [(.ref b38)])) (fun tt_ kk_ => XS.aload X39.here hx rfl (hb hby at_164) rfl rfl kk_) ?_
      obtain ⟨cq40, kq40, q40a, q40b, q40c⟩ := isOf hZ e39 f39_0
      obtain ⟨_, _, ⟨T40, L40, k40, n40⟩, -, X40, ⟨Lc40, hQ40, l40, y40, z40⟩, st40⟩ := X39.virtualBack hx (y := (⟨"com/example/propagule/propagule/flatzinc/Expr$IntSet", "isEmpty", "()Z"⟩ : MethodName)) (z := (⟨"com/example/propagule/propagule/flatzinc/Expr$IntSet", "isEmpty", "()Z"⟩ : MethodName)) hown (mvT hZ (hw _ (List.mem_of_getElem? (i := 31) rfl))) (mvT hZ (hw _ (List.mem_of_getElem? (i := 32) rfl))) (notFace_of_selects (args := #[]) (mvT hZ (hw _ (List.mem_of_getElem? (i := 34) rfl)))) (mvT hZ (hw _ (List.mem_of_getElem? (i := 34) rfl))) (mvT hZ (hw _ (List.mem_of_getElem? (i := 33) rfl))) (by decide) (backOf (W := 0) (own_rmemp0 l Z a0 hw [] b38 x0 x1 h39 n0 Z39 f39_3 f39_1 f39_2) hZ (hw _ (List.mem_of_getElem? (i := 35) rfl)) (hw _ (List.mem_of_getElem? (i := 11) rfl)) (by decide) (by decide)) q40a q40c (g := (mkF m 166 #[.val (.int x0), .val (.int x1), .val (.int x2), .val (.int x3), .val (.int x4), .val (.int x5), .val (.int (0 : Int32)), .val (.int ((x5.toUInt32 >>> ((1 : Int32) &&& 31).toUInt32).toInt32)), .val .null, .val (.int (0 : Int32)), .val (.ref b38), .val (.int (1 : Int32))] [(.ref b38)])) rfl (by rw [hml]; rfl) (Steps.refl _) (argsL := []) (rest := []) (lenOf own_pd3 rfl) rfl (by show 2 * 0 + _ ≤ _; exact Nat.le_of_eq rfl) (hb hby at_166) (fun _ _ => ⟨rfl, e39, (show cells + 1 + 0 ≤ 16 by omega), (show slots + 4 + 0 ≤ 128 by omega)⟩)
      dsimp only [Pt.U, Pt.locs, Pt.cells, Pt.slots] at X40 l40 y40 z40 st40 hQ40
      rw [l40, y40, z40] at X40
      obtain ⟨rfl, N40q, e40⟩ := hQ40
      have N40 := Fr.app N39 N40q
      refine own_st (g' := (mkF m 169 #[.val (.int x0), .val (.int x1), .val (.int x2), .val (.int x3), .val (.int x4), .val (.int x5), .val (.int (0 : Int32)), .val (.int ((x5.toUInt32 >>> ((1 : Int32) &&& 31).toUInt32).toInt32)), .val .null, .val (.int (0 : Int32)), .val (.ref b38), .val (.int (1 : Int32))] [(.int (own_e x0 x1))])) (fun t k => st40.trans k) ?_
      refine own_st (g' := (mkF m 171 #[.val (.int x0), .val (.int x1), .val (.int x2), .val (.int x3), .val (.int x4), .val (.int x5), .val (.int (0 : Int32)), .val (.int ((x5.toUInt32 >>> ((1 : Int32) &&& 31).toUInt32).toInt32)), .val .null, .val (.int (0 : Int32)), .val (.ref b38), .val (.int (1 : Int32))] [(.int (1 : Int32)), (.int (own_e x0 x1))])) (fun tt_ kk_ => XS.iload X40.here hx rfl (hb hby at_169) rfl kk_) ?_
      refine own_st (g' := (mkF m 174 #[.val (.int x0), .val (.int x1), .val (.int x2), .val (.int x3), .val (.int x4), .val (.int x5), .val (.int (0 : Int32)), .val (.int ((x5.toUInt32 >>> ((1 : Int32) &&& 31).toUInt32).toInt32)), .val .null, .val (.int (0 : Int32)), .val (.ref b38), .val (.int (1 : Int32))] [])) (fun tt_ kk_ => XS.icmpNo X40.here hx rfl (hb hby at_171) rfl (teq (own_L1 hc154)).2 kk_) ?_
      refine own_st (g' := (mkF m 175 #[.val (.int x0), .val (.int x1), .val (.int x2), .val (.int x3), .val (.int x4), .val (.int x5), .val (.int (0 : Int32)), .val (.int ((x5.toUInt32 >>> ((1 : Int32) &&& 31).toUInt32).toInt32)), .val .null, .val (.int (0 : Int32)), .val (.ref b38), .val (.int (1 : Int32))] [(.int (1 : Int32))])) (fun tt_ kk_ => XS.iconst X40.here hx rfl (hb hby at_174) kk_) ?_
      refine own_st (g' := (mkF m 179 #[.val (.int x0), .val (.int x1), .val (.int x2), .val (.int x3), .val (.int x4), .val (.int x5), .val (.int (0 : Int32)), .val (.int ((x5.toUInt32 >>> ((1 : Int32) &&& 31).toUInt32).toInt32)), .val .null, .val (.int (0 : Int32)), .val (.ref b38), .val (.int (1 : Int32))] [(.int (1 : Int32))])) (fun tt_ kk_ => XS.goto X40.here hx rfl (pc0 := 175) (pc' := 179) rfl (hb hby at_175) (by decide) (by decide) kk_) ?_
      exact own_retN X40 hx hlk (t := .boolean) (Or.inl rfl) hret (hb hby at_179) (by omega) (by omega) ⟨rfl, N40⟩
    refine own_st (g' := (mkF m 161 #[.val (.int x0), .val (.int x1), .val (.int x2), .val (.int x3), .val (.int x4), .val (.int x5), .val (.int (0 : Int32)), .val (.int ((x5.toUInt32 >>> ((1 : Int32) &&& 31).toUInt32).toInt32)), .val .null, .val (.int (0 : Int32)), .val (.ref b38), .unset] [])) (fun tt_ kk_ => XS.ifYes X39.here hx rfl (pc0 := 154) (pc' := 161) rfl (hb hby at_154) rfl ((if0 _ _).trans (flt hc154).2.1) (by decide) (by decide) kk_) ?_
    refine own_st (g' := (mkF m 162 #[.val (.int x0), .val (.int x1), .val (.int x2), .val (.int x3), .val (.int x4), .val (.int x5), .val (.int (0 : Int32)), .val (.int ((x5.toUInt32 >>> ((1 : Int32) &&& 31).toUInt32).toInt32)), .val .null, .val (.int (0 : Int32)), .val (.ref b38), .unset] [(.int (0 : Int32))])) (fun tt_ kk_ => XS.iconst X39.here hx rfl (hb hby at_161) kk_) ?_
    refine own_st (g' := (mkF m 164 #[.val (.int x0), .val (.int x1), .val (.int x2), .val (.int x3), .val (.int x4), .val (.int x5), .val (.int (0 : Int32)), .val (.int ((x5.toUInt32 >>> ((1 : Int32) &&& 31).toUInt32).toInt32)), .val .null, .val (.int (0 : Int32)), .val (.ref b38), .val (.int (0 : Int32))] [])) (fun tt_ kk_ => XS.istore X39.here hx rfl (hb hby at_162) rfl (l' := #[.val (.int x0), .val (.int x1), .val (.int x2), .val (.int x3), .val (.int x4), .val (.int x5), .val (.int (0 : Int32)), .val (.int ((x5.toUInt32 >>> ((1 : Int32) &&& 31).toUInt32).toInt32)), .val .null, .val (.int (0 : Int32)), .val (.ref b38), .val (.int (0 : Int32))]) rfl kk_) ?_
    refine own_st (g' := (mkF m 166 #[.val (.int x0), .val (.int x1), .val (.int x2), .val (.int x3), .val (.int x4), .val (.int x5), .val (.int (0 : Int32)), .val (.int ((x5.toUInt32 >>> ((1 : Int32) &&& 31).toUInt32).toInt32)), .val .null, .val (.int (0 : Int32)), .val (.ref b38), .val (.int (0 : Int32))] [(.ref b38)])) (fun tt_ kk_ => XS.aload X39.here hx rfl (hb hby at_164) rfl rfl kk_) ?_
    obtain ⟨cq41, kq41, q41a, q41b, q41c⟩ := isOf hZ e39 f39_0
    obtain ⟨_, _, ⟨T41, L41, k41, n41⟩, -, X41, ⟨Lc41, hQ41, l41, y41, z41⟩, st41⟩ := X39.virtualBack hx (y := (⟨"com/example/propagule/propagule/flatzinc/Expr$IntSet", "isEmpty", "()Z"⟩ : MethodName)) (z := (⟨"com/example/propagule/propagule/flatzinc/Expr$IntSet", "isEmpty", "()Z"⟩ : MethodName)) hown (mvT hZ (hw _ (List.mem_of_getElem? (i := 31) rfl))) (mvT hZ (hw _ (List.mem_of_getElem? (i := 32) rfl))) (notFace_of_selects (args := #[]) (mvT hZ (hw _ (List.mem_of_getElem? (i := 34) rfl)))) (mvT hZ (hw _ (List.mem_of_getElem? (i := 34) rfl))) (mvT hZ (hw _ (List.mem_of_getElem? (i := 33) rfl))) (by decide) (backOf (W := 0) (own_rmemp0 l Z a0 hw [] b38 x0 x1 h39 n0 Z39 f39_3 f39_1 f39_2) hZ (hw _ (List.mem_of_getElem? (i := 35) rfl)) (hw _ (List.mem_of_getElem? (i := 11) rfl)) (by decide) (by decide)) q41a q41c (g := (mkF m 166 #[.val (.int x0), .val (.int x1), .val (.int x2), .val (.int x3), .val (.int x4), .val (.int x5), .val (.int (0 : Int32)), .val (.int ((x5.toUInt32 >>> ((1 : Int32) &&& 31).toUInt32).toInt32)), .val .null, .val (.int (0 : Int32)), .val (.ref b38), .val (.int (0 : Int32))] [(.ref b38)])) rfl (by rw [hml]; rfl) (Steps.refl _) (argsL := []) (rest := []) (lenOf own_pd3 rfl) rfl (by show 2 * 0 + _ ≤ _; exact Nat.le_of_eq rfl) (hb hby at_166) (fun _ _ => ⟨rfl, e39, (show cells + 1 + 0 ≤ 16 by omega), (show slots + 4 + 0 ≤ 128 by omega)⟩)
    dsimp only [Pt.U, Pt.locs, Pt.cells, Pt.slots] at X41 l41 y41 z41 st41 hQ41
    rw [l41, y41, z41] at X41
    obtain ⟨rfl, N41q, e41⟩ := hQ41
    have N41 := Fr.app N39 N41q
    refine own_st (g' := (mkF m 169 #[.val (.int x0), .val (.int x1), .val (.int x2), .val (.int x3), .val (.int x4), .val (.int x5), .val (.int (0 : Int32)), .val (.int ((x5.toUInt32 >>> ((1 : Int32) &&& 31).toUInt32).toInt32)), .val .null, .val (.int (0 : Int32)), .val (.ref b38), .val (.int (0 : Int32))] [(.int (own_e x0 x1))])) (fun t k => st41.trans k) ?_
    refine own_st (g' := (mkF m 171 #[.val (.int x0), .val (.int x1), .val (.int x2), .val (.int x3), .val (.int x4), .val (.int x5), .val (.int (0 : Int32)), .val (.int ((x5.toUInt32 >>> ((1 : Int32) &&& 31).toUInt32).toInt32)), .val .null, .val (.int (0 : Int32)), .val (.ref b38), .val (.int (0 : Int32))] [(.int (0 : Int32)), (.int (own_e x0 x1))])) (fun tt_ kk_ => XS.iload X41.here hx rfl (hb hby at_169) rfl kk_) ?_
    refine own_st (g' := (mkF m 174 #[.val (.int x0), .val (.int x1), .val (.int x2), .val (.int x3), .val (.int x4), .val (.int x5), .val (.int (0 : Int32)), .val (.int ((x5.toUInt32 >>> ((1 : Int32) &&& 31).toUInt32).toInt32)), .val .null, .val (.int (0 : Int32)), .val (.ref b38), .val (.int (0 : Int32))] [])) (fun tt_ kk_ => XS.icmpNo X41.here hx rfl (hb hby at_171) rfl (teq (own_L2 hc154)).2 kk_) ?_
    refine own_st (g' := (mkF m 175 #[.val (.int x0), .val (.int x1), .val (.int x2), .val (.int x3), .val (.int x4), .val (.int x5), .val (.int (0 : Int32)), .val (.int ((x5.toUInt32 >>> ((1 : Int32) &&& 31).toUInt32).toInt32)), .val .null, .val (.int (0 : Int32)), .val (.ref b38), .val (.int (0 : Int32))] [(.int (1 : Int32))])) (fun tt_ kk_ => XS.iconst X41.here hx rfl (hb hby at_174) kk_) ?_
    refine own_st (g' := (mkF m 179 #[.val (.int x0), .val (.int x1), .val (.int x2), .val (.int x3), .val (.int x4), .val (.int x5), .val (.int (0 : Int32)), .val (.int ((x5.toUInt32 >>> ((1 : Int32) &&& 31).toUInt32).toInt32)), .val .null, .val (.int (0 : Int32)), .val (.ref b38), .val (.int (0 : Int32))] [(.int (1 : Int32))])) (fun tt_ kk_ => XS.goto X41.here hx rfl (pc0 := 175) (pc' := 179) rfl (hb hby at_175) (by decide) (by decide) kk_) ?_
    exact own_retN X41 hx hlk (t := .boolean) (Or.inl rfl) hret (hb hby at_179) (by omega) (by omega) ⟨rfl, N41⟩
  refine own_st (g' := (mkF m 7 #[.val (.int x0), .val (.int x1), .val (.int x2), .val (.int x3), .val (.int x4), .val (.int x5), .unset, .unset, .unset, .unset, .unset, .unset] [])) (fun tt_ kk_ => XS.ifNo X0.here hx rfl (hb hby at_4) rfl ((if0 _ _).trans (feq hc4).1) kk_) ?_
  refine own_st (g' := (mkF m 8 #[.val (.int x0), .val (.int x1), .val (.int x2), .val (.int x3), .val (.int x4), .val (.int x5), .unset, .unset, .unset, .unset, .unset, .unset] [(.int (1 : Int32))])) (fun tt_ kk_ => XS.iconst X0.here hx rfl (hb hby at_7) kk_) ?_
  refine own_st (g' := (mkF m 12 #[.val (.int x0), .val (.int x1), .val (.int x2), .val (.int x3), .val (.int x4), .val (.int x5), .unset, .unset, .unset, .unset, .unset, .unset] [(.int (1 : Int32))])) (fun tt_ kk_ => XS.goto X0.here hx rfl (pc0 := 8) (pc' := 12) rfl (hb hby at_8) (by decide) (by decide) kk_) ?_
  refine own_st (g' := (mkF m 14 #[.val (.int x0), .val (.int x1), .val (.int x2), .val (.int x3), .val (.int x4), .val (.int x5), .val (.int (1 : Int32)), .unset, .unset, .unset, .unset, .unset] [])) (fun tt_ kk_ => XS.istore X0.here hx rfl (hb hby at_12) rfl (l' := #[.val (.int x0), .val (.int x1), .val (.int x2), .val (.int x3), .val (.int x4), .val (.int x5), .val (.int (1 : Int32)), .unset, .unset, .unset, .unset, .unset]) rfl kk_) ?_
  refine own_st (g' := (mkF m 16 #[.val (.int x0), .val (.int x1), .val (.int x2), .val (.int x3), .val (.int x4), .val (.int x5), .val (.int (1 : Int32)), .unset, .unset, .unset, .unset, .unset] [(.int x5)])) (fun tt_ kk_ => XS.iload X0.here hx rfl (hb hby at_14) rfl kk_) ?_
  refine own_st (g' := (mkF m 17 #[.val (.int x0), .val (.int x1), .val (.int x2), .val (.int x3), .val (.int x4), .val (.int x5), .val (.int (1 : Int32)), .unset, .unset, .unset, .unset, .unset] [(.int (1 : Int32)), (.int x5)])) (fun tt_ kk_ => XS.iconst X0.here hx rfl (hb hby at_16) kk_) ?_
  refine own_st (g' := (mkF m 18 #[.val (.int x0), .val (.int x1), .val (.int x2), .val (.int x3), .val (.int x4), .val (.int x5), .val (.int (1 : Int32)), .unset, .unset, .unset, .unset, .unset] [(.int ((x5.toUInt32 >>> ((1 : Int32) &&& 31).toUInt32).toInt32))])) (fun tt_ kk_ => XS.iushr X0.here hx rfl (hb hby at_17) rfl kk_) ?_
  refine own_st (g' := (mkF m 20 #[.val (.int x0), .val (.int x1), .val (.int x2), .val (.int x3), .val (.int x4), .val (.int x5), .val (.int (1 : Int32)), .val (.int ((x5.toUInt32 >>> ((1 : Int32) &&& 31).toUInt32).toInt32)), .unset, .unset, .unset, .unset] [])) (fun tt_ kk_ => XS.istore X0.here hx rfl (hb hby at_18) rfl (l' := #[.val (.int x0), .val (.int x1), .val (.int x2), .val (.int x3), .val (.int x4), .val (.int x5), .val (.int (1 : Int32)), .val (.int ((x5.toUInt32 >>> ((1 : Int32) &&& 31).toUInt32).toInt32)), .unset, .unset, .unset, .unset]) rfl kk_) ?_
  refine own_st (g' := (mkF m 21 #[.val (.int x0), .val (.int x1), .val (.int x2), .val (.int x3), .val (.int x4), .val (.int x5), .val (.int (1 : Int32)), .val (.int ((x5.toUInt32 >>> ((1 : Int32) &&& 31).toUInt32).toInt32)), .unset, .unset, .unset, .unset] [.null])) (fun tt_ kk_ => XS.aconstNull X0.here hx rfl (hb hby at_20) kk_) ?_
  refine own_st (g' := (mkF m 23 #[.val (.int x0), .val (.int x1), .val (.int x2), .val (.int x3), .val (.int x4), .val (.int x5), .val (.int (1 : Int32)), .val (.int ((x5.toUInt32 >>> ((1 : Int32) &&& 31).toUInt32).toInt32)), .val .null, .unset, .unset, .unset] [])) (fun tt_ kk_ => XS.astore X0.here hx rfl (hb hby at_21) rfl rfl (l' := #[.val (.int x0), .val (.int x1), .val (.int x2), .val (.int x3), .val (.int x4), .val (.int x5), .val (.int (1 : Int32)), .val (.int ((x5.toUInt32 >>> ((1 : Int32) &&& 31).toUInt32).toInt32)), .val .null, .unset, .unset, .unset]) rfl kk_) ?_
  refine own_st (g' := (mkF m 24 #[.val (.int x0), .val (.int x1), .val (.int x2), .val (.int x3), .val (.int x4), .val (.int x5), .val (.int (1 : Int32)), .val (.int ((x5.toUInt32 >>> ((1 : Int32) &&& 31).toUInt32).toInt32)), .val .null, .unset, .unset, .unset] [(.int (0 : Int32))])) (fun tt_ kk_ => XS.iconst X0.here hx rfl (hb hby at_23) kk_) ?_
  refine own_st (g' := (mkF m 26 #[.val (.int x0), .val (.int x1), .val (.int x2), .val (.int x3), .val (.int x4), .val (.int x5), .val (.int (1 : Int32)), .val (.int ((x5.toUInt32 >>> ((1 : Int32) &&& 31).toUInt32).toInt32)), .val .null, .val (.int (0 : Int32)), .unset, .unset] [])) (fun tt_ kk_ => XS.istore X0.here hx rfl (hb hby at_24) rfl (l' := #[.val (.int x0), .val (.int x1), .val (.int x2), .val (.int x3), .val (.int x4), .val (.int x5), .val (.int (1 : Int32)), .val (.int ((x5.toUInt32 >>> ((1 : Int32) &&& 31).toUInt32).toInt32)), .val .null, .val (.int (0 : Int32)), .unset, .unset]) rfl kk_) ?_
  refine own_st (g' := (mkF m 28 #[.val (.int x0), .val (.int x1), .val (.int x2), .val (.int x3), .val (.int x4), .val (.int x5), .val (.int (1 : Int32)), .val (.int ((x5.toUInt32 >>> ((1 : Int32) &&& 31).toUInt32).toInt32)), .val .null, .val (.int (0 : Int32)), .unset, .unset] [(.int (1 : Int32))])) (fun tt_ kk_ => XS.iload X0.here hx rfl (hb hby at_26) rfl kk_) ?_
  refine own_st (g' := (mkF m 31 #[.val (.int x0), .val (.int x1), .val (.int x2), .val (.int x3), .val (.int x4), .val (.int x5), .val (.int (1 : Int32)), .val (.int ((x5.toUInt32 >>> ((1 : Int32) &&& 31).toUInt32).toInt32)), .val .null, .val (.int (0 : Int32)), .unset, .unset] [])) (fun tt_ kk_ => XS.ifNo X0.here hx rfl (hb hby at_28) rfl ((if0 _ _).trans (feq (by decide : ¬ ((1 : Int32) = (0 : Int32)))).1) kk_) ?_
  refine own_st (g' := (mkF m 32 #[.val (.int x0), .val (.int x1), .val (.int x2), .val (.int x3), .val (.int x4), .val (.int x5), .val (.int (1 : Int32)), .val (.int ((x5.toUInt32 >>> ((1 : Int32) &&& 31).toUInt32).toInt32)), .val .null, .val (.int (0 : Int32)), .unset, .unset] [(.int x2)])) (fun tt_ kk_ => XS.iloadN X0.here hx rfl (hb hby at_31) rfl kk_) ?_
  refine own_st (g' := (mkF m 34 #[.val (.int x0), .val (.int x1), .val (.int x2), .val (.int x3), .val (.int x4), .val (.int x5), .val (.int (1 : Int32)), .val (.int ((x5.toUInt32 >>> ((1 : Int32) &&& 31).toUInt32).toInt32)), .val .null, .val (.int (0 : Int32)), .unset, .unset] [(.int (2147483647 : Int32)), (.int x2)])) (fun tt_ kk_ => X0.ldcInt hx hown (mvT hZ (hw _ (List.mem_of_getElem? (i := 0) rfl))) (g := (mkF m 32 #[.val (.int x0), .val (.int x1), .val (.int x2), .val (.int x3), .val (.int x4), .val (.int x5), .val (.int (1 : Int32)), .val (.int ((x5.toUInt32 >>> ((1 : Int32) &&& 31).toUInt32).toInt32)), .val .null, .val (.int (0 : Int32)), .unset, .unset] [(.int x2)])) rfl (hb hby at_32) _ kk_) ?_
  refine own_st (g' := (mkF m 35 #[.val (.int x0), .val (.int x1), .val (.int x2), .val (.int x3), .val (.int x4), .val (.int x5), .val (.int (1 : Int32)), .val (.int ((x5.toUInt32 >>> ((1 : Int32) &&& 31).toUInt32).toInt32)), .val .null, .val (.int (0 : Int32)), .unset, .unset] [(.int (x2 &&& (2147483647 : Int32)))])) (fun tt_ kk_ => XS.iand X0.here hx rfl (hb hby at_34) rfl kk_) ?_
  refine own_st (g' := (mkF m 36 #[.val (.int x0), .val (.int x1), .val (.int x2), .val (.int x3), .val (.int x4), .val (.int x5), .val (.int (1 : Int32)), .val (.int ((x5.toUInt32 >>> ((1 : Int32) &&& 31).toUInt32).toInt32)), .val .null, .val (.int (0 : Int32)), .unset, .unset] [(.int (3 : Int32)), (.int (x2 &&& (2147483647 : Int32)))])) (fun tt_ kk_ => XS.iconst X0.here hx rfl (hb hby at_35) kk_) ?_
  refine own_st (g' := (mkF m 37 #[.val (.int x0), .val (.int x1), .val (.int x2), .val (.int x3), .val (.int x4), .val (.int x5), .val (.int (1 : Int32)), .val (.int ((x5.toUInt32 >>> ((1 : Int32) &&& 31).toUInt32).toInt32)), .val .null, .val (.int (0 : Int32)), .unset, .unset] [(.int ((x2 &&& (2147483647 : Int32)) % (3 : Int32)))])) (fun tt_ kk_ => iremM X0 hx rfl (hb hby at_36) rfl (by decide) kk_) ?_
  refine own_st (g' := (mkF m 39 #[.val (.int x0), .val (.int x1), .val (.int x2), .val (.int x3), .val (.int x4), .val (.int x5), .val (.int (1 : Int32)), .val (.int ((x5.toUInt32 >>> ((1 : Int32) &&& 31).toUInt32).toInt32)), .val .null, .val (.int ((x2 &&& (2147483647 : Int32)) % (3 : Int32))), .unset, .unset] [])) (fun tt_ kk_ => XS.istore X0.here hx rfl (hb hby at_37) rfl (l' := #[.val (.int x0), .val (.int x1), .val (.int x2), .val (.int x3), .val (.int x4), .val (.int x5), .val (.int (1 : Int32)), .val (.int ((x5.toUInt32 >>> ((1 : Int32) &&& 31).toUInt32).toInt32)), .val .null, .val (.int ((x2 &&& (2147483647 : Int32)) % (3 : Int32))), .unset, .unset]) rfl kk_) ?_
  refine own_st (g' := (mkF m 41 #[.val (.int x0), .val (.int x1), .val (.int x2), .val (.int x3), .val (.int x4), .val (.int x5), .val (.int (1 : Int32)), .val (.int ((x5.toUInt32 >>> ((1 : Int32) &&& 31).toUInt32).toInt32)), .val .null, .val (.int ((x2 &&& (2147483647 : Int32)) % (3 : Int32))), .unset, .unset] [(.int ((x2 &&& (2147483647 : Int32)) % (3 : Int32)))])) (fun tt_ kk_ => XS.iload X0.here hx rfl (hb hby at_39) rfl kk_) ?_
  by_cases hc41 : ((x2 &&& (2147483647 : Int32)) % (3 : Int32)) = (0 : Int32)
  · skip
    refine own_st (g' := (mkF m 44 #[.val (.int x0), .val (.int x1), .val (.int x2), .val (.int x3), .val (.int x4), .val (.int x5), .val (.int (1 : Int32)), .val (.int ((x5.toUInt32 >>> ((1 : Int32) &&& 31).toUInt32).toInt32)), .val .null, .val (.int ((x2 &&& (2147483647 : Int32)) % (3 : Int32))), .unset, .unset] [])) (fun tt_ kk_ => XS.ifNo X0.here hx rfl (hb hby at_41) rfl ((if0 _ _).trans (teq hc41).2) kk_) ?_
    refine own_st (g' := (mkF m 45 #[.val (.int x0), .val (.int x1), .val (.int x2), .val (.int x3), .val (.int x4), .val (.int x5), .val (.int (1 : Int32)), .val (.int ((x5.toUInt32 >>> ((1 : Int32) &&& 31).toUInt32).toInt32)), .val .null, .val (.int ((x2 &&& (2147483647 : Int32)) % (3 : Int32))), .unset, .unset] [(.int (0 : Int32))])) (fun tt_ kk_ => XS.iconst X0.here hx rfl (hb hby at_44) kk_) ?_
    obtain ⟨T42, h42, k42, X42, e42, E42, A42, st42⟩ := newP X0 hx hZ (hw _ (List.mem_of_getElem? (i := 1) rfl)) e0 (g := (mkF m 45 #[.val (.int x0), .val (.int x1), .val (.int x2), .val (.int x3), .val (.int x4), .val (.int x5), .val (.int (1 : Int32)), .val (.int ((x5.toUInt32 >>> ((1 : Int32) &&& 31).toUInt32).toInt32)), .val .null, .val (.int ((x2 &&& (2147483647 : Int32)) % (3 : Int32))), .unset, .unset] [(.int (0 : Int32))])) rfl (hb hby at_45) rfl (by decide) (cap := 0) (by decide) (by decide) (show cells + 1 ≤ 16 by omega) (show slots + 0 ≤ 128 by omega)
    obtain ⟨b42, g42⟩ : ∃ z, z = h0.size := ⟨_, rfl⟩
    rw [← g42] at A42 st42
    have gz42 : n0 ≤ b42 := Nat.le_trans Z0 (Nat.le_of_eq g42.symm)
    have Z42 : n0 ≤ h42.size := Nat.le_trans Z0 E42.1
    have V42 : Arv Z h42 b42 k42 .int (0 : Int32) [] (.int (0 : Int32)) := Arv.new A42 (by decide)
    refine own_st (g' := (mkF m 47 #[.val (.int x0), .val (.int x1), .val (.int x2), .val (.int x3), .val (.int x4), .val (.int x5), .val (.int (1 : Int32)), .val (.int ((x5.toUInt32 >>> ((1 : Int32) &&& 31).toUInt32).toInt32)), .val .null, .val (.int ((x2 &&& (2147483647 : Int32)) % (3 : Int32))), .unset, .unset] [(.ref b42)])) st42 ?_
    refine own_st (g' := (mkF m 49 #[.val (.int x0), .val (.int x1), .val (.int x2), .val (.int x3), .val (.int x4), .val (.int x5), .val (.int (1 : Int32)), .val (.int ((x5.toUInt32 >>> ((1 : Int32) &&& 31).toUInt32).toInt32)), .val (.ref b42), .val (.int ((x2 &&& (2147483647 : Int32)) % (3 : Int32))), .unset, .unset] [])) (fun tt_ kk_ => XS.astore X42.here hx rfl (hb hby at_47) rfl rfl (l' := #[.val (.int x0), .val (.int x1), .val (.int x2), .val (.int x3), .val (.int x4), .val (.int x5), .val (.int (1 : Int32)), .val (.int ((x5.toUInt32 >>> ((1 : Int32) &&& 31).toUInt32).toInt32)), .val (.ref b42), .val (.int ((x2 &&& (2147483647 : Int32)) % (3 : Int32))), .unset, .unset]) rfl kk_) ?_
    refine own_st (g' := (mkF m 114 #[.val (.int x0), .val (.int x1), .val (.int x2), .val (.int x3), .val (.int x4), .val (.int x5), .val (.int (1 : Int32)), .val (.int ((x5.toUInt32 >>> ((1 : Int32) &&& 31).toUInt32).toInt32)), .val (.ref b42), .val (.int ((x2 &&& (2147483647 : Int32)) % (3 : Int32))), .unset, .unset] [])) (fun tt_ kk_ => XS.goto X42.here hx rfl (pc0 := 49) (pc' := 114) rfl (hb hby at_49) (by decide) (by decide) kk_) ?_
    obtain ⟨T43, h43, X43, e43, E43, A43, D43, -, st43⟩ := newO X42 hx hZ hown (hw _ (List.mem_of_getElem? (i := 9) rfl)) (hw _ (List.mem_of_getElem? (i := 10) rfl)) (hw _ (List.mem_of_getElem? (i := 11) rfl)) e42 (g := (mkF m 114 #[.val (.int x0), .val (.int x1), .val (.int x2), .val (.int x3), .val (.int x4), .val (.int x5), .val (.int (1 : Int32)), .val (.int ((x5.toUInt32 >>> ((1 : Int32) &&& 31).toUInt32).toInt32)), .val (.ref b42), .val (.int ((x2 &&& (2147483647 : Int32)) % (3 : Int32))), .unset, .unset] [])) rfl (hb hby at_114) (show cells + 1 + 1 ≤ 16 by omega) (show slots + 4 ≤ 128 by omega)
    obtain ⟨b43, g43⟩ : ∃ z, z = h42.size := ⟨_, rfl⟩
    rw [← g43] at A43 D43 st43
    have ne44 : b42 ≠ b43 := Nat.ne_of_lt (Nat.lt_of_lt_of_le V42.lt (Nat.le_of_eq g43.symm))
    have gz43 : n0 ≤ b43 := Nat.le_trans Z42 (Nat.le_of_eq g43.symm)
    have Z43 : n0 ≤ h43.size := Nat.le_trans Z42 E43.1
    have F_min_b43 : Fld Z h43 b43 "com/example/propagule/propagule/flatzinc/Expr$IntSet" "min" "I" (.int (0 : Int32)) := D43 (Or.inr (hw _ (List.mem_of_getElem? (i := 24) rfl))) (ty := .int) (by decide)
    have F_max_b43 : Fld Z h43 b43 "com/example/propagule/propagule/flatzinc/Expr$IntSet" "max" "I" (.int (0 : Int32)) := D43 (Or.inr (hw _ (List.mem_of_getElem? (i := 26) rfl))) (ty := .int) (by decide)
    have F_values_b43 : Fld Z h43 b43 "com/example/propagule/propagule/flatzinc/Expr$IntSet" "values" "[I" .null := D43 (Or.inr (hw _ (List.mem_of_getElem? (i := 28) rfl))) (ty := (.array .int)) (by decide)
    have F_line_b43 : Fld Z h43 b43 "com/example/propagule/propagule/flatzinc/Expr$IntSet" "line" "I" (.int (0 : Int32)) := D43 (Or.inr (hw _ (List.mem_of_getElem? (i := 30) rfl))) (ty := .int) (by decide)
    refine own_st (g' := (mkF m 117 #[.val (.int x0), .val (.int x1), .val (.int x2), .val (.int x3), .val (.int x4), .val (.int x5), .val (.int (1 : Int32)), .val (.int ((x5.toUInt32 >>> ((1 : Int32) &&& 31).toUInt32).toInt32)), .val (.ref b42), .val (.int ((x2 &&& (2147483647 : Int32)) % (3 : Int32))), .unset, .unset] [(.ref b43)])) st43 ?_
    refine own_st (g' := (mkF m 118 #[.val (.int x0), .val (.int x1), .val (.int x2), .val (.int x3), .val (.int x4), .val (.int x5), .val (.int (1 : Int32)), .val (.int ((x5.toUInt32 >>> ((1 : Int32) &&& 31).toUInt32).toInt32)), .val (.ref b42), .val (.int ((x2 &&& (2147483647 : Int32)) % (3 : Int32))), .unset, .unset] [(.ref b43), (.ref b43)])) (fun tt_ kk_ => XS.dup X43.here hx rfl (hb hby at_117) rfl rfl kk_) ?_
    refine own_st (g' := (mkF m 119 #[.val (.int x0), .val (.int x1), .val (.int x2), .val (.int x3), .val (.int x4), .val (.int x5), .val (.int (1 : Int32)), .val (.int ((x5.toUInt32 >>> ((1 : Int32) &&& 31).toUInt32).toInt32)), .val (.ref b42), .val (.int ((x2 &&& (2147483647 : Int32)) % (3 : Int32))), .unset, .unset] [(.int x0), (.ref b43), (.ref b43)])) (fun tt_ kk_ => XS.iloadN X43.here hx rfl (hb hby at_118) rfl kk_) ?_
    refine own_st (g' := (mkF m 120 #[.val (.int x0), .val (.int x1), .val (.int x2), .val (.int x3), .val (.int x4), .val (.int x5), .val (.int (1 : Int32)), .val (.int ((x5.toUInt32 >>> ((1 : Int32) &&& 31).toUInt32).toInt32)), .val (.ref b42), .val (.int ((x2 &&& (2147483647 : Int32)) % (3 : Int32))), .unset, .unset] [(.int x1), (.int x0), (.ref b43), (.ref b43)])) (fun tt_ kk_ => XS.iloadN X43.here hx rfl (hb hby at_119) rfl kk_) ?_
    refine own_st (g' := (mkF m 122 #[.val (.int x0), .val (.int x1), .val (.int x2), .val (.int x3), .val (.int x4), .val (.int x5), .val (.int (1 : Int32)), .val (.int ((x5.toUInt32 >>> ((1 : Int32) &&& 31).toUInt32).toInt32)), .val (.ref b42), .val (.int ((x2 &&& (2147483647 : Int32)) % (3 : Int32))), .unset, .unset] [(.ref b42), (.int x1), (.int x0), (.ref b43), (.ref b43)])) (fun tt_ kk_ => XS.aload X43.here hx rfl (hb hby at_120) rfl rfl kk_) ?_
    refine own_st (g' := (mkF m 124 #[.val (.int x0), .val (.int x1), .val (.int x2), .val (.int x3), .val (.int x4), .val (.int x5), .val (.int (1 : Int32)), .val (.int ((x5.toUInt32 >>> ((1 : Int32) &&& 31).toUInt32).toInt32)), .val (.ref b42), .val (.int ((x2 &&& (2147483647 : Int32)) % (3 : Int32))), .unset, .unset] [(.int ((x5.toUInt32 >>> ((1 : Int32) &&& 31).toUInt32).toInt32)), (.ref b42), (.int x1), (.int x0), (.ref b43), (.ref b43)])) (fun tt_ kk_ => XS.iload X43.here hx rfl (hb hby at_122) rfl kk_) ?_
    obtain ⟨_, _, ⟨T45, L45, k45, n45⟩, -, X45, ⟨Lc45, hQ45, l45, y45, z45⟩, st45⟩ := X43.specialBack hx (y := (⟨"com/example/propagule/propagule/flatzinc/Expr$IntSet", "<init>", "(II[II)V"⟩ : MethodName)) rfl hown (mvT hZ (hw _ (List.mem_of_getElem? (i := 12) rfl))) (mvT hZ (hw _ (List.mem_of_getElem? (i := 13) rfl))) (mvT hZ (hw _ (List.mem_of_getElem? (i := 14) rfl))) (by decide) (backOf (W := 1) (own_rmini1 l Z a0 hw [] b43 x0 x1 b42 ((x5.toUInt32 >>> ((1 : Int32) &&& 31).toUInt32).toInt32) h43 n0 Z43 A43 F_min_b43 F_max_b43 F_values_b43 F_line_b43 gz43) hZ (hw _ (List.mem_of_getElem? (i := 14) rfl)) (hw _ (List.mem_of_getElem? (i := 11) rfl)) (by decide) (by decide)) (g := (mkF m 124 #[.val (.int x0), .val (.int x1), .val (.int x2), .val (.int x3), .val (.int x4), .val (.int x5), .val (.int (1 : Int32)), .val (.int ((x5.toUInt32 >>> ((1 : Int32) &&& 31).toUInt32).toInt32)), .val (.ref b42), .val (.int ((x2 &&& (2147483647 : Int32)) % (3 : Int32))), .unset, .unset] [(.int ((x5.toUInt32 >>> ((1 : Int32) &&& 31).toUInt32).toInt32)), (.ref b42), (.int x1), (.int x0), (.ref b43), (.ref b43)])) rfl (by rw [hml]; rfl) (Steps.refl _) (a := b43) (argsL := [(.int x0), (.int x1), (.ref b42), (.int ((x5.toUInt32 >>> ((1 : Int32) &&& 31).toUInt32).toInt32))]) (rest := [(.ref b43)]) (lenOf own_pd2 rfl) rfl (by show 2 * 0 + _ ≤ _; exact Nat.le_of_eq rfl) (hb hby at_124) (fun _ _ => ⟨rfl, e43, (show cells + 1 + 1 + 0 ≤ 16 by omega), (show slots + 4 + 0 ≤ 128 by omega)⟩)
    dsimp only [Pt.U, Pt.locs, Pt.cells, Pt.slots] at X45 l45 y45 z45 st45 hQ45
    rw [l45, y45, z45] at X45
    obtain ⟨rfl, N45q, K45q, f45_0, f45_1, f45_2, f45_3⟩ := hQ45
    obtain ⟨h45, e45⟩ : ∃ z, T45.heap = z := ⟨_, rfl⟩
    rw [e45] at K45q f45_0 f45_1 f45_2 f45_3
    have Z45 : n0 ≤ h45.size := Nat.le_trans Z43 K45q.1
    have N45 := Fr.app N0 N45q
    refine own_st (g' := (mkF m 127 #[.val (.int x0), .val (.int x1), .val (.int x2), .val (.int x3), .val (.int x4), .val (.int x5), .val (.int (1 : Int32)), .val (.int ((x5.toUInt32 >>> ((1 : Int32) &&& 31).toUInt32).toInt32)), .val (.ref b42), .val (.int ((x2 &&& (2147483647 : Int32)) % (3 : Int32))), .unset, .unset] [(.ref b43)])) (fun t k => st45.trans k) ?_
    refine own_st (g' := (mkF m 129 #[.val (.int x0), .val (.int x1), .val (.int x2), .val (.int x3), .val (.int x4), .val (.int x5), .val (.int (1 : Int32)), .val (.int ((x5.toUInt32 >>> ((1 : Int32) &&& 31).toUInt32).toInt32)), .val (.ref b42), .val (.int ((x2 &&& (2147483647 : Int32)) % (3 : Int32))), .val (.ref b43), .unset] [])) (fun tt_ kk_ => XS.astore X45.here hx rfl (hb hby at_127) rfl rfl (l' := #[.val (.int x0), .val (.int x1), .val (.int x2), .val (.int x3), .val (.int x4), .val (.int x5), .val (.int (1 : Int32)), .val (.int ((x5.toUInt32 >>> ((1 : Int32) &&& 31).toUInt32).toInt32)), .val (.ref b42), .val (.int ((x2 &&& (2147483647 : Int32)) % (3 : Int32))), .val (.ref b43), .unset]) rfl kk_) ?_
    refine own_st (g' := (mkF m 131 #[.val (.int x0), .val (.int x1), .val (.int x2), .val (.int x3), .val (.int x4), .val (.int x5), .val (.int (1 : Int32)), .val (.int ((x5.toUInt32 >>> ((1 : Int32) &&& 31).toUInt32).toInt32)), .val (.ref b42), .val (.int ((x2 &&& (2147483647 : Int32)) % (3 : Int32))), .val (.ref b43), .unset] [(.int (1 : Int32))])) (fun tt_ kk_ => XS.iload X45.here hx rfl (hb hby at_129) rfl kk_) ?_
    refine own_st (g' := (mkF m 134 #[.val (.int x0), .val (.int x1), .val (.int x2), .val (.int x3), .val (.int x4), .val (.int x5), .val (.int (1 : Int32)), .val (.int ((x5.toUInt32 >>> ((1 : Int32) &&& 31).toUInt32).toInt32)), .val (.ref b42), .val (.int ((x2 &&& (2147483647 : Int32)) % (3 : Int32))), .val (.ref b43), .unset] [])) (fun tt_ kk_ => XS.ifNo X45.here hx rfl (hb hby at_131) rfl ((if0 _ _).trans (feq (by decide : ¬ ((1 : Int32) = (0 : Int32)))).1) kk_) ?_
    refine own_st (g' := (mkF m 136 #[.val (.int x0), .val (.int x1), .val (.int x2), .val (.int x3), .val (.int x4), .val (.int x5), .val (.int (1 : Int32)), .val (.int ((x5.toUInt32 >>> ((1 : Int32) &&& 31).toUInt32).toInt32)), .val (.ref b42), .val (.int ((x2 &&& (2147483647 : Int32)) % (3 : Int32))), .val (.ref b43), .unset] [(.int ((x2 &&& (2147483647 : Int32)) % (3 : Int32)))])) (fun tt_ kk_ => XS.iload X45.here hx rfl (hb hby at_134) rfl kk_) ?_
    refine own_st (g' := (mkF m 139 #[.val (.int x0), .val (.int x1), .val (.int x2), .val (.int x3), .val (.int x4), .val (.int x5), .val (.int (1 : Int32)), .val (.int ((x5.toUInt32 >>> ((1 : Int32) &&& 31).toUInt32).toInt32)), .val (.ref b42), .val (.int ((x2 &&& (2147483647 : Int32)) % (3 : Int32))), .val (.ref b43), .unset] [])) (fun tt_ kk_ => XS.ifNo X45.here hx rfl (hb hby at_136) rfl ((if0 _ _).trans (teq hc41).2) kk_) ?_
    refine own_st (g' := (mkF m 140 #[.val (.int x0), .val (.int x1), .val (.int x2), .val (.int x3), .val (.int x4), .val (.int x5), .val (.int (1 : Int32)), .val (.int ((x5.toUInt32 >>> ((1 : Int32) &&& 31).toUInt32).toInt32)), .val (.ref b42), .val (.int ((x2 &&& (2147483647 : Int32)) % (3 : Int32))), .val (.ref b43), .unset] [(.int (1 : Int32))])) (fun tt_ kk_ => XS.iconst X45.here hx rfl (hb hby at_139) kk_) ?_
    refine own_st (g' := (mkF m 162 #[.val (.int x0), .val (.int x1), .val (.int x2), .val (.int x3), .val (.int x4), .val (.int x5), .val (.int (1 : Int32)), .val (.int ((x5.toUInt32 >>> ((1 : Int32) &&& 31).toUInt32).toInt32)), .val (.ref b42), .val (.int ((x2 &&& (2147483647 : Int32)) % (3 : Int32))), .val (.ref b43), .unset] [(.int (1 : Int32))])) (fun tt_ kk_ => XS.goto X45.here hx rfl (pc0 := 140) (pc' := 162) rfl (hb hby at_140) (by decide) (by decide) kk_) ?_
    refine own_st (g' := (mkF m 164 #[.val (.int x0), .val (.int x1), .val (.int x2), .val (.int x3), .val (.int x4), .val (.int x5), .val (.int (1 : Int32)), .val (.int ((x5.toUInt32 >>> ((1 : Int32) &&& 31).toUInt32).toInt32)), .val (.ref b42), .val (.int ((x2 &&& (2147483647 : Int32)) % (3 : Int32))), .val (.ref b43), .val (.int (1 : Int32))] [])) (fun tt_ kk_ => XS.istore X45.here hx rfl (hb hby at_162) rfl (l' := #[.val (.int x0), .val (.int x1), .val (.int x2), .val (.int x3), .val (.int x4), .val (.int x5), .val (.int (1 : Int32)), .val (.int ((x5.toUInt32 >>> ((1 : Int32) &&& 31).toUInt32).toInt32)), .val (.ref b42), .val (.int ((x2 &&& (2147483647 : Int32)) % (3 : Int32))), .val (.ref b43), .val (.int (1 : Int32))]) rfl kk_) ?_
    refine own_st (g' := (mkF m 166 #[.val (.int x0), .val (.int x1), .val (.int x2), .val (.int x3), .val (.int x4), .val (.int x5), .val (.int (1 : Int32)), .val (.int ((x5.toUInt32 >>> ((1 : Int32) &&& 31).toUInt32).toInt32)), .val (.ref b42), .val (.int ((x2 &&& (2147483647 : Int32)) % (3 : Int32))), .val (.ref b43), .val (.int (1 : Int32))] [(.ref b43)])) (fun tt_ kk_ => XS.aload X45.here hx rfl (hb hby at_164) rfl rfl kk_) ?_
    have F46 := ((V42.ext E43).keep K45q (ninS ne44 nin0))
    obtain ⟨cq47, kq47, q47a, q47b, q47c⟩ := isOf hZ e45 f45_0
    obtain ⟨_, _, ⟨T47, L47, k47, n47⟩, -, X47, ⟨Lc47, hQ47, l47, y47, z47⟩, st47⟩ := X45.virtualBack hx (y := (⟨"com/example/propagule/propagule/flatzinc/Expr$IntSet", "isEmpty", "()Z"⟩ : MethodName)) (z := (⟨"com/example/propagule/propagule/flatzinc/Expr$IntSet", "isEmpty", "()Z"⟩ : MethodName)) hown (mvT hZ (hw _ (List.mem_of_getElem? (i := 31) rfl))) (mvT hZ (hw _ (List.mem_of_getElem? (i := 32) rfl))) (notFace_of_selects (args := #[]) (mvT hZ (hw _ (List.mem_of_getElem? (i := 34) rfl)))) (mvT hZ (hw _ (List.mem_of_getElem? (i := 34) rfl))) (mvT hZ (hw _ (List.mem_of_getElem? (i := 33) rfl))) (by decide) (backOf (W := 0) (own_rmemp1 l Z a0 hw [] b43 b42 k42 (0 : Int32) [] (.int (0 : Int32)) h45 n0 Z45 f45_3 F46) hZ (hw _ (List.mem_of_getElem? (i := 35) rfl)) (hw _ (List.mem_of_getElem? (i := 11) rfl)) (by decide) (by decide)) q47a q47c (g := (mkF m 166 #[.val (.int x0), .val (.int x1), .val (.int x2), .val (.int x3), .val (.int x4), .val (.int x5), .val (.int (1 : Int32)), .val (.int ((x5.toUInt32 >>> ((1 : Int32) &&& 31).toUInt32).toInt32)), .val (.ref b42), .val (.int ((x2 &&& (2147483647 : Int32)) % (3 : Int32))), .val (.ref b43), .val (.int (1 : Int32))] [(.ref b43)])) rfl (by rw [hml]; rfl) (Steps.refl _) (argsL := []) (rest := []) (lenOf own_pd3 rfl) rfl (by show 2 * 0 + _ ≤ _; exact Nat.le_of_eq rfl) (hb hby at_166) (fun _ _ => ⟨rfl, e45, (show cells + 1 + 1 + 0 ≤ 16 by omega), (show slots + 4 + 0 ≤ 128 by omega)⟩)
    dsimp only [Pt.U, Pt.locs, Pt.cells, Pt.slots] at X47 l47 y47 z47 st47 hQ47
    rw [l47, y47, z47] at X47
    obtain ⟨rfl, N47q, e47⟩ := hQ47
    have N47 := Fr.app N45 N47q
    refine own_st (g' := (mkF m 169 #[.val (.int x0), .val (.int x1), .val (.int x2), .val (.int x3), .val (.int x4), .val (.int x5), .val (.int (1 : Int32)), .val (.int ((x5.toUInt32 >>> ((1 : Int32) &&& 31).toUInt32).toInt32)), .val (.ref b42), .val (.int ((x2 &&& (2147483647 : Int32)) % (3 : Int32))), .val (.ref b43), .val (.int (1 : Int32))] [(.int (own_z (0 : Int32)))])) (fun t k => st47.trans k) ?_
    refine own_st (g' := (mkF m 171 #[.val (.int x0), .val (.int x1), .val (.int x2), .val (.int x3), .val (.int x4), .val (.int x5), .val (.int (1 : Int32)), .val (.int ((x5.toUInt32 >>> ((1 : Int32) &&& 31).toUInt32).toInt32)), .val (.ref b42), .val (.int ((x2 &&& (2147483647 : Int32)) % (3 : Int32))), .val (.ref b43), .val (.int (1 : Int32))] [(.int (1 : Int32)), (.int (own_z (0 : Int32)))])) (fun tt_ kk_ => XS.iload X47.here hx rfl (hb hby at_169) rfl kk_) ?_
    refine own_st (g' := (mkF m 174 #[.val (.int x0), .val (.int x1), .val (.int x2), .val (.int x3), .val (.int x4), .val (.int x5), .val (.int (1 : Int32)), .val (.int ((x5.toUInt32 >>> ((1 : Int32) &&& 31).toUInt32).toInt32)), .val (.ref b42), .val (.int ((x2 &&& (2147483647 : Int32)) % (3 : Int32))), .val (.ref b43), .val (.int (1 : Int32))] [])) (fun tt_ kk_ => XS.icmpNo X47.here hx rfl (hb hby at_171) rfl (teq (by decide)).2 kk_) ?_
    refine own_st (g' := (mkF m 175 #[.val (.int x0), .val (.int x1), .val (.int x2), .val (.int x3), .val (.int x4), .val (.int x5), .val (.int (1 : Int32)), .val (.int ((x5.toUInt32 >>> ((1 : Int32) &&& 31).toUInt32).toInt32)), .val (.ref b42), .val (.int ((x2 &&& (2147483647 : Int32)) % (3 : Int32))), .val (.ref b43), .val (.int (1 : Int32))] [(.int (1 : Int32))])) (fun tt_ kk_ => XS.iconst X47.here hx rfl (hb hby at_174) kk_) ?_
    refine own_st (g' := (mkF m 179 #[.val (.int x0), .val (.int x1), .val (.int x2), .val (.int x3), .val (.int x4), .val (.int x5), .val (.int (1 : Int32)), .val (.int ((x5.toUInt32 >>> ((1 : Int32) &&& 31).toUInt32).toInt32)), .val (.ref b42), .val (.int ((x2 &&& (2147483647 : Int32)) % (3 : Int32))), .val (.ref b43), .val (.int (1 : Int32))] [(.int (1 : Int32))])) (fun tt_ kk_ => XS.goto X47.here hx rfl (pc0 := 175) (pc' := 179) rfl (hb hby at_175) (by decide) (by decide) kk_) ?_
    exact own_retN X47 hx hlk (t := .boolean) (Or.inl rfl) hret (hb hby at_179) (by omega) (by omega) ⟨rfl, N47⟩
  refine own_st (g' := (mkF m 52 #[.val (.int x0), .val (.int x1), .val (.int x2), .val (.int x3), .val (.int x4), .val (.int x5), .val (.int (1 : Int32)), .val (.int ((x5.toUInt32 >>> ((1 : Int32) &&& 31).toUInt32).toInt32)), .val .null, .val (.int ((x2 &&& (2147483647 : Int32)) % (3 : Int32))), .unset, .unset] [])) (fun tt_ kk_ => XS.ifYes X0.here hx rfl (pc0 := 41) (pc' := 52) rfl (hb hby at_41) rfl ((if0 _ _).trans (feq hc41).2) (by decide) (by decide) kk_) ?_
  refine own_st (g' := (mkF m 54 #[.val (.int x0), .val (.int x1), .val (.int x2), .val (.int x3), .val (.int x4), .val (.int x5), .val (.int (1 : Int32)), .val (.int ((x5.toUInt32 >>> ((1 : Int32) &&& 31).toUInt32).toInt32)), .val .null, .val (.int ((x2 &&& (2147483647 : Int32)) % (3 : Int32))), .unset, .unset] [(.int ((x2 &&& (2147483647 : Int32)) % (3 : Int32)))])) (fun tt_ kk_ => XS.iload X0.here hx rfl (hb hby at_52) rfl kk_) ?_
  refine own_st (g' := (mkF m 55 #[.val (.int x0), .val (.int x1), .val (.int x2), .val (.int x3), .val (.int x4), .val (.int x5), .val (.int (1 : Int32)), .val (.int ((x5.toUInt32 >>> ((1 : Int32) &&& 31).toUInt32).toInt32)), .val .null, .val (.int ((x2 &&& (2147483647 : Int32)) % (3 : Int32))), .unset, .unset] [(.int (1 : Int32)), (.int ((x2 &&& (2147483647 : Int32)) % (3 : Int32)))])) (fun tt_ kk_ => XS.iconst X0.here hx rfl (hb hby at_54) kk_) ?_
  by_cases hc55 : ((x2 &&& (2147483647 : Int32)) % (3 : Int32)) = (1 : Int32)
  · skip
    refine own_st (g' := (mkF m 58 #[.val (.int x0), .val (.int x1), .val (.int x2), .val (.int x3), .val (.int x4), .val (.int x5), .val (.int (1 : Int32)), .val (.int ((x5.toUInt32 >>> ((1 : Int32) &&& 31).toUInt32).toInt32)), .val .null, .val (.int ((x2 &&& (2147483647 : Int32)) % (3 : Int32))), .unset, .unset] [])) (fun tt_ kk_ => XS.icmpNo X0.here hx rfl (hb hby at_55) rfl (teq hc55).2 kk_) ?_
    refine own_st (g' := (mkF m 59 #[.val (.int x0), .val (.int x1), .val (.int x2), .val (.int x3), .val (.int x4), .val (.int x5), .val (.int (1 : Int32)), .val (.int ((x5.toUInt32 >>> ((1 : Int32) &&& 31).toUInt32).toInt32)), .val .null, .val (.int ((x2 &&& (2147483647 : Int32)) % (3 : Int32))), .unset, .unset] [(.int (1 : Int32))])) (fun tt_ kk_ => XS.iconst X0.here hx rfl (hb hby at_58) kk_) ?_
    obtain ⟨T48, h48, k48, X48, e48, E48, A48, st48⟩ := newP X0 hx hZ (hw _ (List.mem_of_getElem? (i := 1) rfl)) e0 (g := (mkF m 59 #[.val (.int x0), .val (.int x1), .val (.int x2), .val (.int x3), .val (.int x4), .val (.int x5), .val (.int (1 : Int32)), .val (.int ((x5.toUInt32 >>> ((1 : Int32) &&& 31).toUInt32).toInt32)), .val .null, .val (.int ((x2 &&& (2147483647 : Int32)) % (3 : Int32))), .unset, .unset] [(.int (1 : Int32))])) rfl (hb hby at_59) rfl (by decide) (cap := 1) (by decide) (by decide) (show cells + 1 ≤ 16 by omega) (show slots + 1 ≤ 128 by omega)
    obtain ⟨b48, g48⟩ : ∃ z, z = h0.size := ⟨_, rfl⟩
    rw [← g48] at A48 st48
    have gz48 : n0 ≤ b48 := Nat.le_trans Z0 (Nat.le_of_eq g48.symm)
    have Z48 : n0 ≤ h48.size := Nat.le_trans Z0 E48.1
    have V48 : Arv Z h48 b48 k48 .int (1 : Int32) [(.int (0 : Int32))] (.int (0 : Int32)) := (Arv.new A48 (by decide)).pad (pad_rep [] (.int (0 : Int32)) 1)
    refine own_st (g' := (mkF m 61 #[.val (.int x0), .val (.int x1), .val (.int x2), .val (.int x3), .val (.int x4), .val (.int x5), .val (.int (1 : Int32)), .val (.int ((x5.toUInt32 >>> ((1 : Int32) &&& 31).toUInt32).toInt32)), .val .null, .val (.int ((x2 &&& (2147483647 : Int32)) % (3 : Int32))), .unset, .unset] [(.ref b48)])) st48 ?_
    refine own_st (g' := (mkF m 62 #[.val (.int x0), .val (.int x1), .val (.int x2), .val (.int x3), .val (.int x4), .val (.int x5), .val (.int (1 : Int32)), .val (.int ((x5.toUInt32 >>> ((1 : Int32) &&& 31).toUInt32).toInt32)), .val .null, .val (.int ((x2 &&& (2147483647 : Int32)) % (3 : Int32))), .unset, .unset] [(.ref b48), (.ref b48)])) (fun tt_ kk_ => XS.dup X48.here hx rfl (hb hby at_61) rfl rfl kk_) ?_
    refine own_st (g' := (mkF m 63 #[.val (.int x0), .val (.int x1), .val (.int x2), .val (.int x3), .val (.int x4), .val (.int x5), .val (.int (1 : Int32)), .val (.int ((x5.toUInt32 >>> ((1 : Int32) &&& 31).toUInt32).toInt32)), .val .null, .val (.int ((x2 &&& (2147483647 : Int32)) % (3 : Int32))), .unset, .unset] [(.int (0 : Int32)), (.ref b48), (.ref b48)])) (fun tt_ kk_ => XS.iconst X48.here hx rfl (hb hby at_62) kk_) ?_
    refine own_st (g' := (mkF m 64 #[.val (.int x0), .val (.int x1), .val (.int x2), .val (.int x3), .val (.int x4), .val (.int x5), .val (.int (1 : Int32)), .val (.int ((x5.toUInt32 >>> ((1 : Int32) &&& 31).toUInt32).toInt32)), .val .null, .val (.int ((x2 &&& (2147483647 : Int32)) % (3 : Int32))), .unset, .unset] [(.int x3), (.int (0 : Int32)), (.ref b48), (.ref b48)])) (fun tt_ kk_ => XS.iloadN X48.here hx rfl (hb hby at_63) rfl kk_) ?_
    obtain ⟨c49, A49, q49, S49, M49, H49, G49⟩ := V48
    have i49 : ¬ ((0 : Int32) < 0 ∨ c49.slots.size ≤ ((0 : Int32)).toNatClampNeg) := inb_of S49 ⟨by decide, by decide⟩
    obtain ⟨T49, h49, X49, e49, W49, st49⟩ := stI X48 hx hZ e48 A49 (j := (0 : Int32)) i49 (g := (mkF m 64 #[.val (.int x0), .val (.int x1), .val (.int x2), .val (.int x3), .val (.int x4), .val (.int x5), .val (.int (1 : Int32)), .val (.int ((x5.toUInt32 >>> ((1 : Int32) &&& 31).toUInt32).toInt32)), .val .null, .val (.int ((x2 &&& (2147483647 : Int32)) % (3 : Int32))), .unset, .unset] [(.int x3), (.int (0 : Int32)), (.ref b48), (.ref b48)])) rfl rfl (hb hby at_64)
    have N49 := Fr.snoc X49 N0 gz48
    have Z49 : n0 ≤ h49.size := Nat.le_trans Z48 (Keep.of_wr W49).1
    have V49 : Arv Z h49 b48 k48 .int (1 : Int32) [(.int x3)] (.int (0 : Int32)) := Arv.set A49 q49 S49 M49 H49 G49 rfl W49 0 rfl (Nat.le_of_ble_eq_true rfl)
    refine own_st (g' := (mkF m 65 #[.val (.int x0), .val (.int x1), .val (.int x2), .val (.int x3), .val (.int x4), .val (.int x5), .val (.int (1 : Int32)), .val (.int ((x5.toUInt32 >>> ((1 : Int32) &&& 31).toUInt32).toInt32)), .val .null, .val (.int ((x2 &&& (2147483647 : Int32)) % (3 : Int32))), .unset, .unset] [(.ref b48)])) st49 ?_
    refine own_st (g' := (mkF m 67 #[.val (.int x0), .val (.int x1), .val (.int x2), .val (.int x3), .val (.int x4), .val (.int x5), .val (.int (1 : Int32)), .val (.int ((x5.toUInt32 >>> ((1 : Int32) &&& 31).toUInt32).toInt32)), .val (.ref b48), .val (.int ((x2 &&& (2147483647 : Int32)) % (3 : Int32))), .unset, .unset] [])) (fun tt_ kk_ => XS.astore X49.here hx rfl (hb hby at_65) rfl rfl (l' := #[.val (.int x0), .val (.int x1), .val (.int x2), .val (.int x3), .val (.int x4), .val (.int x5), .val (.int (1 : Int32)), .val (.int ((x5.toUInt32 >>> ((1 : Int32) &&& 31).toUInt32).toInt32)), .val (.ref b48), .val (.int ((x2 &&& (2147483647 : Int32)) % (3 : Int32))), .unset, .unset]) rfl kk_) ?_
    refine own_st (g' := (mkF m 114 #[.val (.int x0), .val (.int x1), .val (.int x2), .val (.int x3), .val (.int x4), .val (.int x5), .val (.int (1 : Int32)), .val (.int ((x5.toUInt32 >>> ((1 : Int32) &&& 31).toUInt32).toInt32)), .val (.ref b48), .val (.int ((x2 &&& (2147483647 : Int32)) % (3 : Int32))), .unset, .unset] [])) (fun tt_ kk_ => XS.goto X49.here hx rfl (pc0 := 67) (pc' := 114) rfl (hb hby at_67) (by decide) (by decide) kk_) ?_
    obtain ⟨T50, h50, X50, e50, E50, A50, D50, -, st50⟩ := newO X49 hx hZ hown (hw _ (List.mem_of_getElem? (i := 9) rfl)) (hw _ (List.mem_of_getElem? (i := 10) rfl)) (hw _ (List.mem_of_getElem? (i := 11) rfl)) e49 (g := (mkF m 114 #[.val (.int x0), .val (.int x1), .val (.int x2), .val (.int x3), .val (.int x4), .val (.int x5), .val (.int (1 : Int32)), .val (.int ((x5.toUInt32 >>> ((1 : Int32) &&& 31).toUInt32).toInt32)), .val (.ref b48), .val (.int ((x2 &&& (2147483647 : Int32)) % (3 : Int32))), .unset, .unset] [])) rfl (hb hby at_114) (show cells + 1 + 1 ≤ 16 by omega) (show slots + 1 + 4 ≤ 128 by omega)
    obtain ⟨b50, g50⟩ : ∃ z, z = h49.size := ⟨_, rfl⟩
    rw [← g50] at A50 D50 st50
    have ne51 : b48 ≠ b50 := Nat.ne_of_lt (Nat.lt_of_lt_of_le V49.lt (Nat.le_of_eq g50.symm))
    have gz50 : n0 ≤ b50 := Nat.le_trans Z49 (Nat.le_of_eq g50.symm)
    have Z50 : n0 ≤ h50.size := Nat.le_trans Z49 E50.1
    have F_min_b50 : Fld Z h50 b50 "com/example/propagule/propagule/flatzinc/Expr$IntSet" "min" "I" (.int (0 : Int32)) := D50 (Or.inr (hw _ (List.mem_of_getElem? (i := 24) rfl))) (ty := .int) (by decide)
    have F_max_b50 : Fld Z h50 b50 "com/example/propagule/propagule/flatzinc/Expr$IntSet" "max" "I" (.int (0 : Int32)) := D50 (Or.inr (hw _ (List.mem_of_getElem? (i := 26) rfl))) (ty := .int) (by decide)
    have F_values_b50 : Fld Z h50 b50 "com/example/propagule/propagule/flatzinc/Expr$IntSet" "values" "[I" .null := D50 (Or.inr (hw _ (List.mem_of_getElem? (i := 28) rfl))) (ty := (.array .int)) (by decide)
    have F_line_b50 : Fld Z h50 b50 "com/example/propagule/propagule/flatzinc/Expr$IntSet" "line" "I" (.int (0 : Int32)) := D50 (Or.inr (hw _ (List.mem_of_getElem? (i := 30) rfl))) (ty := .int) (by decide)
    refine own_st (g' := (mkF m 117 #[.val (.int x0), .val (.int x1), .val (.int x2), .val (.int x3), .val (.int x4), .val (.int x5), .val (.int (1 : Int32)), .val (.int ((x5.toUInt32 >>> ((1 : Int32) &&& 31).toUInt32).toInt32)), .val (.ref b48), .val (.int ((x2 &&& (2147483647 : Int32)) % (3 : Int32))), .unset, .unset] [(.ref b50)])) st50 ?_
    refine own_st (g' := (mkF m 118 #[.val (.int x0), .val (.int x1), .val (.int x2), .val (.int x3), .val (.int x4), .val (.int x5), .val (.int (1 : Int32)), .val (.int ((x5.toUInt32 >>> ((1 : Int32) &&& 31).toUInt32).toInt32)), .val (.ref b48), .val (.int ((x2 &&& (2147483647 : Int32)) % (3 : Int32))), .unset, .unset] [(.ref b50), (.ref b50)])) (fun tt_ kk_ => XS.dup X50.here hx rfl (hb hby at_117) rfl rfl kk_) ?_
    refine own_st (g' := (mkF m 119 #[.val (.int x0), .val (.int x1), .val (.int x2), .val (.int x3), .val (.int x4), .val (.int x5), .val (.int (1 : Int32)), .val (.int ((x5.toUInt32 >>> ((1 : Int32) &&& 31).toUInt32).toInt32)), .val (.ref b48), .val (.int ((x2 &&& (2147483647 : Int32)) % (3 : Int32))), .unset, .unset] [(.int x0), (.ref b50), (.ref b50)])) (fun tt_ kk_ => XS.iloadN X50.here hx rfl (hb hby at_118) rfl kk_) ?_
    refine own_st (g' := (mkF m 120 #[.val (.int x0), .val (.int x1), .val (.int x2), .val (.int x3), .val (.int x4), .val (.int x5), .val (.int (1 : Int32)), .val (.int ((x5.toUInt32 >>> ((1 : Int32) &&& 31).toUInt32).toInt32)), .val (.ref b48), .val (.int ((x2 &&& (2147483647 : Int32)) % (3 : Int32))), .unset, .unset] [(.int x1), (.int x0), (.ref b50), (.ref b50)])) (fun tt_ kk_ => XS.iloadN X50.here hx rfl (hb hby at_119) rfl kk_) ?_
    refine own_st (g' := (mkF m 122 #[.val (.int x0), .val (.int x1), .val (.int x2), .val (.int x3), .val (.int x4), .val (.int x5), .val (.int (1 : Int32)), .val (.int ((x5.toUInt32 >>> ((1 : Int32) &&& 31).toUInt32).toInt32)), .val (.ref b48), .val (.int ((x2 &&& (2147483647 : Int32)) % (3 : Int32))), .unset, .unset] [(.ref b48), (.int x1), (.int x0), (.ref b50), (.ref b50)])) (fun tt_ kk_ => XS.aload X50.here hx rfl (hb hby at_120) rfl rfl kk_) ?_
    refine own_st (g' := (mkF m 124 #[.val (.int x0), .val (.int x1), .val (.int x2), .val (.int x3), .val (.int x4), .val (.int x5), .val (.int (1 : Int32)), .val (.int ((x5.toUInt32 >>> ((1 : Int32) &&& 31).toUInt32).toInt32)), .val (.ref b48), .val (.int ((x2 &&& (2147483647 : Int32)) % (3 : Int32))), .unset, .unset] [(.int ((x5.toUInt32 >>> ((1 : Int32) &&& 31).toUInt32).toInt32)), (.ref b48), (.int x1), (.int x0), (.ref b50), (.ref b50)])) (fun tt_ kk_ => XS.iload X50.here hx rfl (hb hby at_122) rfl kk_) ?_
    obtain ⟨_, _, ⟨T52, L52, k52, n52⟩, -, X52, ⟨Lc52, hQ52, l52, y52, z52⟩, st52⟩ := X50.specialBack hx (y := (⟨"com/example/propagule/propagule/flatzinc/Expr$IntSet", "<init>", "(II[II)V"⟩ : MethodName)) rfl hown (mvT hZ (hw _ (List.mem_of_getElem? (i := 12) rfl))) (mvT hZ (hw _ (List.mem_of_getElem? (i := 13) rfl))) (mvT hZ (hw _ (List.mem_of_getElem? (i := 14) rfl))) (by decide) (backOf (W := 1) (own_rmini1 l Z a0 hw [] b50 x0 x1 b48 ((x5.toUInt32 >>> ((1 : Int32) &&& 31).toUInt32).toInt32) h50 n0 Z50 A50 F_min_b50 F_max_b50 F_values_b50 F_line_b50 gz50) hZ (hw _ (List.mem_of_getElem? (i := 14) rfl)) (hw _ (List.mem_of_getElem? (i := 11) rfl)) (by decide) (by decide)) (g := (mkF m 124 #[.val (.int x0), .val (.int x1), .val (.int x2), .val (.int x3), .val (.int x4), .val (.int x5), .val (.int (1 : Int32)), .val (.int ((x5.toUInt32 >>> ((1 : Int32) &&& 31).toUInt32).toInt32)), .val (.ref b48), .val (.int ((x2 &&& (2147483647 : Int32)) % (3 : Int32))), .unset, .unset] [(.int ((x5.toUInt32 >>> ((1 : Int32) &&& 31).toUInt32).toInt32)), (.ref b48), (.int x1), (.int x0), (.ref b50), (.ref b50)])) rfl (by rw [hml]; rfl) (Steps.refl _) (a := b50) (argsL := [(.int x0), (.int x1), (.ref b48), (.int ((x5.toUInt32 >>> ((1 : Int32) &&& 31).toUInt32).toInt32))]) (rest := [(.ref b50)]) (lenOf own_pd2 rfl) rfl (by show 2 * 0 + _ ≤ _; exact Nat.le_of_eq rfl) (hb hby at_124) (fun _ _ => ⟨rfl, e50, (show cells + 1 + 1 + 0 ≤ 16 by omega), (show slots + 1 + 4 + 0 ≤ 128 by omega)⟩)
    dsimp only [Pt.U, Pt.locs, Pt.cells, Pt.slots] at X52 l52 y52 z52 st52 hQ52
    rw [l52, y52, z52] at X52
    obtain ⟨rfl, N52q, K52q, f52_0, f52_1, f52_2, f52_3⟩ := hQ52
    obtain ⟨h52, e52⟩ : ∃ z, T52.heap = z := ⟨_, rfl⟩
    rw [e52] at K52q f52_0 f52_1 f52_2 f52_3
    have Z52 : n0 ≤ h52.size := Nat.le_trans Z50 K52q.1
    have N52 := Fr.app N49 N52q
    refine own_st (g' := (mkF m 127 #[.val (.int x0), .val (.int x1), .val (.int x2), .val (.int x3), .val (.int x4), .val (.int x5), .val (.int (1 : Int32)), .val (.int ((x5.toUInt32 >>> ((1 : Int32) &&& 31).toUInt32).toInt32)), .val (.ref b48), .val (.int ((x2 &&& (2147483647 : Int32)) % (3 : Int32))), .unset, .unset] [(.ref b50)])) (fun t k => st52.trans k) ?_
    refine own_st (g' := (mkF m 129 #[.val (.int x0), .val (.int x1), .val (.int x2), .val (.int x3), .val (.int x4), .val (.int x5), .val (.int (1 : Int32)), .val (.int ((x5.toUInt32 >>> ((1 : Int32) &&& 31).toUInt32).toInt32)), .val (.ref b48), .val (.int ((x2 &&& (2147483647 : Int32)) % (3 : Int32))), .val (.ref b50), .unset] [])) (fun tt_ kk_ => XS.astore X52.here hx rfl (hb hby at_127) rfl rfl (l' := #[.val (.int x0), .val (.int x1), .val (.int x2), .val (.int x3), .val (.int x4), .val (.int x5), .val (.int (1 : Int32)), .val (.int ((x5.toUInt32 >>> ((1 : Int32) &&& 31).toUInt32).toInt32)), .val (.ref b48), .val (.int ((x2 &&& (2147483647 : Int32)) % (3 : Int32))), .val (.ref b50), .unset]) rfl kk_) ?_
    refine own_st (g' := (mkF m 131 #[.val (.int x0), .val (.int x1), .val (.int x2), .val (.int x3), .val (.int x4), .val (.int x5), .val (.int (1 : Int32)), .val (.int ((x5.toUInt32 >>> ((1 : Int32) &&& 31).toUInt32).toInt32)), .val (.ref b48), .val (.int ((x2 &&& (2147483647 : Int32)) % (3 : Int32))), .val (.ref b50), .unset] [(.int (1 : Int32))])) (fun tt_ kk_ => XS.iload X52.here hx rfl (hb hby at_129) rfl kk_) ?_
    refine own_st (g' := (mkF m 134 #[.val (.int x0), .val (.int x1), .val (.int x2), .val (.int x3), .val (.int x4), .val (.int x5), .val (.int (1 : Int32)), .val (.int ((x5.toUInt32 >>> ((1 : Int32) &&& 31).toUInt32).toInt32)), .val (.ref b48), .val (.int ((x2 &&& (2147483647 : Int32)) % (3 : Int32))), .val (.ref b50), .unset] [])) (fun tt_ kk_ => XS.ifNo X52.here hx rfl (hb hby at_131) rfl ((if0 _ _).trans (feq (by decide : ¬ ((1 : Int32) = (0 : Int32)))).1) kk_) ?_
    refine own_st (g' := (mkF m 136 #[.val (.int x0), .val (.int x1), .val (.int x2), .val (.int x3), .val (.int x4), .val (.int x5), .val (.int (1 : Int32)), .val (.int ((x5.toUInt32 >>> ((1 : Int32) &&& 31).toUInt32).toInt32)), .val (.ref b48), .val (.int ((x2 &&& (2147483647 : Int32)) % (3 : Int32))), .val (.ref b50), .unset] [(.int ((x2 &&& (2147483647 : Int32)) % (3 : Int32)))])) (fun tt_ kk_ => XS.iload X52.here hx rfl (hb hby at_134) rfl kk_) ?_
    refine own_st (g' := (mkF m 143 #[.val (.int x0), .val (.int x1), .val (.int x2), .val (.int x3), .val (.int x4), .val (.int x5), .val (.int (1 : Int32)), .val (.int ((x5.toUInt32 >>> ((1 : Int32) &&& 31).toUInt32).toInt32)), .val (.ref b48), .val (.int ((x2 &&& (2147483647 : Int32)) % (3 : Int32))), .val (.ref b50), .unset] [])) (fun tt_ kk_ => XS.ifYes X52.here hx rfl (pc0 := 136) (pc' := 143) rfl (hb hby at_136) rfl ((if0 _ _).trans (feq hc41).2) (by decide) (by decide) kk_) ?_
    refine own_st (g' := (mkF m 144 #[.val (.int x0), .val (.int x1), .val (.int x2), .val (.int x3), .val (.int x4), .val (.int x5), .val (.int (1 : Int32)), .val (.int ((x5.toUInt32 >>> ((1 : Int32) &&& 31).toUInt32).toInt32)), .val (.ref b48), .val (.int ((x2 &&& (2147483647 : Int32)) % (3 : Int32))), .val (.ref b50), .unset] [(.int (0 : Int32))])) (fun tt_ kk_ => XS.iconst X52.here hx rfl (hb hby at_143) kk_) ?_
    refine own_st (g' := (mkF m 162 #[.val (.int x0), .val (.int x1), .val (.int x2), .val (.int x3), .val (.int x4), .val (.int x5), .val (.int (1 : Int32)), .val (.int ((x5.toUInt32 >>> ((1 : Int32) &&& 31).toUInt32).toInt32)), .val (.ref b48), .val (.int ((x2 &&& (2147483647 : Int32)) % (3 : Int32))), .val (.ref b50), .unset] [(.int (0 : Int32))])) (fun tt_ kk_ => XS.goto X52.here hx rfl (pc0 := 144) (pc' := 162) rfl (hb hby at_144) (by decide) (by decide) kk_) ?_
    refine own_st (g' := (mkF m 164 #[.val (.int x0), .val (.int x1), .val (.int x2), .val (.int x3), .val (.int x4), .val (.int x5), .val (.int (1 : Int32)), .val (.int ((x5.toUInt32 >>> ((1 : Int32) &&& 31).toUInt32).toInt32)), .val (.ref b48), .val (.int ((x2 &&& (2147483647 : Int32)) % (3 : Int32))), .val (.ref b50), .val (.int (0 : Int32))] [])) (fun tt_ kk_ => XS.istore X52.here hx rfl (hb hby at_162) rfl (l' := #[.val (.int x0), .val (.int x1), .val (.int x2), .val (.int x3), .val (.int x4), .val (.int x5), .val (.int (1 : Int32)), .val (.int ((x5.toUInt32 >>> ((1 : Int32) &&& 31).toUInt32).toInt32)), .val (.ref b48), .val (.int ((x2 &&& (2147483647 : Int32)) % (3 : Int32))), .val (.ref b50), .val (.int (0 : Int32))]) rfl kk_) ?_
    refine own_st (g' := (mkF m 166 #[.val (.int x0), .val (.int x1), .val (.int x2), .val (.int x3), .val (.int x4), .val (.int x5), .val (.int (1 : Int32)), .val (.int ((x5.toUInt32 >>> ((1 : Int32) &&& 31).toUInt32).toInt32)), .val (.ref b48), .val (.int ((x2 &&& (2147483647 : Int32)) % (3 : Int32))), .val (.ref b50), .val (.int (0 : Int32))] [(.ref b50)])) (fun tt_ kk_ => XS.aload X52.here hx rfl (hb hby at_164) rfl rfl kk_) ?_
    have F53 := ((V49.ext E50).keep K52q (ninS ne51 nin0))
    obtain ⟨cq54, kq54, q54a, q54b, q54c⟩ := isOf hZ e52 f52_0
    obtain ⟨_, _, ⟨T54, L54, k54, n54⟩, -, X54, ⟨Lc54, hQ54, l54, y54, z54⟩, st54⟩ := X52.virtualBack hx (y := (⟨"com/example/propagule/propagule/flatzinc/Expr$IntSet", "isEmpty", "()Z"⟩ : MethodName)) (z := (⟨"com/example/propagule/propagule/flatzinc/Expr$IntSet", "isEmpty", "()Z"⟩ : MethodName)) hown (mvT hZ (hw _ (List.mem_of_getElem? (i := 31) rfl))) (mvT hZ (hw _ (List.mem_of_getElem? (i := 32) rfl))) (notFace_of_selects (args := #[]) (mvT hZ (hw _ (List.mem_of_getElem? (i := 34) rfl)))) (mvT hZ (hw _ (List.mem_of_getElem? (i := 34) rfl))) (mvT hZ (hw _ (List.mem_of_getElem? (i := 33) rfl))) (by decide) (backOf (W := 0) (own_rmemp1 l Z a0 hw [] b50 b48 k48 (1 : Int32) [(.int x3)] (.int (0 : Int32)) h52 n0 Z52 f52_3 F53) hZ (hw _ (List.mem_of_getElem? (i := 35) rfl)) (hw _ (List.mem_of_getElem? (i := 11) rfl)) (by decide) (by decide)) q54a q54c (g := (mkF m 166 #[.val (.int x0), .val (.int x1), .val (.int x2), .val (.int x3), .val (.int x4), .val (.int x5), .val (.int (1 : Int32)), .val (.int ((x5.toUInt32 >>> ((1 : Int32) &&& 31).toUInt32).toInt32)), .val (.ref b48), .val (.int ((x2 &&& (2147483647 : Int32)) % (3 : Int32))), .val (.ref b50), .val (.int (0 : Int32))] [(.ref b50)])) rfl (by rw [hml]; rfl) (Steps.refl _) (argsL := []) (rest := []) (lenOf own_pd3 rfl) rfl (by show 2 * 0 + _ ≤ _; exact Nat.le_of_eq rfl) (hb hby at_166) (fun _ _ => ⟨rfl, e52, (show cells + 1 + 1 + 0 ≤ 16 by omega), (show slots + 1 + 4 + 0 ≤ 128 by omega)⟩)
    dsimp only [Pt.U, Pt.locs, Pt.cells, Pt.slots] at X54 l54 y54 z54 st54 hQ54
    rw [l54, y54, z54] at X54
    obtain ⟨rfl, N54q, e54⟩ := hQ54
    have N54 := Fr.app N52 N54q
    refine own_st (g' := (mkF m 169 #[.val (.int x0), .val (.int x1), .val (.int x2), .val (.int x3), .val (.int x4), .val (.int x5), .val (.int (1 : Int32)), .val (.int ((x5.toUInt32 >>> ((1 : Int32) &&& 31).toUInt32).toInt32)), .val (.ref b48), .val (.int ((x2 &&& (2147483647 : Int32)) % (3 : Int32))), .val (.ref b50), .val (.int (0 : Int32))] [(.int (own_z (1 : Int32)))])) (fun t k => st54.trans k) ?_
    refine own_st (g' := (mkF m 171 #[.val (.int x0), .val (.int x1), .val (.int x2), .val (.int x3), .val (.int x4), .val (.int x5), .val (.int (1 : Int32)), .val (.int ((x5.toUInt32 >>> ((1 : Int32) &&& 31).toUInt32).toInt32)), .val (.ref b48), .val (.int ((x2 &&& (2147483647 : Int32)) % (3 : Int32))), .val (.ref b50), .val (.int (0 : Int32))] [(.int (0 : Int32)), (.int (own_z (1 : Int32)))])) (fun tt_ kk_ => XS.iload X54.here hx rfl (hb hby at_169) rfl kk_) ?_
    refine own_st (g' := (mkF m 174 #[.val (.int x0), .val (.int x1), .val (.int x2), .val (.int x3), .val (.int x4), .val (.int x5), .val (.int (1 : Int32)), .val (.int ((x5.toUInt32 >>> ((1 : Int32) &&& 31).toUInt32).toInt32)), .val (.ref b48), .val (.int ((x2 &&& (2147483647 : Int32)) % (3 : Int32))), .val (.ref b50), .val (.int (0 : Int32))] [])) (fun tt_ kk_ => XS.icmpNo X54.here hx rfl (hb hby at_171) rfl (teq (by decide)).2 kk_) ?_
    refine own_st (g' := (mkF m 175 #[.val (.int x0), .val (.int x1), .val (.int x2), .val (.int x3), .val (.int x4), .val (.int x5), .val (.int (1 : Int32)), .val (.int ((x5.toUInt32 >>> ((1 : Int32) &&& 31).toUInt32).toInt32)), .val (.ref b48), .val (.int ((x2 &&& (2147483647 : Int32)) % (3 : Int32))), .val (.ref b50), .val (.int (0 : Int32))] [(.int (1 : Int32))])) (fun tt_ kk_ => XS.iconst X54.here hx rfl (hb hby at_174) kk_) ?_
    refine own_st (g' := (mkF m 179 #[.val (.int x0), .val (.int x1), .val (.int x2), .val (.int x3), .val (.int x4), .val (.int x5), .val (.int (1 : Int32)), .val (.int ((x5.toUInt32 >>> ((1 : Int32) &&& 31).toUInt32).toInt32)), .val (.ref b48), .val (.int ((x2 &&& (2147483647 : Int32)) % (3 : Int32))), .val (.ref b50), .val (.int (0 : Int32))] [(.int (1 : Int32))])) (fun tt_ kk_ => XS.goto X54.here hx rfl (pc0 := 175) (pc' := 179) rfl (hb hby at_175) (by decide) (by decide) kk_) ?_
    exact own_retN X54 hx hlk (t := .boolean) (Or.inl rfl) hret (hb hby at_179) (by omega) (by omega) ⟨rfl, N54⟩
  refine own_st (g' := (mkF m 70 #[.val (.int x0), .val (.int x1), .val (.int x2), .val (.int x3), .val (.int x4), .val (.int x5), .val (.int (1 : Int32)), .val (.int ((x5.toUInt32 >>> ((1 : Int32) &&& 31).toUInt32).toInt32)), .val .null, .val (.int ((x2 &&& (2147483647 : Int32)) % (3 : Int32))), .unset, .unset] [])) (fun tt_ kk_ => XS.icmpYes X0.here hx rfl (pc0 := 55) (pc' := 70) rfl (hb hby at_55) rfl (feq hc55).2 (by decide) (by decide) kk_) ?_
  refine own_st (g' := (mkF m 71 #[.val (.int x0), .val (.int x1), .val (.int x2), .val (.int x3), .val (.int x4), .val (.int x5), .val (.int (1 : Int32)), .val (.int ((x5.toUInt32 >>> ((1 : Int32) &&& 31).toUInt32).toInt32)), .val .null, .val (.int ((x2 &&& (2147483647 : Int32)) % (3 : Int32))), .unset, .unset] [(.int x3)])) (fun tt_ kk_ => XS.iloadN X0.here hx rfl (hb hby at_70) rfl kk_) ?_
  refine own_st (g' := (mkF m 73 #[.val (.int x0), .val (.int x1), .val (.int x2), .val (.int x3), .val (.int x4), .val (.int x5), .val (.int (1 : Int32)), .val (.int ((x5.toUInt32 >>> ((1 : Int32) &&& 31).toUInt32).toInt32)), .val .null, .val (.int ((x2 &&& (2147483647 : Int32)) % (3 : Int32))), .unset, .unset] [(.int x4), (.int x3)])) (fun tt_ kk_ => XS.iload X0.here hx rfl (hb hby at_71) rfl kk_) ?_
  by_cases hc73 : x3 = x4
  · skip
    refine own_st (g' := (mkF m 76 #[.val (.int x0), .val (.int x1), .val (.int x2), .val (.int x3), .val (.int x4), .val (.int x5), .val (.int (1 : Int32)), .val (.int ((x5.toUInt32 >>> ((1 : Int32) &&& 31).toUInt32).toInt32)), .val .null, .val (.int ((x2 &&& (2147483647 : Int32)) % (3 : Int32))), .unset, .unset] [])) (fun tt_ kk_ => XS.icmpNo X0.here hx rfl (hb hby at_73) rfl (teq hc73).2 kk_) ?_
    refine own_st (g' := (mkF m 77 #[.val (.int x0), .val (.int x1), .val (.int x2), .val (.int x3), .val (.int x4), .val (.int x5), .val (.int (1 : Int32)), .val (.int ((x5.toUInt32 >>> ((1 : Int32) &&& 31).toUInt32).toInt32)), .val .null, .val (.int ((x2 &&& (2147483647 : Int32)) % (3 : Int32))), .unset, .unset] [(.int (1 : Int32))])) (fun tt_ kk_ => XS.iconst X0.here hx rfl (hb hby at_76) kk_) ?_
    obtain ⟨T55, h55, k55, X55, e55, E55, A55, st55⟩ := newP X0 hx hZ (hw _ (List.mem_of_getElem? (i := 1) rfl)) e0 (g := (mkF m 77 #[.val (.int x0), .val (.int x1), .val (.int x2), .val (.int x3), .val (.int x4), .val (.int x5), .val (.int (1 : Int32)), .val (.int ((x5.toUInt32 >>> ((1 : Int32) &&& 31).toUInt32).toInt32)), .val .null, .val (.int ((x2 &&& (2147483647 : Int32)) % (3 : Int32))), .unset, .unset] [(.int (1 : Int32))])) rfl (hb hby at_77) rfl (by decide) (cap := 1) (by decide) (by decide) (show cells + 1 ≤ 16 by omega) (show slots + 1 ≤ 128 by omega)
    obtain ⟨b55, g55⟩ : ∃ z, z = h0.size := ⟨_, rfl⟩
    rw [← g55] at A55 st55
    have gz55 : n0 ≤ b55 := Nat.le_trans Z0 (Nat.le_of_eq g55.symm)
    have Z55 : n0 ≤ h55.size := Nat.le_trans Z0 E55.1
    have V55 : Arv Z h55 b55 k55 .int (1 : Int32) [(.int (0 : Int32))] (.int (0 : Int32)) := (Arv.new A55 (by decide)).pad (pad_rep [] (.int (0 : Int32)) 1)
    refine own_st (g' := (mkF m 79 #[.val (.int x0), .val (.int x1), .val (.int x2), .val (.int x3), .val (.int x4), .val (.int x5), .val (.int (1 : Int32)), .val (.int ((x5.toUInt32 >>> ((1 : Int32) &&& 31).toUInt32).toInt32)), .val .null, .val (.int ((x2 &&& (2147483647 : Int32)) % (3 : Int32))), .unset, .unset] [(.ref b55)])) st55 ?_
    refine own_st (g' := (mkF m 80 #[.val (.int x0), .val (.int x1), .val (.int x2), .val (.int x3), .val (.int x4), .val (.int x5), .val (.int (1 : Int32)), .val (.int ((x5.toUInt32 >>> ((1 : Int32) &&& 31).toUInt32).toInt32)), .val .null, .val (.int ((x2 &&& (2147483647 : Int32)) % (3 : Int32))), .unset, .unset] [(.ref b55), (.ref b55)])) (fun tt_ kk_ => XS.dup X55.here hx rfl (hb hby at_79) rfl rfl kk_) ?_
    refine own_st (g' := (mkF m 81 #[.val (.int x0), .val (.int x1), .val (.int x2), .val (.int x3), .val (.int x4), .val (.int x5), .val (.int (1 : Int32)), .val (.int ((x5.toUInt32 >>> ((1 : Int32) &&& 31).toUInt32).toInt32)), .val .null, .val (.int ((x2 &&& (2147483647 : Int32)) % (3 : Int32))), .unset, .unset] [(.int (0 : Int32)), (.ref b55), (.ref b55)])) (fun tt_ kk_ => XS.iconst X55.here hx rfl (hb hby at_80) kk_) ?_
    refine own_st (g' := (mkF m 82 #[.val (.int x0), .val (.int x1), .val (.int x2), .val (.int x3), .val (.int x4), .val (.int x5), .val (.int (1 : Int32)), .val (.int ((x5.toUInt32 >>> ((1 : Int32) &&& 31).toUInt32).toInt32)), .val .null, .val (.int ((x2 &&& (2147483647 : Int32)) % (3 : Int32))), .unset, .unset] [(.int x3), (.int (0 : Int32)), (.ref b55), (.ref b55)])) (fun tt_ kk_ => XS.iloadN X55.here hx rfl (hb hby at_81) rfl kk_) ?_
    obtain ⟨c56, A56, q56, S56, M56, H56, G56⟩ := V55
    have i56 : ¬ ((0 : Int32) < 0 ∨ c56.slots.size ≤ ((0 : Int32)).toNatClampNeg) := inb_of S56 ⟨by decide, by decide⟩
    obtain ⟨T56, h56, X56, e56, W56, st56⟩ := stI X55 hx hZ e55 A56 (j := (0 : Int32)) i56 (g := (mkF m 82 #[.val (.int x0), .val (.int x1), .val (.int x2), .val (.int x3), .val (.int x4), .val (.int x5), .val (.int (1 : Int32)), .val (.int ((x5.toUInt32 >>> ((1 : Int32) &&& 31).toUInt32).toInt32)), .val .null, .val (.int ((x2 &&& (2147483647 : Int32)) % (3 : Int32))), .unset, .unset] [(.int x3), (.int (0 : Int32)), (.ref b55), (.ref b55)])) rfl rfl (hb hby at_82)
    have N56 := Fr.snoc X56 N0 gz55
    have Z56 : n0 ≤ h56.size := Nat.le_trans Z55 (Keep.of_wr W56).1
    have V56 : Arv Z h56 b55 k55 .int (1 : Int32) [(.int x3)] (.int (0 : Int32)) := Arv.set A56 q56 S56 M56 H56 G56 rfl W56 0 rfl (Nat.le_of_ble_eq_true rfl)
    refine own_st (g' := (mkF m 83 #[.val (.int x0), .val (.int x1), .val (.int x2), .val (.int x3), .val (.int x4), .val (.int x5), .val (.int (1 : Int32)), .val (.int ((x5.toUInt32 >>> ((1 : Int32) &&& 31).toUInt32).toInt32)), .val .null, .val (.int ((x2 &&& (2147483647 : Int32)) % (3 : Int32))), .unset, .unset] [(.ref b55)])) st56 ?_
    refine own_st (g' := (mkF m 85 #[.val (.int x0), .val (.int x1), .val (.int x2), .val (.int x3), .val (.int x4), .val (.int x5), .val (.int (1 : Int32)), .val (.int ((x5.toUInt32 >>> ((1 : Int32) &&& 31).toUInt32).toInt32)), .val (.ref b55), .val (.int ((x2 &&& (2147483647 : Int32)) % (3 : Int32))), .unset, .unset] [])) (fun tt_ kk_ => XS.astore X56.here hx rfl (hb hby at_83) rfl rfl (l' := #[.val (.int x0), .val (.int x1), .val (.int x2), .val (.int x3), .val (.int x4), .val (.int x5), .val (.int (1 : Int32)), .val (.int ((x5.toUInt32 >>> ((1 : Int32) &&& 31).toUInt32).toInt32)), .val (.ref b55), .val (.int ((x2 &&& (2147483647 : Int32)) % (3 : Int32))), .unset, .unset]) rfl kk_) ?_
    refine own_st (g' := (mkF m 86 #[.val (.int x0), .val (.int x1), .val (.int x2), .val (.int x3), .val (.int x4), .val (.int x5), .val (.int (1 : Int32)), .val (.int ((x5.toUInt32 >>> ((1 : Int32) &&& 31).toUInt32).toInt32)), .val (.ref b55), .val (.int ((x2 &&& (2147483647 : Int32)) % (3 : Int32))), .unset, .unset] [(.int (1 : Int32))])) (fun tt_ kk_ => XS.iconst X56.here hx rfl (hb hby at_85) kk_) ?_
    refine own_st (g' := (mkF m 88 #[.val (.int x0), .val (.int x1), .val (.int x2), .val (.int x3), .val (.int x4), .val (.int x5), .val (.int (1 : Int32)), .val (.int ((x5.toUInt32 >>> ((1 : Int32) &&& 31).toUInt32).toInt32)), .val (.ref b55), .val (.int (1 : Int32)), .unset, .unset] [])) (fun tt_ kk_ => XS.istore X56.here hx rfl (hb hby at_86) rfl (l' := #[.val (.int x0), .val (.int x1), .val (.int x2), .val (.int x3), .val (.int x4), .val (.int x5), .val (.int (1 : Int32)), .val (.int ((x5.toUInt32 >>> ((1 : Int32) &&& 31).toUInt32).toInt32)), .val (.ref b55), .val (.int (1 : Int32)), .unset, .unset]) rfl kk_) ?_
    refine own_st (g' := (mkF m 114 #[.val (.int x0), .val (.int x1), .val (.int x2), .val (.int x3), .val (.int x4), .val (.int x5), .val (.int (1 : Int32)), .val (.int ((x5.toUInt32 >>> ((1 : Int32) &&& 31).toUInt32).toInt32)), .val (.ref b55), .val (.int (1 : Int32)), .unset, .unset] [])) (fun tt_ kk_ => XS.goto X56.here hx rfl (pc0 := 88) (pc' := 114) rfl (hb hby at_88) (by decide) (by decide) kk_) ?_
    obtain ⟨T57, h57, X57, e57, E57, A57, D57, -, st57⟩ := newO X56 hx hZ hown (hw _ (List.mem_of_getElem? (i := 9) rfl)) (hw _ (List.mem_of_getElem? (i := 10) rfl)) (hw _ (List.mem_of_getElem? (i := 11) rfl)) e56 (g := (mkF m 114 #[.val (.int x0), .val (.int x1), .val (.int x2), .val (.int x3), .val (.int x4), .val (.int x5), .val (.int (1 : Int32)), .val (.int ((x5.toUInt32 >>> ((1 : Int32) &&& 31).toUInt32).toInt32)), .val (.ref b55), .val (.int (1 : Int32)), .unset, .unset] [])) rfl (hb hby at_114) (show cells + 1 + 1 ≤ 16 by omega) (show slots + 1 + 4 ≤ 128 by omega)
    obtain ⟨b57, g57⟩ : ∃ z, z = h56.size := ⟨_, rfl⟩
    rw [← g57] at A57 D57 st57
    have ne58 : b55 ≠ b57 := Nat.ne_of_lt (Nat.lt_of_lt_of_le V56.lt (Nat.le_of_eq g57.symm))
    have gz57 : n0 ≤ b57 := Nat.le_trans Z56 (Nat.le_of_eq g57.symm)
    have Z57 : n0 ≤ h57.size := Nat.le_trans Z56 E57.1
    have F_min_b57 : Fld Z h57 b57 "com/example/propagule/propagule/flatzinc/Expr$IntSet" "min" "I" (.int (0 : Int32)) := D57 (Or.inr (hw _ (List.mem_of_getElem? (i := 24) rfl))) (ty := .int) (by decide)
    have F_max_b57 : Fld Z h57 b57 "com/example/propagule/propagule/flatzinc/Expr$IntSet" "max" "I" (.int (0 : Int32)) := D57 (Or.inr (hw _ (List.mem_of_getElem? (i := 26) rfl))) (ty := .int) (by decide)
    have F_values_b57 : Fld Z h57 b57 "com/example/propagule/propagule/flatzinc/Expr$IntSet" "values" "[I" .null := D57 (Or.inr (hw _ (List.mem_of_getElem? (i := 28) rfl))) (ty := (.array .int)) (by decide)
    have F_line_b57 : Fld Z h57 b57 "com/example/propagule/propagule/flatzinc/Expr$IntSet" "line" "I" (.int (0 : Int32)) := D57 (Or.inr (hw _ (List.mem_of_getElem? (i := 30) rfl))) (ty := .int) (by decide)
    refine own_st (g' := (mkF m 117 #[.val (.int x0), .val (.int x1), .val (.int x2), .val (.int x3), .val (.int x4), .val (.int x5), .val (.int (1 : Int32)), .val (.int ((x5.toUInt32 >>> ((1 : Int32) &&& 31).toUInt32).toInt32)), .val (.ref b55), .val (.int (1 : Int32)), .unset, .unset] [(.ref b57)])) st57 ?_
    refine own_st (g' := (mkF m 118 #[.val (.int x0), .val (.int x1), .val (.int x2), .val (.int x3), .val (.int x4), .val (.int x5), .val (.int (1 : Int32)), .val (.int ((x5.toUInt32 >>> ((1 : Int32) &&& 31).toUInt32).toInt32)), .val (.ref b55), .val (.int (1 : Int32)), .unset, .unset] [(.ref b57), (.ref b57)])) (fun tt_ kk_ => XS.dup X57.here hx rfl (hb hby at_117) rfl rfl kk_) ?_
    refine own_st (g' := (mkF m 119 #[.val (.int x0), .val (.int x1), .val (.int x2), .val (.int x3), .val (.int x4), .val (.int x5), .val (.int (1 : Int32)), .val (.int ((x5.toUInt32 >>> ((1 : Int32) &&& 31).toUInt32).toInt32)), .val (.ref b55), .val (.int (1 : Int32)), .unset, .unset] [(.int x0), (.ref b57), (.ref b57)])) (fun tt_ kk_ => XS.iloadN X57.here hx rfl (hb hby at_118) rfl kk_) ?_
    refine own_st (g' := (mkF m 120 #[.val (.int x0), .val (.int x1), .val (.int x2), .val (.int x3), .val (.int x4), .val (.int x5), .val (.int (1 : Int32)), .val (.int ((x5.toUInt32 >>> ((1 : Int32) &&& 31).toUInt32).toInt32)), .val (.ref b55), .val (.int (1 : Int32)), .unset, .unset] [(.int x1), (.int x0), (.ref b57), (.ref b57)])) (fun tt_ kk_ => XS.iloadN X57.here hx rfl (hb hby at_119) rfl kk_) ?_
    refine own_st (g' := (mkF m 122 #[.val (.int x0), .val (.int x1), .val (.int x2), .val (.int x3), .val (.int x4), .val (.int x5), .val (.int (1 : Int32)), .val (.int ((x5.toUInt32 >>> ((1 : Int32) &&& 31).toUInt32).toInt32)), .val (.ref b55), .val (.int (1 : Int32)), .unset, .unset] [(.ref b55), (.int x1), (.int x0), (.ref b57), (.ref b57)])) (fun tt_ kk_ => XS.aload X57.here hx rfl (hb hby at_120) rfl rfl kk_) ?_
    refine own_st (g' := (mkF m 124 #[.val (.int x0), .val (.int x1), .val (.int x2), .val (.int x3), .val (.int x4), .val (.int x5), .val (.int (1 : Int32)), .val (.int ((x5.toUInt32 >>> ((1 : Int32) &&& 31).toUInt32).toInt32)), .val (.ref b55), .val (.int (1 : Int32)), .unset, .unset] [(.int ((x5.toUInt32 >>> ((1 : Int32) &&& 31).toUInt32).toInt32)), (.ref b55), (.int x1), (.int x0), (.ref b57), (.ref b57)])) (fun tt_ kk_ => XS.iload X57.here hx rfl (hb hby at_122) rfl kk_) ?_
    obtain ⟨_, _, ⟨T59, L59, k59, n59⟩, -, X59, ⟨Lc59, hQ59, l59, y59, z59⟩, st59⟩ := X57.specialBack hx (y := (⟨"com/example/propagule/propagule/flatzinc/Expr$IntSet", "<init>", "(II[II)V"⟩ : MethodName)) rfl hown (mvT hZ (hw _ (List.mem_of_getElem? (i := 12) rfl))) (mvT hZ (hw _ (List.mem_of_getElem? (i := 13) rfl))) (mvT hZ (hw _ (List.mem_of_getElem? (i := 14) rfl))) (by decide) (backOf (W := 1) (own_rmini1 l Z a0 hw [] b57 x0 x1 b55 ((x5.toUInt32 >>> ((1 : Int32) &&& 31).toUInt32).toInt32) h57 n0 Z57 A57 F_min_b57 F_max_b57 F_values_b57 F_line_b57 gz57) hZ (hw _ (List.mem_of_getElem? (i := 14) rfl)) (hw _ (List.mem_of_getElem? (i := 11) rfl)) (by decide) (by decide)) (g := (mkF m 124 #[.val (.int x0), .val (.int x1), .val (.int x2), .val (.int x3), .val (.int x4), .val (.int x5), .val (.int (1 : Int32)), .val (.int ((x5.toUInt32 >>> ((1 : Int32) &&& 31).toUInt32).toInt32)), .val (.ref b55), .val (.int (1 : Int32)), .unset, .unset] [(.int ((x5.toUInt32 >>> ((1 : Int32) &&& 31).toUInt32).toInt32)), (.ref b55), (.int x1), (.int x0), (.ref b57), (.ref b57)])) rfl (by rw [hml]; rfl) (Steps.refl _) (a := b57) (argsL := [(.int x0), (.int x1), (.ref b55), (.int ((x5.toUInt32 >>> ((1 : Int32) &&& 31).toUInt32).toInt32))]) (rest := [(.ref b57)]) (lenOf own_pd2 rfl) rfl (by show 2 * 0 + _ ≤ _; exact Nat.le_of_eq rfl) (hb hby at_124) (fun _ _ => ⟨rfl, e57, (show cells + 1 + 1 + 0 ≤ 16 by omega), (show slots + 1 + 4 + 0 ≤ 128 by omega)⟩)
    dsimp only [Pt.U, Pt.locs, Pt.cells, Pt.slots] at X59 l59 y59 z59 st59 hQ59
    rw [l59, y59, z59] at X59
    obtain ⟨rfl, N59q, K59q, f59_0, f59_1, f59_2, f59_3⟩ := hQ59
    obtain ⟨h59, e59⟩ : ∃ z, T59.heap = z := ⟨_, rfl⟩
    rw [e59] at K59q f59_0 f59_1 f59_2 f59_3
    have Z59 : n0 ≤ h59.size := Nat.le_trans Z57 K59q.1
    have N59 := Fr.app N56 N59q
    refine own_st (g' := (mkF m 127 #[.val (.int x0), .val (.int x1), .val (.int x2), .val (.int x3), .val (.int x4), .val (.int x5), .val (.int (1 : Int32)), .val (.int ((x5.toUInt32 >>> ((1 : Int32) &&& 31).toUInt32).toInt32)), .val (.ref b55), .val (.int (1 : Int32)), .unset, .unset] [(.ref b57)])) (fun t k => st59.trans k) ?_
    refine own_st (g' := (mkF m 129 #[.val (.int x0), .val (.int x1), .val (.int x2), .val (.int x3), .val (.int x4), .val (.int x5), .val (.int (1 : Int32)), .val (.int ((x5.toUInt32 >>> ((1 : Int32) &&& 31).toUInt32).toInt32)), .val (.ref b55), .val (.int (1 : Int32)), .val (.ref b57), .unset] [])) (fun tt_ kk_ => XS.astore X59.here hx rfl (hb hby at_127) rfl rfl (l' := #[.val (.int x0), .val (.int x1), .val (.int x2), .val (.int x3), .val (.int x4), .val (.int x5), .val (.int (1 : Int32)), .val (.int ((x5.toUInt32 >>> ((1 : Int32) &&& 31).toUInt32).toInt32)), .val (.ref b55), .val (.int (1 : Int32)), .val (.ref b57), .unset]) rfl kk_) ?_
    refine own_st (g' := (mkF m 131 #[.val (.int x0), .val (.int x1), .val (.int x2), .val (.int x3), .val (.int x4), .val (.int x5), .val (.int (1 : Int32)), .val (.int ((x5.toUInt32 >>> ((1 : Int32) &&& 31).toUInt32).toInt32)), .val (.ref b55), .val (.int (1 : Int32)), .val (.ref b57), .unset] [(.int (1 : Int32))])) (fun tt_ kk_ => XS.iload X59.here hx rfl (hb hby at_129) rfl kk_) ?_
    refine own_st (g' := (mkF m 134 #[.val (.int x0), .val (.int x1), .val (.int x2), .val (.int x3), .val (.int x4), .val (.int x5), .val (.int (1 : Int32)), .val (.int ((x5.toUInt32 >>> ((1 : Int32) &&& 31).toUInt32).toInt32)), .val (.ref b55), .val (.int (1 : Int32)), .val (.ref b57), .unset] [])) (fun tt_ kk_ => XS.ifNo X59.here hx rfl (hb hby at_131) rfl ((if0 _ _).trans (feq (by decide : ¬ ((1 : Int32) = (0 : Int32)))).1) kk_) ?_
    refine own_st (g' := (mkF m 136 #[.val (.int x0), .val (.int x1), .val (.int x2), .val (.int x3), .val (.int x4), .val (.int x5), .val (.int (1 : Int32)), .val (.int ((x5.toUInt32 >>> ((1 : Int32) &&& 31).toUInt32).toInt32)), .val (.ref b55), .val (.int (1 : Int32)), .val (.ref b57), .unset] [(.int (1 : Int32))])) (fun tt_ kk_ => XS.iload X59.here hx rfl (hb hby at_134) rfl kk_) ?_
    refine own_st (g' := (mkF m 143 #[.val (.int x0), .val (.int x1), .val (.int x2), .val (.int x3), .val (.int x4), .val (.int x5), .val (.int (1 : Int32)), .val (.int ((x5.toUInt32 >>> ((1 : Int32) &&& 31).toUInt32).toInt32)), .val (.ref b55), .val (.int (1 : Int32)), .val (.ref b57), .unset] [])) (fun tt_ kk_ => XS.ifYes X59.here hx rfl (pc0 := 136) (pc' := 143) rfl (hb hby at_136) rfl ((if0 _ _).trans (feq (by decide : ¬ ((1 : Int32) = (0 : Int32)))).2) (by decide) (by decide) kk_) ?_
    refine own_st (g' := (mkF m 144 #[.val (.int x0), .val (.int x1), .val (.int x2), .val (.int x3), .val (.int x4), .val (.int x5), .val (.int (1 : Int32)), .val (.int ((x5.toUInt32 >>> ((1 : Int32) &&& 31).toUInt32).toInt32)), .val (.ref b55), .val (.int (1 : Int32)), .val (.ref b57), .unset] [(.int (0 : Int32))])) (fun tt_ kk_ => XS.iconst X59.here hx rfl (hb hby at_143) kk_) ?_
    refine own_st (g' := (mkF m 162 #[.val (.int x0), .val (.int x1), .val (.int x2), .val (.int x3), .val (.int x4), .val (.int x5), .val (.int (1 : Int32)), .val (.int ((x5.toUInt32 >>> ((1 : Int32) &&& 31).toUInt32).toInt32)), .val (.ref b55), .val (.int (1 : Int32)), .val (.ref b57), .unset] [(.int (0 : Int32))])) (fun tt_ kk_ => XS.goto X59.here hx rfl (pc0 := 144) (pc' := 162) rfl (hb hby at_144) (by decide) (by decide) kk_) ?_
    refine own_st (g' := (mkF m 164 #[.val (.int x0), .val (.int x1), .val (.int x2), .val (.int x3), .val (.int x4), .val (.int x5), .val (.int (1 : Int32)), .val (.int ((x5.toUInt32 >>> ((1 : Int32) &&& 31).toUInt32).toInt32)), .val (.ref b55), .val (.int (1 : Int32)), .val (.ref b57), .val (.int (0 : Int32))] [])) (fun tt_ kk_ => XS.istore X59.here hx rfl (hb hby at_162) rfl (l' := #[.val (.int x0), .val (.int x1), .val (.int x2), .val (.int x3), .val (.int x4), .val (.int x5), .val (.int (1 : Int32)), .val (.int ((x5.toUInt32 >>> ((1 : Int32) &&& 31).toUInt32).toInt32)), .val (.ref b55), .val (.int (1 : Int32)), .val (.ref b57), .val (.int (0 : Int32))]) rfl kk_) ?_
    refine own_st (g' := (mkF m 166 #[.val (.int x0), .val (.int x1), .val (.int x2), .val (.int x3), .val (.int x4), .val (.int x5), .val (.int (1 : Int32)), .val (.int ((x5.toUInt32 >>> ((1 : Int32) &&& 31).toUInt32).toInt32)), .val (.ref b55), .val (.int (1 : Int32)), .val (.ref b57), .val (.int (0 : Int32))] [(.ref b57)])) (fun tt_ kk_ => XS.aload X59.here hx rfl (hb hby at_164) rfl rfl kk_) ?_
    have F60 := ((V56.ext E57).keep K59q (ninS ne58 nin0))
    obtain ⟨cq61, kq61, q61a, q61b, q61c⟩ := isOf hZ e59 f59_0
    obtain ⟨_, _, ⟨T61, L61, k61, n61⟩, -, X61, ⟨Lc61, hQ61, l61, y61, z61⟩, st61⟩ := X59.virtualBack hx (y := (⟨"com/example/propagule/propagule/flatzinc/Expr$IntSet", "isEmpty", "()Z"⟩ : MethodName)) (z := (⟨"com/example/propagule/propagule/flatzinc/Expr$IntSet", "isEmpty", "()Z"⟩ : MethodName)) hown (mvT hZ (hw _ (List.mem_of_getElem? (i := 31) rfl))) (mvT hZ (hw _ (List.mem_of_getElem? (i := 32) rfl))) (notFace_of_selects (args := #[]) (mvT hZ (hw _ (List.mem_of_getElem? (i := 34) rfl)))) (mvT hZ (hw _ (List.mem_of_getElem? (i := 34) rfl))) (mvT hZ (hw _ (List.mem_of_getElem? (i := 33) rfl))) (by decide) (backOf (W := 0) (own_rmemp1 l Z a0 hw [] b57 b55 k55 (1 : Int32) [(.int x3)] (.int (0 : Int32)) h59 n0 Z59 f59_3 F60) hZ (hw _ (List.mem_of_getElem? (i := 35) rfl)) (hw _ (List.mem_of_getElem? (i := 11) rfl)) (by decide) (by decide)) q61a q61c (g := (mkF m 166 #[.val (.int x0), .val (.int x1), .val (.int x2), .val (.int x3), .val (.int x4), .val (.int x5), .val (.int (1 : Int32)), .val (.int ((x5.toUInt32 >>> ((1 : Int32) &&& 31).toUInt32).toInt32)), .val (.ref b55), .val (.int (1 : Int32)), .val (.ref b57), .val (.int (0 : Int32))] [(.ref b57)])) rfl (by rw [hml]; rfl) (Steps.refl _) (argsL := []) (rest := []) (lenOf own_pd3 rfl) rfl (by show 2 * 0 + _ ≤ _; exact Nat.le_of_eq rfl) (hb hby at_166) (fun _ _ => ⟨rfl, e59, (show cells + 1 + 1 + 0 ≤ 16 by omega), (show slots + 1 + 4 + 0 ≤ 128 by omega)⟩)
    dsimp only [Pt.U, Pt.locs, Pt.cells, Pt.slots] at X61 l61 y61 z61 st61 hQ61
    rw [l61, y61, z61] at X61
    obtain ⟨rfl, N61q, e61⟩ := hQ61
    have N61 := Fr.app N59 N61q
    refine own_st (g' := (mkF m 169 #[.val (.int x0), .val (.int x1), .val (.int x2), .val (.int x3), .val (.int x4), .val (.int x5), .val (.int (1 : Int32)), .val (.int ((x5.toUInt32 >>> ((1 : Int32) &&& 31).toUInt32).toInt32)), .val (.ref b55), .val (.int (1 : Int32)), .val (.ref b57), .val (.int (0 : Int32))] [(.int (own_z (1 : Int32)))])) (fun t k => st61.trans k) ?_
    refine own_st (g' := (mkF m 171 #[.val (.int x0), .val (.int x1), .val (.int x2), .val (.int x3), .val (.int x4), .val (.int x5), .val (.int (1 : Int32)), .val (.int ((x5.toUInt32 >>> ((1 : Int32) &&& 31).toUInt32).toInt32)), .val (.ref b55), .val (.int (1 : Int32)), .val (.ref b57), .val (.int (0 : Int32))] [(.int (0 : Int32)), (.int (own_z (1 : Int32)))])) (fun tt_ kk_ => XS.iload X61.here hx rfl (hb hby at_169) rfl kk_) ?_
    refine own_st (g' := (mkF m 174 #[.val (.int x0), .val (.int x1), .val (.int x2), .val (.int x3), .val (.int x4), .val (.int x5), .val (.int (1 : Int32)), .val (.int ((x5.toUInt32 >>> ((1 : Int32) &&& 31).toUInt32).toInt32)), .val (.ref b55), .val (.int (1 : Int32)), .val (.ref b57), .val (.int (0 : Int32))] [])) (fun tt_ kk_ => XS.icmpNo X61.here hx rfl (hb hby at_171) rfl (teq (by decide)).2 kk_) ?_
    refine own_st (g' := (mkF m 175 #[.val (.int x0), .val (.int x1), .val (.int x2), .val (.int x3), .val (.int x4), .val (.int x5), .val (.int (1 : Int32)), .val (.int ((x5.toUInt32 >>> ((1 : Int32) &&& 31).toUInt32).toInt32)), .val (.ref b55), .val (.int (1 : Int32)), .val (.ref b57), .val (.int (0 : Int32))] [(.int (1 : Int32))])) (fun tt_ kk_ => XS.iconst X61.here hx rfl (hb hby at_174) kk_) ?_
    refine own_st (g' := (mkF m 179 #[.val (.int x0), .val (.int x1), .val (.int x2), .val (.int x3), .val (.int x4), .val (.int x5), .val (.int (1 : Int32)), .val (.int ((x5.toUInt32 >>> ((1 : Int32) &&& 31).toUInt32).toInt32)), .val (.ref b55), .val (.int (1 : Int32)), .val (.ref b57), .val (.int (0 : Int32))] [(.int (1 : Int32))])) (fun tt_ kk_ => XS.goto X61.here hx rfl (pc0 := 175) (pc' := 179) rfl (hb hby at_175) (by decide) (by decide) kk_) ?_
    exact own_retN X61 hx hlk (t := .boolean) (Or.inl rfl) hret (hb hby at_179) (by omega) (by omega) ⟨rfl, N61⟩
  refine own_st (g' := (mkF m 91 #[.val (.int x0), .val (.int x1), .val (.int x2), .val (.int x3), .val (.int x4), .val (.int x5), .val (.int (1 : Int32)), .val (.int ((x5.toUInt32 >>> ((1 : Int32) &&& 31).toUInt32).toInt32)), .val .null, .val (.int ((x2 &&& (2147483647 : Int32)) % (3 : Int32))), .unset, .unset] [])) (fun tt_ kk_ => XS.icmpYes X0.here hx rfl (pc0 := 73) (pc' := 91) rfl (hb hby at_73) rfl (feq hc73).2 (by decide) (by decide) kk_) ?_
  refine own_st (g' := (mkF m 92 #[.val (.int x0), .val (.int x1), .val (.int x2), .val (.int x3), .val (.int x4), .val (.int x5), .val (.int (1 : Int32)), .val (.int ((x5.toUInt32 >>> ((1 : Int32) &&& 31).toUInt32).toInt32)), .val .null, .val (.int ((x2 &&& (2147483647 : Int32)) % (3 : Int32))), .unset, .unset] [(.int (2 : Int32))])) (fun tt_ kk_ => XS.iconst X0.here hx rfl (hb hby at_91) kk_) ?_
  obtain ⟨T62, h62, k62, X62, e62, E62, A62, st62⟩ := newP X0 hx hZ (hw _ (List.mem_of_getElem? (i := 1) rfl)) e0 (g := (mkF m 92 #[.val (.int x0), .val (.int x1), .val (.int x2), .val (.int x3), .val (.int x4), .val (.int x5), .val (.int (1 : Int32)), .val (.int ((x5.toUInt32 >>> ((1 : Int32) &&& 31).toUInt32).toInt32)), .val .null, .val (.int ((x2 &&& (2147483647 : Int32)) % (3 : Int32))), .unset, .unset] [(.int (2 : Int32))])) rfl (hb hby at_92) rfl (by decide) (cap := 2) (by decide) (by decide) (show cells + 1 ≤ 16 by omega) (show slots + 2 ≤ 128 by omega)
  obtain ⟨b62, g62⟩ : ∃ z, z = h0.size := ⟨_, rfl⟩
  rw [← g62] at A62 st62
  have gz62 : n0 ≤ b62 := Nat.le_trans Z0 (Nat.le_of_eq g62.symm)
  have Z62 : n0 ≤ h62.size := Nat.le_trans Z0 E62.1
  have V62 : Arv Z h62 b62 k62 .int (2 : Int32) [(.int (0 : Int32)), (.int (0 : Int32))] (.int (0 : Int32)) := (Arv.new A62 (by decide)).pad (pad_rep [] (.int (0 : Int32)) 2)
  refine own_st (g' := (mkF m 94 #[.val (.int x0), .val (.int x1), .val (.int x2), .val (.int x3), .val (.int x4), .val (.int x5), .val (.int (1 : Int32)), .val (.int ((x5.toUInt32 >>> ((1 : Int32) &&& 31).toUInt32).toInt32)), .val .null, .val (.int ((x2 &&& (2147483647 : Int32)) % (3 : Int32))), .unset, .unset] [(.ref b62)])) st62 ?_
  refine own_st (g' := (mkF m 95 #[.val (.int x0), .val (.int x1), .val (.int x2), .val (.int x3), .val (.int x4), .val (.int x5), .val (.int (1 : Int32)), .val (.int ((x5.toUInt32 >>> ((1 : Int32) &&& 31).toUInt32).toInt32)), .val .null, .val (.int ((x2 &&& (2147483647 : Int32)) % (3 : Int32))), .unset, .unset] [(.ref b62), (.ref b62)])) (fun tt_ kk_ => XS.dup X62.here hx rfl (hb hby at_94) rfl rfl kk_) ?_
  refine own_st (g' := (mkF m 96 #[.val (.int x0), .val (.int x1), .val (.int x2), .val (.int x3), .val (.int x4), .val (.int x5), .val (.int (1 : Int32)), .val (.int ((x5.toUInt32 >>> ((1 : Int32) &&& 31).toUInt32).toInt32)), .val .null, .val (.int ((x2 &&& (2147483647 : Int32)) % (3 : Int32))), .unset, .unset] [(.int (0 : Int32)), (.ref b62), (.ref b62)])) (fun tt_ kk_ => XS.iconst X62.here hx rfl (hb hby at_95) kk_) ?_
  refine own_st (g' := (mkF m 97 #[.val (.int x0), .val (.int x1), .val (.int x2), .val (.int x3), .val (.int x4), .val (.int x5), .val (.int (1 : Int32)), .val (.int ((x5.toUInt32 >>> ((1 : Int32) &&& 31).toUInt32).toInt32)), .val .null, .val (.int ((x2 &&& (2147483647 : Int32)) % (3 : Int32))), .unset, .unset] [(.int x3), (.int (0 : Int32)), (.ref b62), (.ref b62)])) (fun tt_ kk_ => XS.iloadN X62.here hx rfl (hb hby at_96) rfl kk_) ?_
  refine own_st (g' := (mkF m 99 #[.val (.int x0), .val (.int x1), .val (.int x2), .val (.int x3), .val (.int x4), .val (.int x5), .val (.int (1 : Int32)), .val (.int ((x5.toUInt32 >>> ((1 : Int32) &&& 31).toUInt32).toInt32)), .val .null, .val (.int ((x2 &&& (2147483647 : Int32)) % (3 : Int32))), .unset, .unset] [(.int x4), (.int x3), (.int (0 : Int32)), (.ref b62), (.ref b62)])) (fun tt_ kk_ => XS.iload X62.here hx rfl (hb hby at_97) rfl kk_) ?_
  obtain ⟨_, _, ⟨T63, L63, k63, n63⟩, -, X63, ⟨Lc63, hQ63, l63, y63, z63⟩, st63⟩ := Jvm.LawKit.callS X62 hx (y := (⟨"java/lang/Math", "min", "(II)I"⟩ : MethodName)) hown (mvT hZ (hw _ (List.mem_of_getElem? (i := 2) rfl))) (mvT hZ (hw _ (List.mem_of_getElem? (i := 3) rfl))) (mvT hZ (hw _ (List.mem_of_getElem? (i := 4) rfl))) (mvT hZ (hw _ (List.mem_of_getElem? (i := 5) rfl))) (by decide) (backOf (W := 3) (own_rm1 l Z a0 hw [] x3 x4 h62 n0) hZ (hw _ (List.mem_of_getElem? (i := 5) rfl)) (hw _ (List.mem_of_getElem? (i := 4) rfl)) (by decide) (by decide)) (g := (mkF m 99 #[.val (.int x0), .val (.int x1), .val (.int x2), .val (.int x3), .val (.int x4), .val (.int x5), .val (.int (1 : Int32)), .val (.int ((x5.toUInt32 >>> ((1 : Int32) &&& 31).toUInt32).toInt32)), .val .null, .val (.int ((x2 &&& (2147483647 : Int32)) % (3 : Int32))), .unset, .unset] [(.int x4), (.int x3), (.int (0 : Int32)), (.ref b62), (.ref b62)])) rfl (by rw [hml]; rfl) (argsL := [(.int x3), (.int x4)]) (rest := [(.int (0 : Int32)), (.ref b62), (.ref b62)]) (lenOf own_pd1 rfl) rfl (by show 2 * 0 + _ ≤ _; exact Nat.le_of_eq rfl) (hb hby at_99) (fun _ _ => ⟨rfl, e62, (show cells + 1 + 0 ≤ 16 by omega), (show slots + 2 + 0 ≤ 128 by omega)⟩)
  dsimp only [Pt.U, Pt.locs, Pt.cells, Pt.slots] at X63 l63 y63 z63 st63 hQ63
  rw [l63, y63, z63] at X63
  obtain ⟨rfl, N63q, e63⟩ := hQ63
  have N63 := Fr.app N0 N63q
  refine own_st (g' := (mkF m 102 #[.val (.int x0), .val (.int x1), .val (.int x2), .val (.int x3), .val (.int x4), .val (.int x5), .val (.int (1 : Int32)), .val (.int ((x5.toUInt32 >>> ((1 : Int32) &&& 31).toUInt32).toInt32)), .val .null, .val (.int ((x2 &&& (2147483647 : Int32)) % (3 : Int32))), .unset, .unset] [(.int (own_f1_0 x3 x4)), (.int (0 : Int32)), (.ref b62), (.ref b62)])) st63 ?_
  obtain ⟨c64, A64, q64, S64, M64, H64, G64⟩ := V62
  have i64 : ¬ ((0 : Int32) < 0 ∨ c64.slots.size ≤ ((0 : Int32)).toNatClampNeg) := inb_of S64 ⟨by decide, by decide⟩
  obtain ⟨T64, h64, X64, e64, W64, st64⟩ := stI X63 hx hZ e63 A64 (j := (0 : Int32)) i64 (g := (mkF m 102 #[.val (.int x0), .val (.int x1), .val (.int x2), .val (.int x3), .val (.int x4), .val (.int x5), .val (.int (1 : Int32)), .val (.int ((x5.toUInt32 >>> ((1 : Int32) &&& 31).toUInt32).toInt32)), .val .null, .val (.int ((x2 &&& (2147483647 : Int32)) % (3 : Int32))), .unset, .unset] [(.int (own_f1_0 x3 x4)), (.int (0 : Int32)), (.ref b62), (.ref b62)])) rfl rfl (hb hby at_102)
  have N64 := Fr.snoc X64 N63 gz62
  have Z64 : n0 ≤ h64.size := Nat.le_trans Z62 (Keep.of_wr W64).1
  have V64 : Arv Z h64 b62 k62 .int (2 : Int32) [(.int (own_f1_0 x3 x4)), (.int (0 : Int32))] (.int (0 : Int32)) := Arv.set A64 q64 S64 M64 H64 G64 rfl W64 0 rfl (Nat.le_of_ble_eq_true rfl)
  refine own_st (g' := (mkF m 103 #[.val (.int x0), .val (.int x1), .val (.int x2), .val (.int x3), .val (.int x4), .val (.int x5), .val (.int (1 : Int32)), .val (.int ((x5.toUInt32 >>> ((1 : Int32) &&& 31).toUInt32).toInt32)), .val .null, .val (.int ((x2 &&& (2147483647 : Int32)) % (3 : Int32))), .unset, .unset] [(.ref b62)])) st64 ?_
  refine own_st (g' := (mkF m 104 #[.val (.int x0), .val (.int x1), .val (.int x2), .val (.int x3), .val (.int x4), .val (.int x5), .val (.int (1 : Int32)), .val (.int ((x5.toUInt32 >>> ((1 : Int32) &&& 31).toUInt32).toInt32)), .val .null, .val (.int ((x2 &&& (2147483647 : Int32)) % (3 : Int32))), .unset, .unset] [(.ref b62), (.ref b62)])) (fun tt_ kk_ => XS.dup X64.here hx rfl (hb hby at_103) rfl rfl kk_) ?_
  refine own_st (g' := (mkF m 105 #[.val (.int x0), .val (.int x1), .val (.int x2), .val (.int x3), .val (.int x4), .val (.int x5), .val (.int (1 : Int32)), .val (.int ((x5.toUInt32 >>> ((1 : Int32) &&& 31).toUInt32).toInt32)), .val .null, .val (.int ((x2 &&& (2147483647 : Int32)) % (3 : Int32))), .unset, .unset] [(.int (1 : Int32)), (.ref b62), (.ref b62)])) (fun tt_ kk_ => XS.iconst X64.here hx rfl (hb hby at_104) kk_) ?_
  refine own_st (g' := (mkF m 106 #[.val (.int x0), .val (.int x1), .val (.int x2), .val (.int x3), .val (.int x4), .val (.int x5), .val (.int (1 : Int32)), .val (.int ((x5.toUInt32 >>> ((1 : Int32) &&& 31).toUInt32).toInt32)), .val .null, .val (.int ((x2 &&& (2147483647 : Int32)) % (3 : Int32))), .unset, .unset] [(.int x3), (.int (1 : Int32)), (.ref b62), (.ref b62)])) (fun tt_ kk_ => XS.iloadN X64.here hx rfl (hb hby at_105) rfl kk_) ?_
  refine own_st (g' := (mkF m 108 #[.val (.int x0), .val (.int x1), .val (.int x2), .val (.int x3), .val (.int x4), .val (.int x5), .val (.int (1 : Int32)), .val (.int ((x5.toUInt32 >>> ((1 : Int32) &&& 31).toUInt32).toInt32)), .val .null, .val (.int ((x2 &&& (2147483647 : Int32)) % (3 : Int32))), .unset, .unset] [(.int x4), (.int x3), (.int (1 : Int32)), (.ref b62), (.ref b62)])) (fun tt_ kk_ => XS.iload X64.here hx rfl (hb hby at_106) rfl kk_) ?_
  obtain ⟨_, _, ⟨T65, L65, k65, n65⟩, -, X65, ⟨Lc65, hQ65, l65, y65, z65⟩, st65⟩ := Jvm.LawKit.callS X64 hx (y := (⟨"java/lang/Math", "max", "(II)I"⟩ : MethodName)) hown (mvT hZ (hw _ (List.mem_of_getElem? (i := 6) rfl))) (mvT hZ (hw _ (List.mem_of_getElem? (i := 7) rfl))) (mvT hZ (hw _ (List.mem_of_getElem? (i := 4) rfl))) (mvT hZ (hw _ (List.mem_of_getElem? (i := 8) rfl))) (by decide) (backOf (W := 3) (own_rm2 l Z a0 hw [] x3 x4 h64 n0) hZ (hw _ (List.mem_of_getElem? (i := 8) rfl)) (hw _ (List.mem_of_getElem? (i := 4) rfl)) (by decide) (by decide)) (g := (mkF m 108 #[.val (.int x0), .val (.int x1), .val (.int x2), .val (.int x3), .val (.int x4), .val (.int x5), .val (.int (1 : Int32)), .val (.int ((x5.toUInt32 >>> ((1 : Int32) &&& 31).toUInt32).toInt32)), .val .null, .val (.int ((x2 &&& (2147483647 : Int32)) % (3 : Int32))), .unset, .unset] [(.int x4), (.int x3), (.int (1 : Int32)), (.ref b62), (.ref b62)])) rfl (by rw [hml]; rfl) (argsL := [(.int x3), (.int x4)]) (rest := [(.int (1 : Int32)), (.ref b62), (.ref b62)]) (lenOf own_pd1 rfl) rfl (by show 2 * 0 + _ ≤ _; exact Nat.le_of_eq rfl) (hb hby at_108) (fun _ _ => ⟨rfl, e64, (show cells + 1 + 0 ≤ 16 by omega), (show slots + 2 + 0 ≤ 128 by omega)⟩)
  dsimp only [Pt.U, Pt.locs, Pt.cells, Pt.slots] at X65 l65 y65 z65 st65 hQ65
  rw [l65, y65, z65] at X65
  obtain ⟨rfl, N65q, e65⟩ := hQ65
  have N65 := Fr.app N64 N65q
  refine own_st (g' := (mkF m 111 #[.val (.int x0), .val (.int x1), .val (.int x2), .val (.int x3), .val (.int x4), .val (.int x5), .val (.int (1 : Int32)), .val (.int ((x5.toUInt32 >>> ((1 : Int32) &&& 31).toUInt32).toInt32)), .val .null, .val (.int ((x2 &&& (2147483647 : Int32)) % (3 : Int32))), .unset, .unset] [(.int (own_f2_0 x3 x4)), (.int (1 : Int32)), (.ref b62), (.ref b62)])) st65 ?_
  obtain ⟨c66, A66, q66, S66, M66, H66, G66⟩ := V64
  have i66 : ¬ ((1 : Int32) < 0 ∨ c66.slots.size ≤ ((1 : Int32)).toNatClampNeg) := inb_of S66 ⟨by decide, by decide⟩
  obtain ⟨T66, h66, X66, e66, W66, st66⟩ := stI X65 hx hZ e65 A66 (j := (1 : Int32)) i66 (g := (mkF m 111 #[.val (.int x0), .val (.int x1), .val (.int x2), .val (.int x3), .val (.int x4), .val (.int x5), .val (.int (1 : Int32)), .val (.int ((x5.toUInt32 >>> ((1 : Int32) &&& 31).toUInt32).toInt32)), .val .null, .val (.int ((x2 &&& (2147483647 : Int32)) % (3 : Int32))), .unset, .unset] [(.int (own_f2_0 x3 x4)), (.int (1 : Int32)), (.ref b62), (.ref b62)])) rfl rfl (hb hby at_111)
  have N66 := Fr.snoc X66 N65 gz62
  have Z66 : n0 ≤ h66.size := Nat.le_trans Z64 (Keep.of_wr W66).1
  have V66 : Arv Z h66 b62 k62 .int (2 : Int32) [(.int (own_f1_0 x3 x4)), (.int (own_f2_0 x3 x4))] (.int (0 : Int32)) := Arv.set A66 q66 S66 M66 H66 G66 rfl W66 1 rfl (Nat.le_of_ble_eq_true rfl)
  refine own_st (g' := (mkF m 112 #[.val (.int x0), .val (.int x1), .val (.int x2), .val (.int x3), .val (.int x4), .val (.int x5), .val (.int (1 : Int32)), .val (.int ((x5.toUInt32 >>> ((1 : Int32) &&& 31).toUInt32).toInt32)), .val .null, .val (.int ((x2 &&& (2147483647 : Int32)) % (3 : Int32))), .unset, .unset] [(.ref b62)])) st66 ?_
  refine own_st (g' := (mkF m 114 #[.val (.int x0), .val (.int x1), .val (.int x2), .val (.int x3), .val (.int x4), .val (.int x5), .val (.int (1 : Int32)), .val (.int ((x5.toUInt32 >>> ((1 : Int32) &&& 31).toUInt32).toInt32)), .val (.ref b62), .val (.int ((x2 &&& (2147483647 : Int32)) % (3 : Int32))), .unset, .unset] [])) (fun tt_ kk_ => XS.astore X66.here hx rfl (hb hby at_112) rfl rfl (l' := #[.val (.int x0), .val (.int x1), .val (.int x2), .val (.int x3), .val (.int x4), .val (.int x5), .val (.int (1 : Int32)), .val (.int ((x5.toUInt32 >>> ((1 : Int32) &&& 31).toUInt32).toInt32)), .val (.ref b62), .val (.int ((x2 &&& (2147483647 : Int32)) % (3 : Int32))), .unset, .unset]) rfl kk_) ?_
  obtain ⟨T67, h67, X67, e67, E67, A67, D67, -, st67⟩ := newO X66 hx hZ hown (hw _ (List.mem_of_getElem? (i := 9) rfl)) (hw _ (List.mem_of_getElem? (i := 10) rfl)) (hw _ (List.mem_of_getElem? (i := 11) rfl)) e66 (g := (mkF m 114 #[.val (.int x0), .val (.int x1), .val (.int x2), .val (.int x3), .val (.int x4), .val (.int x5), .val (.int (1 : Int32)), .val (.int ((x5.toUInt32 >>> ((1 : Int32) &&& 31).toUInt32).toInt32)), .val (.ref b62), .val (.int ((x2 &&& (2147483647 : Int32)) % (3 : Int32))), .unset, .unset] [])) rfl (hb hby at_114) (show cells + 1 + 1 ≤ 16 by omega) (show slots + 2 + 4 ≤ 128 by omega)
  obtain ⟨b67, g67⟩ : ∃ z, z = h66.size := ⟨_, rfl⟩
  rw [← g67] at A67 D67 st67
  have ne68 : b62 ≠ b67 := Nat.ne_of_lt (Nat.lt_of_lt_of_le V66.lt (Nat.le_of_eq g67.symm))
  have gz67 : n0 ≤ b67 := Nat.le_trans Z66 (Nat.le_of_eq g67.symm)
  have Z67 : n0 ≤ h67.size := Nat.le_trans Z66 E67.1
  have F_min_b67 : Fld Z h67 b67 "com/example/propagule/propagule/flatzinc/Expr$IntSet" "min" "I" (.int (0 : Int32)) := D67 (Or.inr (hw _ (List.mem_of_getElem? (i := 24) rfl))) (ty := .int) (by decide)
  have F_max_b67 : Fld Z h67 b67 "com/example/propagule/propagule/flatzinc/Expr$IntSet" "max" "I" (.int (0 : Int32)) := D67 (Or.inr (hw _ (List.mem_of_getElem? (i := 26) rfl))) (ty := .int) (by decide)
  have F_values_b67 : Fld Z h67 b67 "com/example/propagule/propagule/flatzinc/Expr$IntSet" "values" "[I" .null := D67 (Or.inr (hw _ (List.mem_of_getElem? (i := 28) rfl))) (ty := (.array .int)) (by decide)
  have F_line_b67 : Fld Z h67 b67 "com/example/propagule/propagule/flatzinc/Expr$IntSet" "line" "I" (.int (0 : Int32)) := D67 (Or.inr (hw _ (List.mem_of_getElem? (i := 30) rfl))) (ty := .int) (by decide)
  refine own_st (g' := (mkF m 117 #[.val (.int x0), .val (.int x1), .val (.int x2), .val (.int x3), .val (.int x4), .val (.int x5), .val (.int (1 : Int32)), .val (.int ((x5.toUInt32 >>> ((1 : Int32) &&& 31).toUInt32).toInt32)), .val (.ref b62), .val (.int ((x2 &&& (2147483647 : Int32)) % (3 : Int32))), .unset, .unset] [(.ref b67)])) st67 ?_
  refine own_st (g' := (mkF m 118 #[.val (.int x0), .val (.int x1), .val (.int x2), .val (.int x3), .val (.int x4), .val (.int x5), .val (.int (1 : Int32)), .val (.int ((x5.toUInt32 >>> ((1 : Int32) &&& 31).toUInt32).toInt32)), .val (.ref b62), .val (.int ((x2 &&& (2147483647 : Int32)) % (3 : Int32))), .unset, .unset] [(.ref b67), (.ref b67)])) (fun tt_ kk_ => XS.dup X67.here hx rfl (hb hby at_117) rfl rfl kk_) ?_
  refine own_st (g' := (mkF m 119 #[.val (.int x0), .val (.int x1), .val (.int x2), .val (.int x3), .val (.int x4), .val (.int x5), .val (.int (1 : Int32)), .val (.int ((x5.toUInt32 >>> ((1 : Int32) &&& 31).toUInt32).toInt32)), .val (.ref b62), .val (.int ((x2 &&& (2147483647 : Int32)) % (3 : Int32))), .unset, .unset] [(.int x0), (.ref b67), (.ref b67)])) (fun tt_ kk_ => XS.iloadN X67.here hx rfl (hb hby at_118) rfl kk_) ?_
  refine own_st (g' := (mkF m 120 #[.val (.int x0), .val (.int x1), .val (.int x2), .val (.int x3), .val (.int x4), .val (.int x5), .val (.int (1 : Int32)), .val (.int ((x5.toUInt32 >>> ((1 : Int32) &&& 31).toUInt32).toInt32)), .val (.ref b62), .val (.int ((x2 &&& (2147483647 : Int32)) % (3 : Int32))), .unset, .unset] [(.int x1), (.int x0), (.ref b67), (.ref b67)])) (fun tt_ kk_ => XS.iloadN X67.here hx rfl (hb hby at_119) rfl kk_) ?_
  refine own_st (g' := (mkF m 122 #[.val (.int x0), .val (.int x1), .val (.int x2), .val (.int x3), .val (.int x4), .val (.int x5), .val (.int (1 : Int32)), .val (.int ((x5.toUInt32 >>> ((1 : Int32) &&& 31).toUInt32).toInt32)), .val (.ref b62), .val (.int ((x2 &&& (2147483647 : Int32)) % (3 : Int32))), .unset, .unset] [(.ref b62), (.int x1), (.int x0), (.ref b67), (.ref b67)])) (fun tt_ kk_ => XS.aload X67.here hx rfl (hb hby at_120) rfl rfl kk_) ?_
  refine own_st (g' := (mkF m 124 #[.val (.int x0), .val (.int x1), .val (.int x2), .val (.int x3), .val (.int x4), .val (.int x5), .val (.int (1 : Int32)), .val (.int ((x5.toUInt32 >>> ((1 : Int32) &&& 31).toUInt32).toInt32)), .val (.ref b62), .val (.int ((x2 &&& (2147483647 : Int32)) % (3 : Int32))), .unset, .unset] [(.int ((x5.toUInt32 >>> ((1 : Int32) &&& 31).toUInt32).toInt32)), (.ref b62), (.int x1), (.int x0), (.ref b67), (.ref b67)])) (fun tt_ kk_ => XS.iload X67.here hx rfl (hb hby at_122) rfl kk_) ?_
  obtain ⟨_, _, ⟨T69, L69, k69, n69⟩, -, X69, ⟨Lc69, hQ69, l69, y69, z69⟩, st69⟩ := X67.specialBack hx (y := (⟨"com/example/propagule/propagule/flatzinc/Expr$IntSet", "<init>", "(II[II)V"⟩ : MethodName)) rfl hown (mvT hZ (hw _ (List.mem_of_getElem? (i := 12) rfl))) (mvT hZ (hw _ (List.mem_of_getElem? (i := 13) rfl))) (mvT hZ (hw _ (List.mem_of_getElem? (i := 14) rfl))) (by decide) (backOf (W := 1) (own_rmini1 l Z a0 hw [] b67 x0 x1 b62 ((x5.toUInt32 >>> ((1 : Int32) &&& 31).toUInt32).toInt32) h67 n0 Z67 A67 F_min_b67 F_max_b67 F_values_b67 F_line_b67 gz67) hZ (hw _ (List.mem_of_getElem? (i := 14) rfl)) (hw _ (List.mem_of_getElem? (i := 11) rfl)) (by decide) (by decide)) (g := (mkF m 124 #[.val (.int x0), .val (.int x1), .val (.int x2), .val (.int x3), .val (.int x4), .val (.int x5), .val (.int (1 : Int32)), .val (.int ((x5.toUInt32 >>> ((1 : Int32) &&& 31).toUInt32).toInt32)), .val (.ref b62), .val (.int ((x2 &&& (2147483647 : Int32)) % (3 : Int32))), .unset, .unset] [(.int ((x5.toUInt32 >>> ((1 : Int32) &&& 31).toUInt32).toInt32)), (.ref b62), (.int x1), (.int x0), (.ref b67), (.ref b67)])) rfl (by rw [hml]; rfl) (Steps.refl _) (a := b67) (argsL := [(.int x0), (.int x1), (.ref b62), (.int ((x5.toUInt32 >>> ((1 : Int32) &&& 31).toUInt32).toInt32))]) (rest := [(.ref b67)]) (lenOf own_pd2 rfl) rfl (by show 2 * 0 + _ ≤ _; exact Nat.le_of_eq rfl) (hb hby at_124) (fun _ _ => ⟨rfl, e67, (show cells + 1 + 1 + 0 ≤ 16 by omega), (show slots + 2 + 4 + 0 ≤ 128 by omega)⟩)
  dsimp only [Pt.U, Pt.locs, Pt.cells, Pt.slots] at X69 l69 y69 z69 st69 hQ69
  rw [l69, y69, z69] at X69
  obtain ⟨rfl, N69q, K69q, f69_0, f69_1, f69_2, f69_3⟩ := hQ69
  obtain ⟨h69, e69⟩ : ∃ z, T69.heap = z := ⟨_, rfl⟩
  rw [e69] at K69q f69_0 f69_1 f69_2 f69_3
  have Z69 : n0 ≤ h69.size := Nat.le_trans Z67 K69q.1
  have N69 := Fr.app N66 N69q
  refine own_st (g' := (mkF m 127 #[.val (.int x0), .val (.int x1), .val (.int x2), .val (.int x3), .val (.int x4), .val (.int x5), .val (.int (1 : Int32)), .val (.int ((x5.toUInt32 >>> ((1 : Int32) &&& 31).toUInt32).toInt32)), .val (.ref b62), .val (.int ((x2 &&& (2147483647 : Int32)) % (3 : Int32))), .unset, .unset] [(.ref b67)])) (fun t k => st69.trans k) ?_
  refine own_st (g' := (mkF m 129 #[.val (.int x0), .val (.int x1), .val (.int x2), .val (.int x3), .val (.int x4), .val (.int x5), .val (.int (1 : Int32)), .val (.int ((x5.toUInt32 >>> ((1 : Int32) &&& 31).toUInt32).toInt32)), .val (.ref b62), .val (.int ((x2 &&& (2147483647 : Int32)) % (3 : Int32))), .val (.ref b67), .unset] [])) (fun tt_ kk_ => XS.astore X69.here hx rfl (hb hby at_127) rfl rfl (l' := #[.val (.int x0), .val (.int x1), .val (.int x2), .val (.int x3), .val (.int x4), .val (.int x5), .val (.int (1 : Int32)), .val (.int ((x5.toUInt32 >>> ((1 : Int32) &&& 31).toUInt32).toInt32)), .val (.ref b62), .val (.int ((x2 &&& (2147483647 : Int32)) % (3 : Int32))), .val (.ref b67), .unset]) rfl kk_) ?_
  refine own_st (g' := (mkF m 131 #[.val (.int x0), .val (.int x1), .val (.int x2), .val (.int x3), .val (.int x4), .val (.int x5), .val (.int (1 : Int32)), .val (.int ((x5.toUInt32 >>> ((1 : Int32) &&& 31).toUInt32).toInt32)), .val (.ref b62), .val (.int ((x2 &&& (2147483647 : Int32)) % (3 : Int32))), .val (.ref b67), .unset] [(.int (1 : Int32))])) (fun tt_ kk_ => XS.iload X69.here hx rfl (hb hby at_129) rfl kk_) ?_
  refine own_st (g' := (mkF m 134 #[.val (.int x0), .val (.int x1), .val (.int x2), .val (.int x3), .val (.int x4), .val (.int x5), .val (.int (1 : Int32)), .val (.int ((x5.toUInt32 >>> ((1 : Int32) &&& 31).toUInt32).toInt32)), .val (.ref b62), .val (.int ((x2 &&& (2147483647 : Int32)) % (3 : Int32))), .val (.ref b67), .unset] [])) (fun tt_ kk_ => XS.ifNo X69.here hx rfl (hb hby at_131) rfl ((if0 _ _).trans (feq (by decide : ¬ ((1 : Int32) = (0 : Int32)))).1) kk_) ?_
  refine own_st (g' := (mkF m 136 #[.val (.int x0), .val (.int x1), .val (.int x2), .val (.int x3), .val (.int x4), .val (.int x5), .val (.int (1 : Int32)), .val (.int ((x5.toUInt32 >>> ((1 : Int32) &&& 31).toUInt32).toInt32)), .val (.ref b62), .val (.int ((x2 &&& (2147483647 : Int32)) % (3 : Int32))), .val (.ref b67), .unset] [(.int ((x2 &&& (2147483647 : Int32)) % (3 : Int32)))])) (fun tt_ kk_ => XS.iload X69.here hx rfl (hb hby at_134) rfl kk_) ?_
  refine own_st (g' := (mkF m 143 #[.val (.int x0), .val (.int x1), .val (.int x2), .val (.int x3), .val (.int x4), .val (.int x5), .val (.int (1 : Int32)), .val (.int ((x5.toUInt32 >>> ((1 : Int32) &&& 31).toUInt32).toInt32)), .val (.ref b62), .val (.int ((x2 &&& (2147483647 : Int32)) % (3 : Int32))), .val (.ref b67), .unset] [])) (fun tt_ kk_ => XS.ifYes X69.here hx rfl (pc0 := 136) (pc' := 143) rfl (hb hby at_136) rfl ((if0 _ _).trans (feq hc41).2) (by decide) (by decide) kk_) ?_
  refine own_st (g' := (mkF m 144 #[.val (.int x0), .val (.int x1), .val (.int x2), .val (.int x3), .val (.int x4), .val (.int x5), .val (.int (1 : Int32)), .val (.int ((x5.toUInt32 >>> ((1 : Int32) &&& 31).toUInt32).toInt32)), .val (.ref b62), .val (.int ((x2 &&& (2147483647 : Int32)) % (3 : Int32))), .val (.ref b67), .unset] [(.int (0 : Int32))])) (fun tt_ kk_ => XS.iconst X69.here hx rfl (hb hby at_143) kk_) ?_
  refine own_st (g' := (mkF m 162 #[.val (.int x0), .val (.int x1), .val (.int x2), .val (.int x3), .val (.int x4), .val (.int x5), .val (.int (1 : Int32)), .val (.int ((x5.toUInt32 >>> ((1 : Int32) &&& 31).toUInt32).toInt32)), .val (.ref b62), .val (.int ((x2 &&& (2147483647 : Int32)) % (3 : Int32))), .val (.ref b67), .unset] [(.int (0 : Int32))])) (fun tt_ kk_ => XS.goto X69.here hx rfl (pc0 := 144) (pc' := 162) rfl (hb hby at_144) (by decide) (by decide) kk_) ?_
  refine own_st (g' := (mkF m 164 #[.val (.int x0), .val (.int x1), .val (.int x2), .val (.int x3), .val (.int x4), .val (.int x5), .val (.int (1 : Int32)), .val (.int ((x5.toUInt32 >>> ((1 : Int32) &&& 31).toUInt32).toInt32)), .val (.ref b62), .val (.int ((x2 &&& (2147483647 : Int32)) % (3 : Int32))), .val (.ref b67), .val (.int (0 : Int32))] [])) (fun tt_ kk_ => XS.istore X69.here hx rfl (hb hby at_162) rfl (l' := #[.val (.int x0), .val (.int x1), .val (.int x2), .val (.int x3), .val (.int x4), .val (.int x5), .val (.int (1 : Int32)), .val (.int ((x5.toUInt32 >>> ((1 : Int32) &&& 31).toUInt32).toInt32)), .val (.ref b62), .val (.int ((x2 &&& (2147483647 : Int32)) % (3 : Int32))), .val (.ref b67), .val (.int (0 : Int32))]) rfl kk_) ?_
  refine own_st (g' := (mkF m 166 #[.val (.int x0), .val (.int x1), .val (.int x2), .val (.int x3), .val (.int x4), .val (.int x5), .val (.int (1 : Int32)), .val (.int ((x5.toUInt32 >>> ((1 : Int32) &&& 31).toUInt32).toInt32)), .val (.ref b62), .val (.int ((x2 &&& (2147483647 : Int32)) % (3 : Int32))), .val (.ref b67), .val (.int (0 : Int32))] [(.ref b67)])) (fun tt_ kk_ => XS.aload X69.here hx rfl (hb hby at_164) rfl rfl kk_) ?_
  have F70 := ((V66.ext E67).keep K69q (ninS ne68 nin0))
  obtain ⟨cq71, kq71, q71a, q71b, q71c⟩ := isOf hZ e69 f69_0
  obtain ⟨_, _, ⟨T71, L71, k71, n71⟩, -, X71, ⟨Lc71, hQ71, l71, y71, z71⟩, st71⟩ := X69.virtualBack hx (y := (⟨"com/example/propagule/propagule/flatzinc/Expr$IntSet", "isEmpty", "()Z"⟩ : MethodName)) (z := (⟨"com/example/propagule/propagule/flatzinc/Expr$IntSet", "isEmpty", "()Z"⟩ : MethodName)) hown (mvT hZ (hw _ (List.mem_of_getElem? (i := 31) rfl))) (mvT hZ (hw _ (List.mem_of_getElem? (i := 32) rfl))) (notFace_of_selects (args := #[]) (mvT hZ (hw _ (List.mem_of_getElem? (i := 34) rfl)))) (mvT hZ (hw _ (List.mem_of_getElem? (i := 34) rfl))) (mvT hZ (hw _ (List.mem_of_getElem? (i := 33) rfl))) (by decide) (backOf (W := 0) (own_rmemp1 l Z a0 hw [] b67 b62 k62 (2 : Int32) [(.int (own_f1_0 x3 x4)), (.int (own_f2_0 x3 x4))] (.int (0 : Int32)) h69 n0 Z69 f69_3 F70) hZ (hw _ (List.mem_of_getElem? (i := 35) rfl)) (hw _ (List.mem_of_getElem? (i := 11) rfl)) (by decide) (by decide)) q71a q71c (g := (mkF m 166 #[.val (.int x0), .val (.int x1), .val (.int x2), .val (.int x3), .val (.int x4), .val (.int x5), .val (.int (1 : Int32)), .val (.int ((x5.toUInt32 >>> ((1 : Int32) &&& 31).toUInt32).toInt32)), .val (.ref b62), .val (.int ((x2 &&& (2147483647 : Int32)) % (3 : Int32))), .val (.ref b67), .val (.int (0 : Int32))] [(.ref b67)])) rfl (by rw [hml]; rfl) (Steps.refl _) (argsL := []) (rest := []) (lenOf own_pd3 rfl) rfl (by show 2 * 0 + _ ≤ _; exact Nat.le_of_eq rfl) (hb hby at_166) (fun _ _ => ⟨rfl, e69, (show cells + 1 + 1 + 0 ≤ 16 by omega), (show slots + 2 + 4 + 0 ≤ 128 by omega)⟩)
  dsimp only [Pt.U, Pt.locs, Pt.cells, Pt.slots] at X71 l71 y71 z71 st71 hQ71
  rw [l71, y71, z71] at X71
  obtain ⟨rfl, N71q, e71⟩ := hQ71
  have N71 := Fr.app N69 N71q
  refine own_st (g' := (mkF m 169 #[.val (.int x0), .val (.int x1), .val (.int x2), .val (.int x3), .val (.int x4), .val (.int x5), .val (.int (1 : Int32)), .val (.int ((x5.toUInt32 >>> ((1 : Int32) &&& 31).toUInt32).toInt32)), .val (.ref b62), .val (.int ((x2 &&& (2147483647 : Int32)) % (3 : Int32))), .val (.ref b67), .val (.int (0 : Int32))] [(.int (own_z (2 : Int32)))])) (fun t k => st71.trans k) ?_
  refine own_st (g' := (mkF m 171 #[.val (.int x0), .val (.int x1), .val (.int x2), .val (.int x3), .val (.int x4), .val (.int x5), .val (.int (1 : Int32)), .val (.int ((x5.toUInt32 >>> ((1 : Int32) &&& 31).toUInt32).toInt32)), .val (.ref b62), .val (.int ((x2 &&& (2147483647 : Int32)) % (3 : Int32))), .val (.ref b67), .val (.int (0 : Int32))] [(.int (0 : Int32)), (.int (own_z (2 : Int32)))])) (fun tt_ kk_ => XS.iload X71.here hx rfl (hb hby at_169) rfl kk_) ?_
  refine own_st (g' := (mkF m 174 #[.val (.int x0), .val (.int x1), .val (.int x2), .val (.int x3), .val (.int x4), .val (.int x5), .val (.int (1 : Int32)), .val (.int ((x5.toUInt32 >>> ((1 : Int32) &&& 31).toUInt32).toInt32)), .val (.ref b62), .val (.int ((x2 &&& (2147483647 : Int32)) % (3 : Int32))), .val (.ref b67), .val (.int (0 : Int32))] [])) (fun tt_ kk_ => XS.icmpNo X71.here hx rfl (hb hby at_171) rfl (teq (by decide)).2 kk_) ?_
  refine own_st (g' := (mkF m 175 #[.val (.int x0), .val (.int x1), .val (.int x2), .val (.int x3), .val (.int x4), .val (.int x5), .val (.int (1 : Int32)), .val (.int ((x5.toUInt32 >>> ((1 : Int32) &&& 31).toUInt32).toInt32)), .val (.ref b62), .val (.int ((x2 &&& (2147483647 : Int32)) % (3 : Int32))), .val (.ref b67), .val (.int (0 : Int32))] [(.int (1 : Int32))])) (fun tt_ kk_ => XS.iconst X71.here hx rfl (hb hby at_174) kk_) ?_
  refine own_st (g' := (mkF m 179 #[.val (.int x0), .val (.int x1), .val (.int x2), .val (.int x3), .val (.int x4), .val (.int x5), .val (.int (1 : Int32)), .val (.int ((x5.toUInt32 >>> ((1 : Int32) &&& 31).toUInt32).toInt32)), .val (.ref b62), .val (.int ((x2 &&& (2147483647 : Int32)) % (3 : Int32))), .val (.ref b67), .val (.int (0 : Int32))] [(.int (1 : Int32))])) (fun tt_ kk_ => XS.goto X71.here hx rfl (pc0 := 175) (pc' := 179) rfl (hb hby at_175) (by decide) (by decide) kk_) ?_
  exact own_retN X71 hx hlk (t := .boolean) (Or.inl rfl) hret (hb hby at_179) (by omega) (by omega) ⟨rfl, N71⟩
theorem own_ef0 (m : MethodId) (x0 : Int32) (x1 : Int32) (x2 : Int32) (x3 : Int32) (x4 : Int32) (x5 : Int32) : entryFrame m #[(.int x0), (.int x1), (.int x2), (.int x3), (.int x4), (.int x5)] maxLocals = mkF m 0 #[.val (.int x0), .val (.int x1), .val (.int x2), .val (.int x3), .val (.int x4), .val (.int x5), .unset, .unset, .unset, .unset, .unset, .unset] [] := by first | (simp [entryFrame, mkF, argsToLocals, Value.category, maxLocals]; done) | rfl
set_option maxRecDepth 65536 in
set_option maxHeartbeats 4000000 in
theorem own_rm0 (l : Launch) (Z : State) (a0 : Array Value) (hw : ∀ d ∈ tables_1, d.before a0 Z = true) (ws : List Jvm.Cond) (x0 : Int32) (x1 : Int32) (x2 : Int32) (x3 : Int32) (x4 : Int32) (x5 : Int32) (h0 : Heap) (n0 : Nat) (Z0 : n0 ≤ h0.size) :
    MetFree l x (head1 (Jvm.Cond.code x code maxLocals ret :: ws) room_1) (fun aa UU => aa = #[(.int x0), (.int x1), (.int x2), (.int x3), (.int x4), (.int x5)] ∧ Z.Warmed39 UU.vm ∧ UU.heap = h0) (fun _ _ _ _ _ => True) (fun _ U o U' => ∃ v L, o = .returned v ∧ own_Q0 n0 v U'.heap L ∧ FrameEnd U o U' L 16 128) := by
  refine MetFree.of_bodySF (plainFor_of_name own_pn2) hisR ?_
  intro p e s m args below meth c s₁ Bd hml0 hP hK
  obtain ⟨rfl, hZ, hh⟩ := hP
  have X0 : Stand p l e room_1 s m #[(.int x0), (.int x1), (.int x2), (.int x3), (.int x4), (.int x5)] below meth c s₁ [] 0 0 := Stand.of_body Bd
  have e0 : s₁.heap = h0 := by rw [← hh, Bd.state]; rfl
  refine own_cast (own_ef0 m x0 x1 x2 x3 x4 x5) ?_
  exact own_t0 X0 Bd.exec Bd.notSynchronized Bd.bytes hml0 Bd.returns (findClass_of_methodNamed Bd.named) hZ hw e0 (Fr.nil n0) Z0 (by decide) (by decide) x0 x1 x2 x3 x4 x5
set_option maxRecDepth 65536 in
set_option maxHeartbeats 4000000 in
theorem own_comes_1 {Post : Tables → Env → Array Value → State → Outcome → State → Prop} (hpost : ∀ tb e args s v u, (limb_1_1.after args s (.returned v) u = true ∧ limb_1_2.after args s (.returned v) u = true ∧ True) → FrameEnd s (.returned v) u (Jvm.fieldLocs frame_1_writes args s ++ Jvm.arrayLocs frame_1_arrays args s ++ Jvm.staticLocs frame_1_statics s) 16 128 → Post tb e args s (.returned v) u) :
    ArmFor flags0 classFile x code maxLocals ret World_1 tables_1 room_1 Calls_1 rest_1 Pre_1 Post := by
  intro l hfl _ _ p e ha hc hk s m args below hf hA hF happ hP
  obtain ⟨hcalls, hrest, hpre⟩ := hP
  obtain ⟨-, -, -, hnamed, -, -, -, hat⟩ := (Spec.applies_iff hf).mp happ
  obtain ⟨hg, hn⟩ := and_e (Cond.before_iff.mp (show (Jvm.Cond.and given_1 narrow_1).before args s = true from hpre))
  obtain ⟨gg1, gg2⟩ := and_e hg
  obtain ⟨gg3, gg4⟩ := and_e gg2
  obtain ⟨gg5, gg6⟩ := and_e gg4
  obtain ⟨gg7, gg8⟩ := and_e gg6
  obtain ⟨gg9, gg10⟩ := and_e gg8
  obtain ⟨gg11, gg12⟩ := and_e gg10
  obtain ⟨w0, w1, w2, w3, w4, w5, rfl⟩ : ∃ w0 w1 w2 w3 w4 w5 : Value, args = #[w0, w1, w2, w3, w4, w5] := by
    have hs : args.size = 6 := by simpa [Cond.value, given_1] using gg1
    obtain ⟨L⟩ := args
    match L, hs with
    | [w0, w1, w2, w3, w4, w5], _ => exact ⟨w0, w1, w2, w3, w4, w5, rfl⟩
  have hw := fun d (hd : d ∈ tables_1) => atoms_spec (ws := Jvm.Cond.code x code maxLocals ret :: tables_1) hat d (List.mem_cons_of_mem _ hd)
  have hfit : Fit s := fun {y c} hc i hi => by
    obtain ⟨ha, rfl⟩ := Array.getElem?_eq_some_iff.mp hc
    have q := List.all_eq_true.mp ((Array.all_eq_true_iff_forall_mem.mp hF) _ (Array.getElem_mem ha)) i (List.mem_range.mpr hi)
    simpa [Array.getElem?_eq_getElem hi] using q
  obtain ⟨i0, ei0⟩ := is_v gg3
  obtain rfl : w0 = (.int i0) := Option.some.inj ei0
  obtain ⟨i1, ei1⟩ := is_v gg5
  obtain rfl : w1 = (.int i1) := Option.some.inj ei1
  obtain ⟨i2, ei2⟩ := is_v gg7
  obtain rfl : w2 = (.int i2) := Option.some.inj ei2
  obtain ⟨i3, ei3⟩ := is_v gg9
  obtain rfl : w3 = (.int i3) := Option.some.inj ei3
  obtain ⟨i4, ei4⟩ := is_v gg11
  obtain rfl : w4 = (.int i4) := Option.some.inj ei4
  obtain ⟨i5, ei5⟩ := is_v gg12
  obtain rfl : w5 = (.int i5) := Option.some.inj ei5
  obtain ⟨n, o, h1, h2, h3, _, L, rfl, ⟨rfl, N⟩, hq⟩ := own_rm0 l s _ hw tables_1 i0 i1 i2 i3 i4 i5 s.heap s.heap.size (Nat.le_refl _) p e ha hc hk s m _ below hf ((Spec.applies_iff_loose hf).mp happ).1 ⟨rfl, State.Warmed39.refl s, rfl⟩ trivial
  refine ⟨n, _, h1, h2, h3, hpost _ _ _ _ _ _ ⟨Cond.after_iff.mpr rfl, Cond.after_iff.mpr (eq_i res_at (Term.int_eval (1)) rfl), trivial⟩ ⟨hq.1, hq.2.1, (hq.2.2.sift fun y hy => Or.inr (N y hy)).mono (by decide) (by decide)⟩⟩
theorem main_1_1 : Claimed_1_1 := own_comes_1 fun _ _ _ _ _ _ h hF => ⟨h.1, hF⟩
theorem main_1_2 : Claimed_1_2 := own_comes_1 fun _ _ _ _ _ _ h hF => ⟨h.2.1, hF⟩
end Jvm.Pilot.@@N@@
namespace Jvm.Pilot.@@N@@
open Jvm Jvm.ClassFile Sem Op Lib Jvm.Free Jvm.Stand Jvm.Pilot.@@N@@.Jvm.D
/-! MADE BY PROGRAM (witnessworld.py) out of the Statement's table words and the real class files: 12 classes; the members and pool entries that the words name. The judged class is class 1, her method 1. -/
namespace start1
open Jvm.ClassFile
def u (s : String) : CpInfo := .utf8 (stringToUtf16 s)
/-- a pool by its gaps: so many unusable entries, then the entry; so many at the end -/
def gap : Nat → List CpInfo → List CpInfo
  | 0, r => r
  | n + 1, r => .unusable :: gap n r
def poolList (es : List (Nat × CpInfo)) (last : Nat) : List CpInfo := es.foldr (fun e r => gap e.1 (e.2 :: r)) (gap last [])
def pool (es : List (Nat × CpInfo)) (last : Nat) : Array CpInfo := ⟨poolList es last⟩
def fileOf (pool : Array CpInfo) (this : Nat) (attrs : Array Attribute := #[]) (ms : Array MethodInfo := #[]) (fl : Nat := 33) (sup : Nat := 0) (ifs : Array Nat := #[]) (fds : Array FieldInfo := #[]) : ClassFile where
  minorVersion := 0
  majorVersion := 65
  constantPool := pool
  accessFlags := fl
  thisClass := this
  superClass := sup
  interfaces := ifs
  fields := fds
  methods := ms
  attributes := attrs
def plain (name : String) (sup : Option ClassId) : Class where
  name := name
  kind := .ordinary
  loader := none
  accessFlags := 33
  super := sup
  interfaces := #[]
  cf := none
  fields := #[]
  methods := #[]
  instanceTypes := #[]
  staticTypes := #[]
  resolved := #[]
  callSites := []
  init := .initialized
  statics := none
  mirror := none

def pool0 : Array CpInfo := pool [(5, u "<init>"), (0, u "()V"), (1, .class_ 10), (1, u "java/lang/Object")] 113

def k0c0 : Code := { maxStack := 0, maxLocals := 1, code := object_method_1_code, exceptionTable := #[], attributes := #[] }
def k0m0 : Method := { name := "<init>", desc := "()V", sig := { parameters := [], returnType := none }, accessFlags := 1, code := some k0c0 }
/-- java/lang/Object -/
def k0 : Class := { plain "java/lang/Object" none with
  accessFlags := 33
  interfaces := #[]
  cf := some (fileOf pool0 8 #[] #[{ accessFlags := 1, nameIndex := 5, descriptorIndex := 6, attributes := #[] }] 33 0 #[] #[])
  fields := #[]
  methods := #[k0m0]
  instanceTypes := #[]
  staticTypes := #[]
  resolved := Array.replicate 124 none
  statics := none }

def pool1 : Array CpInfo := pool [(2, .class_ 4), (1, u "java/lang/Object"), (0, u "<init>"), (0, u "()V"), (0, .integer 2147483647), (0, .methodref 9 10), (0, .class_ 11), (0, .nameAndType 12 13), (0, u "java/lang/Math"), (0, u "min"), (0, u "(II)I"), (0, .methodref 9 15), (0, .nameAndType 16 13), (0, u "max"), (0, .class_ 18), (0, u "com/example/propagule/propagule/flatzinc/Expr$IntSet"), (0, .methodref 17 20), (0, .nameAndType 5 21), (0, u "(II[II)V"), (0, .methodref 17 23), (0, .nameAndType 24 25), (0, u "isEmpty"), (0, u "()Z"), (0, .class_ 27), (0, u "com/example/propagule/propagule/flatzinc/IntSetIsEmptyPinLaw"), (2, u "law"), (0, u "(IIIIII)Z")] 9

def k1m0 : Method := { name := "<init>", desc := "()V", sig := { parameters := [], returnType := none }, accessFlags := 1, code := none }
def k1c1 : Code := { maxStack := 6, maxLocals := 12, code := code, exceptionTable := #[], attributes := #[] }
def k1m1 : Method := { name := "law", desc := "(IIIIII)Z", sig := { parameters := [.int, .int, .int, .int, .int, .int], returnType := some .boolean }, accessFlags := 9, code := some k1c1 }
/-- com/example/propagule/propagule/flatzinc/IntSetIsEmptyPinLaw -/
def k1 : Class := { plain "com/example/propagule/propagule/flatzinc/IntSetIsEmptyPinLaw" (some 0) with
  accessFlags := 49
  interfaces := #[]
  cf := some (fileOf pool1 26 #[] #[{ accessFlags := 1, nameIndex := 5, descriptorIndex := 6, attributes := #[] }, { accessFlags := 9, nameIndex := 30, descriptorIndex := 31, attributes := #[] }] 49 2 #[] #[])
  fields := #[]
  methods := #[k1m0, k1m1]
  instanceTypes := #[]
  staticTypes := #[]
  resolved := Array.replicate 41 none
  statics := none }

def pool2 : Array CpInfo := pool [(1, .class_ 2), (0, u "java/lang/Math"), (1, .class_ 6), (1, u "java/lang/Object"), (0, u "<init>"), (0, u "()V"), (89, .class_ 100), (1, u "java/lang/Math$RandomNumberGeneratorHolder"), (71, u "negativeZeroFloatBits"), (0, u "J"), (2, u "negativeZeroDoubleBits"), (21, u "max"), (2, u "min"), (43, u "$assertionsDisabled"), (0, u "Z"), (88, u "(II)I"), (2, u "twoToTheDoubleScaleDown"), (0, u "D"), (4, u "twoToTheDoubleScaleUp"), (9, u "E"), (3, u "PI"), (2, u "TAU"), (2, u "DEGREES_TO_RADIANS"), (0, u "RADIANS_TO_DEGREES")] 94

def k2m0 : Method := { name := "<init>", desc := "()V", sig := { parameters := [], returnType := none }, accessFlags := 2, code := none }
def k2c1 : Code := { maxStack := 2, maxLocals := 2, code := jdk_29_method_65_code, exceptionTable := #[], attributes := #[] }
def k2m1 : Method := { name := "max", desc := "(II)I", sig := { parameters := [.int, .int], returnType := some .int }, accessFlags := 9, code := some k2c1 }
def k2c2 : Code := { maxStack := 2, maxLocals := 2, code := jdk_29_method_69_code, exceptionTable := #[], attributes := #[] }
def k2m2 : Method := { name := "min", desc := "(II)I", sig := { parameters := [.int, .int], returnType := some .int }, accessFlags := 9, code := some k2c2 }
/-- java/lang/Math -/
def k2 : Class := { plain "java/lang/Math" (some 0) with
  accessFlags := 49
  interfaces := #[]
  cf := some (fileOf pool2 1 #[.nestMembers #[98]] #[{ accessFlags := 2, nameIndex := 7, descriptorIndex := 8, attributes := #[] }, { accessFlags := 9, nameIndex := 198, descriptorIndex := 335, attributes := #[] }, { accessFlags := 9, nameIndex := 201, descriptorIndex := 335, attributes := #[] }] 49 4 #[] #[{ accessFlags := 25, nameIndex := 354, descriptorIndex := 339, attributes := #[] }, { accessFlags := 25, nameIndex := 358, descriptorIndex := 339, attributes := #[] }, { accessFlags := 25, nameIndex := 361, descriptorIndex := 339, attributes := #[] }, { accessFlags := 26, nameIndex := 364, descriptorIndex := 339, attributes := #[] }, { accessFlags := 26, nameIndex := 365, descriptorIndex := 339, attributes := #[] }, { accessFlags := 26, nameIndex := 172, descriptorIndex := 173, attributes := #[] }, { accessFlags := 26, nameIndex := 176, descriptorIndex := 173, attributes := #[] }, { accessFlags := 8, nameIndex := 344, descriptorIndex := 339, attributes := #[] }, { accessFlags := 8, nameIndex := 338, descriptorIndex := 339, attributes := #[] }, { accessFlags := 4120, nameIndex := 245, descriptorIndex := 246, attributes := #[] }])
  fields := #[{ name := "E", type := .double, accessFlags := 25, slot := 0, constantValue := 0 }, { name := "PI", type := .double, accessFlags := 25, slot := 1, constantValue := 0 }, { name := "TAU", type := .double, accessFlags := 25, slot := 2, constantValue := 0 }, { name := "DEGREES_TO_RADIANS", type := .double, accessFlags := 26, slot := 3, constantValue := 0 }, { name := "RADIANS_TO_DEGREES", type := .double, accessFlags := 26, slot := 4, constantValue := 0 }, { name := "negativeZeroFloatBits", type := .long, accessFlags := 26, slot := 5, constantValue := 0 }, { name := "negativeZeroDoubleBits", type := .long, accessFlags := 26, slot := 6, constantValue := 0 }, { name := "twoToTheDoubleScaleUp", type := .double, accessFlags := 8, slot := 7, constantValue := 0 }, { name := "twoToTheDoubleScaleDown", type := .double, accessFlags := 8, slot := 8, constantValue := 0 }, { name := "$assertionsDisabled", type := .boolean, accessFlags := 4120, slot := 9, constantValue := 0 }]
  methods := #[k2m0, k2m1, k2m2]
  instanceTypes := #[]
  staticTypes := #[.double, .double, .double, .double, .double, .long, .long, .double, .double, .boolean]
  resolved := Array.replicate 460 none
  statics := none }

def pool3 : Array CpInfo := pool [(1, .methodref 2 3), (0, .class_ 4), (0, .nameAndType 5 6), (0, u "java/lang/Object"), (0, u "<init>"), (0, u "()V"), (0, .class_ 8), (0, u "java/lang/Record")] 13

def k3c0 : Code := { maxStack := 1, maxLocals := 1, code := jdk_30_method_1_code, exceptionTable := #[], attributes := #[] }
def k3m0 : Method := { name := "<init>", desc := "()V", sig := { parameters := [], returnType := none }, accessFlags := 4, code := some k3c0 }
/-- java/lang/Record -/
def k3 : Class := { plain "java/lang/Record" (some 0) with
  accessFlags := 1057
  interfaces := #[]
  cf := some (fileOf pool3 7 #[] #[{ accessFlags := 4, nameIndex := 5, descriptorIndex := 6, attributes := #[] }] 1057 2 #[] #[])
  fields := #[]
  methods := #[k3m0]
  instanceTypes := #[]
  staticTypes := #[]
  resolved := Array.replicate 22 none
  statics := none }

def pool4 : Array CpInfo := pool [(1, .class_ 2), (0, u "com/example/propagule/propagule/flatzinc/Expr"), (0, .class_ 4), (0, u "java/lang/Object"), (7, .class_ 13), (0, u "com/example/propagule/propagule/flatzinc/Expr$Call"), (0, .class_ 15), (0, u "com/example/propagule/propagule/flatzinc/Expr$Array"), (0, .class_ 17), (0, u "com/example/propagule/propagule/flatzinc/Expr$Element"), (0, .class_ 19), (0, u "com/example/propagule/propagule/flatzinc/Expr$Name"), (0, .class_ 21), (0, u "com/example/propagule/propagule/flatzinc/Expr$IntSet"), (0, .class_ 23), (0, u "com/example/propagule/propagule/flatzinc/Expr$Text"), (0, .class_ 25), (0, u "com/example/propagule/propagule/flatzinc/Expr$Decimal"), (0, .class_ 27), (0, u "com/example/propagule/propagule/flatzinc/Expr$Bool"), (0, .class_ 29), (0, u "com/example/propagule/propagule/flatzinc/Expr$Int")] 11

/-- com/example/propagule/propagule/flatzinc/Expr -/
def k4 : Class := { plain "com/example/propagule/propagule/flatzinc/Expr" (some 0) with
  accessFlags := 1536
  interfaces := #[]
  cf := some (fileOf pool4 1 #[.nestMembers #[12, 14, 16, 18, 20, 22, 24, 26, 28]] #[] 1536 3 #[] #[])
  fields := #[]
  methods := #[]
  instanceTypes := #[]
  staticTypes := #[]
  resolved := Array.replicate 41 none
  statics := none }

def pool5 : Array CpInfo := pool [(1, .methodref 2 3), (0, .class_ 4), (0, .nameAndType 5 6), (0, u "java/lang/Record"), (0, u "<init>"), (0, u "()V"), (0, .fieldref 8 9), (0, .class_ 10), (0, .nameAndType 11 12), (0, u "com/example/propagule/propagule/flatzinc/Expr$IntSet"), (0, u "min"), (0, u "I"), (0, .fieldref 8 14), (0, .nameAndType 15 12), (0, u "max"), (0, .fieldref 8 17), (0, .nameAndType 18 19), (0, u "values"), (0, u "[I"), (0, .fieldref 8 21), (0, .nameAndType 22 12), (0, u "line"), (18, .class_ 42), (0, u "com/example/propagule/propagule/flatzinc/Expr"), (0, u "(II[II)V"), (3, u "isEmpty"), (0, u "()Z")] 41

def k5c0 : Code := { maxStack := 2, maxLocals := 5, code := prog_93_method_1_code, exceptionTable := #[], attributes := #[] }
def k5m0 : Method := { name := "<init>", desc := "(II[II)V", sig := { parameters := [.int, .int, (.array .int), .int], returnType := none }, accessFlags := 1, code := some k5c0 }
def k5c1 : Code := { maxStack := 2, maxLocals := 1, code := prog_93_method_2_code, exceptionTable := #[], attributes := #[] }
def k5m1 : Method := { name := "isEmpty", desc := "()Z", sig := { parameters := [], returnType := some .boolean }, accessFlags := 0, code := some k5c1 }
/-- com/example/propagule/propagule/flatzinc/Expr$IntSet -/
def k5 : Class := { plain "com/example/propagule/propagule/flatzinc/Expr$IntSet" (some 3) with
  accessFlags := 49
  interfaces := #[4]
  cf := some (fileOf pool5 8 #[.nestHost 41] #[{ accessFlags := 1, nameIndex := 5, descriptorIndex := 43, attributes := #[] }, { accessFlags := 0, nameIndex := 47, descriptorIndex := 48, attributes := #[] }] 49 2 #[41] #[{ accessFlags := 18, nameIndex := 11, descriptorIndex := 12, attributes := #[] }, { accessFlags := 18, nameIndex := 15, descriptorIndex := 12, attributes := #[] }, { accessFlags := 18, nameIndex := 18, descriptorIndex := 19, attributes := #[] }, { accessFlags := 18, nameIndex := 22, descriptorIndex := 12, attributes := #[] }])
  fields := #[{ name := "min", type := .int, accessFlags := 18, slot := 0, constantValue := 0 }, { name := "max", type := .int, accessFlags := 18, slot := 1, constantValue := 0 }, { name := "values", type := (.array .int), accessFlags := 18, slot := 2, constantValue := 0 }, { name := "line", type := .int, accessFlags := 18, slot := 3, constantValue := 0 }]
  methods := #[k5m0, k5m1]
  instanceTypes := #[.int, .int, (.array .int), .int]
  staticTypes := #[]
  resolved := Array.replicate 90 none
  statics := none }

def pool6 : Array CpInfo := pool [(1, u "java/lang/Cloneable"), (0, .class_ 1), (0, u "java/lang/Object"), (0, .class_ 3)] 3

/-- java/lang/Cloneable -/
def k6 : Class := { plain "java/lang/Cloneable" (some 0) with
  accessFlags := 1537
  interfaces := #[]
  cf := some (fileOf pool6 2 #[] #[] 1537 4 #[] #[])
  fields := #[]
  methods := #[]
  instanceTypes := #[]
  staticTypes := #[]
  resolved := Array.replicate 8 none
  statics := none }

def pool7 : Array CpInfo := pool [(1, u "java/io/Serializable"), (0, .class_ 1), (0, u "java/lang/Object"), (0, .class_ 3)] 3

/-- java/io/Serializable -/
def k7 : Class := { plain "java/io/Serializable" (some 0) with
  accessFlags := 1537
  interfaces := #[]
  cf := some (fileOf pool7 2 #[] #[] 1537 4 #[] #[])
  fields := #[]
  methods := #[]
  instanceTypes := #[]
  staticTypes := #[]
  resolved := Array.replicate 8 none
  statics := none }

/-- the primitive byte -/
def k8 : Class := { plain "byte" none with kind := .primitive 'B', accessFlags := 0x411 }
/-- [B -/
def k9 : Class := { plain "[B" (some 0) with kind := .array 8 .byte, interfaces := #[6, 7], accessFlags := 1041 }

/-- the primitive int -/
def k10 : Class := { plain "int" none with kind := .primitive 'I', accessFlags := 0x411 }
/-- [I -/
def k11 : Class := { plain "[I" (some 0) with kind := .array 10 .int, interfaces := #[6, 7], accessFlags := 1041 }

def heap : Heap := #[]
def classes : Array Class := #[k0, k1, k2, k3, k4, k5, k6, k7, k8, k9, k10, k11]
def interned : List (Array UInt16 × Addr) := []
def slotsUsed : Nat := 0
def theMethod : MethodId := ⟨1, 1⟩
def args0 : Array Value := #[.int 5, .int 3, .int 2, .int 4, .int 9, .int 1]
def aboutOver (below : List Frame) : State where
  vm := { classes := classes, interned := interned.toArray }
  heap := heap
  slotsUsed := slotsUsed
  threads := #[{ frames := .invoking theMethod args0 :: below }]
def below0 : List Frame := [.native { method := ⟨0, 0⟩, args := #[] }]
def about1 : State := aboutOver below0
def p0 : Program := .bare "" "" ""
def e0 : Env := launch0.env 0 0 0
theorem w_frames : about1.frames = Frame.invoking theMethod args0 :: below0 := rfl
set_option maxRecDepth 65536 in
theorem w_args : argsFit about1.vm theMethod args0 = true := by decide +kernel
set_option maxRecDepth 65536 in
theorem w_heap : heapFits about1 = true := by decide +kernel
set_option maxRecDepth 65536 in
theorem w_runnable : about1.curStatus? = some .runnable := by decide +kernel
set_option maxRecDepth 65536 in
theorem w_alone : about1.alone = true := by decide +kernel
set_option maxRecDepth 65536 in
theorem w_named : about1.methodNamed? x = some theMethod := by decide +kernel
set_option maxRecDepth 65536 in
theorem w_hears : about1.hears theMethod below0 = true := by decide +kernel
set_option maxRecDepth 65536 in
theorem w_ripe : about1.ripe theMethod args0 below0 = true := by decide +kernel
theorem w_running : about1.status = .running := rfl
set_option maxRecDepth 65536 in
theorem w_room : about1.hasRoom e0.platform room_1 = true :=
  launch0.hasRoom_least _ room_1 (by decide +kernel) (by decide +kernel) (by decide +kernel) (by decide +kernel) (by decide +kernel) (by decide +kernel)
theorem allAtoms_all (ts : List Jvm.Cond) (a : Array Jvm.Value) (st : Jvm.State) : (allAtoms ts).before a st = ts.all (fun c => c.before a st) := by
  induction ts with
  | nil => rfl
  | cons c t ih =>
    show (Jvm.Cond.and c (allAtoms t)).before a st = _
    rw [Jvm.Cond.before_and, ih, List.all_cons]
def words1 : List Jvm.Cond := Jvm.Cond.code x code maxLocals ret :: tables_1
/-- a 'code' word, met by the world's own term for the bytes: nothing is compared byte by byte -/
theorem code_word {y : MethodName} {bytes : ByteArray} {mx : Nat} {rt : Option FieldType} {a : Array Value} {s : State} {m : MethodId} {meth : Method} {c : Code} (h1 : s.methodNamed? y = some m) (h2 : s.vm.method? m = some meth) (h3 : meth.code = some c) (h4 : c.code = bytes)
    (h5 : (c.maxLocals == mx && c.exceptionTable.isEmpty && decide (c.maxStack ≤ mostOperands) && decide (meth.sig.returnType = rt) && !meth.locks && decide (parseMethodDescriptor y.desc = some meth.sig)) = true) : (Jvm.Cond.code y bytes mx rt).before a s = true := by
  simp only [Bool.and_eq_true, beq_iff_eq, Bool.not_eq_true', decide_eq_true_eq] at h5
  obtain ⟨⟨⟨⟨⟨g1, g2⟩, g3⟩, g4⟩, g5⟩, g6⟩ := h5
  simp [Cond.before, Cond.holds, Cond.value, h1, h2, h3, h4, g1, g2, g3, g4, g5, g6]
def isCode : Jvm.Cond → Bool
  | .code _ _ _ _ => true
  | _ => false
theorem all_split {L : List Jvm.Cond} {P : Jvm.Cond → Bool} (h1 : L.all (fun c => isCode c || P c) = true) (h2 : ∀ c ∈ L.filter isCode, P c = true) : L.all P = true := by
  refine List.all_eq_true.mpr fun c hc => ?_
  have h := List.all_eq_true.mp h1 c hc
  rcases Bool.eq_false_or_eq_true (isCode c) with hi | hi
  · exact h2 c (List.mem_filter.mpr ⟨hc, hi⟩)
  · simpa [hi] using h
set_option maxRecDepth 65536 in
theorem w_c0 : (Jvm.Cond.code x code maxLocals ret).before args0 about1 = true := code_word (m := ⟨1, 1⟩) (meth := k1m1) (c := k1c1) (by decide +kernel) rfl rfl rfl (by decide +kernel)
set_option maxRecDepth 65536 in
theorem w_c1 : (Jvm.Cond.code ({ cls := "java/lang/Math", name := "min", desc := "(II)I" } : Jvm.MethodName) jdk_29_method_69_code (2 : Nat) (Option.some Jvm.ClassFile.FieldType.int)).before args0 about1 = true := code_word (m := ⟨2, 2⟩) (meth := k2m2) (c := k2c2) (by decide +kernel) rfl rfl rfl (by decide +kernel)
set_option maxRecDepth 65536 in
theorem w_c2 : (Jvm.Cond.code ({ cls := "java/lang/Math", name := "max", desc := "(II)I" } : Jvm.MethodName) jdk_29_method_65_code (2 : Nat) (Option.some Jvm.ClassFile.FieldType.int)).before args0 about1 = true := code_word (m := ⟨2, 1⟩) (meth := k2m1) (c := k2c1) (by decide +kernel) rfl rfl rfl (by decide +kernel)
set_option maxRecDepth 65536 in
theorem w_c3 : (Jvm.Cond.code ({ cls := "com/example/propagule/propagule/flatzinc/Expr$IntSet", name := "<init>", desc := "(II[II)V" } : Jvm.MethodName) prog_93_method_1_code (5 : Nat) (Option.none : Option Jvm.ClassFile.FieldType)).before args0 about1 = true := code_word (m := ⟨5, 0⟩) (meth := k5m0) (c := k5c0) (by decide +kernel) rfl rfl rfl (by decide +kernel)
set_option maxRecDepth 65536 in
theorem w_c4 : (Jvm.Cond.code ({ cls := "java/lang/Record", name := "<init>", desc := "()V" } : Jvm.MethodName) jdk_30_method_1_code (1 : Nat) (Option.none : Option Jvm.ClassFile.FieldType)).before args0 about1 = true := code_word (m := ⟨3, 0⟩) (meth := k3m0) (c := k3c0) (by decide +kernel) rfl rfl rfl (by decide +kernel)
set_option maxRecDepth 65536 in
theorem w_c5 : (Jvm.Cond.code ({ cls := "java/lang/Object", name := "<init>", desc := "()V" } : Jvm.MethodName) object_method_1_code (1 : Nat) (Option.none : Option Jvm.ClassFile.FieldType)).before args0 about1 = true := code_word (m := ⟨0, 0⟩) (meth := k0m0) (c := k0c0) (by decide +kernel) rfl rfl rfl (by decide +kernel)
set_option maxRecDepth 65536 in
theorem w_c6 : (Jvm.Cond.code ({ cls := "com/example/propagule/propagule/flatzinc/Expr$IntSet", name := "isEmpty", desc := "()Z" } : Jvm.MethodName) prog_93_method_2_code (1 : Nat) (Option.some Jvm.ClassFile.FieldType.boolean)).before args0 about1 = true := code_word (m := ⟨5, 1⟩) (meth := k5m1) (c := k5c1) (by decide +kernel) rfl rfl rfl (by decide +kernel)
def codes1 : List Jvm.Cond := [Jvm.Cond.code x code maxLocals ret, Jvm.Cond.code ({ cls := "java/lang/Math", name := "min", desc := "(II)I" } : Jvm.MethodName) jdk_29_method_69_code (2 : Nat) (Option.some Jvm.ClassFile.FieldType.int), Jvm.Cond.code ({ cls := "java/lang/Math", name := "max", desc := "(II)I" } : Jvm.MethodName) jdk_29_method_65_code (2 : Nat) (Option.some Jvm.ClassFile.FieldType.int), Jvm.Cond.code ({ cls := "com/example/propagule/propagule/flatzinc/Expr$IntSet", name := "<init>", desc := "(II[II)V" } : Jvm.MethodName) prog_93_method_1_code (5 : Nat) (Option.none : Option Jvm.ClassFile.FieldType), Jvm.Cond.code ({ cls := "java/lang/Record", name := "<init>", desc := "()V" } : Jvm.MethodName) jdk_30_method_1_code (1 : Nat) (Option.none : Option Jvm.ClassFile.FieldType), Jvm.Cond.code ({ cls := "java/lang/Object", name := "<init>", desc := "()V" } : Jvm.MethodName) object_method_1_code (1 : Nat) (Option.none : Option Jvm.ClassFile.FieldType), Jvm.Cond.code ({ cls := "com/example/propagule/propagule/flatzinc/Expr$IntSet", name := "isEmpty", desc := "()Z" } : Jvm.MethodName) prog_93_method_2_code (1 : Nat) (Option.some Jvm.ClassFile.FieldType.boolean)]
set_option maxRecDepth 65536 in
theorem codes_eq : words1.filter isCode = codes1 := rfl
theorem w_codes : ∀ c ∈ words1.filter isCode, c.before args0 about1 = true := by
  rw [codes_eq]
  intro c hc
  simp only [codes1, List.mem_cons, List.not_mem_nil, or_false] at hc
  rcases hc with rfl | rfl | rfl | rfl | rfl | rfl | rfl
  · exact w_c0
  · exact w_c1
  · exact w_c2
  · exact w_c3
  · exact w_c4
  · exact w_c5
  · exact w_c6
set_option maxRecDepth 65536 in
theorem w_t1 : (words1.take 24).all (fun c => isCode c || c.before args0 about1) = true := by decide +kernel
set_option maxRecDepth 65536 in
theorem w_t2 : (words1.drop 24).all (fun c => isCode c || c.before args0 about1) = true := by decide +kernel
theorem w_tables : (allAtoms (Jvm.Cond.code x code maxLocals ret :: tables_1)).before args0 about1 = true := by
  rw [allAtoms_all]
  show words1.all (fun c => c.before args0 about1) = true
  refine all_split ?_ w_codes
  rw [← List.take_append_drop 24 words1, List.all_append, w_t1, w_t2]
  rfl
set_option maxRecDepth 65536 in
theorem w_case : (Jvm.Cond.and given_1 narrow_1).before args0 about1 = true := by decide +kernel
theorem w_applies : (headSpec (Jvm.Cond.code x code maxLocals ret :: tables_1) room_1).applies x e0.platform about1 = true :=
  (Spec.applies_iff w_frames).mpr ⟨w_running, w_runnable, w_alone, w_named, w_hears, w_ripe, w_room, w_tables⟩
theorem atStart : AtStart classFile x code maxLocals ret World_1 tables_1 room_1 Calls_1 rest_1 Pre_1 launch0 p0 e0 about1 theMethod args0 below0 :=
  ⟨lists_1, trivial, launch0.admits_env _ _ _, launch0.least_env, fairChoices_fair.cas, fairChoices_fair.clock, w_frames, w_args, w_heap, w_applies, trivial, trivial, w_case⟩
end start1
theorem witness_1 : WitnessClaimed_1 := ⟨start1.p0, start1.e0, start1.about1, start1.theMethod, start1.args0, start1.below0, start1.atStart⟩
end Jvm.Pilot.@@N@@
