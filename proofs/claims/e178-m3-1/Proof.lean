import JvmDerived
import JvmDerived.Pilot.@@N@@Statement
import JvmDerived.Pilot.@@N@@Code
set_option linter.unusedVariables false
set_option linter.unusedSimpArgs false
@@BLOCK:NumsL.lean.txt@@
namespace Jvm.Pilot.@@N@@
open Jvm Jvm.ClassFile Sem Op Lib Jvm.Free Jvm.Stand Jvm.LawKit Jvm.RoadKit Bundle Jvm.Pilot.@@N@@.Jvm.D
section Own
variable {p : Program} {l : Launch} {e : Env} {R : Room} {s : State} {m : MethodId} {args : Array Value} {below : List Frame} {meth : Method} {c : Code} {T T' : State} {locs : List Loc} {cells slots kc ks : Nat} {g g' : JFrame} {Q : Option Value → Heap → List Loc → Prop}
/-- from here the run goes on to its return, with Q of what it returns, the heap and the places written -/
def own_Go (p : Program) (e : Env) (below : List Frame) (s T : State) (g : JFrame) (Q : Option Value → Heap → List Loc → Prop) (kc ks : Nat) : Prop :=
  ∃ s₂ o, Steps p.tables e below (T.setTop g) s₂ ∧ s₂.status = .running ∧ Ended s₂ below o ∧ ∃ v L, o = .returned v ∧ Q v s₂.heap L ∧ FrameEnd s o s₂ L kc ks
theorem own_st (st : ∀ t, Steps p.tables e below (T'.setTop g') t → Steps p.tables e below (T.setTop g) t) (k : own_Go p e below s T' g' Q kc ks) : own_Go p e below s T g Q kc ks := by
  obtain ⟨s₂, o, h1, h2⟩ := k
  exact ⟨s₂, o, st _ h1, h2⟩
theorem own_stt (st : Steps p.tables e below (T.setTop g) (T'.setTop g')) (k : own_Go p e below s T' g' Q kc ks) : own_Go p e below s T g Q kc ks := own_st (fun _ k => st.trans k) k
theorem own_cast (q : g = g') (k : own_Go p e below s T g' Q kc ks) : own_Go p e below s T g Q kc ks := q ▸ k
theorem own_retN (X : Stand p l e R s m args below meth c T locs cells slots) (hx : p.tables.exec = Jvm.exec) (hlk : meth.locks = false) {t : FieldType} (ht : t = .boolean ∨ t = .byte ∨ t = .char ∨ t = .short) (hret : meth.sig.returnType = some t)
    {pc : Nat} {Ls : Array Slot} {z : Int32} {rest : List Value} (hd : decode c.code pc = .ok (.ireturn, 1)) (hc : cells ≤ kc) (hs : slots ≤ ks) (hq : Q (some (.int (nar t z))) T.heap locs) :
    own_Go p e below s T (mkF m pc Ls (.int z :: rest)) Q kc ks := by
  obtain ⟨fs, hr, hrun, hended, hW, hsame⟩ := X.leave (v := some (.int (nar t z))) (fun h => by rw [hret] at h; cases h) hlk
  exact ⟨_, _, retN X hx hret ht hd hr, hrun, hended, _, _, rfl, hq, ⟨_, rfl⟩, hW, hsame.mono hc hs⟩
theorem own_retI (X : Stand p l e R s m args below meth c T locs cells slots) (hx : p.tables.exec = Jvm.exec) (hlk : meth.locks = false) (hret : meth.sig.returnType = some .int)
    {pc : Nat} {Ls : Array Slot} {z : Int32} {rest : List Value} (hd : decode c.code pc = .ok (.ireturn, 1)) (hc : cells ≤ kc) (hs : slots ≤ ks) (hq : Q (some (.int z)) T.heap locs) :
    own_Go p e below s T (mkF m pc Ls (.int z :: rest)) Q kc ks := by
  obtain ⟨fs, hr, hrun, hended, hW, hsame⟩ := X.leave (v := some (.int z)) (fun h => by rw [hret] at h; cases h) hlk
  exact ⟨_, _, retOut X hx hret rfl (Or.inl ⟨rfl, Or.inl rfl, _, rfl⟩) hd hr, hrun, hended, _, _, rfl, hq, ⟨_, rfl⟩, hW, hsame.mono hc hs⟩
theorem own_retJ (X : Stand p l e R s m args below meth c T locs cells slots) (hx : p.tables.exec = Jvm.exec) (hlk : meth.locks = false) (hret : meth.sig.returnType = some .long)
    {pc : Nat} {Ls : Array Slot} {z : Int64} {rest : List Value} (hd : decode c.code pc = .ok (.lreturn, 1)) (hc : cells ≤ kc) (hs : slots ≤ ks) (hq : Q (some (.long z)) T.heap locs) :
    own_Go p e below s T (mkF m pc Ls (.long z :: rest)) Q kc ks := by
  obtain ⟨fs, hr, hrun, hended, hW, hsame⟩ := X.leave (v := some (.long z)) (fun h => by rw [hret] at h; cases h) hlk
  exact ⟨_, _, retOut X hx hret rfl (Or.inr (Or.inl ⟨rfl, rfl, _, rfl⟩)) hd hr, hrun, hended, _, _, rfl, hq, ⟨_, rfl⟩, hW, hsame.mono hc hs⟩
theorem own_retV (X : Stand p l e R s m args below meth c T locs cells slots) (hx : p.tables.exec = Jvm.exec) (hlk : meth.locks = false) (hret : meth.sig.returnType = none)
    {pc : Nat} {Ls : Array Slot} (hd : decode c.code pc = .ok (.return_, 1)) (hc : cells ≤ kc) (hs : slots ≤ ks) (hq : Q none T.heap locs) :
    own_Go p e below s T (mkF m pc Ls []) Q kc ks := by
  obtain ⟨fs, hr, hrun, hended, hW, hsame⟩ := X.leave (v := none) (fun _ => rfl) hlk
  exact ⟨_, _, X.returnOut hx hret hd hr, hrun, hended, _, _, rfl, hq, ⟨_, rfl⟩, hW, hsame.mono hc hs⟩
end Own
/-- what a body that writes nothing leaves: its value, nothing old written, the heap as it was -/
def own_QP (w : Value) (h0 : Heap) (n0 : Nat) (v : Option Value) (h : Heap) (L : List Loc) : Prop := v = some w ∧ Fr n0 L ∧ h = h0
def own_Q0 (n0 : Nat) (v : Option Value) (h : Heap) (L : List Loc) : Prop := v = some (.int 1) ∧ Fr n0 L
section OwnArr
variable {p : Program} {l : Launch} {e : Env} {R : Room} {s : State} {m : MethodId} {args : Array Value} {below : List Frame} {meth : Method} {c : Code} {T T' : State} {locs : List Loc} {cells slots : Nat} {Z : State} {h h' : Heap} {a b : Addr} {n : Nat}
theorem own_nb {j : Int32} {n : Nat} (h0 : ¬ j < 0) (hj : j.toInt < n) : j.toNatClampNeg < n := by have := nat_of h0; omega
/-- an array of ints: its length, its elements -/
def own_AI (Z : State) (h : Heap) (a : Addr) (n : Nat) (f : Nat → Int32) : Prop := ∃ c : Cell, Arr Z h a c .int ∧ c.slots.size = n ∧ n < 2 ^ 31 ∧ ∀ i, i < n → c.slots[i]? = some (.int (f i))
theorem own_AI.lt {f : Nat → Int32} (F : own_AI Z h a n f) : a < h.size := by obtain ⟨c, A, -⟩ := F; exact A.lt
theorem own_AI.ext {f : Nat → Int32} (F : own_AI Z h a n f) (E : Ext h h') : own_AI Z h' a n f := by obtain ⟨c, A, r⟩ := F; exact ⟨c, A.ext E, r⟩
theorem own_AI.other {f : Nat → Int32} {sl : Nat} {v : Value} (F : own_AI Z h b n f) (W : Wr h h' a sl v) (q : b ≠ a) : own_AI Z h' b n f := by obtain ⟨c, A, r⟩ := F; exact ⟨c, A.other W q, r⟩
theorem own_AI.keep {f : Nat → Int32} {ws : List Addr} (F : own_AI Z h a n f) (K : Keep h h' ws) (q : a ∉ ws) : own_AI Z h' a n f := by obtain ⟨c, A, r⟩ := F; exact ⟨c, ⟨K.2.1 a c A.1 q, A.2⟩, r⟩
theorem own_AI.new {k : ClassId} {z : Int32} (A : Arr Z h a (newA k .int z) .int) (q : ¬ z < 0) : own_AI Z h a z.toNatClampNeg (fun _ => 0) := by
  refine ⟨_, A, sz_new _ _ _, (back32 q).2, fun i hi => ?_⟩
  have := (newA k .int z).slots.size
  simp [newA, hi, defaultValue]
theorem own_AI.congr {f g : Nat → Int32} (F : own_AI Z h a n f) (q : ∀ i, i < n → f i = g i) : own_AI Z h a n g := by obtain ⟨c, A, r1, r2, r3⟩ := F; exact ⟨c, A, r1, r2, fun i hi => by rw [← q i hi]; exact r3 i hi⟩
theorem own_AI.set {f : Nat → Int32} {c : Cell} {j x : Int32} (A : Arr Z h a c .int) (S : c.slots.size = n) (N : n < 2 ^ 31) (H : ∀ i, i < n → c.slots[i]? = some (.int (f i))) (W : Wr h h' a j.toNatClampNeg (.int x)) : own_AI Z h' a n (fun i => if i = j.toNatClampNeg then x else f i) := by
  refine ⟨_, A.same W, by rw [sz_set, S], N, fun i hi => ?_⟩
  by_cases q : i = j.toNatClampNeg
  · subst q; simp [Cell.setSlot, S, hi]
  · simp only [if_neg q, Cell.setSlot]
    rw [Array.getElem?_setIfInBounds_ne (Ne.symm q)]
    exact H i hi
theorem own_ldI {f : Nat → Int32} {g : JFrame} {j : Int32} {rest : List Value} (X : Stand p l e R s m args below meth c T locs cells slots) (hx : p.tables.exec = Jvm.exec) (hZ : Z.Warmed39 s.vm) (eT : T.heap = h) (F : own_AI Z h a n f) (h0 : ¬ j < 0) (hj : j.toInt < n) (hg : g.method = m) (hs : g.stack = .int j :: .ref a :: rest) (hd : decode c.code g.pc = .ok (.iaload, 1)) :
    ∀ target, Steps p.tables e below (T.setTop { g with pc := g.pc + 1, stack := .int (f j.toNatClampNeg) :: rest }) target → Steps p.tables e below (T.setTop g) target := by
  obtain ⟨c, A, S, N, H⟩ := F
  have hb := own_nb h0 hj
  exact X.iaload hx (by rw [eT]; exact A.1) (State.isArrayOf_alike hZ.alike A.2.1) A.2.2 (fun q => q.elim h0 (fun q => by omega)) (H _ hb) hg hs hd
theorem own_stI {f : Nat → Int32} {g : JFrame} {j x : Int32} {rest : List Value} (X : Stand p l e R s m args below meth c T locs cells slots) (hx : p.tables.exec = Jvm.exec) (hZ : Z.Warmed39 s.vm) (eT : T.heap = h) (F : own_AI Z h a n f) (h0 : ¬ j < 0) (hj : j.toInt < n) (hg : g.method = m) (hs : g.stack = .int x :: .int j :: .ref a :: rest) (hd : decode c.code g.pc = .ok (.iastore, 1)) :
    ∃ T' h', Stand p l e R s m args below meth c T' (locs ++ [⟨a, j.toNatClampNeg⟩]) cells slots ∧ T'.heap = h' ∧ Wr h h' a j.toNatClampNeg (.int x) ∧ own_AI Z h' a n (fun i => if i = j.toNatClampNeg then x else f i) ∧ ∀ target, Steps p.tables e below (T'.setTop { g with pc := g.pc + 1, stack := rest }) target → Steps p.tables e below (T.setTop g) target := by
  obtain ⟨c, A, S, N, H⟩ := F
  have hb := own_nb h0 hj
  obtain ⟨T', h', X', e', W, st⟩ := stI X hx hZ eT A (fun q => q.elim h0 (fun q => by omega)) hg hs hd
  exact ⟨T', h', X', e', W, own_AI.set A S N H W, st⟩
theorem own_lenI {f : Nat → Int32} {g : JFrame} {rest : List Value} (X : Stand p l e R s m args below meth c T locs cells slots) (hx : p.tables.exec = Jvm.exec) (hZ : Z.Warmed39 s.vm) (eT : T.heap = h) (F : own_AI Z h a n f) {z : Int32} (hz : z.toInt = n) (hg : g.method = m) (hs : g.stack = .ref a :: rest) (hd : decode c.code g.pc = .ok (.arraylength, 1)) :
    ∀ target, Steps p.tables e below (T.setTop { g with pc := g.pc + 1, stack := .int z :: rest }) target → Steps p.tables e below (T.setTop g) target := by
  obtain ⟨c, A, S, N, H⟩ := F
  have q : c.slots.size.toInt32 = z := by
    apply Int32.toInt_inj.mp
    rw [len_toInt (by omega), S, hz]
  have := X.arraylength hx (by rw [eT]; exact A.1) (State.isArrayOf_alike hZ.alike A.2.1) hg hs hd
  rw [q] at this
  exact this
/-- an array of longs: its length, its elements -/
def own_AJ (Z : State) (h : Heap) (a : Addr) (n : Nat) (f : Nat → Int64) : Prop := ∃ c : Cell, Arr Z h a c .long ∧ c.slots.size = n ∧ n < 2 ^ 31 ∧ ∀ i, i < n → c.slots[i]? = some (.long (f i))
theorem own_AJ.lt {f : Nat → Int64} (F : own_AJ Z h a n f) : a < h.size := by obtain ⟨c, A, -⟩ := F; exact A.lt
theorem own_AJ.ext {f : Nat → Int64} (F : own_AJ Z h a n f) (E : Ext h h') : own_AJ Z h' a n f := by obtain ⟨c, A, r⟩ := F; exact ⟨c, A.ext E, r⟩
theorem own_AJ.other {f : Nat → Int64} {sl : Nat} {v : Value} (F : own_AJ Z h b n f) (W : Wr h h' a sl v) (q : b ≠ a) : own_AJ Z h' b n f := by obtain ⟨c, A, r⟩ := F; exact ⟨c, A.other W q, r⟩
theorem own_AJ.keep {f : Nat → Int64} {ws : List Addr} (F : own_AJ Z h a n f) (K : Keep h h' ws) (q : a ∉ ws) : own_AJ Z h' a n f := by obtain ⟨c, A, r⟩ := F; exact ⟨c, ⟨K.2.1 a c A.1 q, A.2⟩, r⟩
theorem own_AJ.new {k : ClassId} {z : Int32} (A : Arr Z h a (newA k .long z) .long) (q : ¬ z < 0) : own_AJ Z h a z.toNatClampNeg (fun _ => 0) := by
  refine ⟨_, A, sz_new _ _ _, (back32 q).2, fun i hi => ?_⟩
  simp [newA, hi, defaultValue]
theorem own_AJ.congr {f g : Nat → Int64} (F : own_AJ Z h a n f) (q : ∀ i, i < n → f i = g i) : own_AJ Z h a n g := by obtain ⟨c, A, r1, r2, r3⟩ := F; exact ⟨c, A, r1, r2, fun i hi => by rw [← q i hi]; exact r3 i hi⟩
theorem own_AJ.set {f : Nat → Int64} {c : Cell} {j : Int32} {x : Int64} (A : Arr Z h a c .long) (S : c.slots.size = n) (N : n < 2 ^ 31) (H : ∀ i, i < n → c.slots[i]? = some (.long (f i))) (W : Wr h h' a j.toNatClampNeg (.long x)) : own_AJ Z h' a n (fun i => if i = j.toNatClampNeg then x else f i) := by
  refine ⟨_, A.same W, by rw [sz_set, S], N, fun i hi => ?_⟩
  by_cases q : i = j.toNatClampNeg
  · subst q; simp [Cell.setSlot, S, hi]
  · simp only [if_neg q, Cell.setSlot]
    rw [Array.getElem?_setIfInBounds_ne (Ne.symm q)]
    exact H i hi
theorem own_ldJ {f : Nat → Int64} {g : JFrame} {j : Int32} {rest : List Value} (X : Stand p l e R s m args below meth c T locs cells slots) (hx : p.tables.exec = Jvm.exec) (hZ : Z.Warmed39 s.vm) (eT : T.heap = h) (F : own_AJ Z h a n f) (h0 : ¬ j < 0) (hj : j.toInt < n) (hg : g.method = m) (hs : g.stack = .int j :: .ref a :: rest) (hd : decode c.code g.pc = .ok (.laload, 1)) :
    ∀ target, Steps p.tables e below (T.setTop { g with pc := g.pc + 1, stack := .long (f j.toNatClampNeg) :: rest }) target → Steps p.tables e below (T.setTop g) target := by
  obtain ⟨c, A, S, N, H⟩ := F
  have hb := own_nb h0 hj
  exact X.laload hx (by rw [eT]; exact A.1) (State.isArrayOf_alike hZ.alike A.2.1) A.2.2 (fun q => q.elim h0 (fun q => by omega)) (H _ hb) hg hs hd
theorem own_stJ {f : Nat → Int64} {g : JFrame} {j : Int32} {x : Int64} {rest : List Value} (X : Stand p l e R s m args below meth c T locs cells slots) (hx : p.tables.exec = Jvm.exec) (hZ : Z.Warmed39 s.vm) (eT : T.heap = h) (F : own_AJ Z h a n f) (h0 : ¬ j < 0) (hj : j.toInt < n) (hg : g.method = m) (hs : g.stack = .long x :: .int j :: .ref a :: rest) (hd : decode c.code g.pc = .ok (.lastore, 1)) :
    ∃ T' h', Stand p l e R s m args below meth c T' (locs ++ [⟨a, j.toNatClampNeg⟩]) cells slots ∧ T'.heap = h' ∧ Wr h h' a j.toNatClampNeg (.long x) ∧ own_AJ Z h' a n (fun i => if i = j.toNatClampNeg then x else f i) ∧ ∀ target, Steps p.tables e below (T'.setTop { g with pc := g.pc + 1, stack := rest }) target → Steps p.tables e below (T.setTop g) target := by
  obtain ⟨c, A, S, N, H⟩ := F
  have hb := own_nb h0 hj
  obtain ⟨T', h', X', e', W, st⟩ := stJ X hx hZ eT A (fun q => q.elim h0 (fun q => by omega)) hg hs hd
  exact ⟨T', h', X', e', W, own_AJ.set A S N H W, st⟩
end OwnArr
theorem own_Sta_keep {Z : State} {h h' : Heap} {a : Addr} {K0 C n d : String} {v : Value} (F : Sta Z h C n d v) (E : Exa Z h a K0) (K : Keep h h' [a]) : Sta Z h' C n d v := by
  obtain ⟨cf, i, k, f, st, cell, h1, h2, h3, h4, h5, h6, h7⟩ := F
  obtain ⟨ce, ke, q1, -, -, q4, -⟩ := E
  refine ⟨cf, i, k, f, st, cell, h1, h2, h3, h4, K.2.1 st cell h5 ?_, h6, h7⟩
  intro q
  cases List.mem_singleton.mp q
  cases h5.symm.trans q1
  rw [h6] at q4
  cases q4
theorem own_d3_0 : decode jdk_22_method_1_code 0 = .ok (.aload_n 0, 1) := by decide +kernel
theorem own_d3_1 : decode jdk_22_method_1_code 1 = .ok (.invokespecial 1, 3) := by decide +kernel
theorem own_d3_4 : decode jdk_22_method_1_code 4 = .ok (.return_, 1) := by decide +kernel
theorem own_pd0 : parseMethodDescriptor "()V" = some ⟨[], none⟩ := by decide +kernel
theorem own_pn0 : plainName "java/util/AbstractCollection" = true := by first | (simp [plainName, overriddenIn]; done) | decide +kernel
def own_Qacol (Z : State) (a : Addr) (h0 : Heap) (n0 : Nat) (v : Option Value) (h : Heap) (L : List Loc) : Prop := v = none ∧ Fr n0 L ∧ h = h0
theorem own_efacol (m : MethodId) (a : Addr) : entryFrame m #[(.ref a)] 1 = mkF m 0 #[.val (.ref a)] [] := by first | (simp [entryFrame, mkF, argsToLocals, Value.category]; done) | rfl
set_option maxRecDepth 65536 in
set_option maxHeartbeats 16000000 in
theorem own_rmacol (l : Launch) (Z : State) (a0 : Array Value) (hw : ∀ d ∈ tables_1, d.before a0 Z = true) (ws : List Jvm.Cond) (a : Addr) (h0 : Heap) (n0 : Nat) (Z0 : n0 ≤ h0.size) :
    MetFree l (⟨"java/util/AbstractCollection", "<init>", "()V"⟩ : MethodName) (head1 (Jvm.Cond.code (⟨"java/util/AbstractCollection", "<init>", "()V"⟩ : MethodName) jdk_22_method_1_code 1 none :: ws) ({ frames := 1, cells := 0, slots := 0, locals := 12 } : Room)) (fun aa UU => aa = #[(.ref a)] ∧ Z.Warmed39 UU.vm ∧ UU.heap = h0) (fun _ _ _ _ _ => True) (fun _ U o U' => ∃ v L, o = .returned v ∧ own_Qacol Z a h0 n0 v U'.heap L ∧ FrameEnd U o U' L ({ frames := 1, cells := 0, slots := 0, locals := 12 } : Room).cells ({ frames := 1, cells := 0, slots := 0, locals := 12 } : Room).slots) := by
  refine MetFree.of_bodySF (plainFor_of_name own_pn0) hisR ?_
  intro p e s m args below meth c s₁ Bd hml hP hK
  obtain ⟨rfl, hZ, hh⟩ := hP
  have hx := Bd.exec
  have hlk := Bd.notSynchronized
  have hby := Bd.bytes
  have hret := Bd.returns
  have hown := findClass_of_methodNamed Bd.named
  have hnm := (name_of_methodNamed Bd.named Bd.method).1
  have X0 : Stand p l e ({ frames := 1, cells := 0, slots := 0, locals := 12 } : Room) s m #[(.ref a)] below meth c s₁ [] 0 0 := Stand.of_body Bd
  have e0 : s₁.heap = h0 := by rw [← hh, Bd.state]; rfl
  have N0 := Fr.nil n0
  refine own_cast (own_efacol m a) ?_
  show own_Go p e below s s₁ _ (own_Qacol Z a h0 n0) 0 0
  refine own_st (g' := (mkF m 1 #[.val (.ref a)] [(.ref a)])) (fun tt_ kk_ => XS.aloadN X0.here hx rfl (hb hby own_d3_0) rfl rfl kk_) ?_
  obtain ⟨T1, X1, e1, st1⟩ := initO X0 hx hZ hown (hw _ (List.mem_of_getElem? (i := 22) rfl)) (hw _ (List.mem_of_getElem? (i := 23) rfl)) (hw _ (List.mem_of_getElem? (i := 24) rfl)) e0 (g := (mkF m 1 #[.val (.ref a)] [(.ref a)])) rfl (by rw [hml]; rfl) rfl (hb hby own_d3_1) (by decide) (W := 0) (by show 2 * 0 + _ ≤ _; exact Nat.le_of_eq rfl) (by decide)
  refine own_st (g' := (mkF m 4 #[.val (.ref a)] [])) st1 ?_
  exact own_retV X1 hx hlk hret (hb hby own_d3_4) (by decide) (by decide) (by rw [e1]; exact ⟨rfl, N0, rfl⟩)
theorem own_d2_0 : decode jdk_39_method_1_code 0 = .ok (.aload_n 0, 1) := by decide +kernel
theorem own_d2_1 : decode jdk_39_method_1_code 1 = .ok (.invokespecial 1, 3) := by decide +kernel
theorem own_d2_4 : decode jdk_39_method_1_code 4 = .ok (.aload_n 0, 1) := by decide +kernel
theorem own_d2_5 : decode jdk_39_method_1_code 5 = .ok (.iconst 0, 1) := by decide +kernel
theorem own_d2_6 : decode jdk_39_method_1_code 6 = .ok (.putfield 7, 3) := by decide +kernel
theorem own_d2_9 : decode jdk_39_method_1_code 9 = .ok (.return_, 1) := by decide +kernel
theorem own_pn1 : plainName "java/util/AbstractList" = true := by first | (simp [plainName, overriddenIn]; done) | decide +kernel
def own_Qalist (Z : State) (a : Addr) (h0 : Heap) (n0 : Nat) (v : Option Value) (h : Heap) (L : List Loc) : Prop := v = none ∧ Fr n0 L ∧ Keep h0 h [a] ∧ Exa Z h a "java/util/ArrayList" ∧ Fld Z h a "java/util/ArrayList" "elementData" "[Ljava/lang/Object;" .null
theorem own_efalist (m : MethodId) (a : Addr) : entryFrame m #[(.ref a)] 1 = mkF m 0 #[.val (.ref a)] [] := by first | (simp [entryFrame, mkF, argsToLocals, Value.category]; done) | rfl
set_option maxRecDepth 65536 in
set_option maxHeartbeats 16000000 in
theorem own_rmalist (l : Launch) (Z : State) (a0 : Array Value) (hw : ∀ d ∈ tables_1, d.before a0 Z = true) (ws : List Jvm.Cond) (a : Addr) (h0 : Heap) (n0 : Nat) (Z0 : n0 ≤ h0.size) (E_a : Exa Z h0 a "java/util/ArrayList") (F_m : Fld Z h0 a "java/util/AbstractList" "modCount" "I" (.int (0 : Int32))) (F_e : Fld Z h0 a "java/util/ArrayList" "elementData" "[Ljava/lang/Object;" .null) (g_a : n0 ≤ a) :
    MetFree l (⟨"java/util/AbstractList", "<init>", "()V"⟩ : MethodName) (head1 (Jvm.Cond.code (⟨"java/util/AbstractList", "<init>", "()V"⟩ : MethodName) jdk_39_method_1_code 1 none :: ws) ({ frames := 2, cells := 0, slots := 0, locals := 24 } : Room)) (fun aa UU => aa = #[(.ref a)] ∧ Z.Warmed39 UU.vm ∧ UU.heap = h0) (fun _ _ _ _ _ => True) (fun _ U o U' => ∃ v L, o = .returned v ∧ own_Qalist Z a h0 n0 v U'.heap L ∧ FrameEnd U o U' L ({ frames := 2, cells := 0, slots := 0, locals := 24 } : Room).cells ({ frames := 2, cells := 0, slots := 0, locals := 24 } : Room).slots) := by
  refine MetFree.of_bodySF (plainFor_of_name own_pn1) hisR ?_
  intro p e s m args below meth c s₁ Bd hml hP hK
  obtain ⟨rfl, hZ, hh⟩ := hP
  have hx := Bd.exec
  have hlk := Bd.notSynchronized
  have hby := Bd.bytes
  have hret := Bd.returns
  have hown := findClass_of_methodNamed Bd.named
  have hnm := (name_of_methodNamed Bd.named Bd.method).1
  have X0 : Stand p l e ({ frames := 2, cells := 0, slots := 0, locals := 24 } : Room) s m #[(.ref a)] below meth c s₁ [] 0 0 := Stand.of_body Bd
  have e0 : s₁.heap = h0 := by rw [← hh, Bd.state]; rfl
  have N0 := Fr.nil n0
  refine own_cast (own_efalist m a) ?_
  show own_Go p e below s s₁ _ (own_Qalist Z a h0 n0) 0 0
  have K0 : Keep h0 h0 [a] := Keep.refl _ _
  refine own_st (g' := (mkF m 1 #[.val (.ref a)] [(.ref a)])) (fun tt_ kk_ => XS.aloadN X0.here hx rfl (hb hby own_d2_0) rfl rfl kk_) ?_
  obtain ⟨_, _, ⟨T2, L2, k2, n2⟩, -, X2, ⟨Lc2, hQ2, l2, y2, z2⟩, st2⟩ := X0.specialBack hx (y := (⟨"java/util/AbstractCollection", "<init>", "()V"⟩ : MethodName)) rfl hown (mvT hZ (hw _ (List.mem_of_getElem? (i := 16) rfl))) (mvT hZ (hw _ (List.mem_of_getElem? (i := 17) rfl))) (mvT hZ (hw _ (List.mem_of_getElem? (i := 21) rfl))) (by decide) (backOf (W := 0) (own_rmacol l Z a0 hw [] a h0 n0 Z0 ) hZ (hw _ (List.mem_of_getElem? (i := 21) rfl)) (hw _ (List.mem_of_getElem? (i := 20) rfl)) (by decide) (by decide)) (g := (mkF m 1 #[.val (.ref a)] [(.ref a)])) rfl (by rw [hml]; rfl) (Steps.refl _) (a := a) (argsL := []) (rest := []) (lenOf own_pd0 rfl) rfl (by show 2 * 0 + _ ≤ _; exact Nat.le_of_eq rfl) (hb hby own_d2_1) (fun _ _ => ⟨rfl, e0, (by decide : 0 + 0 ≤ _), (by decide : 0 + 0 ≤ _)⟩)
  dsimp only [Pt.U, Pt.locs, Pt.cells, Pt.slots] at X2 l2 y2 z2 st2 hQ2
  rw [l2, y2, z2] at X2
  obtain ⟨rfl, N2q, e2⟩ := hQ2
  have N2 := Fr.app N0 N2q
  refine own_st (g' := (mkF m 4 #[.val (.ref a)] [])) (fun t k => st2.trans k) ?_
  refine own_st (g' := (mkF m 5 #[.val (.ref a)] [(.ref a)])) (fun tt_ kk_ => XS.aloadN X2.here hx rfl (hb hby own_d2_4) rfl rfl kk_) ?_
  refine own_st (g' := (mkF m 6 #[.val (.ref a)] [(.int (0 : Int32)), (.ref a)])) (fun tt_ kk_ => XS.iconst X2.here hx rfl (hb hby own_d2_5) kk_) ?_
  obtain ⟨T3, h3, X3, e3, W3, st3⟩ := putF X2 hx hZ hown (host := "") (Or.inl (hw _ (List.mem_of_getElem? (i := 25) rfl))) Via.refl e2 F_m E_a (Or.inl (hw _ (List.mem_of_getElem? (i := 26) rfl))) (hw _ (List.mem_of_getElem? (i := 5) rfl)) (ty := .int) (by decide) rfl rfl (g := (mkF m 6 #[.val (.ref a)] [(.int (0 : Int32)), (.ref a)])) rfl rfl (hb hby own_d2_6)
  have N3 := Fr.snoc X3 N2 g_a
  have Z3 : n0 ≤ h3.size := Nat.le_trans Z0 (Keep.of_wr W3).1
  have K3 : Keep h0 h3 [a] := K0.wr W3 (Or.inl (List.mem_of_getElem? (i := 0) rfl))
  have F3 : Fld Z h3 a "java/util/AbstractList" "modCount" "I" (.int (0 : Int32)) := F_m.same W3
  refine own_st (g' := (mkF m 9 #[.val (.ref a)] [])) st3 ?_
  have F4 := (E_a.wr W3)
  have F5 := (F_e.other W3 (Or.inr (slot_ne (Or.inl (hw _ (List.mem_of_getElem? (i := 29) rfl))) (Or.inl (hw _ (List.mem_of_getElem? (i := 26) rfl))) (by decide) (t := (.array (.object "java/lang/Object"))) (t' := .int) (by decide) (by decide))))
  exact own_retV X3 hx hlk hret (hb hby own_d2_9) (by decide) (by decide) (by rw [e3]; exact ⟨rfl, N3, K3, F4, F5⟩)
theorem own_d1_0 : decode jdk_38_method_2_code 0 = .ok (.aload_n 0, 1) := by decide +kernel
theorem own_d1_1 : decode jdk_38_method_2_code 1 = .ok (.invokespecial 1, 3) := by decide +kernel
theorem own_d1_4 : decode jdk_38_method_2_code 4 = .ok (.aload_n 0, 1) := by decide +kernel
theorem own_d1_5 : decode jdk_38_method_2_code 5 = .ok (.getstatic 39, 3) := by decide +kernel
theorem own_d1_8 : decode jdk_38_method_2_code 8 = .ok (.putfield 9, 3) := by decide +kernel
theorem own_d1_11 : decode jdk_38_method_2_code 11 = .ok (.return_, 1) := by decide +kernel
theorem own_pn2 : plainName "java/util/ArrayList" = true := by first | (simp [plainName, overriddenIn]; done) | decide +kernel
def own_Qarl (Z : State) (a : Addr) (dA : Addr) (h0 : Heap) (n0 : Nat) (v : Option Value) (h : Heap) (L : List Loc) : Prop := v = none ∧ Fr n0 L ∧ Keep h0 h [a]
theorem own_efarl (m : MethodId) (a : Addr) : entryFrame m #[(.ref a)] 1 = mkF m 0 #[.val (.ref a)] [] := by first | (simp [entryFrame, mkF, argsToLocals, Value.category]; done) | rfl
set_option maxRecDepth 65536 in
set_option maxHeartbeats 16000000 in
theorem own_rmarl (l : Launch) (Z : State) (a0 : Array Value) (hw : ∀ d ∈ tables_1, d.before a0 Z = true) (ws : List Jvm.Cond) (a : Addr) (dA : Addr) (h0 : Heap) (n0 : Nat) (Z0 : n0 ≤ h0.size) (E_a : Exa Z h0 a "java/util/ArrayList") (F_m : Fld Z h0 a "java/util/AbstractList" "modCount" "I" (.int (0 : Int32))) (F_e : Fld Z h0 a "java/util/ArrayList" "elementData" "[Ljava/lang/Object;" .null) (S_d : Sta Z h0 "java/util/ArrayList" "DEFAULTCAPACITY_EMPTY_ELEMENTDATA" "[Ljava/lang/Object;" (.ref dA)) (g_a : n0 ≤ a) :
    MetFree l (⟨"java/util/ArrayList", "<init>", "()V"⟩ : MethodName) (head1 (Jvm.Cond.code (⟨"java/util/ArrayList", "<init>", "()V"⟩ : MethodName) jdk_38_method_2_code 1 none :: ws) ({ frames := 3, cells := 0, slots := 0, locals := 36 } : Room)) (fun aa UU => aa = #[(.ref a)] ∧ Z.Warmed39 UU.vm ∧ UU.heap = h0) (fun _ _ _ _ _ => True) (fun _ U o U' => ∃ v L, o = .returned v ∧ own_Qarl Z a dA h0 n0 v U'.heap L ∧ FrameEnd U o U' L ({ frames := 3, cells := 0, slots := 0, locals := 36 } : Room).cells ({ frames := 3, cells := 0, slots := 0, locals := 36 } : Room).slots) := by
  refine MetFree.of_bodySF (plainFor_of_name own_pn2) hisR ?_
  intro p e s m args below meth c s₁ Bd hml hP hK
  obtain ⟨rfl, hZ, hh⟩ := hP
  have hx := Bd.exec
  have hlk := Bd.notSynchronized
  have hby := Bd.bytes
  have hret := Bd.returns
  have hown := findClass_of_methodNamed Bd.named
  have hnm := (name_of_methodNamed Bd.named Bd.method).1
  have X0 : Stand p l e ({ frames := 3, cells := 0, slots := 0, locals := 36 } : Room) s m #[(.ref a)] below meth c s₁ [] 0 0 := Stand.of_body Bd
  have e0 : s₁.heap = h0 := by rw [← hh, Bd.state]; rfl
  have N0 := Fr.nil n0
  refine own_cast (own_efarl m a) ?_
  show own_Go p e below s s₁ _ (own_Qarl Z a dA h0 n0) 0 0
  have K0 : Keep h0 h0 [a] := Keep.refl _ _
  refine own_st (g' := (mkF m 1 #[.val (.ref a)] [(.ref a)])) (fun tt_ kk_ => XS.aloadN X0.here hx rfl (hb hby own_d1_0) rfl rfl kk_) ?_
  obtain ⟨_, _, ⟨T6, L6, k6, n6⟩, -, X6, ⟨Lc6, hQ6, l6, y6, z6⟩, st6⟩ := X0.specialBack hx (y := (⟨"java/util/AbstractList", "<init>", "()V"⟩ : MethodName)) rfl hown (mvT hZ (hw _ (List.mem_of_getElem? (i := 10) rfl))) (mvT hZ (hw _ (List.mem_of_getElem? (i := 11) rfl))) (mvT hZ (hw _ (List.mem_of_getElem? (i := 15) rfl))) (by decide) (backOf (W := 0) (own_rmalist l Z a0 hw [] a h0 n0 Z0 E_a F_m F_e g_a) hZ (hw _ (List.mem_of_getElem? (i := 15) rfl)) (hw _ (List.mem_of_getElem? (i := 14) rfl)) (by decide) (by decide)) (g := (mkF m 1 #[.val (.ref a)] [(.ref a)])) rfl (by rw [hml]; rfl) (Steps.refl _) (a := a) (argsL := []) (rest := []) (lenOf own_pd0 rfl) rfl (by show 2 * 0 + _ ≤ _; exact Nat.le_of_eq rfl) (hb hby own_d1_1) (fun _ _ => ⟨rfl, e0, (by decide : 0 + 0 ≤ _), (by decide : 0 + 0 ≤ _)⟩)
  dsimp only [Pt.U, Pt.locs, Pt.cells, Pt.slots] at X6 l6 y6 z6 st6 hQ6
  rw [l6, y6, z6] at X6
  obtain ⟨rfl, N6q, K6q, f6_0, f6_1⟩ := hQ6
  obtain ⟨h6, e6⟩ : ∃ z, T6.heap = z := ⟨_, rfl⟩
  rw [e6] at K6q f6_0 f6_1
  have Z6 : n0 ≤ h6.size := Nat.le_trans Z0 K6q.1
  have K6 : Keep h0 h6 [a] := K0.trans K6q (allS (P := fun x => x ∈ [a] ∨ h0.size ≤ x) (Or.inl (List.mem_of_getElem? (i := 0) rfl)) all0)
  have N6 := Fr.app N0 N6q
  refine own_st (g' := (mkF m 4 #[.val (.ref a)] [])) (fun t k => st6.trans k) ?_
  refine own_st (g' := (mkF m 5 #[.val (.ref a)] [(.ref a)])) (fun tt_ kk_ => XS.aloadN X6.here hx rfl (hb hby own_d1_4) rfl rfl kk_) ?_
  have F8 := (own_Sta_keep S_d E_a K6q)
  obtain ⟨T7, X7, e7, st7⟩ := getS2 X6 hx hZ hown (host := "") (Or.inl (hw _ (List.mem_of_getElem? (i := 27) rfl))) Via.refl e6 F8 (g := (mkF m 5 #[.val (.ref a)] [(.ref a)])) rfl (hb hby own_d1_5)
  refine own_st (g' := (mkF m 8 #[.val (.ref a)] [(.ref dA), (.ref a)])) st7 ?_
  obtain ⟨T9, h9, X9, e9, W9, st9⟩ := putF X7 hx hZ hown (host := "") (Or.inl (hw _ (List.mem_of_getElem? (i := 28) rfl))) Via.refl e7 f6_1 f6_0 (Or.inl (hw _ (List.mem_of_getElem? (i := 29) rfl))) (hw _ (List.mem_of_getElem? (i := 5) rfl)) (ty := (.array (.object "java/lang/Object"))) (by decide) rfl rfl (g := (mkF m 8 #[.val (.ref a)] [(.ref dA), (.ref a)])) rfl rfl (hb hby own_d1_8)
  have N9 := Fr.snoc X9 N6 g_a
  have Z9 : n0 ≤ h9.size := Nat.le_trans Z6 (Keep.of_wr W9).1
  have K9 : Keep h0 h9 [a] := K6.wr W9 (Or.inl (List.mem_of_getElem? (i := 0) rfl))
  have F9 : Fld Z h9 a "java/util/ArrayList" "elementData" "[Ljava/lang/Object;" (.ref dA) := f6_1.same W9
  refine own_st (g' := (mkF m 11 #[.val (.ref a)] [])) st9 ?_
  exact own_retV X9 hx hlk hret (hb hby own_d1_11) (by decide) (by decide) (by rw [e9]; exact ⟨rfl, N9, K9⟩)
/-- the trail at t, no domain and no cell saved in it -/
def own_Tr (Z : State) (h : Heap) (n0 : Nat) (t wm cm wn : Addr) (D : Int32) (N : Int64) (f : Nat → Int64) : Prop := Exa Z h t "com/example/propagule/propagule/Trail" ∧ Fld Z h t "com/example/propagule/propagule/Trail" "depth" "I" (.int D) ∧ Fld Z h t "com/example/propagule/propagule/Trail" "worldsOpened" "J" (.long N) ∧ Fld Z h t "com/example/propagule/propagule/Trail" "entries" "I" (.int (0 : Int32)) ∧ Fld Z h t "com/example/propagule/propagule/Trail" "cellEntries" "I" (.int (0 : Int32)) ∧ Fld Z h t "com/example/propagule/propagule/Trail" "worldMarks" "[I" (.ref wm) ∧ Fld Z h t "com/example/propagule/propagule/Trail" "cellMarks" "[I" (.ref cm) ∧ Fld Z h t "com/example/propagule/propagule/Trail" "worldNumbers" "[J" (.ref wn) ∧ own_AI Z h wm 64 (fun _ => 0) ∧ own_AI Z h cm 64 (fun _ => 0) ∧ own_AJ Z h wn 65 f ∧ t ≠ wm ∧ t ≠ cm ∧ t ≠ wn ∧ wm ≠ cm ∧ wm ≠ wn ∧ cm ≠ wn ∧ n0 ≤ t ∧ n0 ≤ wm ∧ n0 ≤ cm ∧ n0 ≤ wn
theorem own_d5_0 : decode prog_74_method_1_code 0 = .ok (.aload_n 0, 1) := by decide +kernel
theorem own_d5_1 : decode prog_74_method_1_code 1 = .ok (.invokespecial 1, 3) := by decide +kernel
theorem own_d5_4 : decode prog_74_method_1_code 4 = .ok (.aload_n 0, 1) := by decide +kernel
theorem own_d5_5 : decode prog_74_method_1_code 5 = .ok (.sipush 384, 3) := by decide +kernel
theorem own_d5_8 : decode prog_74_method_1_code 8 = .ok (.newarray .int, 2) := by decide +kernel
theorem own_d5_10 : decode prog_74_method_1_code 10 = .ok (.putfield 9, 3) := by decide +kernel
theorem own_d5_13 : decode prog_74_method_1_code 13 = .ok (.aload_n 0, 1) := by decide +kernel
theorem own_d5_14 : decode prog_74_method_1_code 14 = .ok (.sipush 128, 3) := by decide +kernel
theorem own_d5_17 : decode prog_74_method_1_code 17 = .ok (.newarray .long, 2) := by decide +kernel
theorem own_d5_19 : decode prog_74_method_1_code 19 = .ok (.putfield 13, 3) := by decide +kernel
theorem own_d5_22 : decode prog_74_method_1_code 22 = .ok (.aload_n 0, 1) := by decide +kernel
theorem own_d5_23 : decode prog_74_method_1_code 23 = .ok (.bipush 64, 2) := by decide +kernel
theorem own_d5_25 : decode prog_74_method_1_code 25 = .ok (.anewarray 17, 3) := by decide +kernel
theorem own_d5_28 : decode prog_74_method_1_code 28 = .ok (.putfield 18, 3) := by decide +kernel
theorem own_d5_31 : decode prog_74_method_1_code 31 = .ok (.aload_n 0, 1) := by decide +kernel
theorem own_d5_32 : decode prog_74_method_1_code 32 = .ok (.bipush 64, 2) := by decide +kernel
theorem own_d5_34 : decode prog_74_method_1_code 34 = .ok (.anewarray 22, 3) := by decide +kernel
theorem own_d5_37 : decode prog_74_method_1_code 37 = .ok (.putfield 24, 3) := by decide +kernel
theorem own_d5_40 : decode prog_74_method_1_code 40 = .ok (.aload_n 0, 1) := by decide +kernel
theorem own_d5_41 : decode prog_74_method_1_code 41 = .ok (.bipush 64, 2) := by decide +kernel
theorem own_d5_43 : decode prog_74_method_1_code 43 = .ok (.newarray .int, 2) := by decide +kernel
theorem own_d5_45 : decode prog_74_method_1_code 45 = .ok (.putfield 28, 3) := by decide +kernel
theorem own_d5_48 : decode prog_74_method_1_code 48 = .ok (.aload_n 0, 1) := by decide +kernel
theorem own_d5_49 : decode prog_74_method_1_code 49 = .ok (.bipush 64, 2) := by decide +kernel
theorem own_d5_51 : decode prog_74_method_1_code 51 = .ok (.newarray .long, 2) := by decide +kernel
theorem own_d5_53 : decode prog_74_method_1_code 53 = .ok (.putfield 31, 3) := by decide +kernel
theorem own_d5_56 : decode prog_74_method_1_code 56 = .ok (.aload_n 0, 1) := by decide +kernel
theorem own_d5_57 : decode prog_74_method_1_code 57 = .ok (.bipush 64, 2) := by decide +kernel
theorem own_d5_59 : decode prog_74_method_1_code 59 = .ok (.newarray .int, 2) := by decide +kernel
theorem own_d5_61 : decode prog_74_method_1_code 61 = .ok (.putfield 34, 3) := by decide +kernel
theorem own_d5_64 : decode prog_74_method_1_code 64 = .ok (.aload_n 0, 1) := by decide +kernel
theorem own_d5_65 : decode prog_74_method_1_code 65 = .ok (.bipush 64, 2) := by decide +kernel
theorem own_d5_67 : decode prog_74_method_1_code 67 = .ok (.newarray .int, 2) := by decide +kernel
theorem own_d5_69 : decode prog_74_method_1_code 69 = .ok (.putfield 37, 3) := by decide +kernel
theorem own_d5_72 : decode prog_74_method_1_code 72 = .ok (.aload_n 0, 1) := by decide +kernel
theorem own_d5_73 : decode prog_74_method_1_code 73 = .ok (.bipush 64, 2) := by decide +kernel
theorem own_d5_75 : decode prog_74_method_1_code 75 = .ok (.newarray .int, 2) := by decide +kernel
theorem own_d5_77 : decode prog_74_method_1_code 77 = .ok (.putfield 40, 3) := by decide +kernel
theorem own_d5_80 : decode prog_74_method_1_code 80 = .ok (.aload_n 0, 1) := by decide +kernel
theorem own_d5_81 : decode prog_74_method_1_code 81 = .ok (.bipush 65, 2) := by decide +kernel
theorem own_d5_83 : decode prog_74_method_1_code 83 = .ok (.newarray .long, 2) := by decide +kernel
theorem own_d5_85 : decode prog_74_method_1_code 85 = .ok (.putfield 43, 3) := by decide +kernel
theorem own_d5_88 : decode prog_74_method_1_code 88 = .ok (.aload_n 0, 1) := by decide +kernel
theorem own_d5_89 : decode prog_74_method_1_code 89 = .ok (.aload_n 1, 1) := by decide +kernel
theorem own_d5_90 : decode prog_74_method_1_code 90 = .ok (.putfield 46, 3) := by decide +kernel
theorem own_d5_93 : decode prog_74_method_1_code 93 = .ok (.return_, 1) := by decide +kernel
theorem own_pn3 : plainName "com/example/propagule/propagule/Trail" = true := by first | (simp [plainName, overriddenIn]; done) | decide +kernel
def own_Qtri (Z : State) (t : Addr) (li : Addr) (h0 : Heap) (n0 : Nat) (v : Option Value) (h : Heap) (L : List Loc) : Prop := v = none ∧ Fr n0 L ∧ ∃ wm cm wn, own_Tr Z h n0 t wm cm wn 0 0 (fun _ => 0)
theorem own_eftri (m : MethodId) (t : Addr) (li : Addr) : entryFrame m #[(.ref t), (.ref li)] 2 = mkF m 0 #[.val (.ref t), .val (.ref li)] [] := by first | (simp [entryFrame, mkF, argsToLocals, Value.category]; done) | rfl
set_option maxRecDepth 65536 in
set_option maxHeartbeats 16000000 in
theorem own_rmtri (l : Launch) (Z : State) (a0 : Array Value) (hw : ∀ d ∈ tables_1, d.before a0 Z = true) (ws : List Jvm.Cond) (t : Addr) (li : Addr) (h0 : Heap) (n0 : Nat) (Z0 : n0 ≤ h0.size) (E_t : Exa Z h0 t "com/example/propagule/propagule/Trail") (F_ints : Fld Z h0 t "com/example/propagule/propagule/Trail" "ints" "[I" .null) (F_longs : Fld Z h0 t "com/example/propagule/propagule/Trail" "longs" "[J" .null) (F_ranges : Fld Z h0 t "com/example/propagule/propagule/Trail" "ranges" "[[I" .null) (F_cellOwners : Fld Z h0 t "com/example/propagule/propagule/Trail" "cellOwners" "[Lcom/example/propagule/propagule/ReversibleLongs;" .null) (F_cellIndexes : Fld Z h0 t "com/example/propagule/propagule/Trail" "cellIndexes" "[I" .null) (F_cellValues : Fld Z h0 t "com/example/propagule/propagule/Trail" "cellValues" "[J" .null) (F_cellStamps : Fld Z h0 t "com/example/propagule/propagule/Trail" "cellStamps" "[I" .null) (F_worldMarks : Fld Z h0 t "com/example/propagule/propagule/Trail" "worldMarks" "[I" .null) (F_cellMarks : Fld Z h0 t "com/example/propagule/propagule/Trail" "cellMarks" "[I" .null) (F_worldNumbers : Fld Z h0 t "com/example/propagule/propagule/Trail" "worldNumbers" "[J" .null) (F_variables : Fld Z h0 t "com/example/propagule/propagule/Trail" "variables" "Ljava/util/List;" .null) (F_depth : Fld Z h0 t "com/example/propagule/propagule/Trail" "depth" "I" (.int (0 : Int32))) (F_entries : Fld Z h0 t "com/example/propagule/propagule/Trail" "entries" "I" (.int (0 : Int32))) (F_cellEntries : Fld Z h0 t "com/example/propagule/propagule/Trail" "cellEntries" "I" (.int (0 : Int32))) (F_worldsOpened : Fld Z h0 t "com/example/propagule/propagule/Trail" "worldsOpened" "J" (.long (0 : Int64))) (g_t : n0 ≤ t) :
    MetFree l (⟨"com/example/propagule/propagule/Trail", "<init>", "(Ljava/util/List;)V"⟩ : MethodName) (head1 (Jvm.Cond.code (⟨"com/example/propagule/propagule/Trail", "<init>", "(Ljava/util/List;)V"⟩ : MethodName) prog_74_method_1_code 2 none :: ws) ({ frames := 1, cells := 10, slots := 1025, locals := 12 } : Room)) (fun aa UU => aa = #[(.ref t), (.ref li)] ∧ Z.Warmed39 UU.vm ∧ UU.heap = h0) (fun _ _ _ _ _ => True) (fun _ U o U' => ∃ v L, o = .returned v ∧ own_Qtri Z t li h0 n0 v U'.heap L ∧ FrameEnd U o U' L ({ frames := 1, cells := 10, slots := 1025, locals := 12 } : Room).cells ({ frames := 1, cells := 10, slots := 1025, locals := 12 } : Room).slots) := by
  refine MetFree.of_bodySF (plainFor_of_name own_pn3) hisR ?_
  intro p e s m args below meth c s₁ Bd hml hP hK
  obtain ⟨rfl, hZ, hh⟩ := hP
  have hx := Bd.exec
  have hlk := Bd.notSynchronized
  have hby := Bd.bytes
  have hret := Bd.returns
  have hown := findClass_of_methodNamed Bd.named
  have hnm := (name_of_methodNamed Bd.named Bd.method).1
  have X0 : Stand p l e ({ frames := 1, cells := 10, slots := 1025, locals := 12 } : Room) s m #[(.ref t), (.ref li)] below meth c s₁ [] 0 0 := Stand.of_body Bd
  have e0 : s₁.heap = h0 := by rw [← hh, Bd.state]; rfl
  have N0 := Fr.nil n0
  refine own_cast (own_eftri m t li) ?_
  show own_Go p e below s s₁ _ (own_Qtri Z t li h0 n0) 10 1025
  refine own_st (g' := (mkF m 1 #[.val (.ref t), .val (.ref li)] [(.ref t)])) (fun tt_ kk_ => XS.aloadN X0.here hx rfl (hb hby own_d5_0) rfl rfl kk_) ?_
  obtain ⟨T10, X10, e10, st10⟩ := initO X0 hx hZ hown (hw _ (List.mem_of_getElem? (i := 33) rfl)) (hw _ (List.mem_of_getElem? (i := 23) rfl)) (hw _ (List.mem_of_getElem? (i := 24) rfl)) e0 (g := (mkF m 1 #[.val (.ref t), .val (.ref li)] [(.ref t)])) rfl (by rw [hml]; rfl) rfl (hb hby own_d5_1) (by decide) (W := 0) (by show 2 * 0 + _ ≤ _; exact Nat.le_of_eq rfl) (by decide)
  refine own_st (g' := (mkF m 4 #[.val (.ref t), .val (.ref li)] [])) st10 ?_
  refine own_st (g' := (mkF m 5 #[.val (.ref t), .val (.ref li)] [(.ref t)])) (fun tt_ kk_ => XS.aloadN X10.here hx rfl (hb hby own_d5_4) rfl rfl kk_) ?_
  refine own_st (g' := (mkF m 8 #[.val (.ref t), .val (.ref li)] [(.int (384 : Int32)), (.ref t)])) (fun tt_ kk_ => XS.sipush X10.here hx rfl (hb hby own_d5_5) kk_) ?_
  obtain ⟨T11, h11, k11, X11, e11, E11, A11, st11⟩ := newP X10 hx hZ (hw _ (List.mem_of_getElem? (i := 34) rfl)) e10 (g := (mkF m 8 #[.val (.ref t), .val (.ref li)] [(.int (384 : Int32)), (.ref t)])) rfl (hb hby own_d5_8) rfl (by decide) (cap := 384) (by decide) (by decide) (by decide) (by decide)
  obtain ⟨b11, g11⟩ : ∃ z, z = h0.size := ⟨_, rfl⟩
  rw [← g11] at A11 st11
  have ne12 : t ≠ b11 := Nat.ne_of_lt (Nat.lt_of_lt_of_le F_ints.lt (Nat.le_of_eq g11.symm))
  have gz11 : n0 ≤ b11 := Nat.le_trans Z0 (Nat.le_of_eq g11.symm)
  have Z11 : n0 ≤ h11.size := Nat.le_trans Z0 E11.1
  have P11 : own_AI Z h11 b11 384 (fun _ => 0) := own_AI.new A11 (by decide)
  refine own_st (g' := (mkF m 10 #[.val (.ref t), .val (.ref li)] [(.ref b11), (.ref t)])) st11 ?_
  have F14 := (F_ints.ext E11)
  have F15 := (E_t.ext E11)
  obtain ⟨T13, h13, X13, e13, W13, st13⟩ := putF X11 hx hZ hown (host := "") (Or.inl (hw _ (List.mem_of_getElem? (i := 35) rfl))) Via.refl e11 F14 F15 (Or.inl (hw _ (List.mem_of_getElem? (i := 36) rfl))) (hw _ (List.mem_of_getElem? (i := 2) rfl)) (ty := (.array .int)) (by decide) rfl rfl (g := (mkF m 10 #[.val (.ref t), .val (.ref li)] [(.ref b11), (.ref t)])) rfl rfl (hb hby own_d5_10)
  have N13 := Fr.snoc X13 N0 g_t
  have Z13 : n0 ≤ h13.size := Nat.le_trans Z11 (Keep.of_wr W13).1
  have F13 : Fld Z h13 t "com/example/propagule/propagule/Trail" "ints" "[I" (.ref b11) := F14.same W13
  refine own_st (g' := (mkF m 13 #[.val (.ref t), .val (.ref li)] [])) st13 ?_
  refine own_st (g' := (mkF m 14 #[.val (.ref t), .val (.ref li)] [(.ref t)])) (fun tt_ kk_ => XS.aloadN X13.here hx rfl (hb hby own_d5_13) rfl rfl kk_) ?_
  refine own_st (g' := (mkF m 17 #[.val (.ref t), .val (.ref li)] [(.int (128 : Int32)), (.ref t)])) (fun tt_ kk_ => XS.sipush X13.here hx rfl (hb hby own_d5_14) kk_) ?_
  obtain ⟨T16, h16, k16, X16, e16, E16, A16, st16⟩ := newP X13 hx hZ (hw _ (List.mem_of_getElem? (i := 37) rfl)) e13 (g := (mkF m 17 #[.val (.ref t), .val (.ref li)] [(.int (128 : Int32)), (.ref t)])) rfl (hb hby own_d5_17) rfl (by decide) (cap := 128) (by decide) (by decide) (by decide) (by decide)
  obtain ⟨b16, g16⟩ : ∃ z, z = h13.size := ⟨_, rfl⟩
  rw [← g16] at A16 st16
  have ne17 : t ≠ b16 := Nat.ne_of_lt (Nat.lt_of_lt_of_le F13.lt (Nat.le_of_eq g16.symm))
  have F19 := (P11.other W13 (Ne.symm ne12))
  have ne18 : b11 ≠ b16 := Nat.ne_of_lt (Nat.lt_of_lt_of_le F19.lt (Nat.le_of_eq g16.symm))
  have gz16 : n0 ≤ b16 := Nat.le_trans Z13 (Nat.le_of_eq g16.symm)
  have Z16 : n0 ≤ h16.size := Nat.le_trans Z13 E16.1
  have P16 : own_AJ Z h16 b16 128 (fun _ => 0) := own_AJ.new A16 (by decide)
  refine own_st (g' := (mkF m 19 #[.val (.ref t), .val (.ref li)] [(.ref b16), (.ref t)])) st16 ?_
  have F21 := (((F_longs.ext E11).other W13 (Or.inr (slot_ne (Or.inl (hw _ (List.mem_of_getElem? (i := 39) rfl))) (Or.inl (hw _ (List.mem_of_getElem? (i := 36) rfl))) (by decide) (t := (.array .long)) (t' := (.array .int)) (by decide) (by decide)))).ext E16)
  have F22 := ((F15.wr W13).ext E16)
  obtain ⟨T20, h20, X20, e20, W20, st20⟩ := putF X16 hx hZ hown (host := "") (Or.inl (hw _ (List.mem_of_getElem? (i := 38) rfl))) Via.refl e16 F21 F22 (Or.inl (hw _ (List.mem_of_getElem? (i := 39) rfl))) (hw _ (List.mem_of_getElem? (i := 2) rfl)) (ty := (.array .long)) (by decide) rfl rfl (g := (mkF m 19 #[.val (.ref t), .val (.ref li)] [(.ref b16), (.ref t)])) rfl rfl (hb hby own_d5_19)
  have N20 := Fr.snoc X20 N13 g_t
  have Z20 : n0 ≤ h20.size := Nat.le_trans Z16 (Keep.of_wr W20).1
  have F20 : Fld Z h20 t "com/example/propagule/propagule/Trail" "longs" "[J" (.ref b16) := F21.same W20
  refine own_st (g' := (mkF m 22 #[.val (.ref t), .val (.ref li)] [])) st20 ?_
  refine own_st (g' := (mkF m 23 #[.val (.ref t), .val (.ref li)] [(.ref t)])) (fun tt_ kk_ => XS.aloadN X20.here hx rfl (hb hby own_d5_22) rfl rfl kk_) ?_
  refine own_st (g' := (mkF m 25 #[.val (.ref t), .val (.ref li)] [(.int (64 : Int32)), (.ref t)])) (fun tt_ kk_ => XS.bipush X20.here hx rfl (hb hby own_d5_23) kk_) ?_
  obtain ⟨T23, h23, k23, X23, e23, E23, A23, -, -, st23⟩ := newRA X20 hx hZ hown (C := "[I") (by decide) (hw _ (List.mem_of_getElem? (i := 40) rfl)) (hw _ (List.mem_of_getElem? (i := 41) rfl)) e20 (g := (mkF m 25 #[.val (.ref t), .val (.ref li)] [(.int (64 : Int32)), (.ref t)])) rfl (hb hby own_d5_25) rfl (by decide) (cap := 64) (by decide) (by decide) (by decide) (by decide) (ad := "[[I") (by decide)
  obtain ⟨b23, g23⟩ : ∃ z, z = h20.size := ⟨_, rfl⟩
  rw [← g23] at A23 st23
  have F25 := ((F13.ext E16).other W20 (Or.inr (slot_ne (Or.inl (hw _ (List.mem_of_getElem? (i := 36) rfl))) (Or.inl (hw _ (List.mem_of_getElem? (i := 39) rfl))) (by decide) (t := (.array .int)) (t' := (.array .long)) (by decide) (by decide))))
  have ne24 : t ≠ b23 := Nat.ne_of_lt (Nat.lt_of_lt_of_le F25.lt (Nat.le_of_eq g23.symm))
  have F27 := ((F19.ext E16).other W20 (Ne.symm ne12))
  have ne26 : b11 ≠ b23 := Nat.ne_of_lt (Nat.lt_of_lt_of_le F27.lt (Nat.le_of_eq g23.symm))
  have F29 := (P16.other W20 (Ne.symm ne17))
  have ne28 : b16 ≠ b23 := Nat.ne_of_lt (Nat.lt_of_lt_of_le F29.lt (Nat.le_of_eq g23.symm))
  have gz23 : n0 ≤ b23 := Nat.le_trans Z20 (Nat.le_of_eq g23.symm)
  have Z23 : n0 ≤ h23.size := Nat.le_trans Z20 E23.1
  refine own_st (g' := (mkF m 28 #[.val (.ref t), .val (.ref li)] [(.ref b23), (.ref t)])) st23 ?_
  have F31 := (((((F_ranges.ext E11).other W13 (Or.inr (slot_ne (Or.inl (hw _ (List.mem_of_getElem? (i := 43) rfl))) (Or.inl (hw _ (List.mem_of_getElem? (i := 36) rfl))) (by decide) (t := (.array (.array .int))) (t' := (.array .int)) (by decide) (by decide)))).ext E16).other W20 (Or.inr (slot_ne (Or.inl (hw _ (List.mem_of_getElem? (i := 43) rfl))) (Or.inl (hw _ (List.mem_of_getElem? (i := 39) rfl))) (by decide) (t := (.array (.array .int))) (t' := (.array .long)) (by decide) (by decide)))).ext E23)
  have F32 := ((F22.wr W20).ext E23)
  obtain ⟨T30, h30, X30, e30, W30, st30⟩ := putF X23 hx hZ hown (host := "") (Or.inl (hw _ (List.mem_of_getElem? (i := 42) rfl))) Via.refl e23 F31 F32 (Or.inl (hw _ (List.mem_of_getElem? (i := 43) rfl))) (hw _ (List.mem_of_getElem? (i := 2) rfl)) (ty := (.array (.array .int))) (by decide) rfl rfl (g := (mkF m 28 #[.val (.ref t), .val (.ref li)] [(.ref b23), (.ref t)])) rfl rfl (hb hby own_d5_28)
  have N30 := Fr.snoc X30 N20 g_t
  have Z30 : n0 ≤ h30.size := Nat.le_trans Z23 (Keep.of_wr W30).1
  have F30 : Fld Z h30 t "com/example/propagule/propagule/Trail" "ranges" "[[I" (.ref b23) := F31.same W30
  refine own_st (g' := (mkF m 31 #[.val (.ref t), .val (.ref li)] [])) st30 ?_
  refine own_st (g' := (mkF m 32 #[.val (.ref t), .val (.ref li)] [(.ref t)])) (fun tt_ kk_ => XS.aloadN X30.here hx rfl (hb hby own_d5_31) rfl rfl kk_) ?_
  refine own_st (g' := (mkF m 34 #[.val (.ref t), .val (.ref li)] [(.int (64 : Int32)), (.ref t)])) (fun tt_ kk_ => XS.bipush X30.here hx rfl (hb hby own_d5_32) kk_) ?_
  obtain ⟨T33, h33, k33, X33, e33, E33, A33, -, st33⟩ := newR X30 hx hZ hown (hw _ (List.mem_of_getElem? (i := 44) rfl)) (hw _ (List.mem_of_getElem? (i := 45) rfl)) e30 (g := (mkF m 34 #[.val (.ref t), .val (.ref li)] [(.int (64 : Int32)), (.ref t)])) rfl (hb hby own_d5_34) rfl (by decide) (cap := 64) (by decide) (by decide) (by decide) (by decide)
  obtain ⟨b33, g33⟩ : ∃ z, z = h30.size := ⟨_, rfl⟩
  rw [← g33] at A33 st33
  have F35 := (A23.other W30 (Ne.symm ne24))
  have ne34 : b23 ≠ b33 := Nat.ne_of_lt (Nat.lt_of_lt_of_le F35.lt (Nat.le_of_eq g33.symm))
  have F37 := ((F25.ext E23).other W30 (Or.inr (slot_ne (Or.inl (hw _ (List.mem_of_getElem? (i := 36) rfl))) (Or.inl (hw _ (List.mem_of_getElem? (i := 43) rfl))) (by decide) (t := (.array .int)) (t' := (.array (.array .int))) (by decide) (by decide))))
  have ne36 : t ≠ b33 := Nat.ne_of_lt (Nat.lt_of_lt_of_le F37.lt (Nat.le_of_eq g33.symm))
  have F39 := ((F27.ext E23).other W30 (Ne.symm ne12))
  have ne38 : b11 ≠ b33 := Nat.ne_of_lt (Nat.lt_of_lt_of_le F39.lt (Nat.le_of_eq g33.symm))
  have F41 := ((F29.ext E23).other W30 (Ne.symm ne17))
  have ne40 : b16 ≠ b33 := Nat.ne_of_lt (Nat.lt_of_lt_of_le F41.lt (Nat.le_of_eq g33.symm))
  have gz33 : n0 ≤ b33 := Nat.le_trans Z30 (Nat.le_of_eq g33.symm)
  have Z33 : n0 ≤ h33.size := Nat.le_trans Z30 E33.1
  refine own_st (g' := (mkF m 37 #[.val (.ref t), .val (.ref li)] [(.ref b33), (.ref t)])) st33 ?_
  have F43 := (((((((F_cellOwners.ext E11).other W13 (Or.inr (slot_ne (Or.inl (hw _ (List.mem_of_getElem? (i := 47) rfl))) (Or.inl (hw _ (List.mem_of_getElem? (i := 36) rfl))) (by decide) (t := (.array (.object "com/example/propagule/propagule/ReversibleLongs"))) (t' := (.array .int)) (by decide) (by decide)))).ext E16).other W20 (Or.inr (slot_ne (Or.inl (hw _ (List.mem_of_getElem? (i := 47) rfl))) (Or.inl (hw _ (List.mem_of_getElem? (i := 39) rfl))) (by decide) (t := (.array (.object "com/example/propagule/propagule/ReversibleLongs"))) (t' := (.array .long)) (by decide) (by decide)))).ext E23).other W30 (Or.inr (slot_ne (Or.inl (hw _ (List.mem_of_getElem? (i := 47) rfl))) (Or.inl (hw _ (List.mem_of_getElem? (i := 43) rfl))) (by decide) (t := (.array (.object "com/example/propagule/propagule/ReversibleLongs"))) (t' := (.array (.array .int))) (by decide) (by decide)))).ext E33)
  have F44 := ((F32.wr W30).ext E33)
  obtain ⟨T42, h42, X42, e42, W42, st42⟩ := putF X33 hx hZ hown (host := "") (Or.inl (hw _ (List.mem_of_getElem? (i := 46) rfl))) Via.refl e33 F43 F44 (Or.inl (hw _ (List.mem_of_getElem? (i := 47) rfl))) (hw _ (List.mem_of_getElem? (i := 2) rfl)) (ty := (.array (.object "com/example/propagule/propagule/ReversibleLongs"))) (by decide) rfl rfl (g := (mkF m 37 #[.val (.ref t), .val (.ref li)] [(.ref b33), (.ref t)])) rfl rfl (hb hby own_d5_37)
  have N42 := Fr.snoc X42 N30 g_t
  have Z42 : n0 ≤ h42.size := Nat.le_trans Z33 (Keep.of_wr W42).1
  have F42 : Fld Z h42 t "com/example/propagule/propagule/Trail" "cellOwners" "[Lcom/example/propagule/propagule/ReversibleLongs;" (.ref b33) := F43.same W42
  refine own_st (g' := (mkF m 40 #[.val (.ref t), .val (.ref li)] [])) st42 ?_
  refine own_st (g' := (mkF m 41 #[.val (.ref t), .val (.ref li)] [(.ref t)])) (fun tt_ kk_ => XS.aloadN X42.here hx rfl (hb hby own_d5_40) rfl rfl kk_) ?_
  refine own_st (g' := (mkF m 43 #[.val (.ref t), .val (.ref li)] [(.int (64 : Int32)), (.ref t)])) (fun tt_ kk_ => XS.bipush X42.here hx rfl (hb hby own_d5_41) kk_) ?_
  obtain ⟨T45, h45, k45, X45, e45, E45, A45, st45⟩ := newP X42 hx hZ (hw _ (List.mem_of_getElem? (i := 34) rfl)) e42 (g := (mkF m 43 #[.val (.ref t), .val (.ref li)] [(.int (64 : Int32)), (.ref t)])) rfl (hb hby own_d5_43) rfl (by decide) (cap := 64) (by decide) (by decide) (by decide) (by decide)
  obtain ⟨b45, g45⟩ : ∃ z, z = h42.size := ⟨_, rfl⟩
  rw [← g45] at A45 st45
  have F47 := ((F35.ext E33).other W42 (Ne.symm ne24))
  have ne46 : b23 ≠ b45 := Nat.ne_of_lt (Nat.lt_of_lt_of_le F47.lt (Nat.le_of_eq g45.symm))
  have F49 := (A33.other W42 (Ne.symm ne36))
  have ne48 : b33 ≠ b45 := Nat.ne_of_lt (Nat.lt_of_lt_of_le F49.lt (Nat.le_of_eq g45.symm))
  have F51 := ((F37.ext E33).other W42 (Or.inr (slot_ne (Or.inl (hw _ (List.mem_of_getElem? (i := 36) rfl))) (Or.inl (hw _ (List.mem_of_getElem? (i := 47) rfl))) (by decide) (t := (.array .int)) (t' := (.array (.object "com/example/propagule/propagule/ReversibleLongs"))) (by decide) (by decide))))
  have ne50 : t ≠ b45 := Nat.ne_of_lt (Nat.lt_of_lt_of_le F51.lt (Nat.le_of_eq g45.symm))
  have F53 := ((F39.ext E33).other W42 (Ne.symm ne12))
  have ne52 : b11 ≠ b45 := Nat.ne_of_lt (Nat.lt_of_lt_of_le F53.lt (Nat.le_of_eq g45.symm))
  have F55 := ((F41.ext E33).other W42 (Ne.symm ne17))
  have ne54 : b16 ≠ b45 := Nat.ne_of_lt (Nat.lt_of_lt_of_le F55.lt (Nat.le_of_eq g45.symm))
  have gz45 : n0 ≤ b45 := Nat.le_trans Z42 (Nat.le_of_eq g45.symm)
  have Z45 : n0 ≤ h45.size := Nat.le_trans Z42 E45.1
  have P45 : own_AI Z h45 b45 64 (fun _ => 0) := own_AI.new A45 (by decide)
  refine own_st (g' := (mkF m 45 #[.val (.ref t), .val (.ref li)] [(.ref b45), (.ref t)])) st45 ?_
  have F57 := (((((((((F_cellIndexes.ext E11).other W13 (Or.inr (slot_ne (Or.inl (hw _ (List.mem_of_getElem? (i := 49) rfl))) (Or.inl (hw _ (List.mem_of_getElem? (i := 36) rfl))) (by decide) (t := (.array .int)) (t' := (.array .int)) (by decide) (by decide)))).ext E16).other W20 (Or.inr (slot_ne (Or.inl (hw _ (List.mem_of_getElem? (i := 49) rfl))) (Or.inl (hw _ (List.mem_of_getElem? (i := 39) rfl))) (by decide) (t := (.array .int)) (t' := (.array .long)) (by decide) (by decide)))).ext E23).other W30 (Or.inr (slot_ne (Or.inl (hw _ (List.mem_of_getElem? (i := 49) rfl))) (Or.inl (hw _ (List.mem_of_getElem? (i := 43) rfl))) (by decide) (t := (.array .int)) (t' := (.array (.array .int))) (by decide) (by decide)))).ext E33).other W42 (Or.inr (slot_ne (Or.inl (hw _ (List.mem_of_getElem? (i := 49) rfl))) (Or.inl (hw _ (List.mem_of_getElem? (i := 47) rfl))) (by decide) (t := (.array .int)) (t' := (.array (.object "com/example/propagule/propagule/ReversibleLongs"))) (by decide) (by decide)))).ext E45)
  have F58 := ((F44.wr W42).ext E45)
  obtain ⟨T56, h56, X56, e56, W56, st56⟩ := putF X45 hx hZ hown (host := "") (Or.inl (hw _ (List.mem_of_getElem? (i := 48) rfl))) Via.refl e45 F57 F58 (Or.inl (hw _ (List.mem_of_getElem? (i := 49) rfl))) (hw _ (List.mem_of_getElem? (i := 2) rfl)) (ty := (.array .int)) (by decide) rfl rfl (g := (mkF m 45 #[.val (.ref t), .val (.ref li)] [(.ref b45), (.ref t)])) rfl rfl (hb hby own_d5_45)
  have N56 := Fr.snoc X56 N42 g_t
  have Z56 : n0 ≤ h56.size := Nat.le_trans Z45 (Keep.of_wr W56).1
  have F56 : Fld Z h56 t "com/example/propagule/propagule/Trail" "cellIndexes" "[I" (.ref b45) := F57.same W56
  refine own_st (g' := (mkF m 48 #[.val (.ref t), .val (.ref li)] [])) st56 ?_
  refine own_st (g' := (mkF m 49 #[.val (.ref t), .val (.ref li)] [(.ref t)])) (fun tt_ kk_ => XS.aloadN X56.here hx rfl (hb hby own_d5_48) rfl rfl kk_) ?_
  refine own_st (g' := (mkF m 51 #[.val (.ref t), .val (.ref li)] [(.int (64 : Int32)), (.ref t)])) (fun tt_ kk_ => XS.bipush X56.here hx rfl (hb hby own_d5_49) kk_) ?_
  obtain ⟨T59, h59, k59, X59, e59, E59, A59, st59⟩ := newP X56 hx hZ (hw _ (List.mem_of_getElem? (i := 37) rfl)) e56 (g := (mkF m 51 #[.val (.ref t), .val (.ref li)] [(.int (64 : Int32)), (.ref t)])) rfl (hb hby own_d5_51) rfl (by decide) (cap := 64) (by decide) (by decide) (by decide) (by decide)
  obtain ⟨b59, g59⟩ : ∃ z, z = h56.size := ⟨_, rfl⟩
  rw [← g59] at A59 st59
  have F61 := ((F47.ext E45).other W56 (Ne.symm ne24))
  have ne60 : b23 ≠ b59 := Nat.ne_of_lt (Nat.lt_of_lt_of_le F61.lt (Nat.le_of_eq g59.symm))
  have F63 := ((F49.ext E45).other W56 (Ne.symm ne36))
  have ne62 : b33 ≠ b59 := Nat.ne_of_lt (Nat.lt_of_lt_of_le F63.lt (Nat.le_of_eq g59.symm))
  have F65 := ((F51.ext E45).other W56 (Or.inr (slot_ne (Or.inl (hw _ (List.mem_of_getElem? (i := 36) rfl))) (Or.inl (hw _ (List.mem_of_getElem? (i := 49) rfl))) (by decide) (t := (.array .int)) (t' := (.array .int)) (by decide) (by decide))))
  have ne64 : t ≠ b59 := Nat.ne_of_lt (Nat.lt_of_lt_of_le F65.lt (Nat.le_of_eq g59.symm))
  have F67 := ((F53.ext E45).other W56 (Ne.symm ne12))
  have ne66 : b11 ≠ b59 := Nat.ne_of_lt (Nat.lt_of_lt_of_le F67.lt (Nat.le_of_eq g59.symm))
  have F69 := ((F55.ext E45).other W56 (Ne.symm ne17))
  have ne68 : b16 ≠ b59 := Nat.ne_of_lt (Nat.lt_of_lt_of_le F69.lt (Nat.le_of_eq g59.symm))
  have F71 := (P45.other W56 (Ne.symm ne50))
  have ne70 : b45 ≠ b59 := Nat.ne_of_lt (Nat.lt_of_lt_of_le F71.lt (Nat.le_of_eq g59.symm))
  have gz59 : n0 ≤ b59 := Nat.le_trans Z56 (Nat.le_of_eq g59.symm)
  have Z59 : n0 ≤ h59.size := Nat.le_trans Z56 E59.1
  have P59 : own_AJ Z h59 b59 64 (fun _ => 0) := own_AJ.new A59 (by decide)
  refine own_st (g' := (mkF m 53 #[.val (.ref t), .val (.ref li)] [(.ref b59), (.ref t)])) st59 ?_
  have F73 := (((((((((((F_cellValues.ext E11).other W13 (Or.inr (slot_ne (Or.inl (hw _ (List.mem_of_getElem? (i := 51) rfl))) (Or.inl (hw _ (List.mem_of_getElem? (i := 36) rfl))) (by decide) (t := (.array .long)) (t' := (.array .int)) (by decide) (by decide)))).ext E16).other W20 (Or.inr (slot_ne (Or.inl (hw _ (List.mem_of_getElem? (i := 51) rfl))) (Or.inl (hw _ (List.mem_of_getElem? (i := 39) rfl))) (by decide) (t := (.array .long)) (t' := (.array .long)) (by decide) (by decide)))).ext E23).other W30 (Or.inr (slot_ne (Or.inl (hw _ (List.mem_of_getElem? (i := 51) rfl))) (Or.inl (hw _ (List.mem_of_getElem? (i := 43) rfl))) (by decide) (t := (.array .long)) (t' := (.array (.array .int))) (by decide) (by decide)))).ext E33).other W42 (Or.inr (slot_ne (Or.inl (hw _ (List.mem_of_getElem? (i := 51) rfl))) (Or.inl (hw _ (List.mem_of_getElem? (i := 47) rfl))) (by decide) (t := (.array .long)) (t' := (.array (.object "com/example/propagule/propagule/ReversibleLongs"))) (by decide) (by decide)))).ext E45).other W56 (Or.inr (slot_ne (Or.inl (hw _ (List.mem_of_getElem? (i := 51) rfl))) (Or.inl (hw _ (List.mem_of_getElem? (i := 49) rfl))) (by decide) (t := (.array .long)) (t' := (.array .int)) (by decide) (by decide)))).ext E59)
  have F74 := ((F58.wr W56).ext E59)
  obtain ⟨T72, h72, X72, e72, W72, st72⟩ := putF X59 hx hZ hown (host := "") (Or.inl (hw _ (List.mem_of_getElem? (i := 50) rfl))) Via.refl e59 F73 F74 (Or.inl (hw _ (List.mem_of_getElem? (i := 51) rfl))) (hw _ (List.mem_of_getElem? (i := 2) rfl)) (ty := (.array .long)) (by decide) rfl rfl (g := (mkF m 53 #[.val (.ref t), .val (.ref li)] [(.ref b59), (.ref t)])) rfl rfl (hb hby own_d5_53)
  have N72 := Fr.snoc X72 N56 g_t
  have Z72 : n0 ≤ h72.size := Nat.le_trans Z59 (Keep.of_wr W72).1
  have F72 : Fld Z h72 t "com/example/propagule/propagule/Trail" "cellValues" "[J" (.ref b59) := F73.same W72
  refine own_st (g' := (mkF m 56 #[.val (.ref t), .val (.ref li)] [])) st72 ?_
  refine own_st (g' := (mkF m 57 #[.val (.ref t), .val (.ref li)] [(.ref t)])) (fun tt_ kk_ => XS.aloadN X72.here hx rfl (hb hby own_d5_56) rfl rfl kk_) ?_
  refine own_st (g' := (mkF m 59 #[.val (.ref t), .val (.ref li)] [(.int (64 : Int32)), (.ref t)])) (fun tt_ kk_ => XS.bipush X72.here hx rfl (hb hby own_d5_57) kk_) ?_
  obtain ⟨T75, h75, k75, X75, e75, E75, A75, st75⟩ := newP X72 hx hZ (hw _ (List.mem_of_getElem? (i := 34) rfl)) e72 (g := (mkF m 59 #[.val (.ref t), .val (.ref li)] [(.int (64 : Int32)), (.ref t)])) rfl (hb hby own_d5_59) rfl (by decide) (cap := 64) (by decide) (by decide) (by decide) (by decide)
  obtain ⟨b75, g75⟩ : ∃ z, z = h72.size := ⟨_, rfl⟩
  rw [← g75] at A75 st75
  have F77 := ((F61.ext E59).other W72 (Ne.symm ne24))
  have ne76 : b23 ≠ b75 := Nat.ne_of_lt (Nat.lt_of_lt_of_le F77.lt (Nat.le_of_eq g75.symm))
  have F79 := ((F63.ext E59).other W72 (Ne.symm ne36))
  have ne78 : b33 ≠ b75 := Nat.ne_of_lt (Nat.lt_of_lt_of_le F79.lt (Nat.le_of_eq g75.symm))
  have F81 := ((F65.ext E59).other W72 (Or.inr (slot_ne (Or.inl (hw _ (List.mem_of_getElem? (i := 36) rfl))) (Or.inl (hw _ (List.mem_of_getElem? (i := 51) rfl))) (by decide) (t := (.array .int)) (t' := (.array .long)) (by decide) (by decide))))
  have ne80 : t ≠ b75 := Nat.ne_of_lt (Nat.lt_of_lt_of_le F81.lt (Nat.le_of_eq g75.symm))
  have F83 := ((F67.ext E59).other W72 (Ne.symm ne12))
  have ne82 : b11 ≠ b75 := Nat.ne_of_lt (Nat.lt_of_lt_of_le F83.lt (Nat.le_of_eq g75.symm))
  have F85 := ((F69.ext E59).other W72 (Ne.symm ne17))
  have ne84 : b16 ≠ b75 := Nat.ne_of_lt (Nat.lt_of_lt_of_le F85.lt (Nat.le_of_eq g75.symm))
  have F87 := ((F71.ext E59).other W72 (Ne.symm ne50))
  have ne86 : b45 ≠ b75 := Nat.ne_of_lt (Nat.lt_of_lt_of_le F87.lt (Nat.le_of_eq g75.symm))
  have F89 := (P59.other W72 (Ne.symm ne64))
  have ne88 : b59 ≠ b75 := Nat.ne_of_lt (Nat.lt_of_lt_of_le F89.lt (Nat.le_of_eq g75.symm))
  have gz75 : n0 ≤ b75 := Nat.le_trans Z72 (Nat.le_of_eq g75.symm)
  have Z75 : n0 ≤ h75.size := Nat.le_trans Z72 E75.1
  have P75 : own_AI Z h75 b75 64 (fun _ => 0) := own_AI.new A75 (by decide)
  refine own_st (g' := (mkF m 61 #[.val (.ref t), .val (.ref li)] [(.ref b75), (.ref t)])) st75 ?_
  have F91 := (((((((((((((F_cellStamps.ext E11).other W13 (Or.inr (slot_ne (Or.inl (hw _ (List.mem_of_getElem? (i := 53) rfl))) (Or.inl (hw _ (List.mem_of_getElem? (i := 36) rfl))) (by decide) (t := (.array .int)) (t' := (.array .int)) (by decide) (by decide)))).ext E16).other W20 (Or.inr (slot_ne (Or.inl (hw _ (List.mem_of_getElem? (i := 53) rfl))) (Or.inl (hw _ (List.mem_of_getElem? (i := 39) rfl))) (by decide) (t := (.array .int)) (t' := (.array .long)) (by decide) (by decide)))).ext E23).other W30 (Or.inr (slot_ne (Or.inl (hw _ (List.mem_of_getElem? (i := 53) rfl))) (Or.inl (hw _ (List.mem_of_getElem? (i := 43) rfl))) (by decide) (t := (.array .int)) (t' := (.array (.array .int))) (by decide) (by decide)))).ext E33).other W42 (Or.inr (slot_ne (Or.inl (hw _ (List.mem_of_getElem? (i := 53) rfl))) (Or.inl (hw _ (List.mem_of_getElem? (i := 47) rfl))) (by decide) (t := (.array .int)) (t' := (.array (.object "com/example/propagule/propagule/ReversibleLongs"))) (by decide) (by decide)))).ext E45).other W56 (Or.inr (slot_ne (Or.inl (hw _ (List.mem_of_getElem? (i := 53) rfl))) (Or.inl (hw _ (List.mem_of_getElem? (i := 49) rfl))) (by decide) (t := (.array .int)) (t' := (.array .int)) (by decide) (by decide)))).ext E59).other W72 (Or.inr (slot_ne (Or.inl (hw _ (List.mem_of_getElem? (i := 53) rfl))) (Or.inl (hw _ (List.mem_of_getElem? (i := 51) rfl))) (by decide) (t := (.array .int)) (t' := (.array .long)) (by decide) (by decide)))).ext E75)
  have F92 := ((F74.wr W72).ext E75)
  obtain ⟨T90, h90, X90, e90, W90, st90⟩ := putF X75 hx hZ hown (host := "") (Or.inl (hw _ (List.mem_of_getElem? (i := 52) rfl))) Via.refl e75 F91 F92 (Or.inl (hw _ (List.mem_of_getElem? (i := 53) rfl))) (hw _ (List.mem_of_getElem? (i := 2) rfl)) (ty := (.array .int)) (by decide) rfl rfl (g := (mkF m 61 #[.val (.ref t), .val (.ref li)] [(.ref b75), (.ref t)])) rfl rfl (hb hby own_d5_61)
  have N90 := Fr.snoc X90 N72 g_t
  have Z90 : n0 ≤ h90.size := Nat.le_trans Z75 (Keep.of_wr W90).1
  have F90 : Fld Z h90 t "com/example/propagule/propagule/Trail" "cellStamps" "[I" (.ref b75) := F91.same W90
  refine own_st (g' := (mkF m 64 #[.val (.ref t), .val (.ref li)] [])) st90 ?_
  refine own_st (g' := (mkF m 65 #[.val (.ref t), .val (.ref li)] [(.ref t)])) (fun tt_ kk_ => XS.aloadN X90.here hx rfl (hb hby own_d5_64) rfl rfl kk_) ?_
  refine own_st (g' := (mkF m 67 #[.val (.ref t), .val (.ref li)] [(.int (64 : Int32)), (.ref t)])) (fun tt_ kk_ => XS.bipush X90.here hx rfl (hb hby own_d5_65) kk_) ?_
  obtain ⟨T93, h93, k93, X93, e93, E93, A93, st93⟩ := newP X90 hx hZ (hw _ (List.mem_of_getElem? (i := 34) rfl)) e90 (g := (mkF m 67 #[.val (.ref t), .val (.ref li)] [(.int (64 : Int32)), (.ref t)])) rfl (hb hby own_d5_67) rfl (by decide) (cap := 64) (by decide) (by decide) (by decide) (by decide)
  obtain ⟨b93, g93⟩ : ∃ z, z = h90.size := ⟨_, rfl⟩
  rw [← g93] at A93 st93
  have F95 := ((F77.ext E75).other W90 (Ne.symm ne24))
  have ne94 : b23 ≠ b93 := Nat.ne_of_lt (Nat.lt_of_lt_of_le F95.lt (Nat.le_of_eq g93.symm))
  have F97 := ((F79.ext E75).other W90 (Ne.symm ne36))
  have ne96 : b33 ≠ b93 := Nat.ne_of_lt (Nat.lt_of_lt_of_le F97.lt (Nat.le_of_eq g93.symm))
  have F99 := ((F81.ext E75).other W90 (Or.inr (slot_ne (Or.inl (hw _ (List.mem_of_getElem? (i := 36) rfl))) (Or.inl (hw _ (List.mem_of_getElem? (i := 53) rfl))) (by decide) (t := (.array .int)) (t' := (.array .int)) (by decide) (by decide))))
  have ne98 : t ≠ b93 := Nat.ne_of_lt (Nat.lt_of_lt_of_le F99.lt (Nat.le_of_eq g93.symm))
  have F101 := ((F83.ext E75).other W90 (Ne.symm ne12))
  have ne100 : b11 ≠ b93 := Nat.ne_of_lt (Nat.lt_of_lt_of_le F101.lt (Nat.le_of_eq g93.symm))
  have F103 := ((F85.ext E75).other W90 (Ne.symm ne17))
  have ne102 : b16 ≠ b93 := Nat.ne_of_lt (Nat.lt_of_lt_of_le F103.lt (Nat.le_of_eq g93.symm))
  have F105 := ((F87.ext E75).other W90 (Ne.symm ne50))
  have ne104 : b45 ≠ b93 := Nat.ne_of_lt (Nat.lt_of_lt_of_le F105.lt (Nat.le_of_eq g93.symm))
  have F107 := ((F89.ext E75).other W90 (Ne.symm ne64))
  have ne106 : b59 ≠ b93 := Nat.ne_of_lt (Nat.lt_of_lt_of_le F107.lt (Nat.le_of_eq g93.symm))
  have F109 := (P75.other W90 (Ne.symm ne80))
  have ne108 : b75 ≠ b93 := Nat.ne_of_lt (Nat.lt_of_lt_of_le F109.lt (Nat.le_of_eq g93.symm))
  have gz93 : n0 ≤ b93 := Nat.le_trans Z90 (Nat.le_of_eq g93.symm)
  have Z93 : n0 ≤ h93.size := Nat.le_trans Z90 E93.1
  have P93 : own_AI Z h93 b93 64 (fun _ => 0) := own_AI.new A93 (by decide)
  refine own_st (g' := (mkF m 69 #[.val (.ref t), .val (.ref li)] [(.ref b93), (.ref t)])) st93 ?_
  have F111 := (((((((((((((((F_worldMarks.ext E11).other W13 (Or.inr (slot_ne (Or.inl (hw _ (List.mem_of_getElem? (i := 55) rfl))) (Or.inl (hw _ (List.mem_of_getElem? (i := 36) rfl))) (by decide) (t := (.array .int)) (t' := (.array .int)) (by decide) (by decide)))).ext E16).other W20 (Or.inr (slot_ne (Or.inl (hw _ (List.mem_of_getElem? (i := 55) rfl))) (Or.inl (hw _ (List.mem_of_getElem? (i := 39) rfl))) (by decide) (t := (.array .int)) (t' := (.array .long)) (by decide) (by decide)))).ext E23).other W30 (Or.inr (slot_ne (Or.inl (hw _ (List.mem_of_getElem? (i := 55) rfl))) (Or.inl (hw _ (List.mem_of_getElem? (i := 43) rfl))) (by decide) (t := (.array .int)) (t' := (.array (.array .int))) (by decide) (by decide)))).ext E33).other W42 (Or.inr (slot_ne (Or.inl (hw _ (List.mem_of_getElem? (i := 55) rfl))) (Or.inl (hw _ (List.mem_of_getElem? (i := 47) rfl))) (by decide) (t := (.array .int)) (t' := (.array (.object "com/example/propagule/propagule/ReversibleLongs"))) (by decide) (by decide)))).ext E45).other W56 (Or.inr (slot_ne (Or.inl (hw _ (List.mem_of_getElem? (i := 55) rfl))) (Or.inl (hw _ (List.mem_of_getElem? (i := 49) rfl))) (by decide) (t := (.array .int)) (t' := (.array .int)) (by decide) (by decide)))).ext E59).other W72 (Or.inr (slot_ne (Or.inl (hw _ (List.mem_of_getElem? (i := 55) rfl))) (Or.inl (hw _ (List.mem_of_getElem? (i := 51) rfl))) (by decide) (t := (.array .int)) (t' := (.array .long)) (by decide) (by decide)))).ext E75).other W90 (Or.inr (slot_ne (Or.inl (hw _ (List.mem_of_getElem? (i := 55) rfl))) (Or.inl (hw _ (List.mem_of_getElem? (i := 53) rfl))) (by decide) (t := (.array .int)) (t' := (.array .int)) (by decide) (by decide)))).ext E93)
  have F112 := ((F92.wr W90).ext E93)
  obtain ⟨T110, h110, X110, e110, W110, st110⟩ := putF X93 hx hZ hown (host := "") (Or.inl (hw _ (List.mem_of_getElem? (i := 54) rfl))) Via.refl e93 F111 F112 (Or.inl (hw _ (List.mem_of_getElem? (i := 55) rfl))) (hw _ (List.mem_of_getElem? (i := 2) rfl)) (ty := (.array .int)) (by decide) rfl rfl (g := (mkF m 69 #[.val (.ref t), .val (.ref li)] [(.ref b93), (.ref t)])) rfl rfl (hb hby own_d5_69)
  have N110 := Fr.snoc X110 N90 g_t
  have Z110 : n0 ≤ h110.size := Nat.le_trans Z93 (Keep.of_wr W110).1
  have F110 : Fld Z h110 t "com/example/propagule/propagule/Trail" "worldMarks" "[I" (.ref b93) := F111.same W110
  refine own_st (g' := (mkF m 72 #[.val (.ref t), .val (.ref li)] [])) st110 ?_
  refine own_st (g' := (mkF m 73 #[.val (.ref t), .val (.ref li)] [(.ref t)])) (fun tt_ kk_ => XS.aloadN X110.here hx rfl (hb hby own_d5_72) rfl rfl kk_) ?_
  refine own_st (g' := (mkF m 75 #[.val (.ref t), .val (.ref li)] [(.int (64 : Int32)), (.ref t)])) (fun tt_ kk_ => XS.bipush X110.here hx rfl (hb hby own_d5_73) kk_) ?_
  obtain ⟨T113, h113, k113, X113, e113, E113, A113, st113⟩ := newP X110 hx hZ (hw _ (List.mem_of_getElem? (i := 34) rfl)) e110 (g := (mkF m 75 #[.val (.ref t), .val (.ref li)] [(.int (64 : Int32)), (.ref t)])) rfl (hb hby own_d5_75) rfl (by decide) (cap := 64) (by decide) (by decide) (by decide) (by decide)
  obtain ⟨b113, g113⟩ : ∃ z, z = h110.size := ⟨_, rfl⟩
  rw [← g113] at A113 st113
  have F115 := ((F95.ext E93).other W110 (Ne.symm ne24))
  have ne114 : b23 ≠ b113 := Nat.ne_of_lt (Nat.lt_of_lt_of_le F115.lt (Nat.le_of_eq g113.symm))
  have F117 := ((F97.ext E93).other W110 (Ne.symm ne36))
  have ne116 : b33 ≠ b113 := Nat.ne_of_lt (Nat.lt_of_lt_of_le F117.lt (Nat.le_of_eq g113.symm))
  have F119 := ((F99.ext E93).other W110 (Or.inr (slot_ne (Or.inl (hw _ (List.mem_of_getElem? (i := 36) rfl))) (Or.inl (hw _ (List.mem_of_getElem? (i := 55) rfl))) (by decide) (t := (.array .int)) (t' := (.array .int)) (by decide) (by decide))))
  have ne118 : t ≠ b113 := Nat.ne_of_lt (Nat.lt_of_lt_of_le F119.lt (Nat.le_of_eq g113.symm))
  have F121 := ((F101.ext E93).other W110 (Ne.symm ne12))
  have ne120 : b11 ≠ b113 := Nat.ne_of_lt (Nat.lt_of_lt_of_le F121.lt (Nat.le_of_eq g113.symm))
  have F123 := ((F103.ext E93).other W110 (Ne.symm ne17))
  have ne122 : b16 ≠ b113 := Nat.ne_of_lt (Nat.lt_of_lt_of_le F123.lt (Nat.le_of_eq g113.symm))
  have F125 := ((F105.ext E93).other W110 (Ne.symm ne50))
  have ne124 : b45 ≠ b113 := Nat.ne_of_lt (Nat.lt_of_lt_of_le F125.lt (Nat.le_of_eq g113.symm))
  have F127 := ((F107.ext E93).other W110 (Ne.symm ne64))
  have ne126 : b59 ≠ b113 := Nat.ne_of_lt (Nat.lt_of_lt_of_le F127.lt (Nat.le_of_eq g113.symm))
  have F129 := ((F109.ext E93).other W110 (Ne.symm ne80))
  have ne128 : b75 ≠ b113 := Nat.ne_of_lt (Nat.lt_of_lt_of_le F129.lt (Nat.le_of_eq g113.symm))
  have F131 := (P93.other W110 (Ne.symm ne98))
  have ne130 : b93 ≠ b113 := Nat.ne_of_lt (Nat.lt_of_lt_of_le F131.lt (Nat.le_of_eq g113.symm))
  have gz113 : n0 ≤ b113 := Nat.le_trans Z110 (Nat.le_of_eq g113.symm)
  have Z113 : n0 ≤ h113.size := Nat.le_trans Z110 E113.1
  have P113 : own_AI Z h113 b113 64 (fun _ => 0) := own_AI.new A113 (by decide)
  refine own_st (g' := (mkF m 77 #[.val (.ref t), .val (.ref li)] [(.ref b113), (.ref t)])) st113 ?_
  have F133 := (((((((((((((((((F_cellMarks.ext E11).other W13 (Or.inr (slot_ne (Or.inl (hw _ (List.mem_of_getElem? (i := 57) rfl))) (Or.inl (hw _ (List.mem_of_getElem? (i := 36) rfl))) (by decide) (t := (.array .int)) (t' := (.array .int)) (by decide) (by decide)))).ext E16).other W20 (Or.inr (slot_ne (Or.inl (hw _ (List.mem_of_getElem? (i := 57) rfl))) (Or.inl (hw _ (List.mem_of_getElem? (i := 39) rfl))) (by decide) (t := (.array .int)) (t' := (.array .long)) (by decide) (by decide)))).ext E23).other W30 (Or.inr (slot_ne (Or.inl (hw _ (List.mem_of_getElem? (i := 57) rfl))) (Or.inl (hw _ (List.mem_of_getElem? (i := 43) rfl))) (by decide) (t := (.array .int)) (t' := (.array (.array .int))) (by decide) (by decide)))).ext E33).other W42 (Or.inr (slot_ne (Or.inl (hw _ (List.mem_of_getElem? (i := 57) rfl))) (Or.inl (hw _ (List.mem_of_getElem? (i := 47) rfl))) (by decide) (t := (.array .int)) (t' := (.array (.object "com/example/propagule/propagule/ReversibleLongs"))) (by decide) (by decide)))).ext E45).other W56 (Or.inr (slot_ne (Or.inl (hw _ (List.mem_of_getElem? (i := 57) rfl))) (Or.inl (hw _ (List.mem_of_getElem? (i := 49) rfl))) (by decide) (t := (.array .int)) (t' := (.array .int)) (by decide) (by decide)))).ext E59).other W72 (Or.inr (slot_ne (Or.inl (hw _ (List.mem_of_getElem? (i := 57) rfl))) (Or.inl (hw _ (List.mem_of_getElem? (i := 51) rfl))) (by decide) (t := (.array .int)) (t' := (.array .long)) (by decide) (by decide)))).ext E75).other W90 (Or.inr (slot_ne (Or.inl (hw _ (List.mem_of_getElem? (i := 57) rfl))) (Or.inl (hw _ (List.mem_of_getElem? (i := 53) rfl))) (by decide) (t := (.array .int)) (t' := (.array .int)) (by decide) (by decide)))).ext E93).other W110 (Or.inr (slot_ne (Or.inl (hw _ (List.mem_of_getElem? (i := 57) rfl))) (Or.inl (hw _ (List.mem_of_getElem? (i := 55) rfl))) (by decide) (t := (.array .int)) (t' := (.array .int)) (by decide) (by decide)))).ext E113)
  have F134 := ((F112.wr W110).ext E113)
  obtain ⟨T132, h132, X132, e132, W132, st132⟩ := putF X113 hx hZ hown (host := "") (Or.inl (hw _ (List.mem_of_getElem? (i := 56) rfl))) Via.refl e113 F133 F134 (Or.inl (hw _ (List.mem_of_getElem? (i := 57) rfl))) (hw _ (List.mem_of_getElem? (i := 2) rfl)) (ty := (.array .int)) (by decide) rfl rfl (g := (mkF m 77 #[.val (.ref t), .val (.ref li)] [(.ref b113), (.ref t)])) rfl rfl (hb hby own_d5_77)
  have N132 := Fr.snoc X132 N110 g_t
  have Z132 : n0 ≤ h132.size := Nat.le_trans Z113 (Keep.of_wr W132).1
  have F132 : Fld Z h132 t "com/example/propagule/propagule/Trail" "cellMarks" "[I" (.ref b113) := F133.same W132
  refine own_st (g' := (mkF m 80 #[.val (.ref t), .val (.ref li)] [])) st132 ?_
  refine own_st (g' := (mkF m 81 #[.val (.ref t), .val (.ref li)] [(.ref t)])) (fun tt_ kk_ => XS.aloadN X132.here hx rfl (hb hby own_d5_80) rfl rfl kk_) ?_
  refine own_st (g' := (mkF m 83 #[.val (.ref t), .val (.ref li)] [(.int (65 : Int32)), (.ref t)])) (fun tt_ kk_ => XS.bipush X132.here hx rfl (hb hby own_d5_81) kk_) ?_
  obtain ⟨T135, h135, k135, X135, e135, E135, A135, st135⟩ := newP X132 hx hZ (hw _ (List.mem_of_getElem? (i := 37) rfl)) e132 (g := (mkF m 83 #[.val (.ref t), .val (.ref li)] [(.int (65 : Int32)), (.ref t)])) rfl (hb hby own_d5_83) rfl (by decide) (cap := 65) (by decide) (by decide) (by decide) (by decide)
  obtain ⟨b135, g135⟩ : ∃ z, z = h132.size := ⟨_, rfl⟩
  rw [← g135] at A135 st135
  have F137 := ((F115.ext E113).other W132 (Ne.symm ne24))
  have ne136 : b23 ≠ b135 := Nat.ne_of_lt (Nat.lt_of_lt_of_le F137.lt (Nat.le_of_eq g135.symm))
  have F139 := ((F117.ext E113).other W132 (Ne.symm ne36))
  have ne138 : b33 ≠ b135 := Nat.ne_of_lt (Nat.lt_of_lt_of_le F139.lt (Nat.le_of_eq g135.symm))
  have F141 := ((F119.ext E113).other W132 (Or.inr (slot_ne (Or.inl (hw _ (List.mem_of_getElem? (i := 36) rfl))) (Or.inl (hw _ (List.mem_of_getElem? (i := 57) rfl))) (by decide) (t := (.array .int)) (t' := (.array .int)) (by decide) (by decide))))
  have ne140 : t ≠ b135 := Nat.ne_of_lt (Nat.lt_of_lt_of_le F141.lt (Nat.le_of_eq g135.symm))
  have F143 := ((F121.ext E113).other W132 (Ne.symm ne12))
  have ne142 : b11 ≠ b135 := Nat.ne_of_lt (Nat.lt_of_lt_of_le F143.lt (Nat.le_of_eq g135.symm))
  have F145 := (P113.other W132 (Ne.symm ne118))
  have ne144 : b113 ≠ b135 := Nat.ne_of_lt (Nat.lt_of_lt_of_le F145.lt (Nat.le_of_eq g135.symm))
  have F147 := ((F123.ext E113).other W132 (Ne.symm ne17))
  have ne146 : b16 ≠ b135 := Nat.ne_of_lt (Nat.lt_of_lt_of_le F147.lt (Nat.le_of_eq g135.symm))
  have F149 := ((F125.ext E113).other W132 (Ne.symm ne50))
  have ne148 : b45 ≠ b135 := Nat.ne_of_lt (Nat.lt_of_lt_of_le F149.lt (Nat.le_of_eq g135.symm))
  have F151 := ((F127.ext E113).other W132 (Ne.symm ne64))
  have ne150 : b59 ≠ b135 := Nat.ne_of_lt (Nat.lt_of_lt_of_le F151.lt (Nat.le_of_eq g135.symm))
  have F153 := ((F129.ext E113).other W132 (Ne.symm ne80))
  have ne152 : b75 ≠ b135 := Nat.ne_of_lt (Nat.lt_of_lt_of_le F153.lt (Nat.le_of_eq g135.symm))
  have F155 := ((F131.ext E113).other W132 (Ne.symm ne98))
  have ne154 : b93 ≠ b135 := Nat.ne_of_lt (Nat.lt_of_lt_of_le F155.lt (Nat.le_of_eq g135.symm))
  have gz135 : n0 ≤ b135 := Nat.le_trans Z132 (Nat.le_of_eq g135.symm)
  have Z135 : n0 ≤ h135.size := Nat.le_trans Z132 E135.1
  have P135 : own_AJ Z h135 b135 65 (fun _ => 0) := own_AJ.new A135 (by decide)
  refine own_st (g' := (mkF m 85 #[.val (.ref t), .val (.ref li)] [(.ref b135), (.ref t)])) st135 ?_
  have F157 := (((((((((((((((((((F_worldNumbers.ext E11).other W13 (Or.inr (slot_ne (Or.inl (hw _ (List.mem_of_getElem? (i := 59) rfl))) (Or.inl (hw _ (List.mem_of_getElem? (i := 36) rfl))) (by decide) (t := (.array .long)) (t' := (.array .int)) (by decide) (by decide)))).ext E16).other W20 (Or.inr (slot_ne (Or.inl (hw _ (List.mem_of_getElem? (i := 59) rfl))) (Or.inl (hw _ (List.mem_of_getElem? (i := 39) rfl))) (by decide) (t := (.array .long)) (t' := (.array .long)) (by decide) (by decide)))).ext E23).other W30 (Or.inr (slot_ne (Or.inl (hw _ (List.mem_of_getElem? (i := 59) rfl))) (Or.inl (hw _ (List.mem_of_getElem? (i := 43) rfl))) (by decide) (t := (.array .long)) (t' := (.array (.array .int))) (by decide) (by decide)))).ext E33).other W42 (Or.inr (slot_ne (Or.inl (hw _ (List.mem_of_getElem? (i := 59) rfl))) (Or.inl (hw _ (List.mem_of_getElem? (i := 47) rfl))) (by decide) (t := (.array .long)) (t' := (.array (.object "com/example/propagule/propagule/ReversibleLongs"))) (by decide) (by decide)))).ext E45).other W56 (Or.inr (slot_ne (Or.inl (hw _ (List.mem_of_getElem? (i := 59) rfl))) (Or.inl (hw _ (List.mem_of_getElem? (i := 49) rfl))) (by decide) (t := (.array .long)) (t' := (.array .int)) (by decide) (by decide)))).ext E59).other W72 (Or.inr (slot_ne (Or.inl (hw _ (List.mem_of_getElem? (i := 59) rfl))) (Or.inl (hw _ (List.mem_of_getElem? (i := 51) rfl))) (by decide) (t := (.array .long)) (t' := (.array .long)) (by decide) (by decide)))).ext E75).other W90 (Or.inr (slot_ne (Or.inl (hw _ (List.mem_of_getElem? (i := 59) rfl))) (Or.inl (hw _ (List.mem_of_getElem? (i := 53) rfl))) (by decide) (t := (.array .long)) (t' := (.array .int)) (by decide) (by decide)))).ext E93).other W110 (Or.inr (slot_ne (Or.inl (hw _ (List.mem_of_getElem? (i := 59) rfl))) (Or.inl (hw _ (List.mem_of_getElem? (i := 55) rfl))) (by decide) (t := (.array .long)) (t' := (.array .int)) (by decide) (by decide)))).ext E113).other W132 (Or.inr (slot_ne (Or.inl (hw _ (List.mem_of_getElem? (i := 59) rfl))) (Or.inl (hw _ (List.mem_of_getElem? (i := 57) rfl))) (by decide) (t := (.array .long)) (t' := (.array .int)) (by decide) (by decide)))).ext E135)
  have F158 := ((F134.wr W132).ext E135)
  obtain ⟨T156, h156, X156, e156, W156, st156⟩ := putF X135 hx hZ hown (host := "") (Or.inl (hw _ (List.mem_of_getElem? (i := 58) rfl))) Via.refl e135 F157 F158 (Or.inl (hw _ (List.mem_of_getElem? (i := 59) rfl))) (hw _ (List.mem_of_getElem? (i := 2) rfl)) (ty := (.array .long)) (by decide) rfl rfl (g := (mkF m 85 #[.val (.ref t), .val (.ref li)] [(.ref b135), (.ref t)])) rfl rfl (hb hby own_d5_85)
  have N156 := Fr.snoc X156 N132 g_t
  have Z156 : n0 ≤ h156.size := Nat.le_trans Z135 (Keep.of_wr W156).1
  have F156 : Fld Z h156 t "com/example/propagule/propagule/Trail" "worldNumbers" "[J" (.ref b135) := F157.same W156
  refine own_st (g' := (mkF m 88 #[.val (.ref t), .val (.ref li)] [])) st156 ?_
  refine own_st (g' := (mkF m 89 #[.val (.ref t), .val (.ref li)] [(.ref t)])) (fun tt_ kk_ => XS.aloadN X156.here hx rfl (hb hby own_d5_88) rfl rfl kk_) ?_
  refine own_st (g' := (mkF m 90 #[.val (.ref t), .val (.ref li)] [(.ref li), (.ref t)])) (fun tt_ kk_ => XS.aloadN X156.here hx rfl (hb hby own_d5_89) rfl rfl kk_) ?_
  have F160 := ((((((((((((((((((((F_variables.ext E11).other W13 (Or.inr (slot_ne (Or.inr (hw _ (List.mem_of_getElem? (i := 61) rfl))) (Or.inl (hw _ (List.mem_of_getElem? (i := 36) rfl))) (by decide) (t := (.object "java/util/List")) (t' := (.array .int)) (by decide) (by decide)))).ext E16).other W20 (Or.inr (slot_ne (Or.inr (hw _ (List.mem_of_getElem? (i := 61) rfl))) (Or.inl (hw _ (List.mem_of_getElem? (i := 39) rfl))) (by decide) (t := (.object "java/util/List")) (t' := (.array .long)) (by decide) (by decide)))).ext E23).other W30 (Or.inr (slot_ne (Or.inr (hw _ (List.mem_of_getElem? (i := 61) rfl))) (Or.inl (hw _ (List.mem_of_getElem? (i := 43) rfl))) (by decide) (t := (.object "java/util/List")) (t' := (.array (.array .int))) (by decide) (by decide)))).ext E33).other W42 (Or.inr (slot_ne (Or.inr (hw _ (List.mem_of_getElem? (i := 61) rfl))) (Or.inl (hw _ (List.mem_of_getElem? (i := 47) rfl))) (by decide) (t := (.object "java/util/List")) (t' := (.array (.object "com/example/propagule/propagule/ReversibleLongs"))) (by decide) (by decide)))).ext E45).other W56 (Or.inr (slot_ne (Or.inr (hw _ (List.mem_of_getElem? (i := 61) rfl))) (Or.inl (hw _ (List.mem_of_getElem? (i := 49) rfl))) (by decide) (t := (.object "java/util/List")) (t' := (.array .int)) (by decide) (by decide)))).ext E59).other W72 (Or.inr (slot_ne (Or.inr (hw _ (List.mem_of_getElem? (i := 61) rfl))) (Or.inl (hw _ (List.mem_of_getElem? (i := 51) rfl))) (by decide) (t := (.object "java/util/List")) (t' := (.array .long)) (by decide) (by decide)))).ext E75).other W90 (Or.inr (slot_ne (Or.inr (hw _ (List.mem_of_getElem? (i := 61) rfl))) (Or.inl (hw _ (List.mem_of_getElem? (i := 53) rfl))) (by decide) (t := (.object "java/util/List")) (t' := (.array .int)) (by decide) (by decide)))).ext E93).other W110 (Or.inr (slot_ne (Or.inr (hw _ (List.mem_of_getElem? (i := 61) rfl))) (Or.inl (hw _ (List.mem_of_getElem? (i := 55) rfl))) (by decide) (t := (.object "java/util/List")) (t' := (.array .int)) (by decide) (by decide)))).ext E113).other W132 (Or.inr (slot_ne (Or.inr (hw _ (List.mem_of_getElem? (i := 61) rfl))) (Or.inl (hw _ (List.mem_of_getElem? (i := 57) rfl))) (by decide) (t := (.object "java/util/List")) (t' := (.array .int)) (by decide) (by decide)))).ext E135).other W156 (Or.inr (slot_ne (Or.inr (hw _ (List.mem_of_getElem? (i := 61) rfl))) (Or.inl (hw _ (List.mem_of_getElem? (i := 59) rfl))) (by decide) (t := (.object "java/util/List")) (t' := (.array .long)) (by decide) (by decide))))
  have F161 := (F158.wr W156)
  obtain ⟨T159, h159, X159, e159, W159, st159⟩ := putF X156 hx hZ hown (host := "") (Or.inl (hw _ (List.mem_of_getElem? (i := 60) rfl))) Via.refl e156 F160 F161 (Or.inr ⟨(hw _ (List.mem_of_getElem? (i := 61) rfl)), rfl, hnm⟩) (hw _ (List.mem_of_getElem? (i := 2) rfl)) (ty := (.object "java/util/List")) (by decide) rfl rfl (g := (mkF m 90 #[.val (.ref t), .val (.ref li)] [(.ref li), (.ref t)])) rfl rfl (hb hby own_d5_90)
  have N159 := Fr.snoc X159 N156 g_t
  have Z159 : n0 ≤ h159.size := Nat.le_trans Z156 (Keep.of_wr W159).1
  have F159 : Fld Z h159 t "com/example/propagule/propagule/Trail" "variables" "Ljava/util/List;" (.ref li) := F160.same W159
  refine own_st (g' := (mkF m 93 #[.val (.ref t), .val (.ref li)] [])) st159 ?_
  have F162 := (F161.wr W159)
  have F163 := (((((((((((((((((((((F_depth.ext E11).other W13 (Or.inr (slot_ne (Or.inl (hw _ (List.mem_of_getElem? (i := 68) rfl))) (Or.inl (hw _ (List.mem_of_getElem? (i := 36) rfl))) (by decide) (t := .int) (t' := (.array .int)) (by decide) (by decide)))).ext E16).other W20 (Or.inr (slot_ne (Or.inl (hw _ (List.mem_of_getElem? (i := 68) rfl))) (Or.inl (hw _ (List.mem_of_getElem? (i := 39) rfl))) (by decide) (t := .int) (t' := (.array .long)) (by decide) (by decide)))).ext E23).other W30 (Or.inr (slot_ne (Or.inl (hw _ (List.mem_of_getElem? (i := 68) rfl))) (Or.inl (hw _ (List.mem_of_getElem? (i := 43) rfl))) (by decide) (t := .int) (t' := (.array (.array .int))) (by decide) (by decide)))).ext E33).other W42 (Or.inr (slot_ne (Or.inl (hw _ (List.mem_of_getElem? (i := 68) rfl))) (Or.inl (hw _ (List.mem_of_getElem? (i := 47) rfl))) (by decide) (t := .int) (t' := (.array (.object "com/example/propagule/propagule/ReversibleLongs"))) (by decide) (by decide)))).ext E45).other W56 (Or.inr (slot_ne (Or.inl (hw _ (List.mem_of_getElem? (i := 68) rfl))) (Or.inl (hw _ (List.mem_of_getElem? (i := 49) rfl))) (by decide) (t := .int) (t' := (.array .int)) (by decide) (by decide)))).ext E59).other W72 (Or.inr (slot_ne (Or.inl (hw _ (List.mem_of_getElem? (i := 68) rfl))) (Or.inl (hw _ (List.mem_of_getElem? (i := 51) rfl))) (by decide) (t := .int) (t' := (.array .long)) (by decide) (by decide)))).ext E75).other W90 (Or.inr (slot_ne (Or.inl (hw _ (List.mem_of_getElem? (i := 68) rfl))) (Or.inl (hw _ (List.mem_of_getElem? (i := 53) rfl))) (by decide) (t := .int) (t' := (.array .int)) (by decide) (by decide)))).ext E93).other W110 (Or.inr (slot_ne (Or.inl (hw _ (List.mem_of_getElem? (i := 68) rfl))) (Or.inl (hw _ (List.mem_of_getElem? (i := 55) rfl))) (by decide) (t := .int) (t' := (.array .int)) (by decide) (by decide)))).ext E113).other W132 (Or.inr (slot_ne (Or.inl (hw _ (List.mem_of_getElem? (i := 68) rfl))) (Or.inl (hw _ (List.mem_of_getElem? (i := 57) rfl))) (by decide) (t := .int) (t' := (.array .int)) (by decide) (by decide)))).ext E135).other W156 (Or.inr (slot_ne (Or.inl (hw _ (List.mem_of_getElem? (i := 68) rfl))) (Or.inl (hw _ (List.mem_of_getElem? (i := 59) rfl))) (by decide) (t := .int) (t' := (.array .long)) (by decide) (by decide)))).other W159 (Or.inr (slot_ne (Or.inl (hw _ (List.mem_of_getElem? (i := 68) rfl))) (Or.inr (hw _ (List.mem_of_getElem? (i := 61) rfl))) (by decide) (t := .int) (t' := (.object "java/util/List")) (by decide) (by decide))))
  have F164 := (((((((((((((((((((((F_worldsOpened.ext E11).other W13 (Or.inr (slot_ne (Or.inl (hw _ (List.mem_of_getElem? (i := 85) rfl))) (Or.inl (hw _ (List.mem_of_getElem? (i := 36) rfl))) (by decide) (t := .long) (t' := (.array .int)) (by decide) (by decide)))).ext E16).other W20 (Or.inr (slot_ne (Or.inl (hw _ (List.mem_of_getElem? (i := 85) rfl))) (Or.inl (hw _ (List.mem_of_getElem? (i := 39) rfl))) (by decide) (t := .long) (t' := (.array .long)) (by decide) (by decide)))).ext E23).other W30 (Or.inr (slot_ne (Or.inl (hw _ (List.mem_of_getElem? (i := 85) rfl))) (Or.inl (hw _ (List.mem_of_getElem? (i := 43) rfl))) (by decide) (t := .long) (t' := (.array (.array .int))) (by decide) (by decide)))).ext E33).other W42 (Or.inr (slot_ne (Or.inl (hw _ (List.mem_of_getElem? (i := 85) rfl))) (Or.inl (hw _ (List.mem_of_getElem? (i := 47) rfl))) (by decide) (t := .long) (t' := (.array (.object "com/example/propagule/propagule/ReversibleLongs"))) (by decide) (by decide)))).ext E45).other W56 (Or.inr (slot_ne (Or.inl (hw _ (List.mem_of_getElem? (i := 85) rfl))) (Or.inl (hw _ (List.mem_of_getElem? (i := 49) rfl))) (by decide) (t := .long) (t' := (.array .int)) (by decide) (by decide)))).ext E59).other W72 (Or.inr (slot_ne (Or.inl (hw _ (List.mem_of_getElem? (i := 85) rfl))) (Or.inl (hw _ (List.mem_of_getElem? (i := 51) rfl))) (by decide) (t := .long) (t' := (.array .long)) (by decide) (by decide)))).ext E75).other W90 (Or.inr (slot_ne (Or.inl (hw _ (List.mem_of_getElem? (i := 85) rfl))) (Or.inl (hw _ (List.mem_of_getElem? (i := 53) rfl))) (by decide) (t := .long) (t' := (.array .int)) (by decide) (by decide)))).ext E93).other W110 (Or.inr (slot_ne (Or.inl (hw _ (List.mem_of_getElem? (i := 85) rfl))) (Or.inl (hw _ (List.mem_of_getElem? (i := 55) rfl))) (by decide) (t := .long) (t' := (.array .int)) (by decide) (by decide)))).ext E113).other W132 (Or.inr (slot_ne (Or.inl (hw _ (List.mem_of_getElem? (i := 85) rfl))) (Or.inl (hw _ (List.mem_of_getElem? (i := 57) rfl))) (by decide) (t := .long) (t' := (.array .int)) (by decide) (by decide)))).ext E135).other W156 (Or.inr (slot_ne (Or.inl (hw _ (List.mem_of_getElem? (i := 85) rfl))) (Or.inl (hw _ (List.mem_of_getElem? (i := 59) rfl))) (by decide) (t := .long) (t' := (.array .long)) (by decide) (by decide)))).other W159 (Or.inr (slot_ne (Or.inl (hw _ (List.mem_of_getElem? (i := 85) rfl))) (Or.inr (hw _ (List.mem_of_getElem? (i := 61) rfl))) (by decide) (t := .long) (t' := (.object "java/util/List")) (by decide) (by decide))))
  have F165 := (((((((((((((((((((((F_entries.ext E11).other W13 (Or.inr (slot_ne (Or.inl (hw _ (List.mem_of_getElem? (i := 81) rfl))) (Or.inl (hw _ (List.mem_of_getElem? (i := 36) rfl))) (by decide) (t := .int) (t' := (.array .int)) (by decide) (by decide)))).ext E16).other W20 (Or.inr (slot_ne (Or.inl (hw _ (List.mem_of_getElem? (i := 81) rfl))) (Or.inl (hw _ (List.mem_of_getElem? (i := 39) rfl))) (by decide) (t := .int) (t' := (.array .long)) (by decide) (by decide)))).ext E23).other W30 (Or.inr (slot_ne (Or.inl (hw _ (List.mem_of_getElem? (i := 81) rfl))) (Or.inl (hw _ (List.mem_of_getElem? (i := 43) rfl))) (by decide) (t := .int) (t' := (.array (.array .int))) (by decide) (by decide)))).ext E33).other W42 (Or.inr (slot_ne (Or.inl (hw _ (List.mem_of_getElem? (i := 81) rfl))) (Or.inl (hw _ (List.mem_of_getElem? (i := 47) rfl))) (by decide) (t := .int) (t' := (.array (.object "com/example/propagule/propagule/ReversibleLongs"))) (by decide) (by decide)))).ext E45).other W56 (Or.inr (slot_ne (Or.inl (hw _ (List.mem_of_getElem? (i := 81) rfl))) (Or.inl (hw _ (List.mem_of_getElem? (i := 49) rfl))) (by decide) (t := .int) (t' := (.array .int)) (by decide) (by decide)))).ext E59).other W72 (Or.inr (slot_ne (Or.inl (hw _ (List.mem_of_getElem? (i := 81) rfl))) (Or.inl (hw _ (List.mem_of_getElem? (i := 51) rfl))) (by decide) (t := .int) (t' := (.array .long)) (by decide) (by decide)))).ext E75).other W90 (Or.inr (slot_ne (Or.inl (hw _ (List.mem_of_getElem? (i := 81) rfl))) (Or.inl (hw _ (List.mem_of_getElem? (i := 53) rfl))) (by decide) (t := .int) (t' := (.array .int)) (by decide) (by decide)))).ext E93).other W110 (Or.inr (slot_ne (Or.inl (hw _ (List.mem_of_getElem? (i := 81) rfl))) (Or.inl (hw _ (List.mem_of_getElem? (i := 55) rfl))) (by decide) (t := .int) (t' := (.array .int)) (by decide) (by decide)))).ext E113).other W132 (Or.inr (slot_ne (Or.inl (hw _ (List.mem_of_getElem? (i := 81) rfl))) (Or.inl (hw _ (List.mem_of_getElem? (i := 57) rfl))) (by decide) (t := .int) (t' := (.array .int)) (by decide) (by decide)))).ext E135).other W156 (Or.inr (slot_ne (Or.inl (hw _ (List.mem_of_getElem? (i := 81) rfl))) (Or.inl (hw _ (List.mem_of_getElem? (i := 59) rfl))) (by decide) (t := .int) (t' := (.array .long)) (by decide) (by decide)))).other W159 (Or.inr (slot_ne (Or.inl (hw _ (List.mem_of_getElem? (i := 81) rfl))) (Or.inr (hw _ (List.mem_of_getElem? (i := 61) rfl))) (by decide) (t := .int) (t' := (.object "java/util/List")) (by decide) (by decide))))
  have F166 := (((((((((((((((((((((F_cellEntries.ext E11).other W13 (Or.inr (slot_ne (Or.inl (hw _ (List.mem_of_getElem? (i := 83) rfl))) (Or.inl (hw _ (List.mem_of_getElem? (i := 36) rfl))) (by decide) (t := .int) (t' := (.array .int)) (by decide) (by decide)))).ext E16).other W20 (Or.inr (slot_ne (Or.inl (hw _ (List.mem_of_getElem? (i := 83) rfl))) (Or.inl (hw _ (List.mem_of_getElem? (i := 39) rfl))) (by decide) (t := .int) (t' := (.array .long)) (by decide) (by decide)))).ext E23).other W30 (Or.inr (slot_ne (Or.inl (hw _ (List.mem_of_getElem? (i := 83) rfl))) (Or.inl (hw _ (List.mem_of_getElem? (i := 43) rfl))) (by decide) (t := .int) (t' := (.array (.array .int))) (by decide) (by decide)))).ext E33).other W42 (Or.inr (slot_ne (Or.inl (hw _ (List.mem_of_getElem? (i := 83) rfl))) (Or.inl (hw _ (List.mem_of_getElem? (i := 47) rfl))) (by decide) (t := .int) (t' := (.array (.object "com/example/propagule/propagule/ReversibleLongs"))) (by decide) (by decide)))).ext E45).other W56 (Or.inr (slot_ne (Or.inl (hw _ (List.mem_of_getElem? (i := 83) rfl))) (Or.inl (hw _ (List.mem_of_getElem? (i := 49) rfl))) (by decide) (t := .int) (t' := (.array .int)) (by decide) (by decide)))).ext E59).other W72 (Or.inr (slot_ne (Or.inl (hw _ (List.mem_of_getElem? (i := 83) rfl))) (Or.inl (hw _ (List.mem_of_getElem? (i := 51) rfl))) (by decide) (t := .int) (t' := (.array .long)) (by decide) (by decide)))).ext E75).other W90 (Or.inr (slot_ne (Or.inl (hw _ (List.mem_of_getElem? (i := 83) rfl))) (Or.inl (hw _ (List.mem_of_getElem? (i := 53) rfl))) (by decide) (t := .int) (t' := (.array .int)) (by decide) (by decide)))).ext E93).other W110 (Or.inr (slot_ne (Or.inl (hw _ (List.mem_of_getElem? (i := 83) rfl))) (Or.inl (hw _ (List.mem_of_getElem? (i := 55) rfl))) (by decide) (t := .int) (t' := (.array .int)) (by decide) (by decide)))).ext E113).other W132 (Or.inr (slot_ne (Or.inl (hw _ (List.mem_of_getElem? (i := 83) rfl))) (Or.inl (hw _ (List.mem_of_getElem? (i := 57) rfl))) (by decide) (t := .int) (t' := (.array .int)) (by decide) (by decide)))).ext E135).other W156 (Or.inr (slot_ne (Or.inl (hw _ (List.mem_of_getElem? (i := 83) rfl))) (Or.inl (hw _ (List.mem_of_getElem? (i := 59) rfl))) (by decide) (t := .int) (t' := (.array .long)) (by decide) (by decide)))).other W159 (Or.inr (slot_ne (Or.inl (hw _ (List.mem_of_getElem? (i := 83) rfl))) (Or.inr (hw _ (List.mem_of_getElem? (i := 61) rfl))) (by decide) (t := .int) (t' := (.object "java/util/List")) (by decide) (by decide))))
  have F167 := (((((F110.ext E113).other W132 (Or.inr (slot_ne (Or.inl (hw _ (List.mem_of_getElem? (i := 55) rfl))) (Or.inl (hw _ (List.mem_of_getElem? (i := 57) rfl))) (by decide) (t := (.array .int)) (t' := (.array .int)) (by decide) (by decide)))).ext E135).other W156 (Or.inr (slot_ne (Or.inl (hw _ (List.mem_of_getElem? (i := 55) rfl))) (Or.inl (hw _ (List.mem_of_getElem? (i := 59) rfl))) (by decide) (t := (.array .int)) (t' := (.array .long)) (by decide) (by decide)))).other W159 (Or.inr (slot_ne (Or.inl (hw _ (List.mem_of_getElem? (i := 55) rfl))) (Or.inr (hw _ (List.mem_of_getElem? (i := 61) rfl))) (by decide) (t := (.array .int)) (t' := (.object "java/util/List")) (by decide) (by decide))))
  have F168 := (((F132.ext E135).other W156 (Or.inr (slot_ne (Or.inl (hw _ (List.mem_of_getElem? (i := 57) rfl))) (Or.inl (hw _ (List.mem_of_getElem? (i := 59) rfl))) (by decide) (t := (.array .int)) (t' := (.array .long)) (by decide) (by decide)))).other W159 (Or.inr (slot_ne (Or.inl (hw _ (List.mem_of_getElem? (i := 57) rfl))) (Or.inr (hw _ (List.mem_of_getElem? (i := 61) rfl))) (by decide) (t := (.array .int)) (t' := (.object "java/util/List")) (by decide) (by decide))))
  have F169 := (F156.other W159 (Or.inr (slot_ne (Or.inl (hw _ (List.mem_of_getElem? (i := 59) rfl))) (Or.inr (hw _ (List.mem_of_getElem? (i := 61) rfl))) (by decide) (t := (.array .long)) (t' := (.object "java/util/List")) (by decide) (by decide))))
  have F170 := (((F155.ext E135).other W156 (Ne.symm ne98)).other W159 (Ne.symm ne98))
  have F171 := (((F145.ext E135).other W156 (Ne.symm ne118)).other W159 (Ne.symm ne118))
  have F172 := ((P135.other W156 (Ne.symm ne140)).other W159 (Ne.symm ne140))
  refine own_retV X159 hx hlk hret (hb hby own_d5_93) (by decide) (by decide) ?_
  rw [e159]
  exact ⟨rfl, N159, _, _, _, ⟨F162, F163, F164, F165, F166, F167, F168, F169, F170, F171, F172, ne98, ne118, ne140, ne130, ne154, ne144, g_t, gz93, gz113, gz135⟩⟩
theorem own_Tr_sz {Z : State} {h : Heap} {n0 : Nat} {t wm cm wn : Addr} {D : Int32} {N : Int64} {f : Nat → Int64} (H : own_Tr Z h n0 t wm cm wn D N f) : n0 ≤ h.size := by
  obtain ⟨E, FD, FN, Fe, Fc, Fw, Fm, Fn, Pw, Pm, Pn, n1, n2, n3, n4, n5, n6, g1, g2, g3, g4⟩ := H
  exact Nat.le_trans g1 (Nat.le_of_lt E.lt)
theorem own_lt32 {a b : Int32} : a < b ↔ a.toInt < b.toInt := Int32.lt_iff_toInt_lt
theorem own_a1 {D : Int32} (h0 : ¬ D < 0) (h1 : D.toInt < 64) : (D + (1 : Int32)).toInt = D.toInt + 1 := by
  rw [own_lt32] at h0
  have : (0 : Int32).toInt = 0 := rfl
  have : (1 : Int32).toInt = 1 := rfl
  rw [Jvm.Kit.i32_add] <;> omega
theorem own_a2 {D : Int32} (h0 : ¬ D < 0) (h1 : D.toInt < 64) : ¬ (D + (1 : Int32)) < 0 ∧ (D + (1 : Int32)).toInt < (65 : Nat) := by
  have e := own_a1 h0 h1
  rw [own_lt32] at h0 ⊢
  have : (0 : Int32).toInt = 0 := rfl
  omega
theorem own_ne64 {D : Int32} (h1 : D.toInt < 64) : ¬ D = (64 : Int32) := fun q => by rw [q] at h1; exact absurd h1 (by decide)
theorem own_d8_0 : decode prog_74_method_5_code 0 = .ok (.aload_n 0, 1) := by decide +kernel
theorem own_d8_1 : decode prog_74_method_5_code 1 = .ok (.getfield 50, 3) := by decide +kernel
theorem own_d8_4 : decode prog_74_method_5_code 4 = .ok (.aload_n 0, 1) := by decide +kernel
theorem own_d8_5 : decode prog_74_method_5_code 5 = .ok (.getfield 37, 3) := by decide +kernel
theorem own_d8_8 : decode prog_74_method_5_code 8 = .ok (.arraylength, 1) := by decide +kernel
theorem own_d8_9 : decode prog_74_method_5_code 9 = .ok (.if_icmp .ne 56, 3) := by decide +kernel
theorem own_d8_12 : decode prog_74_method_5_code 12 = .ok (.aload_n 0, 1) := by decide +kernel
theorem own_d8_13 : decode prog_74_method_5_code 13 = .ok (.aload_n 0, 1) := by decide +kernel
theorem own_d8_14 : decode prog_74_method_5_code 14 = .ok (.getfield 37, 3) := by decide +kernel
theorem own_d8_17 : decode prog_74_method_5_code 17 = .ok (.aload_n 0, 1) := by decide +kernel
theorem own_d8_18 : decode prog_74_method_5_code 18 = .ok (.getfield 50, 3) := by decide +kernel
theorem own_d8_21 : decode prog_74_method_5_code 21 = .ok (.iconst 2, 1) := by decide +kernel
theorem own_d8_22 : decode prog_74_method_5_code 22 = .ok (.imul, 1) := by decide +kernel
theorem own_d8_23 : decode prog_74_method_5_code 23 = .ok (.invokestatic 54, 3) := by decide +kernel
theorem own_d8_26 : decode prog_74_method_5_code 26 = .ok (.putfield 37, 3) := by decide +kernel
theorem own_d8_29 : decode prog_74_method_5_code 29 = .ok (.aload_n 0, 1) := by decide +kernel
theorem own_d8_30 : decode prog_74_method_5_code 30 = .ok (.aload_n 0, 1) := by decide +kernel
theorem own_d8_31 : decode prog_74_method_5_code 31 = .ok (.getfield 40, 3) := by decide +kernel
theorem own_d8_34 : decode prog_74_method_5_code 34 = .ok (.aload_n 0, 1) := by decide +kernel
theorem own_d8_35 : decode prog_74_method_5_code 35 = .ok (.getfield 50, 3) := by decide +kernel
theorem own_d8_38 : decode prog_74_method_5_code 38 = .ok (.iconst 2, 1) := by decide +kernel
theorem own_d8_39 : decode prog_74_method_5_code 39 = .ok (.imul, 1) := by decide +kernel
theorem own_d8_40 : decode prog_74_method_5_code 40 = .ok (.invokestatic 54, 3) := by decide +kernel
theorem own_d8_43 : decode prog_74_method_5_code 43 = .ok (.putfield 40, 3) := by decide +kernel
theorem own_d8_46 : decode prog_74_method_5_code 46 = .ok (.aload_n 0, 1) := by decide +kernel
theorem own_d8_47 : decode prog_74_method_5_code 47 = .ok (.aload_n 0, 1) := by decide +kernel
theorem own_d8_48 : decode prog_74_method_5_code 48 = .ok (.getfield 43, 3) := by decide +kernel
theorem own_d8_51 : decode prog_74_method_5_code 51 = .ok (.aload_n 0, 1) := by decide +kernel
theorem own_d8_52 : decode prog_74_method_5_code 52 = .ok (.getfield 50, 3) := by decide +kernel
theorem own_d8_55 : decode prog_74_method_5_code 55 = .ok (.iconst 2, 1) := by decide +kernel
theorem own_d8_56 : decode prog_74_method_5_code 56 = .ok (.imul, 1) := by decide +kernel
theorem own_d8_57 : decode prog_74_method_5_code 57 = .ok (.iconst 1, 1) := by decide +kernel
theorem own_d8_58 : decode prog_74_method_5_code 58 = .ok (.iadd, 1) := by decide +kernel
theorem own_d8_59 : decode prog_74_method_5_code 59 = .ok (.invokestatic 60, 3) := by decide +kernel
theorem own_d8_62 : decode prog_74_method_5_code 62 = .ok (.putfield 43, 3) := by decide +kernel
theorem own_d8_65 : decode prog_74_method_5_code 65 = .ok (.aload_n 0, 1) := by decide +kernel
theorem own_d8_66 : decode prog_74_method_5_code 66 = .ok (.getfield 37, 3) := by decide +kernel
theorem own_d8_69 : decode prog_74_method_5_code 69 = .ok (.aload_n 0, 1) := by decide +kernel
theorem own_d8_70 : decode prog_74_method_5_code 70 = .ok (.getfield 50, 3) := by decide +kernel
theorem own_d8_73 : decode prog_74_method_5_code 73 = .ok (.aload_n 0, 1) := by decide +kernel
theorem own_d8_74 : decode prog_74_method_5_code 74 = .ok (.getfield 63, 3) := by decide +kernel
theorem own_d8_77 : decode prog_74_method_5_code 77 = .ok (.iastore, 1) := by decide +kernel
theorem own_d8_78 : decode prog_74_method_5_code 78 = .ok (.aload_n 0, 1) := by decide +kernel
theorem own_d8_79 : decode prog_74_method_5_code 79 = .ok (.getfield 40, 3) := by decide +kernel
theorem own_d8_82 : decode prog_74_method_5_code 82 = .ok (.aload_n 0, 1) := by decide +kernel
theorem own_d8_83 : decode prog_74_method_5_code 83 = .ok (.getfield 50, 3) := by decide +kernel
theorem own_d8_86 : decode prog_74_method_5_code 86 = .ok (.aload_n 0, 1) := by decide +kernel
theorem own_d8_87 : decode prog_74_method_5_code 87 = .ok (.getfield 66, 3) := by decide +kernel
theorem own_d8_90 : decode prog_74_method_5_code 90 = .ok (.iastore, 1) := by decide +kernel
theorem own_d8_91 : decode prog_74_method_5_code 91 = .ok (.aload_n 0, 1) := by decide +kernel
theorem own_d8_92 : decode prog_74_method_5_code 92 = .ok (.dup, 1) := by decide +kernel
theorem own_d8_93 : decode prog_74_method_5_code 93 = .ok (.getfield 50, 3) := by decide +kernel
theorem own_d8_96 : decode prog_74_method_5_code 96 = .ok (.iconst 1, 1) := by decide +kernel
theorem own_d8_97 : decode prog_74_method_5_code 97 = .ok (.iadd, 1) := by decide +kernel
theorem own_d8_98 : decode prog_74_method_5_code 98 = .ok (.putfield 50, 3) := by decide +kernel
theorem own_d8_101 : decode prog_74_method_5_code 101 = .ok (.aload_n 0, 1) := by decide +kernel
theorem own_d8_102 : decode prog_74_method_5_code 102 = .ok (.getfield 43, 3) := by decide +kernel
theorem own_d8_105 : decode prog_74_method_5_code 105 = .ok (.aload_n 0, 1) := by decide +kernel
theorem own_d8_106 : decode prog_74_method_5_code 106 = .ok (.getfield 50, 3) := by decide +kernel
theorem own_d8_109 : decode prog_74_method_5_code 109 = .ok (.aload_n 0, 1) := by decide +kernel
theorem own_d8_110 : decode prog_74_method_5_code 110 = .ok (.dup, 1) := by decide +kernel
theorem own_d8_111 : decode prog_74_method_5_code 111 = .ok (.getfield 69, 3) := by decide +kernel
theorem own_d8_114 : decode prog_74_method_5_code 114 = .ok (.lconst 1, 1) := by decide +kernel
theorem own_d8_115 : decode prog_74_method_5_code 115 = .ok (.ladd, 1) := by decide +kernel
theorem own_d8_116 : decode prog_74_method_5_code 116 = .ok (.dup2_x1, 1) := by decide +kernel
theorem own_d8_117 : decode prog_74_method_5_code 117 = .ok (.putfield 69, 3) := by decide +kernel
theorem own_d8_120 : decode prog_74_method_5_code 120 = .ok (.lastore, 1) := by decide +kernel
theorem own_d8_121 : decode prog_74_method_5_code 121 = .ok (.return_, 1) := by decide +kernel
def own_Qopn (Z : State) (t : Addr) (wm : Addr) (cm : Addr) (wn : Addr) (D : Int32) (N : Int64) (f : Nat → Int64) (h0 : Heap) (n0 : Nat) (v : Option Value) (h : Heap) (L : List Loc) : Prop := v = none ∧ Fr n0 L ∧ own_Tr Z h n0 t wm cm wn (D + (1 : Int32)) (N + (1 : Int64)) (fun i => if i = (D + (1 : Int32)).toNatClampNeg then N + (1 : Int64) else f i)
theorem own_efopn (m : MethodId) (t : Addr) : entryFrame m #[(.ref t)] 1 = mkF m 0 #[.val (.ref t)] [] := by first | (simp [entryFrame, mkF, argsToLocals, Value.category]; done) | rfl
set_option maxRecDepth 65536 in
set_option maxHeartbeats 16000000 in
theorem own_rmopn (l : Launch) (Z : State) (a0 : Array Value) (hw : ∀ d ∈ tables_1, d.before a0 Z = true) (ws : List Jvm.Cond) (t : Addr) (wm : Addr) (cm : Addr) (wn : Addr) (D : Int32) (N : Int64) (f : Nat → Int64) (h0 : Heap) (n0 : Nat) (TR : own_Tr Z h0 n0 t wm cm wn D N f) (hD0 : ¬ D < 0) (hD : D.toInt < (64 : Nat)) :
    MetFree l (⟨"com/example/propagule/propagule/Trail", "openWorld", "()V"⟩ : MethodName) (head1 (Jvm.Cond.code (⟨"com/example/propagule/propagule/Trail", "openWorld", "()V"⟩ : MethodName) prog_74_method_5_code 1 none :: ws) ({ frames := 0, cells := 0, slots := 0, locals := 0 } : Room)) (fun aa UU => aa = #[(.ref t)] ∧ Z.Warmed39 UU.vm ∧ UU.heap = h0) (fun _ _ _ _ _ => True) (fun _ U o U' => ∃ v L, o = .returned v ∧ own_Qopn Z t wm cm wn D N f h0 n0 v U'.heap L ∧ FrameEnd U o U' L ({ frames := 0, cells := 0, slots := 0, locals := 0 } : Room).cells ({ frames := 0, cells := 0, slots := 0, locals := 0 } : Room).slots) := by
  refine MetFree.of_bodySF (plainFor_of_name own_pn3) hisR ?_
  intro p e s m args below meth c s₁ Bd hml hP hK
  obtain ⟨rfl, hZ, hh⟩ := hP
  have hx := Bd.exec
  have hlk := Bd.notSynchronized
  have hby := Bd.bytes
  have hret := Bd.returns
  have hown := findClass_of_methodNamed Bd.named
  have hnm := (name_of_methodNamed Bd.named Bd.method).1
  have X0 : Stand p l e ({ frames := 0, cells := 0, slots := 0, locals := 0 } : Room) s m #[(.ref t)] below meth c s₁ [] 0 0 := Stand.of_body Bd
  have e0 : s₁.heap = h0 := by rw [← hh, Bd.state]; rfl
  have N0 := Fr.nil n0
  refine own_cast (own_efopn m t) ?_
  show own_Go p e below s s₁ _ (own_Qopn Z t wm cm wn D N f h0 n0) 0 0
  obtain ⟨E, FD, FN, Fe, Fc, Fw, Fm, Fn, Pw, Pm, Pn, n1, n2, n3, n4, n5, n6, g1, g2, g3, g4⟩ := TR
  refine own_st (g' := (mkF m 1 #[.val (.ref t)] [(.ref t)])) (fun tt_ kk_ => XS.aloadN X0.here hx rfl (hb hby own_d8_0) rfl rfl kk_) ?_
  obtain ⟨T173, X173, e173, st173⟩ := getF X0 hx hZ hown (host := "") (Or.inl (hw _ (List.mem_of_getElem? (i := 67) rfl))) Via.refl e0 FD (g := (mkF m 1 #[.val (.ref t)] [(.ref t)])) rfl rfl (hb hby own_d8_1)
  refine own_st (g' := (mkF m 4 #[.val (.ref t)] [(.int D)])) st173 ?_
  refine own_st (g' := (mkF m 5 #[.val (.ref t)] [(.ref t), (.int D)])) (fun tt_ kk_ => XS.aloadN X173.here hx rfl (hb hby own_d8_4) rfl rfl kk_) ?_
  obtain ⟨T174, X174, e174, st174⟩ := getF X173 hx hZ hown (host := "") (Or.inl (hw _ (List.mem_of_getElem? (i := 54) rfl))) Via.refl e173 Fw (g := (mkF m 5 #[.val (.ref t)] [(.ref t), (.int D)])) rfl rfl (hb hby own_d8_5)
  refine own_st (g' := (mkF m 8 #[.val (.ref t)] [(.ref wm), (.int D)])) st174 ?_
  refine own_st (g' := (mkF m 9 #[.val (.ref t)] [(.int (64 : Int32)), (.int D)])) (fun tt_ kk_ => own_lenI X174 hx hZ e174 Pw (z := (64 : Int32)) rfl (g := (mkF m 8 #[.val (.ref t)] [(.ref wm), (.int D)])) rfl rfl (hb hby own_d8_8) tt_ kk_) ?_
  refine own_st (g' := (mkF m 65 #[.val (.ref t)] [])) (fun tt_ kk_ => XS.icmpYes X174.here hx rfl (pc0 := 9) (pc' := 65) rfl (hb hby own_d8_9) rfl (feq (own_ne64 hD)).2 (by decide) (by decide) kk_) ?_
  refine own_st (g' := (mkF m 66 #[.val (.ref t)] [(.ref t)])) (fun tt_ kk_ => XS.aloadN X174.here hx rfl (hb hby own_d8_65) rfl rfl kk_) ?_
  obtain ⟨T175, X175, e175, st175⟩ := getF X174 hx hZ hown (host := "") (Or.inl (hw _ (List.mem_of_getElem? (i := 54) rfl))) Via.refl e174 Fw (g := (mkF m 66 #[.val (.ref t)] [(.ref t)])) rfl rfl (hb hby own_d8_66)
  refine own_st (g' := (mkF m 69 #[.val (.ref t)] [(.ref wm)])) st175 ?_
  refine own_st (g' := (mkF m 70 #[.val (.ref t)] [(.ref t), (.ref wm)])) (fun tt_ kk_ => XS.aloadN X175.here hx rfl (hb hby own_d8_69) rfl rfl kk_) ?_
  obtain ⟨T176, X176, e176, st176⟩ := getF X175 hx hZ hown (host := "") (Or.inl (hw _ (List.mem_of_getElem? (i := 67) rfl))) Via.refl e175 FD (g := (mkF m 70 #[.val (.ref t)] [(.ref t), (.ref wm)])) rfl rfl (hb hby own_d8_70)
  refine own_st (g' := (mkF m 73 #[.val (.ref t)] [(.int D), (.ref wm)])) st176 ?_
  refine own_st (g' := (mkF m 74 #[.val (.ref t)] [(.ref t), (.int D), (.ref wm)])) (fun tt_ kk_ => XS.aloadN X176.here hx rfl (hb hby own_d8_73) rfl rfl kk_) ?_
  obtain ⟨T177, X177, e177, st177⟩ := getF X176 hx hZ hown (host := "") (Or.inl (hw _ (List.mem_of_getElem? (i := 80) rfl))) Via.refl e176 Fe (g := (mkF m 74 #[.val (.ref t)] [(.ref t), (.int D), (.ref wm)])) rfl rfl (hb hby own_d8_74)
  refine own_st (g' := (mkF m 77 #[.val (.ref t)] [(.int (0 : Int32)), (.int D), (.ref wm)])) st177 ?_
  obtain ⟨T178, h178, X178, e178, W178, P178, st178⟩ := own_stI X177 hx hZ e177 Pw hD0 hD (g := (mkF m 77 #[.val (.ref t)] [(.int (0 : Int32)), (.int D), (.ref wm)])) rfl rfl (hb hby own_d8_77)
  have N178 := Fr.snoc X178 N0 g2
  refine own_st (g' := (mkF m 78 #[.val (.ref t)] [])) st178 ?_
  refine own_st (g' := (mkF m 79 #[.val (.ref t)] [(.ref t)])) (fun tt_ kk_ => XS.aloadN X178.here hx rfl (hb hby own_d8_78) rfl rfl kk_) ?_
  have F180 := (Fm.other W178 (Or.inl n1))
  obtain ⟨T179, X179, e179, st179⟩ := getF X178 hx hZ hown (host := "") (Or.inl (hw _ (List.mem_of_getElem? (i := 56) rfl))) Via.refl e178 F180 (g := (mkF m 79 #[.val (.ref t)] [(.ref t)])) rfl rfl (hb hby own_d8_79)
  refine own_st (g' := (mkF m 82 #[.val (.ref t)] [(.ref cm)])) st179 ?_
  refine own_st (g' := (mkF m 83 #[.val (.ref t)] [(.ref t), (.ref cm)])) (fun tt_ kk_ => XS.aloadN X179.here hx rfl (hb hby own_d8_82) rfl rfl kk_) ?_
  have F182 := (FD.other W178 (Or.inl n1))
  obtain ⟨T181, X181, e181, st181⟩ := getF X179 hx hZ hown (host := "") (Or.inl (hw _ (List.mem_of_getElem? (i := 67) rfl))) Via.refl e179 F182 (g := (mkF m 83 #[.val (.ref t)] [(.ref t), (.ref cm)])) rfl rfl (hb hby own_d8_83)
  refine own_st (g' := (mkF m 86 #[.val (.ref t)] [(.int D), (.ref cm)])) st181 ?_
  refine own_st (g' := (mkF m 87 #[.val (.ref t)] [(.ref t), (.int D), (.ref cm)])) (fun tt_ kk_ => XS.aloadN X181.here hx rfl (hb hby own_d8_86) rfl rfl kk_) ?_
  have F184 := (Fc.other W178 (Or.inl n1))
  obtain ⟨T183, X183, e183, st183⟩ := getF X181 hx hZ hown (host := "") (Or.inl (hw _ (List.mem_of_getElem? (i := 82) rfl))) Via.refl e181 F184 (g := (mkF m 87 #[.val (.ref t)] [(.ref t), (.int D), (.ref cm)])) rfl rfl (hb hby own_d8_87)
  refine own_st (g' := (mkF m 90 #[.val (.ref t)] [(.int (0 : Int32)), (.int D), (.ref cm)])) st183 ?_
  have F185 := (Pm.other W178 (Ne.symm n4))
  obtain ⟨T186, h186, X186, e186, W186, P186, st186⟩ := own_stI X183 hx hZ e183 F185 hD0 hD (g := (mkF m 90 #[.val (.ref t)] [(.int (0 : Int32)), (.int D), (.ref cm)])) rfl rfl (hb hby own_d8_90)
  have N186 := Fr.snoc X186 N178 g3
  refine own_st (g' := (mkF m 91 #[.val (.ref t)] [])) st186 ?_
  refine own_st (g' := (mkF m 92 #[.val (.ref t)] [(.ref t)])) (fun tt_ kk_ => XS.aloadN X186.here hx rfl (hb hby own_d8_91) rfl rfl kk_) ?_
  refine own_st (g' := (mkF m 93 #[.val (.ref t)] [(.ref t), (.ref t)])) (fun tt_ kk_ => XS.dup X186.here hx rfl (hb hby own_d8_92) rfl rfl kk_) ?_
  have F188 := (F182.other W186 (Or.inl n2))
  obtain ⟨T187, X187, e187, st187⟩ := getF X186 hx hZ hown (host := "") (Or.inl (hw _ (List.mem_of_getElem? (i := 67) rfl))) Via.refl e186 F188 (g := (mkF m 93 #[.val (.ref t)] [(.ref t), (.ref t)])) rfl rfl (hb hby own_d8_93)
  refine own_st (g' := (mkF m 96 #[.val (.ref t)] [(.int D), (.ref t)])) st187 ?_
  refine own_st (g' := (mkF m 97 #[.val (.ref t)] [(.int (1 : Int32)), (.int D), (.ref t)])) (fun tt_ kk_ => XS.iconst X187.here hx rfl (hb hby own_d8_96) kk_) ?_
  refine own_st (g' := (mkF m 98 #[.val (.ref t)] [(.int (D + (1 : Int32))), (.ref t)])) (fun tt_ kk_ => XS.iadd X187.here hx rfl (hb hby own_d8_97) rfl kk_) ?_
  have F190 := ((E.wr W178).wr W186)
  obtain ⟨T189, h189, X189, e189, W189, st189⟩ := putF X187 hx hZ hown (host := "") (Or.inl (hw _ (List.mem_of_getElem? (i := 67) rfl))) Via.refl e187 F188 F190 (Or.inl (hw _ (List.mem_of_getElem? (i := 68) rfl))) (hw _ (List.mem_of_getElem? (i := 2) rfl)) (ty := .int) (by decide) rfl rfl (g := (mkF m 98 #[.val (.ref t)] [(.int (D + (1 : Int32))), (.ref t)])) rfl rfl (hb hby own_d8_98)
  have N189 := Fr.snoc X189 N186 g1
  have F189 : Fld Z h189 t "com/example/propagule/propagule/Trail" "depth" "I" (.int (D + (1 : Int32))) := F188.same W189
  refine own_st (g' := (mkF m 101 #[.val (.ref t)] [])) st189 ?_
  refine own_st (g' := (mkF m 102 #[.val (.ref t)] [(.ref t)])) (fun tt_ kk_ => XS.aloadN X189.here hx rfl (hb hby own_d8_101) rfl rfl kk_) ?_
  have F192 := (((Fn.other W178 (Or.inl n1)).other W186 (Or.inl n2)).other W189 (Or.inr (slot_ne (Or.inl (hw _ (List.mem_of_getElem? (i := 59) rfl))) (Or.inl (hw _ (List.mem_of_getElem? (i := 68) rfl))) (by decide) (t := (.array .long)) (t' := .int) (by decide) (by decide))))
  obtain ⟨T191, X191, e191, st191⟩ := getF X189 hx hZ hown (host := "") (Or.inl (hw _ (List.mem_of_getElem? (i := 58) rfl))) Via.refl e189 F192 (g := (mkF m 102 #[.val (.ref t)] [(.ref t)])) rfl rfl (hb hby own_d8_102)
  refine own_st (g' := (mkF m 105 #[.val (.ref t)] [(.ref wn)])) st191 ?_
  refine own_st (g' := (mkF m 106 #[.val (.ref t)] [(.ref t), (.ref wn)])) (fun tt_ kk_ => XS.aloadN X191.here hx rfl (hb hby own_d8_105) rfl rfl kk_) ?_
  obtain ⟨T193, X193, e193, st193⟩ := getF X191 hx hZ hown (host := "") (Or.inl (hw _ (List.mem_of_getElem? (i := 67) rfl))) Via.refl e191 F189 (g := (mkF m 106 #[.val (.ref t)] [(.ref t), (.ref wn)])) rfl rfl (hb hby own_d8_106)
  refine own_st (g' := (mkF m 109 #[.val (.ref t)] [(.int (D + (1 : Int32))), (.ref wn)])) st193 ?_
  refine own_st (g' := (mkF m 110 #[.val (.ref t)] [(.ref t), (.int (D + (1 : Int32))), (.ref wn)])) (fun tt_ kk_ => XS.aloadN X193.here hx rfl (hb hby own_d8_109) rfl rfl kk_) ?_
  refine own_st (g' := (mkF m 111 #[.val (.ref t)] [(.ref t), (.ref t), (.int (D + (1 : Int32))), (.ref wn)])) (fun tt_ kk_ => XS.dup X193.here hx rfl (hb hby own_d8_110) rfl rfl kk_) ?_
  have F195 := (((FN.other W178 (Or.inl n1)).other W186 (Or.inl n2)).other W189 (Or.inr (slot_ne (Or.inl (hw _ (List.mem_of_getElem? (i := 85) rfl))) (Or.inl (hw _ (List.mem_of_getElem? (i := 68) rfl))) (by decide) (t := .long) (t' := .int) (by decide) (by decide))))
  obtain ⟨T194, X194, e194, st194⟩ := getF X193 hx hZ hown (host := "") (Or.inl (hw _ (List.mem_of_getElem? (i := 84) rfl))) Via.refl e193 F195 (g := (mkF m 111 #[.val (.ref t)] [(.ref t), (.ref t), (.int (D + (1 : Int32))), (.ref wn)])) rfl rfl (hb hby own_d8_111)
  refine own_st (g' := (mkF m 114 #[.val (.ref t)] [(.long N), (.ref t), (.int (D + (1 : Int32))), (.ref wn)])) st194 ?_
  refine own_st (g' := (mkF m 115 #[.val (.ref t)] [(.long (1 : Int64)), (.long N), (.ref t), (.int (D + (1 : Int32))), (.ref wn)])) (fun tt_ kk_ => XS.lconst X194.here hx rfl (hb hby own_d8_114) kk_) ?_
  refine own_st (g' := (mkF m 116 #[.val (.ref t)] [(.long (N + (1 : Int64))), (.ref t), (.int (D + (1 : Int32))), (.ref wn)])) (fun tt_ kk_ => XS.ladd X194.here hx rfl (hb hby own_d8_115) rfl kk_) ?_
  refine own_st (g' := (mkF m 117 #[.val (.ref t)] [(.long (N + (1 : Int64))), (.ref t), (.long (N + (1 : Int64))), (.int (D + (1 : Int32))), (.ref wn)])) (fun tt_ kk_ => (by jvm_step X194.here [X194.here.top, hx, (hb hby own_d8_116), Value.category]; exact kk_)) ?_
  have F197 := (F190.wr W189)
  obtain ⟨T196, h196, X196, e196, W196, st196⟩ := putF X194 hx hZ hown (host := "") (Or.inl (hw _ (List.mem_of_getElem? (i := 84) rfl))) Via.refl e194 F195 F197 (Or.inl (hw _ (List.mem_of_getElem? (i := 85) rfl))) (hw _ (List.mem_of_getElem? (i := 2) rfl)) (ty := .long) (by decide) rfl rfl (g := (mkF m 117 #[.val (.ref t)] [(.long (N + (1 : Int64))), (.ref t), (.long (N + (1 : Int64))), (.int (D + (1 : Int32))), (.ref wn)])) rfl rfl (hb hby own_d8_117)
  have N196 := Fr.snoc X196 N189 g1
  have F196 : Fld Z h196 t "com/example/propagule/propagule/Trail" "worldsOpened" "J" (.long (N + (1 : Int64))) := F195.same W196
  refine own_st (g' := (mkF m 120 #[.val (.ref t)] [(.long (N + (1 : Int64))), (.int (D + (1 : Int32))), (.ref wn)])) st196 ?_
  have F198 := ((((Pn.other W178 (Ne.symm n5)).other W186 (Ne.symm n6)).other W189 (Ne.symm n3)).other W196 (Ne.symm n3))
  obtain ⟨T199, h199, X199, e199, W199, P199, st199⟩ := own_stJ X196 hx hZ e196 F198 (own_a2 hD0 hD).1 (own_a2 hD0 hD).2 (g := (mkF m 120 #[.val (.ref t)] [(.long (N + (1 : Int64))), (.int (D + (1 : Int32))), (.ref wn)])) rfl rfl (hb hby own_d8_120)
  have N199 := Fr.snoc X199 N196 g4
  refine own_st (g' := (mkF m 121 #[.val (.ref t)] [])) st199 ?_
  have F200 := ((F197.wr W196).wr W199)
  have F201 := ((F189.other W196 (Or.inr (slot_ne (Or.inl (hw _ (List.mem_of_getElem? (i := 68) rfl))) (Or.inl (hw _ (List.mem_of_getElem? (i := 85) rfl))) (by decide) (t := .int) (t' := .long) (by decide) (by decide)))).other W199 (Or.inl n3))
  have F202 := (F196.other W199 (Or.inl n3))
  have F203 := (((((Fe.other W178 (Or.inl n1)).other W186 (Or.inl n2)).other W189 (Or.inr (slot_ne (Or.inl (hw _ (List.mem_of_getElem? (i := 81) rfl))) (Or.inl (hw _ (List.mem_of_getElem? (i := 68) rfl))) (by decide) (t := .int) (t' := .int) (by decide) (by decide)))).other W196 (Or.inr (slot_ne (Or.inl (hw _ (List.mem_of_getElem? (i := 81) rfl))) (Or.inl (hw _ (List.mem_of_getElem? (i := 85) rfl))) (by decide) (t := .int) (t' := .long) (by decide) (by decide)))).other W199 (Or.inl n3))
  have F204 := ((((F184.other W186 (Or.inl n2)).other W189 (Or.inr (slot_ne (Or.inl (hw _ (List.mem_of_getElem? (i := 83) rfl))) (Or.inl (hw _ (List.mem_of_getElem? (i := 68) rfl))) (by decide) (t := .int) (t' := .int) (by decide) (by decide)))).other W196 (Or.inr (slot_ne (Or.inl (hw _ (List.mem_of_getElem? (i := 83) rfl))) (Or.inl (hw _ (List.mem_of_getElem? (i := 85) rfl))) (by decide) (t := .int) (t' := .long) (by decide) (by decide)))).other W199 (Or.inl n3))
  have F205 := (((((Fw.other W178 (Or.inl n1)).other W186 (Or.inl n2)).other W189 (Or.inr (slot_ne (Or.inl (hw _ (List.mem_of_getElem? (i := 55) rfl))) (Or.inl (hw _ (List.mem_of_getElem? (i := 68) rfl))) (by decide) (t := (.array .int)) (t' := .int) (by decide) (by decide)))).other W196 (Or.inr (slot_ne (Or.inl (hw _ (List.mem_of_getElem? (i := 55) rfl))) (Or.inl (hw _ (List.mem_of_getElem? (i := 85) rfl))) (by decide) (t := (.array .int)) (t' := .long) (by decide) (by decide)))).other W199 (Or.inl n3))
  have F206 := ((((F180.other W186 (Or.inl n2)).other W189 (Or.inr (slot_ne (Or.inl (hw _ (List.mem_of_getElem? (i := 57) rfl))) (Or.inl (hw _ (List.mem_of_getElem? (i := 68) rfl))) (by decide) (t := (.array .int)) (t' := .int) (by decide) (by decide)))).other W196 (Or.inr (slot_ne (Or.inl (hw _ (List.mem_of_getElem? (i := 57) rfl))) (Or.inl (hw _ (List.mem_of_getElem? (i := 85) rfl))) (by decide) (t := (.array .int)) (t' := .long) (by decide) (by decide)))).other W199 (Or.inl n3))
  have F207 := ((F192.other W196 (Or.inr (slot_ne (Or.inl (hw _ (List.mem_of_getElem? (i := 59) rfl))) (Or.inl (hw _ (List.mem_of_getElem? (i := 85) rfl))) (by decide) (t := (.array .long)) (t' := .long) (by decide) (by decide)))).other W199 (Or.inl n3))
  have F208 := ((((P178.other W186 n4).other W189 (Ne.symm n1)).other W196 (Ne.symm n1)).other W199 n5)
  have F209 := (((P186.other W189 (Ne.symm n2)).other W196 (Ne.symm n2)).other W199 n6)
  refine own_retV X199 hx hlk hret (hb hby own_d8_121) (by decide) (by decide) ?_
  rw [e199]
  exact ⟨rfl, N199, ⟨F200, F201, F202, F203, F204, F205, F206, F207, (F208.congr (fun i _ => by first | exact ite_self _ | (split <;> rfl))), (F209.congr (fun i _ => by first | exact ite_self _ | (split <;> rfl))), P199, n1, n2, n3, n4, n5, n6, g1, g2, g3, g4⟩⟩
theorem own_c1 {tg D : Int32} (h1 : ¬ D < tg) (h2 : ¬ tg = D) (h3 : D.toInt < (64 : Nat)) : tg.toInt < (64 : Nat) := by
  rw [own_lt32] at h1
  omega
theorem own_d6_0 : decode prog_74_method_6_code 0 = .ok (.iload_n 1, 1) := by decide +kernel
theorem own_d6_1 : decode prog_74_method_6_code 1 = .ok (.ifCond .lt 11, 3) := by decide +kernel
theorem own_d6_4 : decode prog_74_method_6_code 4 = .ok (.iload_n 1, 1) := by decide +kernel
theorem own_d6_5 : decode prog_74_method_6_code 5 = .ok (.aload_n 0, 1) := by decide +kernel
theorem own_d6_6 : decode prog_74_method_6_code 6 = .ok (.getfield 50, 3) := by decide +kernel
theorem own_d6_9 : decode prog_74_method_6_code 9 = .ok (.if_icmp .le 17, 3) := by decide +kernel
theorem own_d6_12 : decode prog_74_method_6_code 12 = .ok (.new 73, 3) := by decide +kernel
theorem own_d6_15 : decode prog_74_method_6_code 15 = .ok (.dup, 1) := by decide +kernel
theorem own_d6_16 : decode prog_74_method_6_code 16 = .ok (.iload_n 1, 1) := by decide +kernel
theorem own_d6_22 : decode prog_74_method_6_code 22 = .ok (.invokespecial 79, 3) := by decide +kernel
theorem own_d6_25 : decode prog_74_method_6_code 25 = .ok (.athrow, 1) := by decide +kernel
theorem own_d6_26 : decode prog_74_method_6_code 26 = .ok (.iload_n 1, 1) := by decide +kernel
theorem own_d6_27 : decode prog_74_method_6_code 27 = .ok (.aload_n 0, 1) := by decide +kernel
theorem own_d6_28 : decode prog_74_method_6_code 28 = .ok (.getfield 50, 3) := by decide +kernel
theorem own_d6_31 : decode prog_74_method_6_code 31 = .ok (.if_icmp .ne 4, 3) := by decide +kernel
theorem own_d6_34 : decode prog_74_method_6_code 34 = .ok (.return_, 1) := by decide +kernel
theorem own_d6_35 : decode prog_74_method_6_code 35 = .ok (.aload_n 0, 1) := by decide +kernel
theorem own_d6_36 : decode prog_74_method_6_code 36 = .ok (.getfield 37, 3) := by decide +kernel
theorem own_d6_39 : decode prog_74_method_6_code 39 = .ok (.iload_n 1, 1) := by decide +kernel
theorem own_d6_40 : decode prog_74_method_6_code 40 = .ok (.iaload, 1) := by decide +kernel
theorem own_d6_41 : decode prog_74_method_6_code 41 = .ok (.istore_n 2, 1) := by decide +kernel
theorem own_d6_42 : decode prog_74_method_6_code 42 = .ok (.aload_n 0, 1) := by decide +kernel
theorem own_d6_43 : decode prog_74_method_6_code 43 = .ok (.getfield 63, 3) := by decide +kernel
theorem own_d6_46 : decode prog_74_method_6_code 46 = .ok (.iconst 1, 1) := by decide +kernel
theorem own_d6_47 : decode prog_74_method_6_code 47 = .ok (.isub, 1) := by decide +kernel
theorem own_d6_48 : decode prog_74_method_6_code 48 = .ok (.istore_n 3, 1) := by decide +kernel
theorem own_d6_49 : decode prog_74_method_6_code 49 = .ok (.iload_n 3, 1) := by decide +kernel
theorem own_d6_50 : decode prog_74_method_6_code 50 = .ok (.iload_n 2, 1) := by decide +kernel
theorem own_d6_51 : decode prog_74_method_6_code 51 = .ok (.if_icmp .lt 119, 3) := by decide +kernel
theorem own_d6_54 : decode prog_74_method_6_code 54 = .ok (.bipush 6, 2) := by decide +kernel
theorem own_d6_56 : decode prog_74_method_6_code 56 = .ok (.iload_n 3, 1) := by decide +kernel
theorem own_d6_57 : decode prog_74_method_6_code 57 = .ok (.imul, 1) := by decide +kernel
theorem own_d6_58 : decode prog_74_method_6_code 58 = .ok (.istore 4, 2) := by decide +kernel
theorem own_d6_60 : decode prog_74_method_6_code 60 = .ok (.aload_n 0, 1) := by decide +kernel
theorem own_d6_61 : decode prog_74_method_6_code 61 = .ok (.getfield 46, 3) := by decide +kernel
theorem own_d6_64 : decode prog_74_method_6_code 64 = .ok (.aload_n 0, 1) := by decide +kernel
theorem own_d6_65 : decode prog_74_method_6_code 65 = .ok (.getfield 9, 3) := by decide +kernel
theorem own_d6_68 : decode prog_74_method_6_code 68 = .ok (.iload 4, 2) := by decide +kernel
theorem own_d6_70 : decode prog_74_method_6_code 70 = .ok (.iconst 0, 1) := by decide +kernel
theorem own_d6_71 : decode prog_74_method_6_code 71 = .ok (.iadd, 1) := by decide +kernel
theorem own_d6_72 : decode prog_74_method_6_code 72 = .ok (.iaload, 1) := by decide +kernel
theorem own_d6_73 : decode prog_74_method_6_code 73 = .ok (.invokeinterface 82 2, 5) := by decide +kernel
theorem own_d6_78 : decode prog_74_method_6_code 78 = .ok (.checkcast 88, 3) := by decide +kernel
theorem own_d6_81 : decode prog_74_method_6_code 81 = .ok (.astore 5, 2) := by decide +kernel
theorem own_d6_83 : decode prog_74_method_6_code 83 = .ok (.aload 5, 2) := by decide +kernel
theorem own_d6_85 : decode prog_74_method_6_code 85 = .ok (.aload_n 0, 1) := by decide +kernel
theorem own_d6_86 : decode prog_74_method_6_code 86 = .ok (.getfield 9, 3) := by decide +kernel
theorem own_d6_89 : decode prog_74_method_6_code 89 = .ok (.iload 4, 2) := by decide +kernel
theorem own_d6_91 : decode prog_74_method_6_code 91 = .ok (.iconst 1, 1) := by decide +kernel
theorem own_d6_92 : decode prog_74_method_6_code 92 = .ok (.iadd, 1) := by decide +kernel
theorem own_d6_93 : decode prog_74_method_6_code 93 = .ok (.iaload, 1) := by decide +kernel
theorem own_d6_94 : decode prog_74_method_6_code 94 = .ok (.aload_n 0, 1) := by decide +kernel
theorem own_d6_95 : decode prog_74_method_6_code 95 = .ok (.getfield 9, 3) := by decide +kernel
theorem own_d6_98 : decode prog_74_method_6_code 98 = .ok (.iload 4, 2) := by decide +kernel
theorem own_d6_100 : decode prog_74_method_6_code 100 = .ok (.iconst 2, 1) := by decide +kernel
theorem own_d6_101 : decode prog_74_method_6_code 101 = .ok (.iadd, 1) := by decide +kernel
theorem own_d6_102 : decode prog_74_method_6_code 102 = .ok (.iaload, 1) := by decide +kernel
theorem own_d6_103 : decode prog_74_method_6_code 103 = .ok (.aload_n 0, 1) := by decide +kernel
theorem own_d6_104 : decode prog_74_method_6_code 104 = .ok (.getfield 13, 3) := by decide +kernel
theorem own_d6_107 : decode prog_74_method_6_code 107 = .ok (.iconst 2, 1) := by decide +kernel
theorem own_d6_108 : decode prog_74_method_6_code 108 = .ok (.iload_n 3, 1) := by decide +kernel
theorem own_d6_109 : decode prog_74_method_6_code 109 = .ok (.imul, 1) := by decide +kernel
theorem own_d6_110 : decode prog_74_method_6_code 110 = .ok (.laload, 1) := by decide +kernel
theorem own_d6_111 : decode prog_74_method_6_code 111 = .ok (.aload_n 0, 1) := by decide +kernel
theorem own_d6_112 : decode prog_74_method_6_code 112 = .ok (.getfield 13, 3) := by decide +kernel
theorem own_d6_115 : decode prog_74_method_6_code 115 = .ok (.iconst 2, 1) := by decide +kernel
theorem own_d6_116 : decode prog_74_method_6_code 116 = .ok (.iload_n 3, 1) := by decide +kernel
theorem own_d6_117 : decode prog_74_method_6_code 117 = .ok (.imul, 1) := by decide +kernel
theorem own_d6_118 : decode prog_74_method_6_code 118 = .ok (.iconst 1, 1) := by decide +kernel
theorem own_d6_119 : decode prog_74_method_6_code 119 = .ok (.iadd, 1) := by decide +kernel
theorem own_d6_120 : decode prog_74_method_6_code 120 = .ok (.laload, 1) := by decide +kernel
theorem own_d6_121 : decode prog_74_method_6_code 121 = .ok (.aload_n 0, 1) := by decide +kernel
theorem own_d6_122 : decode prog_74_method_6_code 122 = .ok (.getfield 18, 3) := by decide +kernel
theorem own_d6_125 : decode prog_74_method_6_code 125 = .ok (.iload_n 3, 1) := by decide +kernel
theorem own_d6_126 : decode prog_74_method_6_code 126 = .ok (.aaload, 1) := by decide +kernel
theorem own_d6_127 : decode prog_74_method_6_code 127 = .ok (.aload_n 0, 1) := by decide +kernel
theorem own_d6_128 : decode prog_74_method_6_code 128 = .ok (.getfield 9, 3) := by decide +kernel
theorem own_d6_131 : decode prog_74_method_6_code 131 = .ok (.iload 4, 2) := by decide +kernel
theorem own_d6_133 : decode prog_74_method_6_code 133 = .ok (.iconst 3, 1) := by decide +kernel
theorem own_d6_134 : decode prog_74_method_6_code 134 = .ok (.iadd, 1) := by decide +kernel
theorem own_d6_135 : decode prog_74_method_6_code 135 = .ok (.iaload, 1) := by decide +kernel
theorem own_d6_136 : decode prog_74_method_6_code 136 = .ok (.aload_n 0, 1) := by decide +kernel
theorem own_d6_137 : decode prog_74_method_6_code 137 = .ok (.getfield 9, 3) := by decide +kernel
theorem own_d6_140 : decode prog_74_method_6_code 140 = .ok (.iload 4, 2) := by decide +kernel
theorem own_d6_142 : decode prog_74_method_6_code 142 = .ok (.iconst 4, 1) := by decide +kernel
theorem own_d6_143 : decode prog_74_method_6_code 143 = .ok (.iadd, 1) := by decide +kernel
theorem own_d6_144 : decode prog_74_method_6_code 144 = .ok (.iaload, 1) := by decide +kernel
theorem own_d6_145 : decode prog_74_method_6_code 145 = .ok (.aload_n 0, 1) := by decide +kernel
theorem own_d6_146 : decode prog_74_method_6_code 146 = .ok (.getfield 9, 3) := by decide +kernel
theorem own_d6_149 : decode prog_74_method_6_code 149 = .ok (.iload 4, 2) := by decide +kernel
theorem own_d6_151 : decode prog_74_method_6_code 151 = .ok (.iconst 5, 1) := by decide +kernel
theorem own_d6_152 : decode prog_74_method_6_code 152 = .ok (.iadd, 1) := by decide +kernel
theorem own_d6_153 : decode prog_74_method_6_code 153 = .ok (.iaload, 1) := by decide +kernel
theorem own_d6_154 : decode prog_74_method_6_code 154 = .ok (.invokevirtual 90, 3) := by decide +kernel
theorem own_d6_157 : decode prog_74_method_6_code 157 = .ok (.aload_n 0, 1) := by decide +kernel
theorem own_d6_158 : decode prog_74_method_6_code 158 = .ok (.getfield 18, 3) := by decide +kernel
theorem own_d6_161 : decode prog_74_method_6_code 161 = .ok (.iload_n 3, 1) := by decide +kernel
theorem own_d6_162 : decode prog_74_method_6_code 162 = .ok (.aconst_null, 1) := by decide +kernel
theorem own_d6_163 : decode prog_74_method_6_code 163 = .ok (.aastore, 1) := by decide +kernel
theorem own_d6_164 : decode prog_74_method_6_code 164 = .ok (.iinc 3 (-1), 3) := by decide +kernel
theorem own_d6_167 : decode prog_74_method_6_code 167 = .ok (.goto (-118), 3) := by decide +kernel
theorem own_d6_170 : decode prog_74_method_6_code 170 = .ok (.aload_n 0, 1) := by decide +kernel
theorem own_d6_171 : decode prog_74_method_6_code 171 = .ok (.iload_n 2, 1) := by decide +kernel
theorem own_d6_172 : decode prog_74_method_6_code 172 = .ok (.putfield 63, 3) := by decide +kernel
theorem own_d6_175 : decode prog_74_method_6_code 175 = .ok (.aload_n 0, 1) := by decide +kernel
theorem own_d6_176 : decode prog_74_method_6_code 176 = .ok (.getfield 40, 3) := by decide +kernel
theorem own_d6_179 : decode prog_74_method_6_code 179 = .ok (.iload_n 1, 1) := by decide +kernel
theorem own_d6_180 : decode prog_74_method_6_code 180 = .ok (.iaload, 1) := by decide +kernel
theorem own_d6_181 : decode prog_74_method_6_code 181 = .ok (.istore_n 3, 1) := by decide +kernel
theorem own_d6_182 : decode prog_74_method_6_code 182 = .ok (.aload_n 0, 1) := by decide +kernel
theorem own_d6_183 : decode prog_74_method_6_code 183 = .ok (.getfield 66, 3) := by decide +kernel
theorem own_d6_186 : decode prog_74_method_6_code 186 = .ok (.iconst 1, 1) := by decide +kernel
theorem own_d6_187 : decode prog_74_method_6_code 187 = .ok (.isub, 1) := by decide +kernel
theorem own_d6_188 : decode prog_74_method_6_code 188 = .ok (.istore 4, 2) := by decide +kernel
theorem own_d6_190 : decode prog_74_method_6_code 190 = .ok (.iload 4, 2) := by decide +kernel
theorem own_d6_192 : decode prog_74_method_6_code 192 = .ok (.iload_n 3, 1) := by decide +kernel
theorem own_d6_193 : decode prog_74_method_6_code 193 = .ok (.if_icmp .lt 48, 3) := by decide +kernel
theorem own_d6_196 : decode prog_74_method_6_code 196 = .ok (.aload_n 0, 1) := by decide +kernel
theorem own_d6_197 : decode prog_74_method_6_code 197 = .ok (.getfield 24, 3) := by decide +kernel
theorem own_d6_200 : decode prog_74_method_6_code 200 = .ok (.iload 4, 2) := by decide +kernel
theorem own_d6_202 : decode prog_74_method_6_code 202 = .ok (.aaload, 1) := by decide +kernel
theorem own_d6_203 : decode prog_74_method_6_code 203 = .ok (.aload_n 0, 1) := by decide +kernel
theorem own_d6_204 : decode prog_74_method_6_code 204 = .ok (.getfield 28, 3) := by decide +kernel
theorem own_d6_207 : decode prog_74_method_6_code 207 = .ok (.iload 4, 2) := by decide +kernel
theorem own_d6_209 : decode prog_74_method_6_code 209 = .ok (.iaload, 1) := by decide +kernel
theorem own_d6_210 : decode prog_74_method_6_code 210 = .ok (.aload_n 0, 1) := by decide +kernel
theorem own_d6_211 : decode prog_74_method_6_code 211 = .ok (.getfield 31, 3) := by decide +kernel
theorem own_d6_214 : decode prog_74_method_6_code 214 = .ok (.iload 4, 2) := by decide +kernel
theorem own_d6_216 : decode prog_74_method_6_code 216 = .ok (.laload, 1) := by decide +kernel
theorem own_d6_217 : decode prog_74_method_6_code 217 = .ok (.aload_n 0, 1) := by decide +kernel
theorem own_d6_218 : decode prog_74_method_6_code 218 = .ok (.getfield 34, 3) := by decide +kernel
theorem own_d6_221 : decode prog_74_method_6_code 221 = .ok (.iload 4, 2) := by decide +kernel
theorem own_d6_223 : decode prog_74_method_6_code 223 = .ok (.iaload, 1) := by decide +kernel
theorem own_d6_224 : decode prog_74_method_6_code 224 = .ok (.invokevirtual 94, 3) := by decide +kernel
theorem own_d6_227 : decode prog_74_method_6_code 227 = .ok (.aload_n 0, 1) := by decide +kernel
theorem own_d6_228 : decode prog_74_method_6_code 228 = .ok (.getfield 24, 3) := by decide +kernel
theorem own_d6_231 : decode prog_74_method_6_code 231 = .ok (.iload 4, 2) := by decide +kernel
theorem own_d6_233 : decode prog_74_method_6_code 233 = .ok (.aconst_null, 1) := by decide +kernel
theorem own_d6_234 : decode prog_74_method_6_code 234 = .ok (.aastore, 1) := by decide +kernel
theorem own_d6_235 : decode prog_74_method_6_code 235 = .ok (.iinc 4 (-1), 3) := by decide +kernel
theorem own_d6_238 : decode prog_74_method_6_code 238 = .ok (.goto (-48), 3) := by decide +kernel
theorem own_d6_241 : decode prog_74_method_6_code 241 = .ok (.aload_n 0, 1) := by decide +kernel
theorem own_d6_242 : decode prog_74_method_6_code 242 = .ok (.iload_n 3, 1) := by decide +kernel
theorem own_d6_243 : decode prog_74_method_6_code 243 = .ok (.putfield 66, 3) := by decide +kernel
theorem own_d6_246 : decode prog_74_method_6_code 246 = .ok (.aload_n 0, 1) := by decide +kernel
theorem own_d6_247 : decode prog_74_method_6_code 247 = .ok (.iload_n 1, 1) := by decide +kernel
theorem own_d6_248 : decode prog_74_method_6_code 248 = .ok (.putfield 50, 3) := by decide +kernel
theorem own_d6_251 : decode prog_74_method_6_code 251 = .ok (.return_, 1) := by decide +kernel
def own_Qcls (Z : State) (t : Addr) (wm : Addr) (cm : Addr) (wn : Addr) (D : Int32) (N : Int64) (f : Nat → Int64) (tg : Int32) (h0 : Heap) (n0 : Nat) (v : Option Value) (h : Heap) (L : List Loc) : Prop := v = none ∧ Fr n0 L ∧ own_Tr Z h n0 t wm cm wn tg N f
theorem own_efcls (m : MethodId) (t : Addr) (tg : Int32) : entryFrame m #[(.ref t), (.int tg)] 6 = mkF m 0 #[.val (.ref t), .val (.int tg), .unset, .unset, .unset, .unset] [] := by first | (simp [entryFrame, mkF, argsToLocals, Value.category]; done) | rfl
set_option maxRecDepth 65536 in
set_option maxHeartbeats 16000000 in
theorem own_rmcls (l : Launch) (Z : State) (a0 : Array Value) (hw : ∀ d ∈ tables_1, d.before a0 Z = true) (ws : List Jvm.Cond) (t : Addr) (wm : Addr) (cm : Addr) (wn : Addr) (D : Int32) (N : Int64) (f : Nat → Int64) (tg : Int32) (h0 : Heap) (n0 : Nat) (TR : own_Tr Z h0 n0 t wm cm wn D N f) (h0t : ¬ tg < (0 : Int32)) (hle : ¬ D < tg) (hD : D.toInt < (64 : Nat)) :
    MetFree l (⟨"com/example/propagule/propagule/Trail", "closeWorldsTo", "(I)V"⟩ : MethodName) (head1 (Jvm.Cond.code (⟨"com/example/propagule/propagule/Trail", "closeWorldsTo", "(I)V"⟩ : MethodName) prog_74_method_6_code 6 none :: ws) ({ frames := 0, cells := 0, slots := 0, locals := 0 } : Room)) (fun aa UU => aa = #[(.ref t), (.int tg)] ∧ Z.Warmed39 UU.vm ∧ UU.heap = h0) (fun _ _ _ _ _ => True) (fun _ U o U' => ∃ v L, o = .returned v ∧ own_Qcls Z t wm cm wn D N f tg h0 n0 v U'.heap L ∧ FrameEnd U o U' L ({ frames := 0, cells := 0, slots := 0, locals := 0 } : Room).cells ({ frames := 0, cells := 0, slots := 0, locals := 0 } : Room).slots) := by
  refine MetFree.of_bodySF (plainFor_of_name own_pn3) hisR ?_
  intro p e s m args below meth c s₁ Bd hml hP hK
  obtain ⟨rfl, hZ, hh⟩ := hP
  have hx := Bd.exec
  have hlk := Bd.notSynchronized
  have hby := Bd.bytes
  have hret := Bd.returns
  have hown := findClass_of_methodNamed Bd.named
  have hnm := (name_of_methodNamed Bd.named Bd.method).1
  have X0 : Stand p l e ({ frames := 0, cells := 0, slots := 0, locals := 0 } : Room) s m #[(.ref t), (.int tg)] below meth c s₁ [] 0 0 := Stand.of_body Bd
  have e0 : s₁.heap = h0 := by rw [← hh, Bd.state]; rfl
  have N0 := Fr.nil n0
  refine own_cast (own_efcls m t tg) ?_
  show own_Go p e below s s₁ _ (own_Qcls Z t wm cm wn D N f tg h0 n0) 0 0
  have TR0 := TR
  obtain ⟨E, FD, FN, Fe, Fc, Fw, Fm, Fn, Pw, Pm, Pn, n1, n2, n3, n4, n5, n6, g1, g2, g3, g4⟩ := TR
  refine own_st (g' := (mkF m 1 #[.val (.ref t), .val (.int tg), .unset, .unset, .unset, .unset] [(.int tg)])) (fun tt_ kk_ => XS.iloadN X0.here hx rfl (hb hby own_d6_0) rfl kk_) ?_
  refine own_st (g' := (mkF m 4 #[.val (.ref t), .val (.int tg), .unset, .unset, .unset, .unset] [])) (fun tt_ kk_ => XS.ifNo X0.here hx rfl (hb hby own_d6_1) rfl ((if0 _ _).trans (flt h0t).1) kk_) ?_
  refine own_st (g' := (mkF m 5 #[.val (.ref t), .val (.int tg), .unset, .unset, .unset, .unset] [(.int tg)])) (fun tt_ kk_ => XS.iloadN X0.here hx rfl (hb hby own_d6_4) rfl kk_) ?_
  refine own_st (g' := (mkF m 6 #[.val (.ref t), .val (.int tg), .unset, .unset, .unset, .unset] [(.ref t), (.int tg)])) (fun tt_ kk_ => XS.aloadN X0.here hx rfl (hb hby own_d6_5) rfl rfl kk_) ?_
  obtain ⟨T210, X210, e210, st210⟩ := getF X0 hx hZ hown (host := "") (Or.inl (hw _ (List.mem_of_getElem? (i := 67) rfl))) Via.refl e0 FD (g := (mkF m 6 #[.val (.ref t), .val (.int tg), .unset, .unset, .unset, .unset] [(.ref t), (.int tg)])) rfl rfl (hb hby own_d6_6)
  refine own_st (g' := (mkF m 9 #[.val (.ref t), .val (.int tg), .unset, .unset, .unset, .unset] [(.int D), (.int tg)])) st210 ?_
  refine own_st (g' := (mkF m 26 #[.val (.ref t), .val (.int tg), .unset, .unset, .unset, .unset] [])) (fun tt_ kk_ => XS.icmpYes X210.here hx rfl (pc0 := 9) (pc' := 26) rfl (hb hby own_d6_9) rfl (flt hle).2.2.2 (by decide) (by decide) kk_) ?_
  refine own_st (g' := (mkF m 27 #[.val (.ref t), .val (.int tg), .unset, .unset, .unset, .unset] [(.int tg)])) (fun tt_ kk_ => XS.iloadN X210.here hx rfl (hb hby own_d6_26) rfl kk_) ?_
  refine own_st (g' := (mkF m 28 #[.val (.ref t), .val (.int tg), .unset, .unset, .unset, .unset] [(.ref t), (.int tg)])) (fun tt_ kk_ => XS.aloadN X210.here hx rfl (hb hby own_d6_27) rfl rfl kk_) ?_
  obtain ⟨T211, X211, e211, st211⟩ := getF X210 hx hZ hown (host := "") (Or.inl (hw _ (List.mem_of_getElem? (i := 67) rfl))) Via.refl e210 FD (g := (mkF m 28 #[.val (.ref t), .val (.int tg), .unset, .unset, .unset, .unset] [(.ref t), (.int tg)])) rfl rfl (hb hby own_d6_28)
  refine own_st (g' := (mkF m 31 #[.val (.ref t), .val (.int tg), .unset, .unset, .unset, .unset] [(.int D), (.int tg)])) st211 ?_
  by_cases hc31 : tg = D
  · skip
    refine own_st (g' := (mkF m 34 #[.val (.ref t), .val (.int tg), .unset, .unset, .unset, .unset] [])) (fun tt_ kk_ => XS.icmpNo X211.here hx rfl (hb hby own_d6_31) rfl (teq hc31).2 kk_) ?_
    refine own_retV X211 hx hlk hret (hb hby own_d6_34) (by decide) (by decide) ?_
    rw [e211]
    exact ⟨rfl, N0, hc31 ▸ TR0⟩
  refine own_st (g' := (mkF m 35 #[.val (.ref t), .val (.int tg), .unset, .unset, .unset, .unset] [])) (fun tt_ kk_ => XS.icmpYes X211.here hx rfl (pc0 := 31) (pc' := 35) rfl (hb hby own_d6_31) rfl (feq hc31).2 (by decide) (by decide) kk_) ?_
  refine own_st (g' := (mkF m 36 #[.val (.ref t), .val (.int tg), .unset, .unset, .unset, .unset] [(.ref t)])) (fun tt_ kk_ => XS.aloadN X211.here hx rfl (hb hby own_d6_35) rfl rfl kk_) ?_
  obtain ⟨T212, X212, e212, st212⟩ := getF X211 hx hZ hown (host := "") (Or.inl (hw _ (List.mem_of_getElem? (i := 54) rfl))) Via.refl e211 Fw (g := (mkF m 36 #[.val (.ref t), .val (.int tg), .unset, .unset, .unset, .unset] [(.ref t)])) rfl rfl (hb hby own_d6_36)
  refine own_st (g' := (mkF m 39 #[.val (.ref t), .val (.int tg), .unset, .unset, .unset, .unset] [(.ref wm)])) st212 ?_
  refine own_st (g' := (mkF m 40 #[.val (.ref t), .val (.int tg), .unset, .unset, .unset, .unset] [(.int tg), (.ref wm)])) (fun tt_ kk_ => XS.iloadN X212.here hx rfl (hb hby own_d6_39) rfl kk_) ?_
  refine own_st (g' := (mkF m 41 #[.val (.ref t), .val (.int tg), .unset, .unset, .unset, .unset] [(.int (0 : Int32))])) (fun tt_ kk_ => own_ldI X212 hx hZ e212 Pw h0t (own_c1 hle hc31 hD) (g := (mkF m 40 #[.val (.ref t), .val (.int tg), .unset, .unset, .unset, .unset] [(.int tg), (.ref wm)])) rfl rfl (hb hby own_d6_40) tt_ kk_) ?_
  refine own_st (g' := (mkF m 42 #[.val (.ref t), .val (.int tg), .val (.int (0 : Int32)), .unset, .unset, .unset] [])) (fun tt_ kk_ => XS.istoreN X212.here hx rfl (hb hby own_d6_41) rfl (l' := #[.val (.ref t), .val (.int tg), .val (.int (0 : Int32)), .unset, .unset, .unset]) rfl kk_) ?_
  refine own_st (g' := (mkF m 43 #[.val (.ref t), .val (.int tg), .val (.int (0 : Int32)), .unset, .unset, .unset] [(.ref t)])) (fun tt_ kk_ => XS.aloadN X212.here hx rfl (hb hby own_d6_42) rfl rfl kk_) ?_
  obtain ⟨T213, X213, e213, st213⟩ := getF X212 hx hZ hown (host := "") (Or.inl (hw _ (List.mem_of_getElem? (i := 80) rfl))) Via.refl e212 Fe (g := (mkF m 43 #[.val (.ref t), .val (.int tg), .val (.int (0 : Int32)), .unset, .unset, .unset] [(.ref t)])) rfl rfl (hb hby own_d6_43)
  refine own_st (g' := (mkF m 46 #[.val (.ref t), .val (.int tg), .val (.int (0 : Int32)), .unset, .unset, .unset] [(.int (0 : Int32))])) st213 ?_
  refine own_st (g' := (mkF m 47 #[.val (.ref t), .val (.int tg), .val (.int (0 : Int32)), .unset, .unset, .unset] [(.int (1 : Int32)), (.int (0 : Int32))])) (fun tt_ kk_ => XS.iconst X213.here hx rfl (hb hby own_d6_46) kk_) ?_
  refine own_st (g' := (mkF m 48 #[.val (.ref t), .val (.int tg), .val (.int (0 : Int32)), .unset, .unset, .unset] [(.int ((0 : Int32) - (1 : Int32)))])) (fun tt_ kk_ => XS.isub X213.here hx rfl (hb hby own_d6_47) rfl kk_) ?_
  refine own_st (g' := (mkF m 49 #[.val (.ref t), .val (.int tg), .val (.int (0 : Int32)), .val (.int ((0 : Int32) - (1 : Int32))), .unset, .unset] [])) (fun tt_ kk_ => XS.istoreN X213.here hx rfl (hb hby own_d6_48) rfl (l' := #[.val (.ref t), .val (.int tg), .val (.int (0 : Int32)), .val (.int ((0 : Int32) - (1 : Int32))), .unset, .unset]) rfl kk_) ?_
  refine own_st (g' := (mkF m 50 #[.val (.ref t), .val (.int tg), .val (.int (0 : Int32)), .val (.int ((0 : Int32) - (1 : Int32))), .unset, .unset] [(.int ((0 : Int32) - (1 : Int32)))])) (fun tt_ kk_ => XS.iloadN X213.here hx rfl (hb hby own_d6_49) rfl kk_) ?_
  refine own_st (g' := (mkF m 51 #[.val (.ref t), .val (.int tg), .val (.int (0 : Int32)), .val (.int ((0 : Int32) - (1 : Int32))), .unset, .unset] [(.int (0 : Int32)), (.int ((0 : Int32) - (1 : Int32)))])) (fun tt_ kk_ => XS.iloadN X213.here hx rfl (hb hby own_d6_50) rfl kk_) ?_
  refine own_st (g' := (mkF m 170 #[.val (.ref t), .val (.int tg), .val (.int (0 : Int32)), .val (.int ((0 : Int32) - (1 : Int32))), .unset, .unset] [])) (fun tt_ kk_ => XS.icmpYes X213.here hx rfl (pc0 := 51) (pc' := 170) rfl (hb hby own_d6_51) rfl (tlt (by decide)).1 (by decide) (by decide) kk_) ?_
  refine own_st (g' := (mkF m 171 #[.val (.ref t), .val (.int tg), .val (.int (0 : Int32)), .val (.int ((0 : Int32) - (1 : Int32))), .unset, .unset] [(.ref t)])) (fun tt_ kk_ => XS.aloadN X213.here hx rfl (hb hby own_d6_170) rfl rfl kk_) ?_
  refine own_st (g' := (mkF m 172 #[.val (.ref t), .val (.int tg), .val (.int (0 : Int32)), .val (.int ((0 : Int32) - (1 : Int32))), .unset, .unset] [(.int (0 : Int32)), (.ref t)])) (fun tt_ kk_ => XS.iloadN X213.here hx rfl (hb hby own_d6_171) rfl kk_) ?_
  obtain ⟨T214, h214, X214, e214, W214, st214⟩ := putF X213 hx hZ hown (host := "") (Or.inl (hw _ (List.mem_of_getElem? (i := 80) rfl))) Via.refl e213 Fe E (Or.inl (hw _ (List.mem_of_getElem? (i := 81) rfl))) (hw _ (List.mem_of_getElem? (i := 2) rfl)) (ty := .int) (by decide) rfl rfl (g := (mkF m 172 #[.val (.ref t), .val (.int tg), .val (.int (0 : Int32)), .val (.int ((0 : Int32) - (1 : Int32))), .unset, .unset] [(.int (0 : Int32)), (.ref t)])) rfl rfl (hb hby own_d6_172)
  have N214 := Fr.snoc X214 N0 g1
  have F214 : Fld Z h214 t "com/example/propagule/propagule/Trail" "entries" "I" (.int (0 : Int32)) := Fe.same W214
  refine own_st (g' := (mkF m 175 #[.val (.ref t), .val (.int tg), .val (.int (0 : Int32)), .val (.int ((0 : Int32) - (1 : Int32))), .unset, .unset] [])) st214 ?_
  refine own_st (g' := (mkF m 176 #[.val (.ref t), .val (.int tg), .val (.int (0 : Int32)), .val (.int ((0 : Int32) - (1 : Int32))), .unset, .unset] [(.ref t)])) (fun tt_ kk_ => XS.aloadN X214.here hx rfl (hb hby own_d6_175) rfl rfl kk_) ?_
  have F216 := (Fm.other W214 (Or.inr (slot_ne (Or.inl (hw _ (List.mem_of_getElem? (i := 57) rfl))) (Or.inl (hw _ (List.mem_of_getElem? (i := 81) rfl))) (by decide) (t := (.array .int)) (t' := .int) (by decide) (by decide))))
  obtain ⟨T215, X215, e215, st215⟩ := getF X214 hx hZ hown (host := "") (Or.inl (hw _ (List.mem_of_getElem? (i := 56) rfl))) Via.refl e214 F216 (g := (mkF m 176 #[.val (.ref t), .val (.int tg), .val (.int (0 : Int32)), .val (.int ((0 : Int32) - (1 : Int32))), .unset, .unset] [(.ref t)])) rfl rfl (hb hby own_d6_176)
  refine own_st (g' := (mkF m 179 #[.val (.ref t), .val (.int tg), .val (.int (0 : Int32)), .val (.int ((0 : Int32) - (1 : Int32))), .unset, .unset] [(.ref cm)])) st215 ?_
  refine own_st (g' := (mkF m 180 #[.val (.ref t), .val (.int tg), .val (.int (0 : Int32)), .val (.int ((0 : Int32) - (1 : Int32))), .unset, .unset] [(.int tg), (.ref cm)])) (fun tt_ kk_ => XS.iloadN X215.here hx rfl (hb hby own_d6_179) rfl kk_) ?_
  have F217 := (Pm.other W214 (Ne.symm n2))
  refine own_st (g' := (mkF m 181 #[.val (.ref t), .val (.int tg), .val (.int (0 : Int32)), .val (.int ((0 : Int32) - (1 : Int32))), .unset, .unset] [(.int (0 : Int32))])) (fun tt_ kk_ => own_ldI X215 hx hZ e215 F217 h0t (own_c1 hle hc31 hD) (g := (mkF m 180 #[.val (.ref t), .val (.int tg), .val (.int (0 : Int32)), .val (.int ((0 : Int32) - (1 : Int32))), .unset, .unset] [(.int tg), (.ref cm)])) rfl rfl (hb hby own_d6_180) tt_ kk_) ?_
  refine own_st (g' := (mkF m 182 #[.val (.ref t), .val (.int tg), .val (.int (0 : Int32)), .val (.int (0 : Int32)), .unset, .unset] [])) (fun tt_ kk_ => XS.istoreN X215.here hx rfl (hb hby own_d6_181) rfl (l' := #[.val (.ref t), .val (.int tg), .val (.int (0 : Int32)), .val (.int (0 : Int32)), .unset, .unset]) rfl kk_) ?_
  refine own_st (g' := (mkF m 183 #[.val (.ref t), .val (.int tg), .val (.int (0 : Int32)), .val (.int (0 : Int32)), .unset, .unset] [(.ref t)])) (fun tt_ kk_ => XS.aloadN X215.here hx rfl (hb hby own_d6_182) rfl rfl kk_) ?_
  have F219 := (Fc.other W214 (Or.inr (slot_ne (Or.inl (hw _ (List.mem_of_getElem? (i := 83) rfl))) (Or.inl (hw _ (List.mem_of_getElem? (i := 81) rfl))) (by decide) (t := .int) (t' := .int) (by decide) (by decide))))
  obtain ⟨T218, X218, e218, st218⟩ := getF X215 hx hZ hown (host := "") (Or.inl (hw _ (List.mem_of_getElem? (i := 82) rfl))) Via.refl e215 F219 (g := (mkF m 183 #[.val (.ref t), .val (.int tg), .val (.int (0 : Int32)), .val (.int (0 : Int32)), .unset, .unset] [(.ref t)])) rfl rfl (hb hby own_d6_183)
  refine own_st (g' := (mkF m 186 #[.val (.ref t), .val (.int tg), .val (.int (0 : Int32)), .val (.int (0 : Int32)), .unset, .unset] [(.int (0 : Int32))])) st218 ?_
  refine own_st (g' := (mkF m 187 #[.val (.ref t), .val (.int tg), .val (.int (0 : Int32)), .val (.int (0 : Int32)), .unset, .unset] [(.int (1 : Int32)), (.int (0 : Int32))])) (fun tt_ kk_ => XS.iconst X218.here hx rfl (hb hby own_d6_186) kk_) ?_
  refine own_st (g' := (mkF m 188 #[.val (.ref t), .val (.int tg), .val (.int (0 : Int32)), .val (.int (0 : Int32)), .unset, .unset] [(.int ((0 : Int32) - (1 : Int32)))])) (fun tt_ kk_ => XS.isub X218.here hx rfl (hb hby own_d6_187) rfl kk_) ?_
  refine own_st (g' := (mkF m 190 #[.val (.ref t), .val (.int tg), .val (.int (0 : Int32)), .val (.int (0 : Int32)), .val (.int ((0 : Int32) - (1 : Int32))), .unset] [])) (fun tt_ kk_ => XS.istore X218.here hx rfl (hb hby own_d6_188) rfl (l' := #[.val (.ref t), .val (.int tg), .val (.int (0 : Int32)), .val (.int (0 : Int32)), .val (.int ((0 : Int32) - (1 : Int32))), .unset]) rfl kk_) ?_
  refine own_st (g' := (mkF m 192 #[.val (.ref t), .val (.int tg), .val (.int (0 : Int32)), .val (.int (0 : Int32)), .val (.int ((0 : Int32) - (1 : Int32))), .unset] [(.int ((0 : Int32) - (1 : Int32)))])) (fun tt_ kk_ => XS.iload X218.here hx rfl (hb hby own_d6_190) rfl kk_) ?_
  refine own_st (g' := (mkF m 193 #[.val (.ref t), .val (.int tg), .val (.int (0 : Int32)), .val (.int (0 : Int32)), .val (.int ((0 : Int32) - (1 : Int32))), .unset] [(.int (0 : Int32)), (.int ((0 : Int32) - (1 : Int32)))])) (fun tt_ kk_ => XS.iloadN X218.here hx rfl (hb hby own_d6_192) rfl kk_) ?_
  refine own_st (g' := (mkF m 241 #[.val (.ref t), .val (.int tg), .val (.int (0 : Int32)), .val (.int (0 : Int32)), .val (.int ((0 : Int32) - (1 : Int32))), .unset] [])) (fun tt_ kk_ => XS.icmpYes X218.here hx rfl (pc0 := 193) (pc' := 241) rfl (hb hby own_d6_193) rfl (tlt (by decide)).1 (by decide) (by decide) kk_) ?_
  refine own_st (g' := (mkF m 242 #[.val (.ref t), .val (.int tg), .val (.int (0 : Int32)), .val (.int (0 : Int32)), .val (.int ((0 : Int32) - (1 : Int32))), .unset] [(.ref t)])) (fun tt_ kk_ => XS.aloadN X218.here hx rfl (hb hby own_d6_241) rfl rfl kk_) ?_
  refine own_st (g' := (mkF m 243 #[.val (.ref t), .val (.int tg), .val (.int (0 : Int32)), .val (.int (0 : Int32)), .val (.int ((0 : Int32) - (1 : Int32))), .unset] [(.int (0 : Int32)), (.ref t)])) (fun tt_ kk_ => XS.iloadN X218.here hx rfl (hb hby own_d6_242) rfl kk_) ?_
  have F221 := (E.wr W214)
  obtain ⟨T220, h220, X220, e220, W220, st220⟩ := putF X218 hx hZ hown (host := "") (Or.inl (hw _ (List.mem_of_getElem? (i := 82) rfl))) Via.refl e218 F219 F221 (Or.inl (hw _ (List.mem_of_getElem? (i := 83) rfl))) (hw _ (List.mem_of_getElem? (i := 2) rfl)) (ty := .int) (by decide) rfl rfl (g := (mkF m 243 #[.val (.ref t), .val (.int tg), .val (.int (0 : Int32)), .val (.int (0 : Int32)), .val (.int ((0 : Int32) - (1 : Int32))), .unset] [(.int (0 : Int32)), (.ref t)])) rfl rfl (hb hby own_d6_243)
  have N220 := Fr.snoc X220 N214 g1
  have F220 : Fld Z h220 t "com/example/propagule/propagule/Trail" "cellEntries" "I" (.int (0 : Int32)) := F219.same W220
  refine own_st (g' := (mkF m 246 #[.val (.ref t), .val (.int tg), .val (.int (0 : Int32)), .val (.int (0 : Int32)), .val (.int ((0 : Int32) - (1 : Int32))), .unset] [])) st220 ?_
  refine own_st (g' := (mkF m 247 #[.val (.ref t), .val (.int tg), .val (.int (0 : Int32)), .val (.int (0 : Int32)), .val (.int ((0 : Int32) - (1 : Int32))), .unset] [(.ref t)])) (fun tt_ kk_ => XS.aloadN X220.here hx rfl (hb hby own_d6_246) rfl rfl kk_) ?_
  refine own_st (g' := (mkF m 248 #[.val (.ref t), .val (.int tg), .val (.int (0 : Int32)), .val (.int (0 : Int32)), .val (.int ((0 : Int32) - (1 : Int32))), .unset] [(.int tg), (.ref t)])) (fun tt_ kk_ => XS.iloadN X220.here hx rfl (hb hby own_d6_247) rfl kk_) ?_
  have F223 := ((FD.other W214 (Or.inr (slot_ne (Or.inl (hw _ (List.mem_of_getElem? (i := 68) rfl))) (Or.inl (hw _ (List.mem_of_getElem? (i := 81) rfl))) (by decide) (t := .int) (t' := .int) (by decide) (by decide)))).other W220 (Or.inr (slot_ne (Or.inl (hw _ (List.mem_of_getElem? (i := 68) rfl))) (Or.inl (hw _ (List.mem_of_getElem? (i := 83) rfl))) (by decide) (t := .int) (t' := .int) (by decide) (by decide))))
  have F224 := (F221.wr W220)
  obtain ⟨T222, h222, X222, e222, W222, st222⟩ := putF X220 hx hZ hown (host := "") (Or.inl (hw _ (List.mem_of_getElem? (i := 67) rfl))) Via.refl e220 F223 F224 (Or.inl (hw _ (List.mem_of_getElem? (i := 68) rfl))) (hw _ (List.mem_of_getElem? (i := 2) rfl)) (ty := .int) (by decide) rfl rfl (g := (mkF m 248 #[.val (.ref t), .val (.int tg), .val (.int (0 : Int32)), .val (.int (0 : Int32)), .val (.int ((0 : Int32) - (1 : Int32))), .unset] [(.int tg), (.ref t)])) rfl rfl (hb hby own_d6_248)
  have N222 := Fr.snoc X222 N220 g1
  have F222 : Fld Z h222 t "com/example/propagule/propagule/Trail" "depth" "I" (.int tg) := F223.same W222
  refine own_st (g' := (mkF m 251 #[.val (.ref t), .val (.int tg), .val (.int (0 : Int32)), .val (.int (0 : Int32)), .val (.int ((0 : Int32) - (1 : Int32))), .unset] [])) st222 ?_
  have F225 := (F224.wr W222)
  have F226 := (((FN.other W214 (Or.inr (slot_ne (Or.inl (hw _ (List.mem_of_getElem? (i := 85) rfl))) (Or.inl (hw _ (List.mem_of_getElem? (i := 81) rfl))) (by decide) (t := .long) (t' := .int) (by decide) (by decide)))).other W220 (Or.inr (slot_ne (Or.inl (hw _ (List.mem_of_getElem? (i := 85) rfl))) (Or.inl (hw _ (List.mem_of_getElem? (i := 83) rfl))) (by decide) (t := .long) (t' := .int) (by decide) (by decide)))).other W222 (Or.inr (slot_ne (Or.inl (hw _ (List.mem_of_getElem? (i := 85) rfl))) (Or.inl (hw _ (List.mem_of_getElem? (i := 68) rfl))) (by decide) (t := .long) (t' := .int) (by decide) (by decide))))
  have F227 := ((F214.other W220 (Or.inr (slot_ne (Or.inl (hw _ (List.mem_of_getElem? (i := 81) rfl))) (Or.inl (hw _ (List.mem_of_getElem? (i := 83) rfl))) (by decide) (t := .int) (t' := .int) (by decide) (by decide)))).other W222 (Or.inr (slot_ne (Or.inl (hw _ (List.mem_of_getElem? (i := 81) rfl))) (Or.inl (hw _ (List.mem_of_getElem? (i := 68) rfl))) (by decide) (t := .int) (t' := .int) (by decide) (by decide))))
  have F228 := (F220.other W222 (Or.inr (slot_ne (Or.inl (hw _ (List.mem_of_getElem? (i := 83) rfl))) (Or.inl (hw _ (List.mem_of_getElem? (i := 68) rfl))) (by decide) (t := .int) (t' := .int) (by decide) (by decide))))
  have F229 := (((Fw.other W214 (Or.inr (slot_ne (Or.inl (hw _ (List.mem_of_getElem? (i := 55) rfl))) (Or.inl (hw _ (List.mem_of_getElem? (i := 81) rfl))) (by decide) (t := (.array .int)) (t' := .int) (by decide) (by decide)))).other W220 (Or.inr (slot_ne (Or.inl (hw _ (List.mem_of_getElem? (i := 55) rfl))) (Or.inl (hw _ (List.mem_of_getElem? (i := 83) rfl))) (by decide) (t := (.array .int)) (t' := .int) (by decide) (by decide)))).other W222 (Or.inr (slot_ne (Or.inl (hw _ (List.mem_of_getElem? (i := 55) rfl))) (Or.inl (hw _ (List.mem_of_getElem? (i := 68) rfl))) (by decide) (t := (.array .int)) (t' := .int) (by decide) (by decide))))
  have F230 := ((F216.other W220 (Or.inr (slot_ne (Or.inl (hw _ (List.mem_of_getElem? (i := 57) rfl))) (Or.inl (hw _ (List.mem_of_getElem? (i := 83) rfl))) (by decide) (t := (.array .int)) (t' := .int) (by decide) (by decide)))).other W222 (Or.inr (slot_ne (Or.inl (hw _ (List.mem_of_getElem? (i := 57) rfl))) (Or.inl (hw _ (List.mem_of_getElem? (i := 68) rfl))) (by decide) (t := (.array .int)) (t' := .int) (by decide) (by decide))))
  have F231 := (((Fn.other W214 (Or.inr (slot_ne (Or.inl (hw _ (List.mem_of_getElem? (i := 59) rfl))) (Or.inl (hw _ (List.mem_of_getElem? (i := 81) rfl))) (by decide) (t := (.array .long)) (t' := .int) (by decide) (by decide)))).other W220 (Or.inr (slot_ne (Or.inl (hw _ (List.mem_of_getElem? (i := 59) rfl))) (Or.inl (hw _ (List.mem_of_getElem? (i := 83) rfl))) (by decide) (t := (.array .long)) (t' := .int) (by decide) (by decide)))).other W222 (Or.inr (slot_ne (Or.inl (hw _ (List.mem_of_getElem? (i := 59) rfl))) (Or.inl (hw _ (List.mem_of_getElem? (i := 68) rfl))) (by decide) (t := (.array .long)) (t' := .int) (by decide) (by decide))))
  have F232 := (((Pw.other W214 (Ne.symm n1)).other W220 (Ne.symm n1)).other W222 (Ne.symm n1))
  have F233 := ((F217.other W220 (Ne.symm n2)).other W222 (Ne.symm n2))
  have F234 := (((Pn.other W214 (Ne.symm n3)).other W220 (Ne.symm n3)).other W222 (Ne.symm n3))
  refine own_retV X222 hx hlk hret (hb hby own_d6_251) (by decide) (by decide) ?_
  rw [e222]
  exact ⟨rfl, N222, ⟨F225, F222, F226, F227, F228, F229, F230, F231, F232, F233, F234, n1, n2, n3, n4, n5, n6, g1, g2, g3, g4⟩⟩
def own_io (D d : Int32) (w fv : Int64) : Int32 := if D < d then 0 else if lcmpW fv w = 0 then 1 else 0
theorem own_c2 {d D : Int32} (h1 : ¬ D < d) (h3 : D.toInt < (64 : Nat)) : d.toInt < (65 : Nat) := by
  rw [own_lt32] at h1
  omega
theorem own_d7_0 : decode prog_74_method_4_code 0 = .ok (.iload_n 1, 1) := by decide +kernel
theorem own_d7_1 : decode prog_74_method_4_code 1 = .ok (.aload_n 0, 1) := by decide +kernel
theorem own_d7_2 : decode prog_74_method_4_code 2 = .ok (.getfield 50, 3) := by decide +kernel
theorem own_d7_5 : decode prog_74_method_4_code 5 = .ok (.if_icmp .gt 18, 3) := by decide +kernel
theorem own_d7_8 : decode prog_74_method_4_code 8 = .ok (.aload_n 0, 1) := by decide +kernel
theorem own_d7_9 : decode prog_74_method_4_code 9 = .ok (.getfield 43, 3) := by decide +kernel
theorem own_d7_12 : decode prog_74_method_4_code 12 = .ok (.iload_n 1, 1) := by decide +kernel
theorem own_d7_13 : decode prog_74_method_4_code 13 = .ok (.laload, 1) := by decide +kernel
theorem own_d7_14 : decode prog_74_method_4_code 14 = .ok (.lload_n 2, 1) := by decide +kernel
theorem own_d7_15 : decode prog_74_method_4_code 15 = .ok (.lcmp, 1) := by decide +kernel
theorem own_d7_16 : decode prog_74_method_4_code 16 = .ok (.ifCond .ne 7, 3) := by decide +kernel
theorem own_d7_19 : decode prog_74_method_4_code 19 = .ok (.iconst 1, 1) := by decide +kernel
theorem own_d7_20 : decode prog_74_method_4_code 20 = .ok (.goto 4, 3) := by decide +kernel
theorem own_d7_23 : decode prog_74_method_4_code 23 = .ok (.iconst 0, 1) := by decide +kernel
theorem own_d7_24 : decode prog_74_method_4_code 24 = .ok (.ireturn, 1) := by decide +kernel
def own_Qiso (Z : State) (t : Addr) (wm : Addr) (cm : Addr) (wn : Addr) (D : Int32) (N : Int64) (f : Nat → Int64) (d : Int32) (w : Int64) (h0 : Heap) (n0 : Nat) (v : Option Value) (h : Heap) (L : List Loc) : Prop := v = some (.int (own_io D d w (f d.toNatClampNeg))) ∧ Fr n0 L ∧ h = h0
theorem own_efiso (m : MethodId) (t : Addr) (d : Int32) (w : Int64) : entryFrame m #[(.ref t), (.int d), (.long w)] 4 = mkF m 0 #[.val (.ref t), .val (.int d), .val (.long w), .second] [] := by first | (simp [entryFrame, mkF, argsToLocals, Value.category]; done) | rfl
set_option maxRecDepth 65536 in
set_option maxHeartbeats 16000000 in
theorem own_rmiso (l : Launch) (Z : State) (a0 : Array Value) (hw : ∀ d ∈ tables_1, d.before a0 Z = true) (ws : List Jvm.Cond) (t : Addr) (wm : Addr) (cm : Addr) (wn : Addr) (D : Int32) (N : Int64) (f : Nat → Int64) (d : Int32) (w : Int64) (h0 : Heap) (n0 : Nat) (TR : own_Tr Z h0 n0 t wm cm wn D N f) (hd0 : ¬ d < (0 : Int32)) (hD : D.toInt < (64 : Nat)) :
    MetFree l (⟨"com/example/propagule/propagule/Trail", "isOpen", "(IJ)Z"⟩ : MethodName) (head1 (Jvm.Cond.code (⟨"com/example/propagule/propagule/Trail", "isOpen", "(IJ)Z"⟩ : MethodName) prog_74_method_4_code 4 (some .boolean) :: ws) ({ frames := 0, cells := 0, slots := 0, locals := 0 } : Room)) (fun aa UU => aa = #[(.ref t), (.int d), (.long w)] ∧ Z.Warmed39 UU.vm ∧ UU.heap = h0) (fun _ _ _ _ _ => True) (fun _ U o U' => ∃ v L, o = .returned v ∧ own_Qiso Z t wm cm wn D N f d w h0 n0 v U'.heap L ∧ FrameEnd U o U' L ({ frames := 0, cells := 0, slots := 0, locals := 0 } : Room).cells ({ frames := 0, cells := 0, slots := 0, locals := 0 } : Room).slots) := by
  refine MetFree.of_bodySF (plainFor_of_name own_pn3) hisR ?_
  intro p e s m args below meth c s₁ Bd hml hP hK
  obtain ⟨rfl, hZ, hh⟩ := hP
  have hx := Bd.exec
  have hlk := Bd.notSynchronized
  have hby := Bd.bytes
  have hret := Bd.returns
  have hown := findClass_of_methodNamed Bd.named
  have hnm := (name_of_methodNamed Bd.named Bd.method).1
  have X0 : Stand p l e ({ frames := 0, cells := 0, slots := 0, locals := 0 } : Room) s m #[(.ref t), (.int d), (.long w)] below meth c s₁ [] 0 0 := Stand.of_body Bd
  have e0 : s₁.heap = h0 := by rw [← hh, Bd.state]; rfl
  have N0 := Fr.nil n0
  refine own_cast (own_efiso m t d w) ?_
  show own_Go p e below s s₁ _ (own_Qiso Z t wm cm wn D N f d w h0 n0) 0 0
  have TR0 := TR
  obtain ⟨E, FD, FN, Fe, Fc, Fw, Fm, Fn, Pw, Pm, Pn, n1, n2, n3, n4, n5, n6, g1, g2, g3, g4⟩ := TR
  refine own_st (g' := (mkF m 1 #[.val (.ref t), .val (.int d), .val (.long w), .second] [(.int d)])) (fun tt_ kk_ => XS.iloadN X0.here hx rfl (hb hby own_d7_0) rfl kk_) ?_
  refine own_st (g' := (mkF m 2 #[.val (.ref t), .val (.int d), .val (.long w), .second] [(.ref t), (.int d)])) (fun tt_ kk_ => XS.aloadN X0.here hx rfl (hb hby own_d7_1) rfl rfl kk_) ?_
  obtain ⟨T235, X235, e235, st235⟩ := getF X0 hx hZ hown (host := "") (Or.inl (hw _ (List.mem_of_getElem? (i := 67) rfl))) Via.refl e0 FD (g := (mkF m 2 #[.val (.ref t), .val (.int d), .val (.long w), .second] [(.ref t), (.int d)])) rfl rfl (hb hby own_d7_2)
  refine own_st (g' := (mkF m 5 #[.val (.ref t), .val (.int d), .val (.long w), .second] [(.int D), (.int d)])) st235 ?_
  by_cases hc5 : D < d
  · skip
    refine own_st (g' := (mkF m 23 #[.val (.ref t), .val (.int d), .val (.long w), .second] [])) (fun tt_ kk_ => XS.icmpYes X235.here hx rfl (pc0 := 5) (pc' := 23) rfl (hb hby own_d7_5) rfl (tlt hc5).2.2.1 (by decide) (by decide) kk_) ?_
    refine own_st (g' := (mkF m 24 #[.val (.ref t), .val (.int d), .val (.long w), .second] [(.int (0 : Int32))])) (fun tt_ kk_ => XS.iconst X235.here hx rfl (hb hby own_d7_23) kk_) ?_
    refine own_retN X235 hx hlk (t := .boolean) (Or.inl rfl) hret (hb hby own_d7_24) (by decide) (by decide) ?_
    rw [e235]
    exact ⟨(by rw [own_io, if_pos hc5]; rfl), N0, rfl⟩
  refine own_st (g' := (mkF m 8 #[.val (.ref t), .val (.int d), .val (.long w), .second] [])) (fun tt_ kk_ => XS.icmpNo X235.here hx rfl (hb hby own_d7_5) rfl (flt hc5).2.2.1 kk_) ?_
  refine own_st (g' := (mkF m 9 #[.val (.ref t), .val (.int d), .val (.long w), .second] [(.ref t)])) (fun tt_ kk_ => XS.aloadN X235.here hx rfl (hb hby own_d7_8) rfl rfl kk_) ?_
  obtain ⟨T236, X236, e236, st236⟩ := getF X235 hx hZ hown (host := "") (Or.inl (hw _ (List.mem_of_getElem? (i := 58) rfl))) Via.refl e235 Fn (g := (mkF m 9 #[.val (.ref t), .val (.int d), .val (.long w), .second] [(.ref t)])) rfl rfl (hb hby own_d7_9)
  refine own_st (g' := (mkF m 12 #[.val (.ref t), .val (.int d), .val (.long w), .second] [(.ref wn)])) st236 ?_
  refine own_st (g' := (mkF m 13 #[.val (.ref t), .val (.int d), .val (.long w), .second] [(.int d), (.ref wn)])) (fun tt_ kk_ => XS.iloadN X236.here hx rfl (hb hby own_d7_12) rfl kk_) ?_
  refine own_st (g' := (mkF m 14 #[.val (.ref t), .val (.int d), .val (.long w), .second] [(.long (f (d).toNatClampNeg))])) (fun tt_ kk_ => own_ldJ X236 hx hZ e236 Pn hd0 (own_c2 hc5 hD) (g := (mkF m 13 #[.val (.ref t), .val (.int d), .val (.long w), .second] [(.int d), (.ref wn)])) rfl rfl (hb hby own_d7_13) tt_ kk_) ?_
  refine own_st (g' := (mkF m 15 #[.val (.ref t), .val (.int d), .val (.long w), .second] [(.long w), (.long (f (d).toNatClampNeg))])) (fun tt_ kk_ => XS.lloadN X236.here hx rfl (hb hby own_d7_14) rfl kk_) ?_
  refine own_st (g' := (mkF m 16 #[.val (.ref t), .val (.int d), .val (.long w), .second] [(.int (lcmpW (f (d).toNatClampNeg) w))])) (fun tt_ kk_ => XS.lcmp X236.here hx rfl (hb hby own_d7_15) rfl kk_) ?_
  by_cases hc16 : (lcmpW (f (d).toNatClampNeg) w) = (0 : Int32)
  · skip
    refine own_st (g' := (mkF m 19 #[.val (.ref t), .val (.int d), .val (.long w), .second] [])) (fun tt_ kk_ => XS.ifNo X236.here hx rfl (hb hby own_d7_16) rfl ((if0 _ _).trans (teq hc16).2) kk_) ?_
    refine own_st (g' := (mkF m 20 #[.val (.ref t), .val (.int d), .val (.long w), .second] [(.int (1 : Int32))])) (fun tt_ kk_ => XS.iconst X236.here hx rfl (hb hby own_d7_19) kk_) ?_
    refine own_st (g' := (mkF m 24 #[.val (.ref t), .val (.int d), .val (.long w), .second] [(.int (1 : Int32))])) (fun tt_ kk_ => XS.goto X236.here hx rfl (pc0 := 20) (pc' := 24) rfl (hb hby own_d7_20) (by decide) (by decide) kk_) ?_
    refine own_retN X236 hx hlk (t := .boolean) (Or.inl rfl) hret (hb hby own_d7_24) (by decide) (by decide) ?_
    rw [e236]
    exact ⟨(by rw [own_io, if_neg hc5, if_pos hc16]; rfl), N0, rfl⟩
  refine own_st (g' := (mkF m 23 #[.val (.ref t), .val (.int d), .val (.long w), .second] [])) (fun tt_ kk_ => XS.ifYes X236.here hx rfl (pc0 := 16) (pc' := 23) rfl (hb hby own_d7_16) rfl ((if0 _ _).trans (feq hc16).2) (by decide) (by decide) kk_) ?_
  refine own_st (g' := (mkF m 24 #[.val (.ref t), .val (.int d), .val (.long w), .second] [(.int (0 : Int32))])) (fun tt_ kk_ => XS.iconst X236.here hx rfl (hb hby own_d7_23) kk_) ?_
  refine own_retN X236 hx hlk (t := .boolean) (Or.inl rfl) hret (hb hby own_d7_24) (by decide) (by decide) ?_
  rw [e236]
  exact ⟨(by rw [own_io, if_neg hc5, if_neg hc16]; rfl), N0, rfl⟩
def own_num (k1 tg : Int32) (i : Nat) : Int64 := if (i : Int) ≤ tg.toInt then Int64.ofInt i else Int64.ofInt (k1.toInt + (i - tg.toInt))
theorem own_k1 (x : Int32) : 0 ≤ (x &&& (3 : Int32)).toInt ∧ (x &&& (3 : Int32)).toInt ≤ 3 := by
  have e : (x &&& (3 : Int32)).toInt = x.toInt % 2 ^ 2 := Jvm.Kit.i32_mask x 3 (k := 2) (by decide) (by decide)
  omega
theorem own_k2 (x : Int32) : 0 ≤ ((x &&& (3 : Int32)) % (3 : Int32)).toInt ∧ ((x &&& (3 : Int32)) % (3 : Int32)).toInt ≤ 2 := by
  have e := own_k1 x
  have q : ((x &&& (3 : Int32)) % (3 : Int32)).toInt = (x &&& (3 : Int32)).toInt % (3 : Int32).toInt := Jvm.Kit.i32_rem_nonneg e.1
  have t : (3 : Int32).toInt = 3 := rfl
  rw [t] at q
  omega
theorem own_k1p (x : Int32) : ((x &&& (3 : Int32)) + (1 : Int32)).toInt = (x &&& (3 : Int32)).toInt + 1 := by
  have e := own_k1 x
  exact own_a1 (by rw [own_lt32]; have : (0 : Int32).toInt = 0 := rfl; omega) (by omega)
theorem own_nz1 (x : Int32) : ((x &&& (3 : Int32)) + (1 : Int32)) ≠ 0 := fun q => by
  have e := own_k1 x
  have := own_k1p x
  rw [q] at this
  have : (0 : Int32).toInt = 0 := rfl
  omega
theorem own_tg (x y : Int32) : 0 ≤ ((y &&& (2147483647 : Int32)) % ((x &&& (3 : Int32)) + (1 : Int32))).toInt ∧ ((y &&& (2147483647 : Int32)) % ((x &&& (3 : Int32)) + (1 : Int32))).toInt ≤ (x &&& (3 : Int32)).toInt := by
  have e := own_k1 x
  have e1 : (y &&& (2147483647 : Int32)).toInt = y.toInt % 2 ^ 31 := Jvm.Kit.i32_mask y 2147483647 (k := 31) (by decide) (by decide)
  have q : ((y &&& (2147483647 : Int32)) % ((x &&& (3 : Int32)) + (1 : Int32))).toInt = (y &&& (2147483647 : Int32)).toInt % ((x &&& (3 : Int32)) + (1 : Int32)).toInt := Jvm.Kit.i32_rem_nonneg (by omega)
  rw [q, own_k1p]
  have h1 := Int.emod_nonneg (y &&& (2147483647 : Int32)).toInt (b := (x &&& (3 : Int32)).toInt + 1) (by omega)
  have h2 := Int.emod_lt_of_pos (y &&& (2147483647 : Int32)).toInt (b := (x &&& (3 : Int32)).toInt + 1) (by omega)
  omega
theorem own_num_le {k1 tg : Int32} {d : Int32} (h0 : ¬ d < 0) (h : ¬ tg < d) : own_num k1 tg d.toNatClampNeg = d.toInt64 := by
  have e := nat_of h0
  rw [own_lt32] at h
  unfold own_num
  rw [if_pos (by omega)]
  apply Int64.toInt_inj.mp
  rw [Int32.toInt_toInt64, ← e, Int64.toInt_ofInt_of_le] <;> have := d.toInt_lt <;> have := d.le_toInt <;> omega
theorem own_num_gt {k1 tg d : Int32} (h0 : ¬ d < 0) (hk : 0 ≤ k1.toInt ∧ k1.toInt ≤ 3) (ht : 0 ≤ tg.toInt ∧ tg.toInt ≤ k1.toInt) (h : tg < d) : own_num k1 tg d.toNatClampNeg = k1.toInt64 + (d - tg).toInt64 := by
  have e := nat_of h0
  rw [own_lt32] at h
  have b1 := d.toInt_lt
  have s1 : (d - tg).toInt = d.toInt - tg.toInt := Jvm.Kit.i32_sub (by omega) (by omega)
  unfold own_num
  rw [if_neg (by omega)]
  apply Int64.toInt_inj.mp
  rw [Jvm.Kit.i64_add] <;> simp only [Int32.toInt_toInt64, s1]
  · rw [← e, Int64.toInt_ofInt_of_le] <;> omega
  · omega
  · omega
theorem own_l0 {D d : Int32} {w fv : Int64} (h : D < d) : own_io D d w fv = 0 := if_pos h
theorem own_l1 {D d : Int32} {w fv nn : Int64} (h : ¬ D < d) (e : fv = nn) (q : lcmpW w nn = 0) : own_io D d w fv = 1 := by
  rw [lw_eq] at q
  unfold own_io
  rw [if_neg h, if_pos ((lw_eq _ _).mpr (e.trans q.symm))]
theorem own_l2 {D d : Int32} {w fv nn : Int64} (h : ¬ D < d) (e : fv = nn) (q : ¬ lcmpW w nn = 0) : own_io D d w fv = 0 := by
  rw [lw_eq] at q
  unfold own_io
  rw [if_neg h, if_neg fun z => q (((lw_eq _ _).mp z).symm.trans e)]
theorem own_up {a b c : Int32} (h : a < b) (q : b.toInt ≤ c.toInt) : a < c := by rw [own_lt32] at h ⊢; omega
theorem own_bd {x8 x7 d : Int32} (hk2 : 0 ≤ x7.toInt ∧ x7.toInt ≤ 2) (hg : 0 ≤ x8.toInt ∧ x8.toInt ≤ 3) (h0 : ¬ d < 0) (h : ¬ (x8 + x7) < d) : (d.toNatClampNeg : Int) ≤ x8.toInt + x7.toInt := by
  have e := nat_of h0
  rw [own_lt32, Jvm.Kit.i32_add (by omega) (by omega)] at h
  omega
theorem own_d7 (x : Int32) : ¬ (x &&& (7 : Int32)) < 0 := by
  have e : (x &&& (7 : Int32)).toInt = x.toInt % 2 ^ 3 := Jvm.Kit.i32_mask x 7 (k := 3) (by decide) (by decide)
  rw [own_lt32, e]
  have : (0 : Int32).toInt = 0 := rfl
  omega
theorem own_d1 (x : Int32) : ¬ ((x.toUInt32 >>> ((1 : Int32) &&& 31).toUInt32).toInt32) < 0 := by
  have e := c_iushr x 1 1 (by decide) (by decide)
  rw [own_lt32, e]
  have : (0 : Int32).toInt = 0 := rfl
  omega
theorem own_f0 {k1 tg : Int32} {f : Nat → Int64} (hg : 0 ≤ tg.toInt ∧ tg.toInt ≤ k1.toInt) (hf : ∀ i : Nat, (i : Int) ≤ k1.toInt → f i = Int64.ofInt i) (i : Nat) (h : (i : Int) ≤ tg.toInt) : f i = own_num k1 tg i := by
  unfold own_num
  rw [if_pos h, hf i (by omega)]
theorem own_nat1 {x : Int32} (h0 : ¬ x < 0) {i : Nat} : i = x.toNatClampNeg ↔ (i : Int) = x.toInt := by
  have e := nat_of h0
  omega
theorem own_f1 {k1 tg : Int32} {f : Nat → Int64} (hk : 0 ≤ k1.toInt ∧ k1.toInt ≤ 3) (hg : 0 ≤ tg.toInt ∧ tg.toInt ≤ k1.toInt) (hf : ∀ i : Nat, (i : Int) ≤ k1.toInt → f i = Int64.ofInt i) (i : Nat) (h : (i : Int) ≤ tg.toInt + 1) :
    (if i = (tg + (1 : Int32)).toNatClampNeg then k1.toInt64 + (1 : Int64) else f i) = own_num k1 tg i := by
  have z : (0 : Int32).toInt = 0 := rfl
  have t0 : ¬ tg < 0 := by rw [own_lt32]; omega
  have e := own_a1 t0 (by omega)
  have t1 : ¬ (tg + (1 : Int32)) < 0 := by rw [own_lt32]; omega
  by_cases q : i = (tg + (1 : Int32)).toNatClampNeg
  · rw [if_pos q]
    rw [own_nat1 t1] at q
    unfold own_num
    rw [if_neg (by omega)]
    apply Int64.toInt_inj.mp
    have o1 : (1 : Int64).toInt = 1 := rfl
    rw [Jvm.Kit.i64_add] <;> simp only [Int32.toInt_toInt64, o1]
    · rw [Int64.toInt_ofInt_of_le] <;> omega
    · omega
    · omega
  · rw [if_neg q]
    rw [own_nat1 t1] at q
    exact own_f0 hg hf i (by omega)
theorem own_f2 {k1 tg : Int32} {f : Nat → Int64} (hk : 0 ≤ k1.toInt ∧ k1.toInt ≤ 3) (hg : 0 ≤ tg.toInt ∧ tg.toInt ≤ k1.toInt) (hf : ∀ i : Nat, (i : Int) ≤ k1.toInt → f i = Int64.ofInt i) (i : Nat) (h : (i : Int) ≤ tg.toInt + 2) :
    (if i = ((tg + (1 : Int32)) + (1 : Int32)).toNatClampNeg then (k1.toInt64 + (1 : Int64)) + (1 : Int64) else if i = (tg + (1 : Int32)).toNatClampNeg then k1.toInt64 + (1 : Int64) else f i) = own_num k1 tg i := by
  have z : (0 : Int32).toInt = 0 := rfl
  have t0 : ¬ tg < 0 := by rw [own_lt32]; omega
  have e := own_a1 t0 (by omega)
  have t1 : ¬ (tg + (1 : Int32)) < 0 := by rw [own_lt32]; omega
  have e2 := own_a1 t1 (by omega)
  have t2 : ¬ ((tg + (1 : Int32)) + (1 : Int32)) < 0 := by rw [own_lt32]; omega
  by_cases q : i = ((tg + (1 : Int32)) + (1 : Int32)).toNatClampNeg
  · rw [if_pos q]
    rw [own_nat1 t2] at q
    unfold own_num
    rw [if_neg (by omega)]
    apply Int64.toInt_inj.mp
    have o1 : (1 : Int64).toInt = 1 := rfl
    have a1 : (k1.toInt64 + (1 : Int64)).toInt = k1.toInt + 1 := by rw [Jvm.Kit.i64_add] <;> simp only [Int32.toInt_toInt64, o1] <;> omega
    rw [Jvm.Kit.i64_add] <;> simp only [a1, o1]
    · rw [Int64.toInt_ofInt_of_le] <;> omega
    · omega
    · omega
  · rw [if_neg q]
    rw [own_nat1 t2] at q
    exact own_f1 hk hg hf i (by omega)
theorem own_pd1 : parseMethodDescriptor "(Ljava/util/List;)V" = some ⟨[(.object "java/util/List")], none⟩ := by decide +kernel
theorem own_pd2 : parseMethodDescriptor "(I)V" = some ⟨[.int], none⟩ := by decide +kernel
theorem own_pd3 : parseMethodDescriptor "(IJ)Z" = some ⟨[.int, .long], some .boolean⟩ := by decide +kernel
theorem own_pn4 : plainName "com/example/propagule/propagule/TrailIsOpenPinLaw" = true := by first | (simp [plainName, overriddenIn]; done) | decide +kernel
theorem own_hf0 (i : Nat) (h : (i : Int) ≤ (0 : Int32).toInt) : (fun _ => 0) i = Int64.ofInt i := by
  have e : (0 : Int32).toInt = 0 := rfl
  have q : i = 0 := by omega
  rcases q with rfl <;> first | rfl | decide
theorem own_hf1 (i : Nat) (h : (i : Int) ≤ (1 : Int32).toInt) : (fun i => if i = ((0 : Int32) + (1 : Int32)).toNatClampNeg then (0 : Int64) + (1 : Int64) else (fun _ => 0) i) i = Int64.ofInt i := by
  have e : (1 : Int32).toInt = 1 := rfl
  have q : i = 0 ∨ i = 1 := by omega
  rcases q with rfl | rfl <;> first | rfl | decide
theorem own_hf2 (i : Nat) (h : (i : Int) ≤ (2 : Int32).toInt) : (fun i => if i = (((0 : Int32) + (1 : Int32)) + (1 : Int32)).toNatClampNeg then ((0 : Int64) + (1 : Int64)) + (1 : Int64) else (fun i => if i = ((0 : Int32) + (1 : Int32)).toNatClampNeg then (0 : Int64) + (1 : Int64) else (fun _ => 0) i) i) i = Int64.ofInt i := by
  have e : (2 : Int32).toInt = 2 := rfl
  have q : i = 0 ∨ i = 1 ∨ i = 2 := by omega
  rcases q with rfl | rfl | rfl <;> first | rfl | decide
theorem own_hf3 (i : Nat) (h : (i : Int) ≤ (3 : Int32).toInt) : (fun i => if i = ((((0 : Int32) + (1 : Int32)) + (1 : Int32)) + (1 : Int32)).toNatClampNeg then (((0 : Int64) + (1 : Int64)) + (1 : Int64)) + (1 : Int64) else (fun i => if i = (((0 : Int32) + (1 : Int32)) + (1 : Int32)).toNatClampNeg then ((0 : Int64) + (1 : Int64)) + (1 : Int64) else (fun i => if i = ((0 : Int32) + (1 : Int32)).toNatClampNeg then (0 : Int64) + (1 : Int64) else (fun _ => 0) i) i) i) i = Int64.ofInt i := by
  have e : (3 : Int32).toInt = 3 := rfl
  have q : i = 0 ∨ i = 1 ∨ i = 2 ∨ i = 3 := by omega
  rcases q with rfl | rfl | rfl | rfl <;> first | rfl | decide
set_option maxRecDepth 65536 in
set_option maxHeartbeats 8000000 in
theorem own_t140 {p : Program} {l : Launch} {e : Env} {s : State} {m : MethodId} {args : Array Value} {below : List Frame} {meth : Method} {c : Code} {T : State} {locs : List Loc} {cells slots : Nat} {Z : State} {a0 : Array Value} {h0 : Heap} {n0 : Nat} (X0 : Stand p l e room_1 s m args below meth c T locs cells slots) (hx : p.tables.exec = Jvm.exec) (hlk : meth.locks = false) (hby : c.code = code) (hml : c.maxLocals = 17) (hret : meth.sig.returnType = some .boolean) (hown : s.vm.findClass "com/example/propagule/propagule/TrailIsOpenPinLaw" = some m.cls) (hZ : Z.Warmed39 s.vm) (hw : ∀ d ∈ tables_1, d.before a0 Z = true) (e0 : T.heap = h0) (N0 : Fr n0 locs) (Z0 : n0 ≤ h0.size) (hcc : cells ≤ 32) (hss : slots ≤ 2176) (x0 : Int32) (x1 : Int32) (x2 : Int32) (x3 : Int64) (x5 : Int32) (x6 : Int32) (x7 : Int32) (x8 : Int32) (x9 : Addr) (x10 : Int32) (y0 : Int64) (wm cm wn : Addr) (D : Int32) (N : Int64) (f : Nat → Int64) (TR : own_Tr Z h0 n0 x9 wm cm wn D N f) (hDq : D = x8 + x7) (hf : ∀ i : Nat, (i : Int) ≤ x8.toInt + x7.toInt → f i = own_num x6 x8 i) (hk1 : 0 ≤ x6.toInt ∧ x6.toInt ≤ 3) (hk2 : 0 ≤ x7.toInt ∧ x7.toInt ≤ 2) (hg : 0 ≤ x8.toInt ∧ x8.toInt ≤ x6.toInt) (hd0 : ¬ x10 < (0 : Int32)) :
    own_Go p e below s T (mkF m 140 #[.val (.int x0), .val (.int x1), .val (.int x2), .val (.long x3), .second, .val (.int x5), .val (.int x6), .val (.int x7), .val (.int x8), .val (.ref x9), .val (.int x10), .unset, .unset, .unset, .unset, .unset, .unset] [(.long y0)]) (own_Q0 n0) 32 2176 := by
  have hg3 : 0 ≤ x8.toInt ∧ x8.toInt ≤ 3 := by omega
  have hD64 : D.toInt < (64 : Nat) := by rw [hDq, Jvm.Kit.i32_add (by omega) (by omega)]; omega
  refine own_st (g' := (mkF m 142 #[.val (.int x0), .val (.int x1), .val (.int x2), .val (.long x3), .second, .val (.int x5), .val (.int x6), .val (.int x7), .val (.int x8), .val (.ref x9), .val (.int x10), .val (.long y0), .second, .unset, .unset, .unset, .unset] [])) (fun tt_ kk_ => XS.lstore X0.here hx rfl (hb hby at_140) rfl (l' := #[.val (.int x0), .val (.int x1), .val (.int x2), .val (.long x3), .second, .val (.int x5), .val (.int x6), .val (.int x7), .val (.int x8), .val (.ref x9), .val (.int x10), .val (.long y0), .second, .unset, .unset, .unset, .unset]) rfl kk_) ?_
  refine own_st (g' := (mkF m 144 #[.val (.int x0), .val (.int x1), .val (.int x2), .val (.long x3), .second, .val (.int x5), .val (.int x6), .val (.int x7), .val (.int x8), .val (.ref x9), .val (.int x10), .val (.long y0), .second, .unset, .unset, .unset, .unset] [(.int x8)])) (fun tt_ kk_ => XS.iload X0.here hx rfl (hb hby at_142) rfl kk_) ?_
  refine own_st (g' := (mkF m 146 #[.val (.int x0), .val (.int x1), .val (.int x2), .val (.long x3), .second, .val (.int x5), .val (.int x6), .val (.int x7), .val (.int x8), .val (.ref x9), .val (.int x10), .val (.long y0), .second, .unset, .unset, .unset, .unset] [(.int x7), (.int x8)])) (fun tt_ kk_ => XS.iload X0.here hx rfl (hb hby at_144) rfl kk_) ?_
  refine own_st (g' := (mkF m 147 #[.val (.int x0), .val (.int x1), .val (.int x2), .val (.long x3), .second, .val (.int x5), .val (.int x6), .val (.int x7), .val (.int x8), .val (.ref x9), .val (.int x10), .val (.long y0), .second, .unset, .unset, .unset, .unset] [(.int (x8 + x7))])) (fun tt_ kk_ => XS.iadd X0.here hx rfl (hb hby at_146) rfl kk_) ?_
  refine own_st (g' := (mkF m 149 #[.val (.int x0), .val (.int x1), .val (.int x2), .val (.long x3), .second, .val (.int x5), .val (.int x6), .val (.int x7), .val (.int x8), .val (.ref x9), .val (.int x10), .val (.long y0), .second, .val (.int (x8 + x7)), .unset, .unset, .unset] [])) (fun tt_ kk_ => XS.istore X0.here hx rfl (hb hby at_147) rfl (l' := #[.val (.int x0), .val (.int x1), .val (.int x2), .val (.long x3), .second, .val (.int x5), .val (.int x6), .val (.int x7), .val (.int x8), .val (.ref x9), .val (.int x10), .val (.long y0), .second, .val (.int (x8 + x7)), .unset, .unset, .unset]) rfl kk_) ?_
  refine own_st (g' := (mkF m 151 #[.val (.int x0), .val (.int x1), .val (.int x2), .val (.long x3), .second, .val (.int x5), .val (.int x6), .val (.int x7), .val (.int x8), .val (.ref x9), .val (.int x10), .val (.long y0), .second, .val (.int (x8 + x7)), .unset, .unset, .unset] [(.int x10)])) (fun tt_ kk_ => XS.iload X0.here hx rfl (hb hby at_149) rfl kk_) ?_
  refine own_st (g' := (mkF m 153 #[.val (.int x0), .val (.int x1), .val (.int x2), .val (.long x3), .second, .val (.int x5), .val (.int x6), .val (.int x7), .val (.int x8), .val (.ref x9), .val (.int x10), .val (.long y0), .second, .val (.int (x8 + x7)), .unset, .unset, .unset] [(.int (x8 + x7)), (.int x10)])) (fun tt_ kk_ => XS.iload X0.here hx rfl (hb hby at_151) rfl kk_) ?_
  by_cases hc153 : (x8 + x7) < x10
  · skip
    refine own_st (g' := (mkF m 156 #[.val (.int x0), .val (.int x1), .val (.int x2), .val (.long x3), .second, .val (.int x5), .val (.int x6), .val (.int x7), .val (.int x8), .val (.ref x9), .val (.int x10), .val (.long y0), .second, .val (.int (x8 + x7)), .unset, .unset, .unset] [])) (fun tt_ kk_ => XS.icmpNo X0.here hx rfl (hb hby at_153) rfl (tlt hc153).2.2.2 kk_) ?_
    refine own_st (g' := (mkF m 157 #[.val (.int x0), .val (.int x1), .val (.int x2), .val (.long x3), .second, .val (.int x5), .val (.int x6), .val (.int x7), .val (.int x8), .val (.ref x9), .val (.int x10), .val (.long y0), .second, .val (.int (x8 + x7)), .unset, .unset, .unset] [(.int (0 : Int32))])) (fun tt_ kk_ => XS.iconst X0.here hx rfl (hb hby at_156) kk_) ?_
    refine own_st (g' := (mkF m 159 #[.val (.int x0), .val (.int x1), .val (.int x2), .val (.long x3), .second, .val (.int x5), .val (.int x6), .val (.int x7), .val (.int x8), .val (.ref x9), .val (.int x10), .val (.long y0), .second, .val (.int (x8 + x7)), .val (.int (0 : Int32)), .unset, .unset] [])) (fun tt_ kk_ => XS.istore X0.here hx rfl (hb hby at_157) rfl (l' := #[.val (.int x0), .val (.int x1), .val (.int x2), .val (.long x3), .second, .val (.int x5), .val (.int x6), .val (.int x7), .val (.int x8), .val (.ref x9), .val (.int x10), .val (.long y0), .second, .val (.int (x8 + x7)), .val (.int (0 : Int32)), .unset, .unset]) rfl kk_) ?_
    refine own_st (g' := (mkF m 202 #[.val (.int x0), .val (.int x1), .val (.int x2), .val (.long x3), .second, .val (.int x5), .val (.int x6), .val (.int x7), .val (.int x8), .val (.ref x9), .val (.int x10), .val (.long y0), .second, .val (.int (x8 + x7)), .val (.int (0 : Int32)), .unset, .unset] [])) (fun tt_ kk_ => XS.goto X0.here hx rfl (pc0 := 159) (pc' := 202) rfl (hb hby at_159) (by decide) (by decide) kk_) ?_
    refine own_st (g' := (mkF m 204 #[.val (.int x0), .val (.int x1), .val (.int x2), .val (.long x3), .second, .val (.int x5), .val (.int x6), .val (.int x7), .val (.int x8), .val (.ref x9), .val (.int x10), .val (.long y0), .second, .val (.int (x8 + x7)), .val (.int (0 : Int32)), .unset, .unset] [(.ref x9)])) (fun tt_ kk_ => XS.aload X0.here hx rfl (hb hby at_202) rfl rfl kk_) ?_
    refine own_st (g' := (mkF m 206 #[.val (.int x0), .val (.int x1), .val (.int x2), .val (.long x3), .second, .val (.int x5), .val (.int x6), .val (.int x7), .val (.int x8), .val (.ref x9), .val (.int x10), .val (.long y0), .second, .val (.int (x8 + x7)), .val (.int (0 : Int32)), .unset, .unset] [(.int x10), (.ref x9)])) (fun tt_ kk_ => XS.iload X0.here hx rfl (hb hby at_204) rfl kk_) ?_
    refine own_st (g' := (mkF m 208 #[.val (.int x0), .val (.int x1), .val (.int x2), .val (.long x3), .second, .val (.int x5), .val (.int x6), .val (.int x7), .val (.int x8), .val (.ref x9), .val (.int x10), .val (.long y0), .second, .val (.int (x8 + x7)), .val (.int (0 : Int32)), .unset, .unset] [(.long y0), (.int x10), (.ref x9)])) (fun tt_ kk_ => XS.lload X0.here hx rfl (hb hby at_206) rfl kk_) ?_
    obtain ⟨cq260, kq260, q260a, q260b, q260c⟩ := isOf hZ e0 TR.1
    obtain ⟨_, _, ⟨T260, L260, k260, n260⟩, -, X260, ⟨Lc260, hQ260, l260, y260, z260⟩, st260⟩ := X0.virtualBack hx (y := (⟨"com/example/propagule/propagule/Trail", "isOpen", "(IJ)Z"⟩ : MethodName)) (z := (⟨"com/example/propagule/propagule/Trail", "isOpen", "(IJ)Z"⟩ : MethodName)) hown (mvT hZ (hw _ (List.mem_of_getElem? (i := 70) rfl))) (mvT hZ (hw _ (List.mem_of_getElem? (i := 71) rfl))) (notFace_of_selects (args := #[]) (mvT hZ (hw _ (List.mem_of_getElem? (i := 73) rfl)))) (mvT hZ (hw _ (List.mem_of_getElem? (i := 73) rfl))) (mvT hZ (hw _ (List.mem_of_getElem? (i := 72) rfl))) (by decide) (backOf (W := 0) (own_rmiso l Z a0 hw [] x9 wm cm wn D N f x10 y0 h0 n0 TR hd0 hD64) hZ (hw _ (List.mem_of_getElem? (i := 74) rfl)) (hw _ (List.mem_of_getElem? (i := 3) rfl)) (by decide) (by decide)) q260a q260c (g := (mkF m 208 #[.val (.int x0), .val (.int x1), .val (.int x2), .val (.long x3), .second, .val (.int x5), .val (.int x6), .val (.int x7), .val (.int x8), .val (.ref x9), .val (.int x10), .val (.long y0), .second, .val (.int (x8 + x7)), .val (.int (0 : Int32)), .unset, .unset] [(.long y0), (.int x10), (.ref x9)])) rfl (by rw [hml]; rfl) (Steps.refl _) (argsL := [(.int x10), (.long y0)]) (rest := []) (lenOf own_pd3 rfl) rfl (by show 2 * 0 + _ ≤ _; exact Nat.le_of_eq rfl) (hb hby at_208) (fun _ _ => ⟨rfl, e0, (show cells + 0 ≤ 32 by omega), (show slots + 0 ≤ 2176 by omega)⟩)
    dsimp only [Pt.U, Pt.locs, Pt.cells, Pt.slots] at X260 l260 y260 z260 st260 hQ260
    rw [l260, y260, z260] at X260
    obtain ⟨rfl, N260q, e260⟩ := hQ260
    have N260 := Fr.app N0 N260q
    refine own_st (g' := (mkF m 211 #[.val (.int x0), .val (.int x1), .val (.int x2), .val (.long x3), .second, .val (.int x5), .val (.int x6), .val (.int x7), .val (.int x8), .val (.ref x9), .val (.int x10), .val (.long y0), .second, .val (.int (x8 + x7)), .val (.int (0 : Int32)), .unset, .unset] [(.int (own_io D x10 y0 (f x10.toNatClampNeg)))])) (fun t k => st260.trans k) ?_
    refine own_st (g' := (mkF m 213 #[.val (.int x0), .val (.int x1), .val (.int x2), .val (.long x3), .second, .val (.int x5), .val (.int x6), .val (.int x7), .val (.int x8), .val (.ref x9), .val (.int x10), .val (.long y0), .second, .val (.int (x8 + x7)), .val (.int (0 : Int32)), .unset, .unset] [(.int (0 : Int32)), (.int (own_io D x10 y0 (f x10.toNatClampNeg)))])) (fun tt_ kk_ => XS.iload X260.here hx rfl (hb hby at_211) rfl kk_) ?_
    refine own_st (g' := (mkF m 216 #[.val (.int x0), .val (.int x1), .val (.int x2), .val (.long x3), .second, .val (.int x5), .val (.int x6), .val (.int x7), .val (.int x8), .val (.ref x9), .val (.int x10), .val (.long y0), .second, .val (.int (x8 + x7)), .val (.int (0 : Int32)), .unset, .unset] [])) (fun tt_ kk_ => XS.icmpNo X260.here hx rfl (hb hby at_213) rfl (teq (own_l0 (by rw [hDq]; exact hc153))).2 kk_) ?_
    refine own_st (g' := (mkF m 217 #[.val (.int x0), .val (.int x1), .val (.int x2), .val (.long x3), .second, .val (.int x5), .val (.int x6), .val (.int x7), .val (.int x8), .val (.ref x9), .val (.int x10), .val (.long y0), .second, .val (.int (x8 + x7)), .val (.int (0 : Int32)), .unset, .unset] [(.int (1 : Int32))])) (fun tt_ kk_ => XS.iconst X260.here hx rfl (hb hby at_216) kk_) ?_
    refine own_st (g' := (mkF m 221 #[.val (.int x0), .val (.int x1), .val (.int x2), .val (.long x3), .second, .val (.int x5), .val (.int x6), .val (.int x7), .val (.int x8), .val (.ref x9), .val (.int x10), .val (.long y0), .second, .val (.int (x8 + x7)), .val (.int (0 : Int32)), .unset, .unset] [(.int (1 : Int32))])) (fun tt_ kk_ => XS.goto X260.here hx rfl (pc0 := 217) (pc' := 221) rfl (hb hby at_217) (by decide) (by decide) kk_) ?_
    exact own_retN X260 hx hlk (t := .boolean) (Or.inl rfl) hret (hb hby at_221) (by omega) (by omega) ⟨rfl, N260⟩
  refine own_st (g' := (mkF m 162 #[.val (.int x0), .val (.int x1), .val (.int x2), .val (.long x3), .second, .val (.int x5), .val (.int x6), .val (.int x7), .val (.int x8), .val (.ref x9), .val (.int x10), .val (.long y0), .second, .val (.int (x8 + x7)), .unset, .unset, .unset] [])) (fun tt_ kk_ => XS.icmpYes X0.here hx rfl (pc0 := 153) (pc' := 162) rfl (hb hby at_153) rfl (flt hc153).2.2.2 (by decide) (by decide) kk_) ?_
  refine own_st (g' := (mkF m 164 #[.val (.int x0), .val (.int x1), .val (.int x2), .val (.long x3), .second, .val (.int x5), .val (.int x6), .val (.int x7), .val (.int x8), .val (.ref x9), .val (.int x10), .val (.long y0), .second, .val (.int (x8 + x7)), .unset, .unset, .unset] [(.int x10)])) (fun tt_ kk_ => XS.iload X0.here hx rfl (hb hby at_162) rfl kk_) ?_
  refine own_st (g' := (mkF m 166 #[.val (.int x0), .val (.int x1), .val (.int x2), .val (.long x3), .second, .val (.int x5), .val (.int x6), .val (.int x7), .val (.int x8), .val (.ref x9), .val (.int x10), .val (.long y0), .second, .val (.int (x8 + x7)), .unset, .unset, .unset] [(.int x8), (.int x10)])) (fun tt_ kk_ => XS.iload X0.here hx rfl (hb hby at_164) rfl kk_) ?_
  by_cases hc166 : x8 < x10
  · skip
    refine own_st (g' := (mkF m 175 #[.val (.int x0), .val (.int x1), .val (.int x2), .val (.long x3), .second, .val (.int x5), .val (.int x6), .val (.int x7), .val (.int x8), .val (.ref x9), .val (.int x10), .val (.long y0), .second, .val (.int (x8 + x7)), .unset, .unset, .unset] [])) (fun tt_ kk_ => XS.icmpYes X0.here hx rfl (pc0 := 166) (pc' := 175) rfl (hb hby at_166) rfl (tlt hc166).2.2.1 (by decide) (by decide) kk_) ?_
    refine own_st (g' := (mkF m 177 #[.val (.int x0), .val (.int x1), .val (.int x2), .val (.long x3), .second, .val (.int x5), .val (.int x6), .val (.int x7), .val (.int x8), .val (.ref x9), .val (.int x10), .val (.long y0), .second, .val (.int (x8 + x7)), .unset, .unset, .unset] [(.int x6)])) (fun tt_ kk_ => XS.iload X0.here hx rfl (hb hby at_175) rfl kk_) ?_
    refine own_st (g' := (mkF m 178 #[.val (.int x0), .val (.int x1), .val (.int x2), .val (.long x3), .second, .val (.int x5), .val (.int x6), .val (.int x7), .val (.int x8), .val (.ref x9), .val (.int x10), .val (.long y0), .second, .val (.int (x8 + x7)), .unset, .unset, .unset] [(.long (x6.toInt64))])) (fun tt_ kk_ => XS.i2l X0.here hx rfl (hb hby at_177) rfl kk_) ?_
    refine own_st (g' := (mkF m 180 #[.val (.int x0), .val (.int x1), .val (.int x2), .val (.long x3), .second, .val (.int x5), .val (.int x6), .val (.int x7), .val (.int x8), .val (.ref x9), .val (.int x10), .val (.long y0), .second, .val (.int (x8 + x7)), .unset, .unset, .unset] [(.int x10), (.long (x6.toInt64))])) (fun tt_ kk_ => XS.iload X0.here hx rfl (hb hby at_178) rfl kk_) ?_
    refine own_st (g' := (mkF m 182 #[.val (.int x0), .val (.int x1), .val (.int x2), .val (.long x3), .second, .val (.int x5), .val (.int x6), .val (.int x7), .val (.int x8), .val (.ref x9), .val (.int x10), .val (.long y0), .second, .val (.int (x8 + x7)), .unset, .unset, .unset] [(.int x8), (.int x10), (.long (x6.toInt64))])) (fun tt_ kk_ => XS.iload X0.here hx rfl (hb hby at_180) rfl kk_) ?_
    refine own_st (g' := (mkF m 183 #[.val (.int x0), .val (.int x1), .val (.int x2), .val (.long x3), .second, .val (.int x5), .val (.int x6), .val (.int x7), .val (.int x8), .val (.ref x9), .val (.int x10), .val (.long y0), .second, .val (.int (x8 + x7)), .unset, .unset, .unset] [(.int (x10 - x8)), (.long (x6.toInt64))])) (fun tt_ kk_ => XS.isub X0.here hx rfl (hb hby at_182) rfl kk_) ?_
    refine own_st (g' := (mkF m 184 #[.val (.int x0), .val (.int x1), .val (.int x2), .val (.long x3), .second, .val (.int x5), .val (.int x6), .val (.int x7), .val (.int x8), .val (.ref x9), .val (.int x10), .val (.long y0), .second, .val (.int (x8 + x7)), .unset, .unset, .unset] [(.long ((x10 - x8).toInt64)), (.long (x6.toInt64))])) (fun tt_ kk_ => XS.i2l X0.here hx rfl (hb hby at_183) rfl kk_) ?_
    refine own_st (g' := (mkF m 185 #[.val (.int x0), .val (.int x1), .val (.int x2), .val (.long x3), .second, .val (.int x5), .val (.int x6), .val (.int x7), .val (.int x8), .val (.ref x9), .val (.int x10), .val (.long y0), .second, .val (.int (x8 + x7)), .unset, .unset, .unset] [(.long ((x6.toInt64) + ((x10 - x8).toInt64)))])) (fun tt_ kk_ => XS.ladd X0.here hx rfl (hb hby at_184) rfl kk_) ?_
    refine own_st (g' := (mkF m 187 #[.val (.int x0), .val (.int x1), .val (.int x2), .val (.long x3), .second, .val (.int x5), .val (.int x6), .val (.int x7), .val (.int x8), .val (.ref x9), .val (.int x10), .val (.long y0), .second, .val (.int (x8 + x7)), .unset, .val (.long ((x6.toInt64) + ((x10 - x8).toInt64))), .second] [])) (fun tt_ kk_ => XS.lstore X0.here hx rfl (hb hby at_185) rfl (l' := #[.val (.int x0), .val (.int x1), .val (.int x2), .val (.long x3), .second, .val (.int x5), .val (.int x6), .val (.int x7), .val (.int x8), .val (.ref x9), .val (.int x10), .val (.long y0), .second, .val (.int (x8 + x7)), .unset, .val (.long ((x6.toInt64) + ((x10 - x8).toInt64))), .second]) rfl kk_) ?_
    refine own_st (g' := (mkF m 189 #[.val (.int x0), .val (.int x1), .val (.int x2), .val (.long x3), .second, .val (.int x5), .val (.int x6), .val (.int x7), .val (.int x8), .val (.ref x9), .val (.int x10), .val (.long y0), .second, .val (.int (x8 + x7)), .unset, .val (.long ((x6.toInt64) + ((x10 - x8).toInt64))), .second] [(.long y0)])) (fun tt_ kk_ => XS.lload X0.here hx rfl (hb hby at_187) rfl kk_) ?_
    refine own_st (g' := (mkF m 191 #[.val (.int x0), .val (.int x1), .val (.int x2), .val (.long x3), .second, .val (.int x5), .val (.int x6), .val (.int x7), .val (.int x8), .val (.ref x9), .val (.int x10), .val (.long y0), .second, .val (.int (x8 + x7)), .unset, .val (.long ((x6.toInt64) + ((x10 - x8).toInt64))), .second] [(.long ((x6.toInt64) + ((x10 - x8).toInt64))), (.long y0)])) (fun tt_ kk_ => XS.lload X0.here hx rfl (hb hby at_189) rfl kk_) ?_
    refine own_st (g' := (mkF m 192 #[.val (.int x0), .val (.int x1), .val (.int x2), .val (.long x3), .second, .val (.int x5), .val (.int x6), .val (.int x7), .val (.int x8), .val (.ref x9), .val (.int x10), .val (.long y0), .second, .val (.int (x8 + x7)), .unset, .val (.long ((x6.toInt64) + ((x10 - x8).toInt64))), .second] [(.int (lcmpW y0 ((x6.toInt64) + ((x10 - x8).toInt64))))])) (fun tt_ kk_ => XS.lcmp X0.here hx rfl (hb hby at_191) rfl kk_) ?_
    by_cases hc192 : (lcmpW y0 ((x6.toInt64) + ((x10 - x8).toInt64))) = (0 : Int32)
    · skip
      refine own_st (g' := (mkF m 195 #[.val (.int x0), .val (.int x1), .val (.int x2), .val (.long x3), .second, .val (.int x5), .val (.int x6), .val (.int x7), .val (.int x8), .val (.ref x9), .val (.int x10), .val (.long y0), .second, .val (.int (x8 + x7)), .unset, .val (.long ((x6.toInt64) + ((x10 - x8).toInt64))), .second] [])) (fun tt_ kk_ => XS.ifNo X0.here hx rfl (hb hby at_192) rfl ((if0 _ _).trans (teq hc192).2) kk_) ?_
      refine own_st (g' := (mkF m 196 #[.val (.int x0), .val (.int x1), .val (.int x2), .val (.long x3), .second, .val (.int x5), .val (.int x6), .val (.int x7), .val (.int x8), .val (.ref x9), .val (.int x10), .val (.long y0), .second, .val (.int (x8 + x7)), .unset, .val (.long ((x6.toInt64) + ((x10 - x8).toInt64))), .second] [(.int (1 : Int32))])) (fun tt_ kk_ => XS.iconst X0.here hx rfl (hb hby at_195) kk_) ?_
      refine own_st (g' := (mkF m 200 #[.val (.int x0), .val (.int x1), .val (.int x2), .val (.long x3), .second, .val (.int x5), .val (.int x6), .val (.int x7), .val (.int x8), .val (.ref x9), .val (.int x10), .val (.long y0), .second, .val (.int (x8 + x7)), .unset, .val (.long ((x6.toInt64) + ((x10 - x8).toInt64))), .second] [(.int (1 : Int32))])) (fun tt_ kk_ => XS.goto X0.here hx rfl (pc0 := 196) (pc' := 200) rfl (hb hby at_196) (by decide) (by decide) kk_) ?_
      refine own_st (g' := (mkF m 202 #[.val (.int x0), .val (.int x1), .val (.int x2), .val (.long x3), .second, .val (.int x5), .val (.int x6), .val (.int x7), .val (.int x8), .val (.ref x9), .val (.int x10), .val (.long y0), .second, .val (.int (x8 + x7)), .val (.int (1 : Int32)), .val (.long ((x6.toInt64) + ((x10 - x8).toInt64))), .second] [])) (fun tt_ kk_ => XS.istore X0.here hx rfl (hb hby at_200) rfl (l' := #[.val (.int x0), .val (.int x1), .val (.int x2), .val (.long x3), .second, .val (.int x5), .val (.int x6), .val (.int x7), .val (.int x8), .val (.ref x9), .val (.int x10), .val (.long y0), .second, .val (.int (x8 + x7)), .val (.int (1 : Int32)), .val (.long ((x6.toInt64) + ((x10 - x8).toInt64))), .second]) rfl kk_) ?_
      refine own_st (g' := (mkF m 204 #[.val (.int x0), .val (.int x1), .val (.int x2), .val (.long x3), .second, .val (.int x5), .val (.int x6), .val (.int x7), .val (.int x8), .val (.ref x9), .val (.int x10), .val (.long y0), .second, .val (.int (x8 + x7)), .val (.int (1 : Int32)), .val (.long ((x6.toInt64) + ((x10 - x8).toInt64))), .second] [(.ref x9)])) (fun tt_ kk_ => XS.aload X0.here hx rfl (hb hby at_202) rfl rfl kk_) ?_
      refine own_st (g' := (mkF m 206 #[.val (.int x0), .val (.int x1), .val (.int x2), .val (.long x3), .second, .val (.int x5), .val (.int x6), .val (.int x7), .val (.int x8), .val (.ref x9), .val (.int x10), .val (.long y0), .second, .val (.int (x8 + x7)), .val (.int (1 : Int32)), .val (.long ((x6.toInt64) + ((x10 - x8).toInt64))), .second] [(.int x10), (.ref x9)])) (fun tt_ kk_ => XS.iload X0.here hx rfl (hb hby at_204) rfl kk_) ?_
      refine own_st (g' := (mkF m 208 #[.val (.int x0), .val (.int x1), .val (.int x2), .val (.long x3), .second, .val (.int x5), .val (.int x6), .val (.int x7), .val (.int x8), .val (.ref x9), .val (.int x10), .val (.long y0), .second, .val (.int (x8 + x7)), .val (.int (1 : Int32)), .val (.long ((x6.toInt64) + ((x10 - x8).toInt64))), .second] [(.long y0), (.int x10), (.ref x9)])) (fun tt_ kk_ => XS.lload X0.here hx rfl (hb hby at_206) rfl kk_) ?_
      obtain ⟨cq261, kq261, q261a, q261b, q261c⟩ := isOf hZ e0 TR.1
      obtain ⟨_, _, ⟨T261, L261, k261, n261⟩, -, X261, ⟨Lc261, hQ261, l261, y261, z261⟩, st261⟩ := X0.virtualBack hx (y := (⟨"com/example/propagule/propagule/Trail", "isOpen", "(IJ)Z"⟩ : MethodName)) (z := (⟨"com/example/propagule/propagule/Trail", "isOpen", "(IJ)Z"⟩ : MethodName)) hown (mvT hZ (hw _ (List.mem_of_getElem? (i := 70) rfl))) (mvT hZ (hw _ (List.mem_of_getElem? (i := 71) rfl))) (notFace_of_selects (args := #[]) (mvT hZ (hw _ (List.mem_of_getElem? (i := 73) rfl)))) (mvT hZ (hw _ (List.mem_of_getElem? (i := 73) rfl))) (mvT hZ (hw _ (List.mem_of_getElem? (i := 72) rfl))) (by decide) (backOf (W := 0) (own_rmiso l Z a0 hw [] x9 wm cm wn D N f x10 y0 h0 n0 TR hd0 hD64) hZ (hw _ (List.mem_of_getElem? (i := 74) rfl)) (hw _ (List.mem_of_getElem? (i := 3) rfl)) (by decide) (by decide)) q261a q261c (g := (mkF m 208 #[.val (.int x0), .val (.int x1), .val (.int x2), .val (.long x3), .second, .val (.int x5), .val (.int x6), .val (.int x7), .val (.int x8), .val (.ref x9), .val (.int x10), .val (.long y0), .second, .val (.int (x8 + x7)), .val (.int (1 : Int32)), .val (.long ((x6.toInt64) + ((x10 - x8).toInt64))), .second] [(.long y0), (.int x10), (.ref x9)])) rfl (by rw [hml]; rfl) (Steps.refl _) (argsL := [(.int x10), (.long y0)]) (rest := []) (lenOf own_pd3 rfl) rfl (by show 2 * 0 + _ ≤ _; exact Nat.le_of_eq rfl) (hb hby at_208) (fun _ _ => ⟨rfl, e0, (show cells + 0 ≤ 32 by omega), (show slots + 0 ≤ 2176 by omega)⟩)
      dsimp only [Pt.U, Pt.locs, Pt.cells, Pt.slots] at X261 l261 y261 z261 st261 hQ261
      rw [l261, y261, z261] at X261
      obtain ⟨rfl, N261q, e261⟩ := hQ261
      have N261 := Fr.app N0 N261q
      refine own_st (g' := (mkF m 211 #[.val (.int x0), .val (.int x1), .val (.int x2), .val (.long x3), .second, .val (.int x5), .val (.int x6), .val (.int x7), .val (.int x8), .val (.ref x9), .val (.int x10), .val (.long y0), .second, .val (.int (x8 + x7)), .val (.int (1 : Int32)), .val (.long ((x6.toInt64) + ((x10 - x8).toInt64))), .second] [(.int (own_io D x10 y0 (f x10.toNatClampNeg)))])) (fun t k => st261.trans k) ?_
      refine own_st (g' := (mkF m 213 #[.val (.int x0), .val (.int x1), .val (.int x2), .val (.long x3), .second, .val (.int x5), .val (.int x6), .val (.int x7), .val (.int x8), .val (.ref x9), .val (.int x10), .val (.long y0), .second, .val (.int (x8 + x7)), .val (.int (1 : Int32)), .val (.long ((x6.toInt64) + ((x10 - x8).toInt64))), .second] [(.int (1 : Int32)), (.int (own_io D x10 y0 (f x10.toNatClampNeg)))])) (fun tt_ kk_ => XS.iload X261.here hx rfl (hb hby at_211) rfl kk_) ?_
      refine own_st (g' := (mkF m 216 #[.val (.int x0), .val (.int x1), .val (.int x2), .val (.long x3), .second, .val (.int x5), .val (.int x6), .val (.int x7), .val (.int x8), .val (.ref x9), .val (.int x10), .val (.long y0), .second, .val (.int (x8 + x7)), .val (.int (1 : Int32)), .val (.long ((x6.toInt64) + ((x10 - x8).toInt64))), .second] [])) (fun tt_ kk_ => XS.icmpNo X261.here hx rfl (hb hby at_213) rfl (teq (own_l1 (by rw [hDq]; exact hc153) ((hf _ (own_bd hk2 hg3 hd0 hc153)).trans (own_num_gt hd0 hk1 hg hc166)) hc192)).2 kk_) ?_
      refine own_st (g' := (mkF m 217 #[.val (.int x0), .val (.int x1), .val (.int x2), .val (.long x3), .second, .val (.int x5), .val (.int x6), .val (.int x7), .val (.int x8), .val (.ref x9), .val (.int x10), .val (.long y0), .second, .val (.int (x8 + x7)), .val (.int (1 : Int32)), .val (.long ((x6.toInt64) + ((x10 - x8).toInt64))), .second] [(.int (1 : Int32))])) (fun tt_ kk_ => XS.iconst X261.here hx rfl (hb hby at_216) kk_) ?_
      refine own_st (g' := (mkF m 221 #[.val (.int x0), .val (.int x1), .val (.int x2), .val (.long x3), .second, .val (.int x5), .val (.int x6), .val (.int x7), .val (.int x8), .val (.ref x9), .val (.int x10), .val (.long y0), .second, .val (.int (x8 + x7)), .val (.int (1 : Int32)), .val (.long ((x6.toInt64) + ((x10 - x8).toInt64))), .second] [(.int (1 : Int32))])) (fun tt_ kk_ => XS.goto X261.here hx rfl (pc0 := 217) (pc' := 221) rfl (hb hby at_217) (by decide) (by decide) kk_) ?_
      exact own_retN X261 hx hlk (t := .boolean) (Or.inl rfl) hret (hb hby at_221) (by omega) (by omega) ⟨rfl, N261⟩
    refine own_st (g' := (mkF m 199 #[.val (.int x0), .val (.int x1), .val (.int x2), .val (.long x3), .second, .val (.int x5), .val (.int x6), .val (.int x7), .val (.int x8), .val (.ref x9), .val (.int x10), .val (.long y0), .second, .val (.int (x8 + x7)), .unset, .val (.long ((x6.toInt64) + ((x10 - x8).toInt64))), .second] [])) (fun tt_ kk_ => XS.ifYes X0.here hx rfl (pc0 := 192) (pc' := 199) rfl (hb hby at_192) rfl ((if0 _ _).trans (feq hc192).2) (by decide) (by decide) kk_) ?_
    refine own_st (g' := (mkF m 200 #[.val (.int x0), .val (.int x1), .val (.int x2), .val (.long x3), .second, .val (.int x5), .val (.int x6), .val (.int x7), .val (.int x8), .val (.ref x9), .val (.int x10), .val (.long y0), .second, .val (.int (x8 + x7)), .unset, .val (.long ((x6.toInt64) + ((x10 - x8).toInt64))), .second] [(.int (0 : Int32))])) (fun tt_ kk_ => XS.iconst X0.here hx rfl (hb hby at_199) kk_) ?_
    refine own_st (g' := (mkF m 202 #[.val (.int x0), .val (.int x1), .val (.int x2), .val (.long x3), .second, .val (.int x5), .val (.int x6), .val (.int x7), .val (.int x8), .val (.ref x9), .val (.int x10), .val (.long y0), .second, .val (.int (x8 + x7)), .val (.int (0 : Int32)), .val (.long ((x6.toInt64) + ((x10 - x8).toInt64))), .second] [])) (fun tt_ kk_ => XS.istore X0.here hx rfl (hb hby at_200) rfl (l' := #[.val (.int x0), .val (.int x1), .val (.int x2), .val (.long x3), .second, .val (.int x5), .val (.int x6), .val (.int x7), .val (.int x8), .val (.ref x9), .val (.int x10), .val (.long y0), .second, .val (.int (x8 + x7)), .val (.int (0 : Int32)), .val (.long ((x6.toInt64) + ((x10 - x8).toInt64))), .second]) rfl kk_) ?_
    refine own_st (g' := (mkF m 204 #[.val (.int x0), .val (.int x1), .val (.int x2), .val (.long x3), .second, .val (.int x5), .val (.int x6), .val (.int x7), .val (.int x8), .val (.ref x9), .val (.int x10), .val (.long y0), .second, .val (.int (x8 + x7)), .val (.int (0 : Int32)), .val (.long ((x6.toInt64) + ((x10 - x8).toInt64))), .second] [(.ref x9)])) (fun tt_ kk_ => XS.aload X0.here hx rfl (hb hby at_202) rfl rfl kk_) ?_
    refine own_st (g' := (mkF m 206 #[.val (.int x0), .val (.int x1), .val (.int x2), .val (.long x3), .second, .val (.int x5), .val (.int x6), .val (.int x7), .val (.int x8), .val (.ref x9), .val (.int x10), .val (.long y0), .second, .val (.int (x8 + x7)), .val (.int (0 : Int32)), .val (.long ((x6.toInt64) + ((x10 - x8).toInt64))), .second] [(.int x10), (.ref x9)])) (fun tt_ kk_ => XS.iload X0.here hx rfl (hb hby at_204) rfl kk_) ?_
    refine own_st (g' := (mkF m 208 #[.val (.int x0), .val (.int x1), .val (.int x2), .val (.long x3), .second, .val (.int x5), .val (.int x6), .val (.int x7), .val (.int x8), .val (.ref x9), .val (.int x10), .val (.long y0), .second, .val (.int (x8 + x7)), .val (.int (0 : Int32)), .val (.long ((x6.toInt64) + ((x10 - x8).toInt64))), .second] [(.long y0), (.int x10), (.ref x9)])) (fun tt_ kk_ => XS.lload X0.here hx rfl (hb hby at_206) rfl kk_) ?_
    obtain ⟨cq262, kq262, q262a, q262b, q262c⟩ := isOf hZ e0 TR.1
    obtain ⟨_, _, ⟨T262, L262, k262, n262⟩, -, X262, ⟨Lc262, hQ262, l262, y262, z262⟩, st262⟩ := X0.virtualBack hx (y := (⟨"com/example/propagule/propagule/Trail", "isOpen", "(IJ)Z"⟩ : MethodName)) (z := (⟨"com/example/propagule/propagule/Trail", "isOpen", "(IJ)Z"⟩ : MethodName)) hown (mvT hZ (hw _ (List.mem_of_getElem? (i := 70) rfl))) (mvT hZ (hw _ (List.mem_of_getElem? (i := 71) rfl))) (notFace_of_selects (args := #[]) (mvT hZ (hw _ (List.mem_of_getElem? (i := 73) rfl)))) (mvT hZ (hw _ (List.mem_of_getElem? (i := 73) rfl))) (mvT hZ (hw _ (List.mem_of_getElem? (i := 72) rfl))) (by decide) (backOf (W := 0) (own_rmiso l Z a0 hw [] x9 wm cm wn D N f x10 y0 h0 n0 TR hd0 hD64) hZ (hw _ (List.mem_of_getElem? (i := 74) rfl)) (hw _ (List.mem_of_getElem? (i := 3) rfl)) (by decide) (by decide)) q262a q262c (g := (mkF m 208 #[.val (.int x0), .val (.int x1), .val (.int x2), .val (.long x3), .second, .val (.int x5), .val (.int x6), .val (.int x7), .val (.int x8), .val (.ref x9), .val (.int x10), .val (.long y0), .second, .val (.int (x8 + x7)), .val (.int (0 : Int32)), .val (.long ((x6.toInt64) + ((x10 - x8).toInt64))), .second] [(.long y0), (.int x10), (.ref x9)])) rfl (by rw [hml]; rfl) (Steps.refl _) (argsL := [(.int x10), (.long y0)]) (rest := []) (lenOf own_pd3 rfl) rfl (by show 2 * 0 + _ ≤ _; exact Nat.le_of_eq rfl) (hb hby at_208) (fun _ _ => ⟨rfl, e0, (show cells + 0 ≤ 32 by omega), (show slots + 0 ≤ 2176 by omega)⟩)
    dsimp only [Pt.U, Pt.locs, Pt.cells, Pt.slots] at X262 l262 y262 z262 st262 hQ262
    rw [l262, y262, z262] at X262
    obtain ⟨rfl, N262q, e262⟩ := hQ262
    have N262 := Fr.app N0 N262q
    refine own_st (g' := (mkF m 211 #[.val (.int x0), .val (.int x1), .val (.int x2), .val (.long x3), .second, .val (.int x5), .val (.int x6), .val (.int x7), .val (.int x8), .val (.ref x9), .val (.int x10), .val (.long y0), .second, .val (.int (x8 + x7)), .val (.int (0 : Int32)), .val (.long ((x6.toInt64) + ((x10 - x8).toInt64))), .second] [(.int (own_io D x10 y0 (f x10.toNatClampNeg)))])) (fun t k => st262.trans k) ?_
    refine own_st (g' := (mkF m 213 #[.val (.int x0), .val (.int x1), .val (.int x2), .val (.long x3), .second, .val (.int x5), .val (.int x6), .val (.int x7), .val (.int x8), .val (.ref x9), .val (.int x10), .val (.long y0), .second, .val (.int (x8 + x7)), .val (.int (0 : Int32)), .val (.long ((x6.toInt64) + ((x10 - x8).toInt64))), .second] [(.int (0 : Int32)), (.int (own_io D x10 y0 (f x10.toNatClampNeg)))])) (fun tt_ kk_ => XS.iload X262.here hx rfl (hb hby at_211) rfl kk_) ?_
    refine own_st (g' := (mkF m 216 #[.val (.int x0), .val (.int x1), .val (.int x2), .val (.long x3), .second, .val (.int x5), .val (.int x6), .val (.int x7), .val (.int x8), .val (.ref x9), .val (.int x10), .val (.long y0), .second, .val (.int (x8 + x7)), .val (.int (0 : Int32)), .val (.long ((x6.toInt64) + ((x10 - x8).toInt64))), .second] [])) (fun tt_ kk_ => XS.icmpNo X262.here hx rfl (hb hby at_213) rfl (teq (own_l2 (by rw [hDq]; exact hc153) ((hf _ (own_bd hk2 hg3 hd0 hc153)).trans (own_num_gt hd0 hk1 hg hc166)) hc192)).2 kk_) ?_
    refine own_st (g' := (mkF m 217 #[.val (.int x0), .val (.int x1), .val (.int x2), .val (.long x3), .second, .val (.int x5), .val (.int x6), .val (.int x7), .val (.int x8), .val (.ref x9), .val (.int x10), .val (.long y0), .second, .val (.int (x8 + x7)), .val (.int (0 : Int32)), .val (.long ((x6.toInt64) + ((x10 - x8).toInt64))), .second] [(.int (1 : Int32))])) (fun tt_ kk_ => XS.iconst X262.here hx rfl (hb hby at_216) kk_) ?_
    refine own_st (g' := (mkF m 221 #[.val (.int x0), .val (.int x1), .val (.int x2), .val (.long x3), .second, .val (.int x5), .val (.int x6), .val (.int x7), .val (.int x8), .val (.ref x9), .val (.int x10), .val (.long y0), .second, .val (.int (x8 + x7)), .val (.int (0 : Int32)), .val (.long ((x6.toInt64) + ((x10 - x8).toInt64))), .second] [(.int (1 : Int32))])) (fun tt_ kk_ => XS.goto X262.here hx rfl (pc0 := 217) (pc' := 221) rfl (hb hby at_217) (by decide) (by decide) kk_) ?_
    exact own_retN X262 hx hlk (t := .boolean) (Or.inl rfl) hret (hb hby at_221) (by omega) (by omega) ⟨rfl, N262⟩
  refine own_st (g' := (mkF m 169 #[.val (.int x0), .val (.int x1), .val (.int x2), .val (.long x3), .second, .val (.int x5), .val (.int x6), .val (.int x7), .val (.int x8), .val (.ref x9), .val (.int x10), .val (.long y0), .second, .val (.int (x8 + x7)), .unset, .unset, .unset] [])) (fun tt_ kk_ => XS.icmpNo X0.here hx rfl (hb hby at_166) rfl (flt hc166).2.2.1 kk_) ?_
  refine own_st (g' := (mkF m 171 #[.val (.int x0), .val (.int x1), .val (.int x2), .val (.long x3), .second, .val (.int x5), .val (.int x6), .val (.int x7), .val (.int x8), .val (.ref x9), .val (.int x10), .val (.long y0), .second, .val (.int (x8 + x7)), .unset, .unset, .unset] [(.int x10)])) (fun tt_ kk_ => XS.iload X0.here hx rfl (hb hby at_169) rfl kk_) ?_
  refine own_st (g' := (mkF m 172 #[.val (.int x0), .val (.int x1), .val (.int x2), .val (.long x3), .second, .val (.int x5), .val (.int x6), .val (.int x7), .val (.int x8), .val (.ref x9), .val (.int x10), .val (.long y0), .second, .val (.int (x8 + x7)), .unset, .unset, .unset] [(.long (x10.toInt64))])) (fun tt_ kk_ => XS.i2l X0.here hx rfl (hb hby at_171) rfl kk_) ?_
  refine own_st (g' := (mkF m 185 #[.val (.int x0), .val (.int x1), .val (.int x2), .val (.long x3), .second, .val (.int x5), .val (.int x6), .val (.int x7), .val (.int x8), .val (.ref x9), .val (.int x10), .val (.long y0), .second, .val (.int (x8 + x7)), .unset, .unset, .unset] [(.long (x10.toInt64))])) (fun tt_ kk_ => XS.goto X0.here hx rfl (pc0 := 172) (pc' := 185) rfl (hb hby at_172) (by decide) (by decide) kk_) ?_
  refine own_st (g' := (mkF m 187 #[.val (.int x0), .val (.int x1), .val (.int x2), .val (.long x3), .second, .val (.int x5), .val (.int x6), .val (.int x7), .val (.int x8), .val (.ref x9), .val (.int x10), .val (.long y0), .second, .val (.int (x8 + x7)), .unset, .val (.long (x10.toInt64)), .second] [])) (fun tt_ kk_ => XS.lstore X0.here hx rfl (hb hby at_185) rfl (l' := #[.val (.int x0), .val (.int x1), .val (.int x2), .val (.long x3), .second, .val (.int x5), .val (.int x6), .val (.int x7), .val (.int x8), .val (.ref x9), .val (.int x10), .val (.long y0), .second, .val (.int (x8 + x7)), .unset, .val (.long (x10.toInt64)), .second]) rfl kk_) ?_
  refine own_st (g' := (mkF m 189 #[.val (.int x0), .val (.int x1), .val (.int x2), .val (.long x3), .second, .val (.int x5), .val (.int x6), .val (.int x7), .val (.int x8), .val (.ref x9), .val (.int x10), .val (.long y0), .second, .val (.int (x8 + x7)), .unset, .val (.long (x10.toInt64)), .second] [(.long y0)])) (fun tt_ kk_ => XS.lload X0.here hx rfl (hb hby at_187) rfl kk_) ?_
  refine own_st (g' := (mkF m 191 #[.val (.int x0), .val (.int x1), .val (.int x2), .val (.long x3), .second, .val (.int x5), .val (.int x6), .val (.int x7), .val (.int x8), .val (.ref x9), .val (.int x10), .val (.long y0), .second, .val (.int (x8 + x7)), .unset, .val (.long (x10.toInt64)), .second] [(.long (x10.toInt64)), (.long y0)])) (fun tt_ kk_ => XS.lload X0.here hx rfl (hb hby at_189) rfl kk_) ?_
  refine own_st (g' := (mkF m 192 #[.val (.int x0), .val (.int x1), .val (.int x2), .val (.long x3), .second, .val (.int x5), .val (.int x6), .val (.int x7), .val (.int x8), .val (.ref x9), .val (.int x10), .val (.long y0), .second, .val (.int (x8 + x7)), .unset, .val (.long (x10.toInt64)), .second] [(.int (lcmpW y0 (x10.toInt64)))])) (fun tt_ kk_ => XS.lcmp X0.here hx rfl (hb hby at_191) rfl kk_) ?_
  by_cases hc192 : (lcmpW y0 (x10.toInt64)) = (0 : Int32)
  · skip
    refine own_st (g' := (mkF m 195 #[.val (.int x0), .val (.int x1), .val (.int x2), .val (.long x3), .second, .val (.int x5), .val (.int x6), .val (.int x7), .val (.int x8), .val (.ref x9), .val (.int x10), .val (.long y0), .second, .val (.int (x8 + x7)), .unset, .val (.long (x10.toInt64)), .second] [])) (fun tt_ kk_ => XS.ifNo X0.here hx rfl (hb hby at_192) rfl ((if0 _ _).trans (teq hc192).2) kk_) ?_
    refine own_st (g' := (mkF m 196 #[.val (.int x0), .val (.int x1), .val (.int x2), .val (.long x3), .second, .val (.int x5), .val (.int x6), .val (.int x7), .val (.int x8), .val (.ref x9), .val (.int x10), .val (.long y0), .second, .val (.int (x8 + x7)), .unset, .val (.long (x10.toInt64)), .second] [(.int (1 : Int32))])) (fun tt_ kk_ => XS.iconst X0.here hx rfl (hb hby at_195) kk_) ?_
    refine own_st (g' := (mkF m 200 #[.val (.int x0), .val (.int x1), .val (.int x2), .val (.long x3), .second, .val (.int x5), .val (.int x6), .val (.int x7), .val (.int x8), .val (.ref x9), .val (.int x10), .val (.long y0), .second, .val (.int (x8 + x7)), .unset, .val (.long (x10.toInt64)), .second] [(.int (1 : Int32))])) (fun tt_ kk_ => XS.goto X0.here hx rfl (pc0 := 196) (pc' := 200) rfl (hb hby at_196) (by decide) (by decide) kk_) ?_
    refine own_st (g' := (mkF m 202 #[.val (.int x0), .val (.int x1), .val (.int x2), .val (.long x3), .second, .val (.int x5), .val (.int x6), .val (.int x7), .val (.int x8), .val (.ref x9), .val (.int x10), .val (.long y0), .second, .val (.int (x8 + x7)), .val (.int (1 : Int32)), .val (.long (x10.toInt64)), .second] [])) (fun tt_ kk_ => XS.istore X0.here hx rfl (hb hby at_200) rfl (l' := #[.val (.int x0), .val (.int x1), .val (.int x2), .val (.long x3), .second, .val (.int x5), .val (.int x6), .val (.int x7), .val (.int x8), .val (.ref x9), .val (.int x10), .val (.long y0), .second, .val (.int (x8 + x7)), .val (.int (1 : Int32)), .val (.long (x10.toInt64)), .second]) rfl kk_) ?_
    refine own_st (g' := (mkF m 204 #[.val (.int x0), .val (.int x1), .val (.int x2), .val (.long x3), .second, .val (.int x5), .val (.int x6), .val (.int x7), .val (.int x8), .val (.ref x9), .val (.int x10), .val (.long y0), .second, .val (.int (x8 + x7)), .val (.int (1 : Int32)), .val (.long (x10.toInt64)), .second] [(.ref x9)])) (fun tt_ kk_ => XS.aload X0.here hx rfl (hb hby at_202) rfl rfl kk_) ?_
    refine own_st (g' := (mkF m 206 #[.val (.int x0), .val (.int x1), .val (.int x2), .val (.long x3), .second, .val (.int x5), .val (.int x6), .val (.int x7), .val (.int x8), .val (.ref x9), .val (.int x10), .val (.long y0), .second, .val (.int (x8 + x7)), .val (.int (1 : Int32)), .val (.long (x10.toInt64)), .second] [(.int x10), (.ref x9)])) (fun tt_ kk_ => XS.iload X0.here hx rfl (hb hby at_204) rfl kk_) ?_
    refine own_st (g' := (mkF m 208 #[.val (.int x0), .val (.int x1), .val (.int x2), .val (.long x3), .second, .val (.int x5), .val (.int x6), .val (.int x7), .val (.int x8), .val (.ref x9), .val (.int x10), .val (.long y0), .second, .val (.int (x8 + x7)), .val (.int (1 : Int32)), .val (.long (x10.toInt64)), .second] [(.long y0), (.int x10), (.ref x9)])) (fun tt_ kk_ => XS.lload X0.here hx rfl (hb hby at_206) rfl kk_) ?_
    obtain ⟨cq263, kq263, q263a, q263b, q263c⟩ := isOf hZ e0 TR.1
    obtain ⟨_, _, ⟨T263, L263, k263, n263⟩, -, X263, ⟨Lc263, hQ263, l263, y263, z263⟩, st263⟩ := X0.virtualBack hx (y := (⟨"com/example/propagule/propagule/Trail", "isOpen", "(IJ)Z"⟩ : MethodName)) (z := (⟨"com/example/propagule/propagule/Trail", "isOpen", "(IJ)Z"⟩ : MethodName)) hown (mvT hZ (hw _ (List.mem_of_getElem? (i := 70) rfl))) (mvT hZ (hw _ (List.mem_of_getElem? (i := 71) rfl))) (notFace_of_selects (args := #[]) (mvT hZ (hw _ (List.mem_of_getElem? (i := 73) rfl)))) (mvT hZ (hw _ (List.mem_of_getElem? (i := 73) rfl))) (mvT hZ (hw _ (List.mem_of_getElem? (i := 72) rfl))) (by decide) (backOf (W := 0) (own_rmiso l Z a0 hw [] x9 wm cm wn D N f x10 y0 h0 n0 TR hd0 hD64) hZ (hw _ (List.mem_of_getElem? (i := 74) rfl)) (hw _ (List.mem_of_getElem? (i := 3) rfl)) (by decide) (by decide)) q263a q263c (g := (mkF m 208 #[.val (.int x0), .val (.int x1), .val (.int x2), .val (.long x3), .second, .val (.int x5), .val (.int x6), .val (.int x7), .val (.int x8), .val (.ref x9), .val (.int x10), .val (.long y0), .second, .val (.int (x8 + x7)), .val (.int (1 : Int32)), .val (.long (x10.toInt64)), .second] [(.long y0), (.int x10), (.ref x9)])) rfl (by rw [hml]; rfl) (Steps.refl _) (argsL := [(.int x10), (.long y0)]) (rest := []) (lenOf own_pd3 rfl) rfl (by show 2 * 0 + _ ≤ _; exact Nat.le_of_eq rfl) (hb hby at_208) (fun _ _ => ⟨rfl, e0, (show cells + 0 ≤ 32 by omega), (show slots + 0 ≤ 2176 by omega)⟩)
    dsimp only [Pt.U, Pt.locs, Pt.cells, Pt.slots] at X263 l263 y263 z263 st263 hQ263
    rw [l263, y263, z263] at X263
    obtain ⟨rfl, N263q, e263⟩ := hQ263
    have N263 := Fr.app N0 N263q
    refine own_st (g' := (mkF m 211 #[.val (.int x0), .val (.int x1), .val (.int x2), .val (.long x3), .second, .val (.int x5), .val (.int x6), .val (.int x7), .val (.int x8), .val (.ref x9), .val (.int x10), .val (.long y0), .second, .val (.int (x8 + x7)), .val (.int (1 : Int32)), .val (.long (x10.toInt64)), .second] [(.int (own_io D x10 y0 (f x10.toNatClampNeg)))])) (fun t k => st263.trans k) ?_
    refine own_st (g' := (mkF m 213 #[.val (.int x0), .val (.int x1), .val (.int x2), .val (.long x3), .second, .val (.int x5), .val (.int x6), .val (.int x7), .val (.int x8), .val (.ref x9), .val (.int x10), .val (.long y0), .second, .val (.int (x8 + x7)), .val (.int (1 : Int32)), .val (.long (x10.toInt64)), .second] [(.int (1 : Int32)), (.int (own_io D x10 y0 (f x10.toNatClampNeg)))])) (fun tt_ kk_ => XS.iload X263.here hx rfl (hb hby at_211) rfl kk_) ?_
    refine own_st (g' := (mkF m 216 #[.val (.int x0), .val (.int x1), .val (.int x2), .val (.long x3), .second, .val (.int x5), .val (.int x6), .val (.int x7), .val (.int x8), .val (.ref x9), .val (.int x10), .val (.long y0), .second, .val (.int (x8 + x7)), .val (.int (1 : Int32)), .val (.long (x10.toInt64)), .second] [])) (fun tt_ kk_ => XS.icmpNo X263.here hx rfl (hb hby at_213) rfl (teq (own_l1 (by rw [hDq]; exact hc153) ((hf _ (own_bd hk2 hg3 hd0 hc153)).trans (own_num_le hd0 hc166)) hc192)).2 kk_) ?_
    refine own_st (g' := (mkF m 217 #[.val (.int x0), .val (.int x1), .val (.int x2), .val (.long x3), .second, .val (.int x5), .val (.int x6), .val (.int x7), .val (.int x8), .val (.ref x9), .val (.int x10), .val (.long y0), .second, .val (.int (x8 + x7)), .val (.int (1 : Int32)), .val (.long (x10.toInt64)), .second] [(.int (1 : Int32))])) (fun tt_ kk_ => XS.iconst X263.here hx rfl (hb hby at_216) kk_) ?_
    refine own_st (g' := (mkF m 221 #[.val (.int x0), .val (.int x1), .val (.int x2), .val (.long x3), .second, .val (.int x5), .val (.int x6), .val (.int x7), .val (.int x8), .val (.ref x9), .val (.int x10), .val (.long y0), .second, .val (.int (x8 + x7)), .val (.int (1 : Int32)), .val (.long (x10.toInt64)), .second] [(.int (1 : Int32))])) (fun tt_ kk_ => XS.goto X263.here hx rfl (pc0 := 217) (pc' := 221) rfl (hb hby at_217) (by decide) (by decide) kk_) ?_
    exact own_retN X263 hx hlk (t := .boolean) (Or.inl rfl) hret (hb hby at_221) (by omega) (by omega) ⟨rfl, N263⟩
  refine own_st (g' := (mkF m 199 #[.val (.int x0), .val (.int x1), .val (.int x2), .val (.long x3), .second, .val (.int x5), .val (.int x6), .val (.int x7), .val (.int x8), .val (.ref x9), .val (.int x10), .val (.long y0), .second, .val (.int (x8 + x7)), .unset, .val (.long (x10.toInt64)), .second] [])) (fun tt_ kk_ => XS.ifYes X0.here hx rfl (pc0 := 192) (pc' := 199) rfl (hb hby at_192) rfl ((if0 _ _).trans (feq hc192).2) (by decide) (by decide) kk_) ?_
  refine own_st (g' := (mkF m 200 #[.val (.int x0), .val (.int x1), .val (.int x2), .val (.long x3), .second, .val (.int x5), .val (.int x6), .val (.int x7), .val (.int x8), .val (.ref x9), .val (.int x10), .val (.long y0), .second, .val (.int (x8 + x7)), .unset, .val (.long (x10.toInt64)), .second] [(.int (0 : Int32))])) (fun tt_ kk_ => XS.iconst X0.here hx rfl (hb hby at_199) kk_) ?_
  refine own_st (g' := (mkF m 202 #[.val (.int x0), .val (.int x1), .val (.int x2), .val (.long x3), .second, .val (.int x5), .val (.int x6), .val (.int x7), .val (.int x8), .val (.ref x9), .val (.int x10), .val (.long y0), .second, .val (.int (x8 + x7)), .val (.int (0 : Int32)), .val (.long (x10.toInt64)), .second] [])) (fun tt_ kk_ => XS.istore X0.here hx rfl (hb hby at_200) rfl (l' := #[.val (.int x0), .val (.int x1), .val (.int x2), .val (.long x3), .second, .val (.int x5), .val (.int x6), .val (.int x7), .val (.int x8), .val (.ref x9), .val (.int x10), .val (.long y0), .second, .val (.int (x8 + x7)), .val (.int (0 : Int32)), .val (.long (x10.toInt64)), .second]) rfl kk_) ?_
  refine own_st (g' := (mkF m 204 #[.val (.int x0), .val (.int x1), .val (.int x2), .val (.long x3), .second, .val (.int x5), .val (.int x6), .val (.int x7), .val (.int x8), .val (.ref x9), .val (.int x10), .val (.long y0), .second, .val (.int (x8 + x7)), .val (.int (0 : Int32)), .val (.long (x10.toInt64)), .second] [(.ref x9)])) (fun tt_ kk_ => XS.aload X0.here hx rfl (hb hby at_202) rfl rfl kk_) ?_
  refine own_st (g' := (mkF m 206 #[.val (.int x0), .val (.int x1), .val (.int x2), .val (.long x3), .second, .val (.int x5), .val (.int x6), .val (.int x7), .val (.int x8), .val (.ref x9), .val (.int x10), .val (.long y0), .second, .val (.int (x8 + x7)), .val (.int (0 : Int32)), .val (.long (x10.toInt64)), .second] [(.int x10), (.ref x9)])) (fun tt_ kk_ => XS.iload X0.here hx rfl (hb hby at_204) rfl kk_) ?_
  refine own_st (g' := (mkF m 208 #[.val (.int x0), .val (.int x1), .val (.int x2), .val (.long x3), .second, .val (.int x5), .val (.int x6), .val (.int x7), .val (.int x8), .val (.ref x9), .val (.int x10), .val (.long y0), .second, .val (.int (x8 + x7)), .val (.int (0 : Int32)), .val (.long (x10.toInt64)), .second] [(.long y0), (.int x10), (.ref x9)])) (fun tt_ kk_ => XS.lload X0.here hx rfl (hb hby at_206) rfl kk_) ?_
  obtain ⟨cq264, kq264, q264a, q264b, q264c⟩ := isOf hZ e0 TR.1
  obtain ⟨_, _, ⟨T264, L264, k264, n264⟩, -, X264, ⟨Lc264, hQ264, l264, y264, z264⟩, st264⟩ := X0.virtualBack hx (y := (⟨"com/example/propagule/propagule/Trail", "isOpen", "(IJ)Z"⟩ : MethodName)) (z := (⟨"com/example/propagule/propagule/Trail", "isOpen", "(IJ)Z"⟩ : MethodName)) hown (mvT hZ (hw _ (List.mem_of_getElem? (i := 70) rfl))) (mvT hZ (hw _ (List.mem_of_getElem? (i := 71) rfl))) (notFace_of_selects (args := #[]) (mvT hZ (hw _ (List.mem_of_getElem? (i := 73) rfl)))) (mvT hZ (hw _ (List.mem_of_getElem? (i := 73) rfl))) (mvT hZ (hw _ (List.mem_of_getElem? (i := 72) rfl))) (by decide) (backOf (W := 0) (own_rmiso l Z a0 hw [] x9 wm cm wn D N f x10 y0 h0 n0 TR hd0 hD64) hZ (hw _ (List.mem_of_getElem? (i := 74) rfl)) (hw _ (List.mem_of_getElem? (i := 3) rfl)) (by decide) (by decide)) q264a q264c (g := (mkF m 208 #[.val (.int x0), .val (.int x1), .val (.int x2), .val (.long x3), .second, .val (.int x5), .val (.int x6), .val (.int x7), .val (.int x8), .val (.ref x9), .val (.int x10), .val (.long y0), .second, .val (.int (x8 + x7)), .val (.int (0 : Int32)), .val (.long (x10.toInt64)), .second] [(.long y0), (.int x10), (.ref x9)])) rfl (by rw [hml]; rfl) (Steps.refl _) (argsL := [(.int x10), (.long y0)]) (rest := []) (lenOf own_pd3 rfl) rfl (by show 2 * 0 + _ ≤ _; exact Nat.le_of_eq rfl) (hb hby at_208) (fun _ _ => ⟨rfl, e0, (show cells + 0 ≤ 32 by omega), (show slots + 0 ≤ 2176 by omega)⟩)
  dsimp only [Pt.U, Pt.locs, Pt.cells, Pt.slots] at X264 l264 y264 z264 st264 hQ264
  rw [l264, y264, z264] at X264
  obtain ⟨rfl, N264q, e264⟩ := hQ264
  have N264 := Fr.app N0 N264q
  refine own_st (g' := (mkF m 211 #[.val (.int x0), .val (.int x1), .val (.int x2), .val (.long x3), .second, .val (.int x5), .val (.int x6), .val (.int x7), .val (.int x8), .val (.ref x9), .val (.int x10), .val (.long y0), .second, .val (.int (x8 + x7)), .val (.int (0 : Int32)), .val (.long (x10.toInt64)), .second] [(.int (own_io D x10 y0 (f x10.toNatClampNeg)))])) (fun t k => st264.trans k) ?_
  refine own_st (g' := (mkF m 213 #[.val (.int x0), .val (.int x1), .val (.int x2), .val (.long x3), .second, .val (.int x5), .val (.int x6), .val (.int x7), .val (.int x8), .val (.ref x9), .val (.int x10), .val (.long y0), .second, .val (.int (x8 + x7)), .val (.int (0 : Int32)), .val (.long (x10.toInt64)), .second] [(.int (0 : Int32)), (.int (own_io D x10 y0 (f x10.toNatClampNeg)))])) (fun tt_ kk_ => XS.iload X264.here hx rfl (hb hby at_211) rfl kk_) ?_
  refine own_st (g' := (mkF m 216 #[.val (.int x0), .val (.int x1), .val (.int x2), .val (.long x3), .second, .val (.int x5), .val (.int x6), .val (.int x7), .val (.int x8), .val (.ref x9), .val (.int x10), .val (.long y0), .second, .val (.int (x8 + x7)), .val (.int (0 : Int32)), .val (.long (x10.toInt64)), .second] [])) (fun tt_ kk_ => XS.icmpNo X264.here hx rfl (hb hby at_213) rfl (teq (own_l2 (by rw [hDq]; exact hc153) ((hf _ (own_bd hk2 hg3 hd0 hc153)).trans (own_num_le hd0 hc166)) hc192)).2 kk_) ?_
  refine own_st (g' := (mkF m 217 #[.val (.int x0), .val (.int x1), .val (.int x2), .val (.long x3), .second, .val (.int x5), .val (.int x6), .val (.int x7), .val (.int x8), .val (.ref x9), .val (.int x10), .val (.long y0), .second, .val (.int (x8 + x7)), .val (.int (0 : Int32)), .val (.long (x10.toInt64)), .second] [(.int (1 : Int32))])) (fun tt_ kk_ => XS.iconst X264.here hx rfl (hb hby at_216) kk_) ?_
  refine own_st (g' := (mkF m 221 #[.val (.int x0), .val (.int x1), .val (.int x2), .val (.long x3), .second, .val (.int x5), .val (.int x6), .val (.int x7), .val (.int x8), .val (.ref x9), .val (.int x10), .val (.long y0), .second, .val (.int (x8 + x7)), .val (.int (0 : Int32)), .val (.long (x10.toInt64)), .second] [(.int (1 : Int32))])) (fun tt_ kk_ => XS.goto X264.here hx rfl (pc0 := 217) (pc' := 221) rfl (hb hby at_217) (by decide) (by decide) kk_) ?_
  exact own_retN X264 hx hlk (t := .boolean) (Or.inl rfl) hret (hb hby at_221) (by omega) (by omega) ⟨rfl, N264⟩
set_option maxRecDepth 65536 in
set_option maxHeartbeats 8000000 in
theorem own_t120 {p : Program} {l : Launch} {e : Env} {s : State} {m : MethodId} {args : Array Value} {below : List Frame} {meth : Method} {c : Code} {T : State} {locs : List Loc} {cells slots : Nat} {Z : State} {a0 : Array Value} {h0 : Heap} {n0 : Nat} (X0 : Stand p l e room_1 s m args below meth c T locs cells slots) (hx : p.tables.exec = Jvm.exec) (hlk : meth.locks = false) (hby : c.code = code) (hml : c.maxLocals = 17) (hret : meth.sig.returnType = some .boolean) (hown : s.vm.findClass "com/example/propagule/propagule/TrailIsOpenPinLaw" = some m.cls) (hZ : Z.Warmed39 s.vm) (hw : ∀ d ∈ tables_1, d.before a0 Z = true) (e0 : T.heap = h0) (N0 : Fr n0 locs) (Z0 : n0 ≤ h0.size) (hcc : cells ≤ 32) (hss : slots ≤ 2176) (x0 : Int32) (x1 : Int32) (x2 : Int32) (x3 : Int64) (x5 : Int32) (x6 : Int32) (x7 : Int32) (x8 : Int32) (x9 : Addr) (y0 : Int32) (wm cm wn : Addr) (D : Int32) (N : Int64) (f : Nat → Int64) (TR : own_Tr Z h0 n0 x9 wm cm wn D N f) (hDq : D = x8 + x7) (hf : ∀ i : Nat, (i : Int) ≤ x8.toInt + x7.toInt → f i = own_num x6 x8 i) (hk1 : 0 ≤ x6.toInt ∧ x6.toInt ≤ 3) (hk2 : 0 ≤ x7.toInt ∧ x7.toInt ≤ 2) (hg : 0 ≤ x8.toInt ∧ x8.toInt ≤ x6.toInt) (hd0 : ¬ y0 < (0 : Int32)) :
    own_Go p e below s T (mkF m 120 #[.val (.int x0), .val (.int x1), .val (.int x2), .val (.long x3), .second, .val (.int x5), .val (.int x6), .val (.int x7), .val (.int x8), .val (.ref x9), .unset, .unset, .unset, .unset, .unset, .unset, .unset] [(.int y0)]) (own_Q0 n0) 32 2176 := by
  refine own_st (g' := (mkF m 122 #[.val (.int x0), .val (.int x1), .val (.int x2), .val (.long x3), .second, .val (.int x5), .val (.int x6), .val (.int x7), .val (.int x8), .val (.ref x9), .val (.int y0), .unset, .unset, .unset, .unset, .unset, .unset] [])) (fun tt_ kk_ => XS.istore X0.here hx rfl (hb hby at_120) rfl (l' := #[.val (.int x0), .val (.int x1), .val (.int x2), .val (.long x3), .second, .val (.int x5), .val (.int x6), .val (.int x7), .val (.int x8), .val (.ref x9), .val (.int y0), .unset, .unset, .unset, .unset, .unset, .unset]) rfl kk_) ?_
  refine own_st (g' := (mkF m 124 #[.val (.int x0), .val (.int x1), .val (.int x2), .val (.long x3), .second, .val (.int x5), .val (.int x6), .val (.int x7), .val (.int x8), .val (.ref x9), .val (.int y0), .unset, .unset, .unset, .unset, .unset, .unset] [(.int x5)])) (fun tt_ kk_ => XS.iload X0.here hx rfl (hb hby at_122) rfl kk_) ?_
  refine own_st (g' := (mkF m 125 #[.val (.int x0), .val (.int x1), .val (.int x2), .val (.long x3), .second, .val (.int x5), .val (.int x6), .val (.int x7), .val (.int x8), .val (.ref x9), .val (.int y0), .unset, .unset, .unset, .unset, .unset, .unset] [(.int (2 : Int32)), (.int x5)])) (fun tt_ kk_ => XS.iconst X0.here hx rfl (hb hby at_124) kk_) ?_
  refine own_st (g' := (mkF m 126 #[.val (.int x0), .val (.int x1), .val (.int x2), .val (.long x3), .second, .val (.int x5), .val (.int x6), .val (.int x7), .val (.int x8), .val (.ref x9), .val (.int y0), .unset, .unset, .unset, .unset, .unset, .unset] [(.int (x5 &&& (2 : Int32)))])) (fun tt_ kk_ => XS.iand X0.here hx rfl (hb hby at_125) rfl kk_) ?_
  by_cases hc126 : (x5 &&& (2 : Int32)) = (0 : Int32)
  · skip
    refine own_st (g' := (mkF m 133 #[.val (.int x0), .val (.int x1), .val (.int x2), .val (.long x3), .second, .val (.int x5), .val (.int x6), .val (.int x7), .val (.int x8), .val (.ref x9), .val (.int y0), .unset, .unset, .unset, .unset, .unset, .unset] [])) (fun tt_ kk_ => XS.ifYes X0.here hx rfl (pc0 := 126) (pc' := 133) rfl (hb hby at_126) rfl ((if0 _ _).trans (teq hc126).1) (by decide) (by decide) kk_) ?_
    refine own_st (g' := (mkF m 134 #[.val (.int x0), .val (.int x1), .val (.int x2), .val (.long x3), .second, .val (.int x5), .val (.int x6), .val (.int x7), .val (.int x8), .val (.ref x9), .val (.int y0), .unset, .unset, .unset, .unset, .unset, .unset] [(.long x3)])) (fun tt_ kk_ => XS.lloadN X0.here hx rfl (hb hby at_133) rfl kk_) ?_
    refine own_st (g' := (mkF m 137 #[.val (.int x0), .val (.int x1), .val (.int x2), .val (.long x3), .second, .val (.int x5), .val (.int x6), .val (.int x7), .val (.int x8), .val (.ref x9), .val (.int y0), .unset, .unset, .unset, .unset, .unset, .unset] [(.long (15 : Int64)), (.long x3)])) (fun tt_ kk_ => X0.ldc2Long hx hown (mvT hZ (hw _ (List.mem_of_getElem? (i := 69) rfl))) (g := (mkF m 134 #[.val (.int x0), .val (.int x1), .val (.int x2), .val (.long x3), .second, .val (.int x5), .val (.int x6), .val (.int x7), .val (.int x8), .val (.ref x9), .val (.int y0), .unset, .unset, .unset, .unset, .unset, .unset] [(.long x3)])) rfl (hb hby at_134) _ kk_) ?_
    refine own_st (g' := (mkF m 138 #[.val (.int x0), .val (.int x1), .val (.int x2), .val (.long x3), .second, .val (.int x5), .val (.int x6), .val (.int x7), .val (.int x8), .val (.ref x9), .val (.int y0), .unset, .unset, .unset, .unset, .unset, .unset] [(.long (x3 &&& (15 : Int64)))])) (fun tt_ kk_ => XS.land X0.here hx rfl (hb hby at_137) rfl kk_) ?_
    refine own_st (g' := (mkF m 139 #[.val (.int x0), .val (.int x1), .val (.int x2), .val (.long x3), .second, .val (.int x5), .val (.int x6), .val (.int x7), .val (.int x8), .val (.ref x9), .val (.int y0), .unset, .unset, .unset, .unset, .unset, .unset] [(.long (1 : Int64)), (.long (x3 &&& (15 : Int64)))])) (fun tt_ kk_ => XS.lconst X0.here hx rfl (hb hby at_138) kk_) ?_
    refine own_st (g' := (mkF m 140 #[.val (.int x0), .val (.int x1), .val (.int x2), .val (.long x3), .second, .val (.int x5), .val (.int x6), .val (.int x7), .val (.int x8), .val (.ref x9), .val (.int y0), .unset, .unset, .unset, .unset, .unset, .unset] [(.long ((x3 &&& (15 : Int64)) - (1 : Int64)))])) (fun tt_ kk_ => XS.lsub X0.here hx rfl (hb hby at_139) rfl kk_) ?_
    exact own_t140 X0 hx hlk hby hml hret hown hZ hw e0 N0 Z0 (by omega) (by omega) x0 x1 x2 x3 x5 x6 x7 x8 x9 y0 ((x3 &&& (15 : Int64)) - (1 : Int64)) wm cm wn D N f TR hDq hf hk1 hk2 hg hd0
  refine own_st (g' := (mkF m 129 #[.val (.int x0), .val (.int x1), .val (.int x2), .val (.long x3), .second, .val (.int x5), .val (.int x6), .val (.int x7), .val (.int x8), .val (.ref x9), .val (.int y0), .unset, .unset, .unset, .unset, .unset, .unset] [])) (fun tt_ kk_ => XS.ifNo X0.here hx rfl (hb hby at_126) rfl ((if0 _ _).trans (feq hc126).1) kk_) ?_
  refine own_st (g' := (mkF m 130 #[.val (.int x0), .val (.int x1), .val (.int x2), .val (.long x3), .second, .val (.int x5), .val (.int x6), .val (.int x7), .val (.int x8), .val (.ref x9), .val (.int y0), .unset, .unset, .unset, .unset, .unset, .unset] [(.long x3)])) (fun tt_ kk_ => XS.lloadN X0.here hx rfl (hb hby at_129) rfl kk_) ?_
  refine own_st (g' := (mkF m 140 #[.val (.int x0), .val (.int x1), .val (.int x2), .val (.long x3), .second, .val (.int x5), .val (.int x6), .val (.int x7), .val (.int x8), .val (.ref x9), .val (.int y0), .unset, .unset, .unset, .unset, .unset, .unset] [(.long x3)])) (fun tt_ kk_ => XS.goto X0.here hx rfl (pc0 := 130) (pc' := 140) rfl (hb hby at_130) (by decide) (by decide) kk_) ?_
  exact own_t140 X0 hx hlk hby hml hret hown hZ hw e0 N0 Z0 (by omega) (by omega) x0 x1 x2 x3 x5 x6 x7 x8 x9 y0 x3 wm cm wn D N f TR hDq hf hk1 hk2 hg hd0
set_option maxRecDepth 65536 in
set_option maxHeartbeats 8000000 in
theorem own_t103 {p : Program} {l : Launch} {e : Env} {s : State} {m : MethodId} {args : Array Value} {below : List Frame} {meth : Method} {c : Code} {T : State} {locs : List Loc} {cells slots : Nat} {Z : State} {a0 : Array Value} {h0 : Heap} {n0 : Nat} (X0 : Stand p l e room_1 s m args below meth c T locs cells slots) (hx : p.tables.exec = Jvm.exec) (hlk : meth.locks = false) (hby : c.code = code) (hml : c.maxLocals = 17) (hret : meth.sig.returnType = some .boolean) (hown : s.vm.findClass "com/example/propagule/propagule/TrailIsOpenPinLaw" = some m.cls) (hZ : Z.Warmed39 s.vm) (hw : ∀ d ∈ tables_1, d.before a0 Z = true) (e0 : T.heap = h0) (N0 : Fr n0 locs) (Z0 : n0 ≤ h0.size) (hcc : cells ≤ 32) (hss : slots ≤ 2176) (x0 : Int32) (x1 : Int32) (x2 : Int32) (x3 : Int64) (x5 : Int32) (x6 : Int32) (x7 : Int32) (x8 : Int32) (x9 : Addr) (wm cm wn : Addr) (D : Int32) (N : Int64) (f : Nat → Int64) (TR : own_Tr Z h0 n0 x9 wm cm wn D N f) (hDq : D = x8 + x7) (hf : ∀ i : Nat, (i : Int) ≤ x8.toInt + x7.toInt → f i = own_num x6 x8 i) (hk1 : 0 ≤ x6.toInt ∧ x6.toInt ≤ 3) (hk2 : 0 ≤ x7.toInt ∧ x7.toInt ≤ 2) (hg : 0 ≤ x8.toInt ∧ x8.toInt ≤ x6.toInt) :
    own_Go p e below s T (mkF m 103 #[.val (.int x0), .val (.int x1), .val (.int x2), .val (.long x3), .second, .val (.int x5), .val (.int x6), .val (.int x7), .val (.int x8), .val (.ref x9), .unset, .unset, .unset, .unset, .unset, .unset, .unset] []) (own_Q0 n0) 32 2176 := by
  refine own_st (g' := (mkF m 105 #[.val (.int x0), .val (.int x1), .val (.int x2), .val (.long x3), .second, .val (.int x5), .val (.int x6), .val (.int x7), .val (.int x8), .val (.ref x9), .unset, .unset, .unset, .unset, .unset, .unset, .unset] [(.int x5)])) (fun tt_ kk_ => XS.iload X0.here hx rfl (hb hby at_103) rfl kk_) ?_
  refine own_st (g' := (mkF m 106 #[.val (.int x0), .val (.int x1), .val (.int x2), .val (.long x3), .second, .val (.int x5), .val (.int x6), .val (.int x7), .val (.int x8), .val (.ref x9), .unset, .unset, .unset, .unset, .unset, .unset, .unset] [(.int (1 : Int32)), (.int x5)])) (fun tt_ kk_ => XS.iconst X0.here hx rfl (hb hby at_105) kk_) ?_
  refine own_st (g' := (mkF m 107 #[.val (.int x0), .val (.int x1), .val (.int x2), .val (.long x3), .second, .val (.int x5), .val (.int x6), .val (.int x7), .val (.int x8), .val (.ref x9), .unset, .unset, .unset, .unset, .unset, .unset, .unset] [(.int (x5 &&& (1 : Int32)))])) (fun tt_ kk_ => XS.iand X0.here hx rfl (hb hby at_106) rfl kk_) ?_
  by_cases hc107 : (x5 &&& (1 : Int32)) = (0 : Int32)
  · skip
    refine own_st (g' := (mkF m 117 #[.val (.int x0), .val (.int x1), .val (.int x2), .val (.long x3), .second, .val (.int x5), .val (.int x6), .val (.int x7), .val (.int x8), .val (.ref x9), .unset, .unset, .unset, .unset, .unset, .unset, .unset] [])) (fun tt_ kk_ => XS.ifYes X0.here hx rfl (pc0 := 107) (pc' := 117) rfl (hb hby at_107) rfl ((if0 _ _).trans (teq hc107).1) (by decide) (by decide) kk_) ?_
    refine own_st (g' := (mkF m 118 #[.val (.int x0), .val (.int x1), .val (.int x2), .val (.long x3), .second, .val (.int x5), .val (.int x6), .val (.int x7), .val (.int x8), .val (.ref x9), .unset, .unset, .unset, .unset, .unset, .unset, .unset] [(.int x2)])) (fun tt_ kk_ => XS.iloadN X0.here hx rfl (hb hby at_117) rfl kk_) ?_
    refine own_st (g' := (mkF m 119 #[.val (.int x0), .val (.int x1), .val (.int x2), .val (.long x3), .second, .val (.int x5), .val (.int x6), .val (.int x7), .val (.int x8), .val (.ref x9), .unset, .unset, .unset, .unset, .unset, .unset, .unset] [(.int (1 : Int32)), (.int x2)])) (fun tt_ kk_ => XS.iconst X0.here hx rfl (hb hby at_118) kk_) ?_
    refine own_st (g' := (mkF m 120 #[.val (.int x0), .val (.int x1), .val (.int x2), .val (.long x3), .second, .val (.int x5), .val (.int x6), .val (.int x7), .val (.int x8), .val (.ref x9), .unset, .unset, .unset, .unset, .unset, .unset, .unset] [(.int ((x2.toUInt32 >>> ((1 : Int32) &&& 31).toUInt32).toInt32))])) (fun tt_ kk_ => XS.iushr X0.here hx rfl (hb hby at_119) rfl kk_) ?_
    exact own_t120 X0 hx hlk hby hml hret hown hZ hw e0 N0 Z0 (by omega) (by omega) x0 x1 x2 x3 x5 x6 x7 x8 x9 ((x2.toUInt32 >>> ((1 : Int32) &&& 31).toUInt32).toInt32) wm cm wn D N f TR hDq hf hk1 hk2 hg (own_d1 _)
  refine own_st (g' := (mkF m 110 #[.val (.int x0), .val (.int x1), .val (.int x2), .val (.long x3), .second, .val (.int x5), .val (.int x6), .val (.int x7), .val (.int x8), .val (.ref x9), .unset, .unset, .unset, .unset, .unset, .unset, .unset] [])) (fun tt_ kk_ => XS.ifNo X0.here hx rfl (hb hby at_107) rfl ((if0 _ _).trans (feq hc107).1) kk_) ?_
  refine own_st (g' := (mkF m 111 #[.val (.int x0), .val (.int x1), .val (.int x2), .val (.long x3), .second, .val (.int x5), .val (.int x6), .val (.int x7), .val (.int x8), .val (.ref x9), .unset, .unset, .unset, .unset, .unset, .unset, .unset] [(.int x2)])) (fun tt_ kk_ => XS.iloadN X0.here hx rfl (hb hby at_110) rfl kk_) ?_
  refine own_st (g' := (mkF m 113 #[.val (.int x0), .val (.int x1), .val (.int x2), .val (.long x3), .second, .val (.int x5), .val (.int x6), .val (.int x7), .val (.int x8), .val (.ref x9), .unset, .unset, .unset, .unset, .unset, .unset, .unset] [(.int (7 : Int32)), (.int x2)])) (fun tt_ kk_ => XS.bipush X0.here hx rfl (hb hby at_111) kk_) ?_
  refine own_st (g' := (mkF m 114 #[.val (.int x0), .val (.int x1), .val (.int x2), .val (.long x3), .second, .val (.int x5), .val (.int x6), .val (.int x7), .val (.int x8), .val (.ref x9), .unset, .unset, .unset, .unset, .unset, .unset, .unset] [(.int (x2 &&& (7 : Int32)))])) (fun tt_ kk_ => XS.iand X0.here hx rfl (hb hby at_113) rfl kk_) ?_
  refine own_st (g' := (mkF m 120 #[.val (.int x0), .val (.int x1), .val (.int x2), .val (.long x3), .second, .val (.int x5), .val (.int x6), .val (.int x7), .val (.int x8), .val (.ref x9), .unset, .unset, .unset, .unset, .unset, .unset, .unset] [(.int (x2 &&& (7 : Int32)))])) (fun tt_ kk_ => XS.goto X0.here hx rfl (pc0 := 114) (pc' := 120) rfl (hb hby at_114) (by decide) (by decide) kk_) ?_
  exact own_t120 X0 hx hlk hby hml hret hown hZ hw e0 N0 Z0 (by omega) (by omega) x0 x1 x2 x3 x5 x6 x7 x8 x9 (x2 &&& (7 : Int32)) wm cm wn D N f TR hDq hf hk1 hk2 hg (own_d7 _)
set_option maxRecDepth 65536 in
set_option maxHeartbeats 8000000 in
theorem own_t74 {p : Program} {l : Launch} {e : Env} {s : State} {m : MethodId} {args : Array Value} {below : List Frame} {meth : Method} {c : Code} {T : State} {locs : List Loc} {cells slots : Nat} {Z : State} {a0 : Array Value} {h0 : Heap} {n0 : Nat} (X0 : Stand p l e room_1 s m args below meth c T locs cells slots) (hx : p.tables.exec = Jvm.exec) (hlk : meth.locks = false) (hby : c.code = code) (hml : c.maxLocals = 17) (hret : meth.sig.returnType = some .boolean) (hown : s.vm.findClass "com/example/propagule/propagule/TrailIsOpenPinLaw" = some m.cls) (hZ : Z.Warmed39 s.vm) (hw : ∀ d ∈ tables_1, d.before a0 Z = true) (e0 : T.heap = h0) (N0 : Fr n0 locs) (Z0 : n0 ≤ h0.size) (hcc : cells ≤ 32) (hss : slots ≤ 2176) (x0 : Int32) (x1 : Int32) (x2 : Int32) (x3 : Int64) (x5 : Int32) (x6 : Int32) (x7 : Int32) (x8 : Int32) (x9 : Addr) (wm cm wn : Addr) (D : Int32) (N : Int64) (f : Nat → Int64) (TR : own_Tr Z h0 n0 x9 wm cm wn D N f) (hDk : D = x6) (hN : N = x6.toInt64) (hf : ∀ i : Nat, (i : Int) ≤ x6.toInt → f i = Int64.ofInt i) (hk1 : 0 ≤ x6.toInt ∧ x6.toInt ≤ 3) (hk2 : 0 ≤ x7.toInt ∧ x7.toInt ≤ 2) (hg : 0 ≤ x8.toInt ∧ x8.toInt ≤ x6.toInt) :
    own_Go p e below s T (mkF m 74 #[.val (.int x0), .val (.int x1), .val (.int x2), .val (.long x3), .second, .val (.int x5), .val (.int x6), .val (.int x7), .val (.int x8), .val (.ref x9), .unset, .unset, .unset, .unset, .unset, .unset, .unset] []) (own_Q0 n0) 32 2176 := by
  rw [hDk, hN] at TR
  have hg0 : ¬ x8 < (0 : Int32) := by rw [own_lt32]; have : (0 : Int32).toInt = 0 := rfl; omega
  have hgk : ¬ x6 < x8 := by rw [own_lt32]; omega
  have hk64 : x6.toInt < (64 : Nat) := by omega
  have hg64 : x8.toInt < (64 : Nat) := by omega
  have ha1 := own_a1 hg0 hg64
  have hb0 := (own_a2 hg0 hg64).1
  have hb64 : (x8 + (1 : Int32)).toInt < (64 : Nat) := by omega
  refine own_st (g' := (mkF m 76 #[.val (.int x0), .val (.int x1), .val (.int x2), .val (.long x3), .second, .val (.int x5), .val (.int x6), .val (.int x7), .val (.int x8), .val (.ref x9), .unset, .unset, .unset, .unset, .unset, .unset, .unset] [(.ref x9)])) (fun tt_ kk_ => XS.aload X0.here hx rfl (hb hby at_74) rfl rfl kk_) ?_
  refine own_st (g' := (mkF m 78 #[.val (.int x0), .val (.int x1), .val (.int x2), .val (.long x3), .second, .val (.int x5), .val (.int x6), .val (.int x7), .val (.int x8), .val (.ref x9), .unset, .unset, .unset, .unset, .unset, .unset, .unset] [(.int x8), (.ref x9)])) (fun tt_ kk_ => XS.iload X0.here hx rfl (hb hby at_76) rfl kk_) ?_
  obtain ⟨cq259, kq259, q259a, q259b, q259c⟩ := isOf hZ e0 TR.1
  obtain ⟨_, _, ⟨T259, L259, k259, n259⟩, -, X259, ⟨Lc259, hQ259, l259, y259, z259⟩, st259⟩ := X0.virtualBack hx (y := (⟨"com/example/propagule/propagule/Trail", "closeWorldsTo", "(I)V"⟩ : MethodName)) (z := (⟨"com/example/propagule/propagule/Trail", "closeWorldsTo", "(I)V"⟩ : MethodName)) hown (mvT hZ (hw _ (List.mem_of_getElem? (i := 62) rfl))) (mvT hZ (hw _ (List.mem_of_getElem? (i := 63) rfl))) (notFace_of_selects (args := #[]) (mvT hZ (hw _ (List.mem_of_getElem? (i := 65) rfl)))) (mvT hZ (hw _ (List.mem_of_getElem? (i := 65) rfl))) (mvT hZ (hw _ (List.mem_of_getElem? (i := 64) rfl))) (by decide) (backOf (W := 0) (own_rmcls l Z a0 hw [] x9 wm cm wn x6 x6.toInt64 f x8 h0 n0 TR hg0 hgk hk64) hZ (hw _ (List.mem_of_getElem? (i := 66) rfl)) (hw _ (List.mem_of_getElem? (i := 3) rfl)) (by decide) (by decide)) q259a q259c (g := (mkF m 78 #[.val (.int x0), .val (.int x1), .val (.int x2), .val (.long x3), .second, .val (.int x5), .val (.int x6), .val (.int x7), .val (.int x8), .val (.ref x9), .unset, .unset, .unset, .unset, .unset, .unset, .unset] [(.int x8), (.ref x9)])) rfl (by rw [hml]; rfl) (Steps.refl _) (argsL := [(.int x8)]) (rest := []) (lenOf own_pd2 rfl) rfl (by show 2 * 0 + _ ≤ _; exact Nat.le_of_eq rfl) (hb hby at_78) (fun _ _ => ⟨rfl, e0, (show cells + 0 ≤ 32 by omega), (show slots + 0 ≤ 2176 by omega)⟩)
  dsimp only [Pt.U, Pt.locs, Pt.cells, Pt.slots] at X259 l259 y259 z259 st259 hQ259
  rw [l259, y259, z259] at X259
  obtain ⟨rfl, N259q, TR259⟩ := hQ259
  obtain ⟨h259, e259⟩ : ∃ z, T259.heap = z := ⟨_, rfl⟩
  rw [e259] at TR259
  have Z259 := own_Tr_sz TR259
  have N259 := Fr.app N0 N259q
  refine own_st (g' := (mkF m 81 #[.val (.int x0), .val (.int x1), .val (.int x2), .val (.long x3), .second, .val (.int x5), .val (.int x6), .val (.int x7), .val (.int x8), .val (.ref x9), .unset, .unset, .unset, .unset, .unset, .unset, .unset] [])) (fun t k => st259.trans k) ?_
  refine own_st (g' := (mkF m 83 #[.val (.int x0), .val (.int x1), .val (.int x2), .val (.long x3), .second, .val (.int x5), .val (.int x6), .val (.int x7), .val (.int x8), .val (.ref x9), .unset, .unset, .unset, .unset, .unset, .unset, .unset] [(.int x7)])) (fun tt_ kk_ => XS.iload X259.here hx rfl (hb hby at_81) rfl kk_) ?_
  refine own_st (g' := (mkF m 84 #[.val (.int x0), .val (.int x1), .val (.int x2), .val (.long x3), .second, .val (.int x5), .val (.int x6), .val (.int x7), .val (.int x8), .val (.ref x9), .unset, .unset, .unset, .unset, .unset, .unset, .unset] [(.int (1 : Int32)), (.int x7)])) (fun tt_ kk_ => XS.iconst X259.here hx rfl (hb hby at_83) kk_) ?_
  by_cases hc84 : x7 < (1 : Int32)
  · skip
    refine own_st (g' := (mkF m 92 #[.val (.int x0), .val (.int x1), .val (.int x2), .val (.long x3), .second, .val (.int x5), .val (.int x6), .val (.int x7), .val (.int x8), .val (.ref x9), .unset, .unset, .unset, .unset, .unset, .unset, .unset] [])) (fun tt_ kk_ => XS.icmpYes X259.here hx rfl (pc0 := 84) (pc' := 92) rfl (hb hby at_84) rfl (tlt hc84).1 (by decide) (by decide) kk_) ?_
    refine own_st (g' := (mkF m 94 #[.val (.int x0), .val (.int x1), .val (.int x2), .val (.long x3), .second, .val (.int x5), .val (.int x6), .val (.int x7), .val (.int x8), .val (.ref x9), .unset, .unset, .unset, .unset, .unset, .unset, .unset] [(.int x7)])) (fun tt_ kk_ => XS.iload X259.here hx rfl (hb hby at_92) rfl kk_) ?_
    refine own_st (g' := (mkF m 95 #[.val (.int x0), .val (.int x1), .val (.int x2), .val (.long x3), .second, .val (.int x5), .val (.int x6), .val (.int x7), .val (.int x8), .val (.ref x9), .unset, .unset, .unset, .unset, .unset, .unset, .unset] [(.int (2 : Int32)), (.int x7)])) (fun tt_ kk_ => XS.iconst X259.here hx rfl (hb hby at_94) kk_) ?_
    refine own_st (g' := (mkF m 103 #[.val (.int x0), .val (.int x1), .val (.int x2), .val (.long x3), .second, .val (.int x5), .val (.int x6), .val (.int x7), .val (.int x8), .val (.ref x9), .unset, .unset, .unset, .unset, .unset, .unset, .unset] [])) (fun tt_ kk_ => XS.icmpYes X259.here hx rfl (pc0 := 95) (pc' := 103) rfl (hb hby at_95) rfl (tlt (own_up hc84 (by decide))).1 (by decide) (by decide) kk_) ?_
    have q265 : x7 = (0 : Int32) := by
      apply Int32.toInt_inj.mp
      have := hk2
      rw [own_lt32] at hc84
      simp only [Int32.reduceToInt] at *
      omega
    exact own_t103 X259 hx hlk hby hml hret hown hZ hw e259 N259 Z259 (by omega) (by omega) x0 x1 x2 x3 x5 x6 x7 x8 x9 wm cm wn x8 x6.toInt64 f TR259 (by rw [q265]; exact (Int32.add_zero _).symm) (by rw [q265]; exact fun i hi => own_f0 hg hf i (by have e : (0 : Int32).toInt = 0 := rfl; omega)) hk1 hk2 hg
  refine own_st (g' := (mkF m 87 #[.val (.int x0), .val (.int x1), .val (.int x2), .val (.long x3), .second, .val (.int x5), .val (.int x6), .val (.int x7), .val (.int x8), .val (.ref x9), .unset, .unset, .unset, .unset, .unset, .unset, .unset] [])) (fun tt_ kk_ => XS.icmpNo X259.here hx rfl (hb hby at_84) rfl (flt hc84).1 kk_) ?_
  refine own_st (g' := (mkF m 89 #[.val (.int x0), .val (.int x1), .val (.int x2), .val (.long x3), .second, .val (.int x5), .val (.int x6), .val (.int x7), .val (.int x8), .val (.ref x9), .unset, .unset, .unset, .unset, .unset, .unset, .unset] [(.ref x9)])) (fun tt_ kk_ => XS.aload X259.here hx rfl (hb hby at_87) rfl rfl kk_) ?_
  obtain ⟨cq266, kq266, q266a, q266b, q266c⟩ := isOf hZ e259 TR259.1
  obtain ⟨_, _, ⟨T266, L266, k266, n266⟩, -, X266, ⟨Lc266, hQ266, l266, y266, z266⟩, st266⟩ := X259.virtualBack hx (y := (⟨"com/example/propagule/propagule/Trail", "openWorld", "()V"⟩ : MethodName)) (z := (⟨"com/example/propagule/propagule/Trail", "openWorld", "()V"⟩ : MethodName)) hown (mvT hZ (hw _ (List.mem_of_getElem? (i := 75) rfl))) (mvT hZ (hw _ (List.mem_of_getElem? (i := 76) rfl))) (notFace_of_selects (args := #[]) (mvT hZ (hw _ (List.mem_of_getElem? (i := 78) rfl)))) (mvT hZ (hw _ (List.mem_of_getElem? (i := 78) rfl))) (mvT hZ (hw _ (List.mem_of_getElem? (i := 77) rfl))) (by decide) (backOf (W := 0) (own_rmopn l Z a0 hw [] x9 wm cm wn x8 x6.toInt64 f  h259 n0 TR259 hg0 hg64) hZ (hw _ (List.mem_of_getElem? (i := 79) rfl)) (hw _ (List.mem_of_getElem? (i := 3) rfl)) (by decide) (by decide)) q266a q266c (g := (mkF m 89 #[.val (.int x0), .val (.int x1), .val (.int x2), .val (.long x3), .second, .val (.int x5), .val (.int x6), .val (.int x7), .val (.int x8), .val (.ref x9), .unset, .unset, .unset, .unset, .unset, .unset, .unset] [(.ref x9)])) rfl (by rw [hml]; rfl) (Steps.refl _) (argsL := []) (rest := []) (lenOf own_pd0 rfl) rfl (by show 2 * 0 + _ ≤ _; exact Nat.le_of_eq rfl) (hb hby at_89) (fun _ _ => ⟨rfl, e259, (show cells + 0 ≤ 32 by omega), (show slots + 0 ≤ 2176 by omega)⟩)
  dsimp only [Pt.U, Pt.locs, Pt.cells, Pt.slots] at X266 l266 y266 z266 st266 hQ266
  rw [l266, y266, z266] at X266
  obtain ⟨rfl, N266q, TR266⟩ := hQ266
  obtain ⟨h266, e266⟩ : ∃ z, T266.heap = z := ⟨_, rfl⟩
  rw [e266] at TR266
  have Z266 := own_Tr_sz TR266
  have N266 := Fr.app N259 N266q
  refine own_st (g' := (mkF m 92 #[.val (.int x0), .val (.int x1), .val (.int x2), .val (.long x3), .second, .val (.int x5), .val (.int x6), .val (.int x7), .val (.int x8), .val (.ref x9), .unset, .unset, .unset, .unset, .unset, .unset, .unset] [])) (fun t k => st266.trans k) ?_
  refine own_st (g' := (mkF m 94 #[.val (.int x0), .val (.int x1), .val (.int x2), .val (.long x3), .second, .val (.int x5), .val (.int x6), .val (.int x7), .val (.int x8), .val (.ref x9), .unset, .unset, .unset, .unset, .unset, .unset, .unset] [(.int x7)])) (fun tt_ kk_ => XS.iload X266.here hx rfl (hb hby at_92) rfl kk_) ?_
  refine own_st (g' := (mkF m 95 #[.val (.int x0), .val (.int x1), .val (.int x2), .val (.long x3), .second, .val (.int x5), .val (.int x6), .val (.int x7), .val (.int x8), .val (.ref x9), .unset, .unset, .unset, .unset, .unset, .unset, .unset] [(.int (2 : Int32)), (.int x7)])) (fun tt_ kk_ => XS.iconst X266.here hx rfl (hb hby at_94) kk_) ?_
  by_cases hc95 : x7 < (2 : Int32)
  · skip
    refine own_st (g' := (mkF m 103 #[.val (.int x0), .val (.int x1), .val (.int x2), .val (.long x3), .second, .val (.int x5), .val (.int x6), .val (.int x7), .val (.int x8), .val (.ref x9), .unset, .unset, .unset, .unset, .unset, .unset, .unset] [])) (fun tt_ kk_ => XS.icmpYes X266.here hx rfl (pc0 := 95) (pc' := 103) rfl (hb hby at_95) rfl (tlt hc95).1 (by decide) (by decide) kk_) ?_
    have q267 : x7 = (1 : Int32) := by
      apply Int32.toInt_inj.mp
      have := hk2
      rw [own_lt32] at hc84
      rw [own_lt32] at hc95
      simp only [Int32.reduceToInt] at *
      omega
    exact own_t103 X266 hx hlk hby hml hret hown hZ hw e266 N266 Z266 (by omega) (by omega) x0 x1 x2 x3 x5 x6 x7 x8 x9 wm cm wn (x8 + (1 : Int32)) (x6.toInt64 + (1 : Int64)) (fun i => if i = (x8 + (1 : Int32)).toNatClampNeg then x6.toInt64 + (1 : Int64) else f i) TR266 (by rw [q267]) (by rw [q267]; exact fun i hi => own_f1 hk1 hg hf i (by have e : (1 : Int32).toInt = 1 := rfl; omega)) hk1 hk2 hg
  refine own_st (g' := (mkF m 98 #[.val (.int x0), .val (.int x1), .val (.int x2), .val (.long x3), .second, .val (.int x5), .val (.int x6), .val (.int x7), .val (.int x8), .val (.ref x9), .unset, .unset, .unset, .unset, .unset, .unset, .unset] [])) (fun tt_ kk_ => XS.icmpNo X266.here hx rfl (hb hby at_95) rfl (flt hc95).1 kk_) ?_
  refine own_st (g' := (mkF m 100 #[.val (.int x0), .val (.int x1), .val (.int x2), .val (.long x3), .second, .val (.int x5), .val (.int x6), .val (.int x7), .val (.int x8), .val (.ref x9), .unset, .unset, .unset, .unset, .unset, .unset, .unset] [(.ref x9)])) (fun tt_ kk_ => XS.aload X266.here hx rfl (hb hby at_98) rfl rfl kk_) ?_
  obtain ⟨cq268, kq268, q268a, q268b, q268c⟩ := isOf hZ e266 TR266.1
  obtain ⟨_, _, ⟨T268, L268, k268, n268⟩, -, X268, ⟨Lc268, hQ268, l268, y268, z268⟩, st268⟩ := X266.virtualBack hx (y := (⟨"com/example/propagule/propagule/Trail", "openWorld", "()V"⟩ : MethodName)) (z := (⟨"com/example/propagule/propagule/Trail", "openWorld", "()V"⟩ : MethodName)) hown (mvT hZ (hw _ (List.mem_of_getElem? (i := 75) rfl))) (mvT hZ (hw _ (List.mem_of_getElem? (i := 76) rfl))) (notFace_of_selects (args := #[]) (mvT hZ (hw _ (List.mem_of_getElem? (i := 78) rfl)))) (mvT hZ (hw _ (List.mem_of_getElem? (i := 78) rfl))) (mvT hZ (hw _ (List.mem_of_getElem? (i := 77) rfl))) (by decide) (backOf (W := 0) (own_rmopn l Z a0 hw [] x9 wm cm wn (x8 + (1 : Int32)) (x6.toInt64 + (1 : Int64)) (fun i => if i = (x8 + (1 : Int32)).toNatClampNeg then x6.toInt64 + (1 : Int64) else f i)  h266 n0 TR266 hb0 hb64) hZ (hw _ (List.mem_of_getElem? (i := 79) rfl)) (hw _ (List.mem_of_getElem? (i := 3) rfl)) (by decide) (by decide)) q268a q268c (g := (mkF m 100 #[.val (.int x0), .val (.int x1), .val (.int x2), .val (.long x3), .second, .val (.int x5), .val (.int x6), .val (.int x7), .val (.int x8), .val (.ref x9), .unset, .unset, .unset, .unset, .unset, .unset, .unset] [(.ref x9)])) rfl (by rw [hml]; rfl) (Steps.refl _) (argsL := []) (rest := []) (lenOf own_pd0 rfl) rfl (by show 2 * 0 + _ ≤ _; exact Nat.le_of_eq rfl) (hb hby at_100) (fun _ _ => ⟨rfl, e266, (show cells + 0 ≤ 32 by omega), (show slots + 0 ≤ 2176 by omega)⟩)
  dsimp only [Pt.U, Pt.locs, Pt.cells, Pt.slots] at X268 l268 y268 z268 st268 hQ268
  rw [l268, y268, z268] at X268
  obtain ⟨rfl, N268q, TR268⟩ := hQ268
  obtain ⟨h268, e268⟩ : ∃ z, T268.heap = z := ⟨_, rfl⟩
  rw [e268] at TR268
  have Z268 := own_Tr_sz TR268
  have N268 := Fr.app N266 N268q
  refine own_st (g' := (mkF m 103 #[.val (.int x0), .val (.int x1), .val (.int x2), .val (.long x3), .second, .val (.int x5), .val (.int x6), .val (.int x7), .val (.int x8), .val (.ref x9), .unset, .unset, .unset, .unset, .unset, .unset, .unset] [])) (fun t k => st268.trans k) ?_
  have q269 : x7 = (2 : Int32) := by
    apply Int32.toInt_inj.mp
    have := hk2
    rw [own_lt32] at hc84
    rw [own_lt32] at hc95
    simp only [Int32.reduceToInt] at *
    omega
  exact own_t103 X268 hx hlk hby hml hret hown hZ hw e268 N268 Z268 (by omega) (by omega) x0 x1 x2 x3 x5 x6 x7 x8 x9 wm cm wn ((x8 + (1 : Int32)) + (1 : Int32)) ((x6.toInt64 + (1 : Int64)) + (1 : Int64)) (fun i => if i = ((x8 + (1 : Int32)) + (1 : Int32)).toNatClampNeg then (x6.toInt64 + (1 : Int64)) + (1 : Int64) else (fun i => if i = (x8 + (1 : Int32)).toNatClampNeg then x6.toInt64 + (1 : Int64) else f i) i) TR268 (by rw [q269]; exact Int32.add_assoc _ _ _) (by rw [q269]; exact fun i hi => own_f2 hk1 hg hf i (by have e : (2 : Int32).toInt = 2 := rfl; omega)) hk1 hk2 hg
set_option maxRecDepth 65536 in
set_option maxHeartbeats 8000000 in
theorem own_t25 {p : Program} {l : Launch} {e : Env} {s : State} {m : MethodId} {args : Array Value} {below : List Frame} {meth : Method} {c : Code} {T : State} {locs : List Loc} {cells slots : Nat} {Z : State} {a0 : Array Value} {h0 : Heap} {n0 : Nat} (X0 : Stand p l e room_1 s m args below meth c T locs cells slots) (hx : p.tables.exec = Jvm.exec) (hlk : meth.locks = false) (hby : c.code = code) (hml : c.maxLocals = 17) (hret : meth.sig.returnType = some .boolean) (hown : s.vm.findClass "com/example/propagule/propagule/TrailIsOpenPinLaw" = some m.cls) (hZ : Z.Warmed39 s.vm) (hw : ∀ d ∈ tables_1, d.before a0 Z = true) (e0 : T.heap = h0) (N0 : Fr n0 locs) (Z0 : n0 ≤ h0.size) (hcc : cells ≤ 0) (hss : slots ≤ 0) (x0 : Int32) (x1 : Int32) (x2 : Int32) (x3 : Int64) (x5 : Int32) (x6 : Int32) (x7 : Int32) (x8 : Int32) (dA : Addr) (S_d : Sta Z h0 "java/util/ArrayList" "DEFAULTCAPACITY_EMPTY_ELEMENTDATA" "[Ljava/lang/Object;" (.ref dA)) (hk1 : 0 ≤ x6.toInt ∧ x6.toInt ≤ 3) (hk2 : 0 ≤ x7.toInt ∧ x7.toInt ≤ 2) (hg : 0 ≤ x8.toInt ∧ x8.toInt ≤ x6.toInt) :
    own_Go p e below s T (mkF m 25 #[.val (.int x0), .val (.int x1), .val (.int x2), .val (.long x3), .second, .val (.int x5), .val (.int x6), .val (.int x7), .val (.int x8), .unset, .unset, .unset, .unset, .unset, .unset, .unset, .unset] []) (own_Q0 n0) 32 2176 := by
  obtain ⟨T237, h237, X237, e237, E237, A237, D237, -, st237⟩ := newO X0 hx hZ hown (hw _ (List.mem_of_getElem? (i := 1) rfl)) (hw _ (List.mem_of_getElem? (i := 2) rfl)) (hw _ (List.mem_of_getElem? (i := 3) rfl)) e0 (g := (mkF m 25 #[.val (.int x0), .val (.int x1), .val (.int x2), .val (.long x3), .second, .val (.int x5), .val (.int x6), .val (.int x7), .val (.int x8), .unset, .unset, .unset, .unset, .unset, .unset, .unset, .unset] [])) rfl (hb hby at_25) (show cells + 1 ≤ 32 by omega) (show slots + 15 ≤ 2176 by omega)
  obtain ⟨b237, g237⟩ : ∃ z, z = h0.size := ⟨_, rfl⟩
  rw [← g237] at A237 D237 st237
  have gz237 : n0 ≤ b237 := Nat.le_trans Z0 (Nat.le_of_eq g237.symm)
  have Z237 : n0 ≤ h237.size := Nat.le_trans Z0 E237.1
  have F_ints_b237 : Fld Z h237 b237 "com/example/propagule/propagule/Trail" "ints" "[I" .null := D237 (Or.inl (hw _ (List.mem_of_getElem? (i := 36) rfl))) (ty := (.array .int)) (by decide)
  have F_longs_b237 : Fld Z h237 b237 "com/example/propagule/propagule/Trail" "longs" "[J" .null := D237 (Or.inl (hw _ (List.mem_of_getElem? (i := 39) rfl))) (ty := (.array .long)) (by decide)
  have F_ranges_b237 : Fld Z h237 b237 "com/example/propagule/propagule/Trail" "ranges" "[[I" .null := D237 (Or.inl (hw _ (List.mem_of_getElem? (i := 43) rfl))) (ty := (.array (.array .int))) (by decide)
  have F_cellOwners_b237 : Fld Z h237 b237 "com/example/propagule/propagule/Trail" "cellOwners" "[Lcom/example/propagule/propagule/ReversibleLongs;" .null := D237 (Or.inl (hw _ (List.mem_of_getElem? (i := 47) rfl))) (ty := (.array (.object "com/example/propagule/propagule/ReversibleLongs"))) (by decide)
  have F_cellIndexes_b237 : Fld Z h237 b237 "com/example/propagule/propagule/Trail" "cellIndexes" "[I" .null := D237 (Or.inl (hw _ (List.mem_of_getElem? (i := 49) rfl))) (ty := (.array .int)) (by decide)
  have F_cellValues_b237 : Fld Z h237 b237 "com/example/propagule/propagule/Trail" "cellValues" "[J" .null := D237 (Or.inl (hw _ (List.mem_of_getElem? (i := 51) rfl))) (ty := (.array .long)) (by decide)
  have F_cellStamps_b237 : Fld Z h237 b237 "com/example/propagule/propagule/Trail" "cellStamps" "[I" .null := D237 (Or.inl (hw _ (List.mem_of_getElem? (i := 53) rfl))) (ty := (.array .int)) (by decide)
  have F_worldMarks_b237 : Fld Z h237 b237 "com/example/propagule/propagule/Trail" "worldMarks" "[I" .null := D237 (Or.inl (hw _ (List.mem_of_getElem? (i := 55) rfl))) (ty := (.array .int)) (by decide)
  have F_cellMarks_b237 : Fld Z h237 b237 "com/example/propagule/propagule/Trail" "cellMarks" "[I" .null := D237 (Or.inl (hw _ (List.mem_of_getElem? (i := 57) rfl))) (ty := (.array .int)) (by decide)
  have F_worldNumbers_b237 : Fld Z h237 b237 "com/example/propagule/propagule/Trail" "worldNumbers" "[J" .null := D237 (Or.inl (hw _ (List.mem_of_getElem? (i := 59) rfl))) (ty := (.array .long)) (by decide)
  have F_variables_b237 : Fld Z h237 b237 "com/example/propagule/propagule/Trail" "variables" "Ljava/util/List;" .null := D237 (Or.inr (hw _ (List.mem_of_getElem? (i := 61) rfl))) (ty := (.object "java/util/List")) (by decide)
  have F_depth_b237 : Fld Z h237 b237 "com/example/propagule/propagule/Trail" "depth" "I" (.int (0 : Int32)) := D237 (Or.inl (hw _ (List.mem_of_getElem? (i := 68) rfl))) (ty := .int) (by decide)
  have F_entries_b237 : Fld Z h237 b237 "com/example/propagule/propagule/Trail" "entries" "I" (.int (0 : Int32)) := D237 (Or.inl (hw _ (List.mem_of_getElem? (i := 81) rfl))) (ty := .int) (by decide)
  have F_cellEntries_b237 : Fld Z h237 b237 "com/example/propagule/propagule/Trail" "cellEntries" "I" (.int (0 : Int32)) := D237 (Or.inl (hw _ (List.mem_of_getElem? (i := 83) rfl))) (ty := .int) (by decide)
  have F_worldsOpened_b237 : Fld Z h237 b237 "com/example/propagule/propagule/Trail" "worldsOpened" "J" (.long (0 : Int64)) := D237 (Or.inl (hw _ (List.mem_of_getElem? (i := 85) rfl))) (ty := .long) (by decide)
  refine own_st (g' := (mkF m 28 #[.val (.int x0), .val (.int x1), .val (.int x2), .val (.long x3), .second, .val (.int x5), .val (.int x6), .val (.int x7), .val (.int x8), .unset, .unset, .unset, .unset, .unset, .unset, .unset, .unset] [(.ref b237)])) st237 ?_
  refine own_st (g' := (mkF m 29 #[.val (.int x0), .val (.int x1), .val (.int x2), .val (.long x3), .second, .val (.int x5), .val (.int x6), .val (.int x7), .val (.int x8), .unset, .unset, .unset, .unset, .unset, .unset, .unset, .unset] [(.ref b237), (.ref b237)])) (fun tt_ kk_ => XS.dup X237.here hx rfl (hb hby at_28) rfl rfl kk_) ?_
  obtain ⟨T238, h238, X238, e238, E238, A238, D238, -, st238⟩ := newO X237 hx hZ hown (hw _ (List.mem_of_getElem? (i := 4) rfl)) (hw _ (List.mem_of_getElem? (i := 5) rfl)) (hw _ (List.mem_of_getElem? (i := 6) rfl)) e237 (g := (mkF m 29 #[.val (.int x0), .val (.int x1), .val (.int x2), .val (.long x3), .second, .val (.int x5), .val (.int x6), .val (.int x7), .val (.int x8), .unset, .unset, .unset, .unset, .unset, .unset, .unset, .unset] [(.ref b237), (.ref b237)])) rfl (hb hby at_29) (show cells + 1 + 1 ≤ 32 by omega) (show slots + 15 + 3 ≤ 2176 by omega)
  obtain ⟨b238, g238⟩ : ∃ z, z = h237.size := ⟨_, rfl⟩
  rw [← g238] at A238 D238 st238
  have ne239 : b237 ≠ b238 := Nat.ne_of_lt (Nat.lt_of_lt_of_le A237.lt (Nat.le_of_eq g238.symm))
  have gz238 : n0 ≤ b238 := Nat.le_trans Z237 (Nat.le_of_eq g238.symm)
  have Z238 : n0 ≤ h238.size := Nat.le_trans Z237 E238.1
  have F_modCount_b238 : Fld Z h238 b238 "java/util/AbstractList" "modCount" "I" (.int (0 : Int32)) := D238 (Or.inl (hw _ (List.mem_of_getElem? (i := 26) rfl))) (ty := .int) (by decide)
  have F_elementData_b238 : Fld Z h238 b238 "java/util/ArrayList" "elementData" "[Ljava/lang/Object;" .null := D238 (Or.inl (hw _ (List.mem_of_getElem? (i := 29) rfl))) (ty := (.array (.object "java/lang/Object"))) (by decide)
  refine own_st (g' := (mkF m 32 #[.val (.int x0), .val (.int x1), .val (.int x2), .val (.long x3), .second, .val (.int x5), .val (.int x6), .val (.int x7), .val (.int x8), .unset, .unset, .unset, .unset, .unset, .unset, .unset, .unset] [(.ref b238), (.ref b237), (.ref b237)])) st238 ?_
  refine own_st (g' := (mkF m 33 #[.val (.int x0), .val (.int x1), .val (.int x2), .val (.long x3), .second, .val (.int x5), .val (.int x6), .val (.int x7), .val (.int x8), .unset, .unset, .unset, .unset, .unset, .unset, .unset, .unset] [(.ref b238), (.ref b238), (.ref b237), (.ref b237)])) (fun tt_ kk_ => XS.dup X238.here hx rfl (hb hby at_32) rfl rfl kk_) ?_
  have F240 := ((S_d.ext E237).ext E238)
  obtain ⟨_, _, ⟨T241, L241, k241, n241⟩, -, X241, ⟨Lc241, hQ241, l241, y241, z241⟩, st241⟩ := X238.specialBack hx (y := (⟨"java/util/ArrayList", "<init>", "()V"⟩ : MethodName)) rfl hown (mvT hZ (hw _ (List.mem_of_getElem? (i := 7) rfl))) (mvT hZ (hw _ (List.mem_of_getElem? (i := 8) rfl))) (mvT hZ (hw _ (List.mem_of_getElem? (i := 9) rfl))) (by decide) (backOf (W := 3) (own_rmarl l Z a0 hw [] b238 dA h238 n0 Z238 A238 F_modCount_b238 F_elementData_b238 F240 gz238) hZ (hw _ (List.mem_of_getElem? (i := 9) rfl)) (hw _ (List.mem_of_getElem? (i := 6) rfl)) (by decide) (by decide)) (g := (mkF m 33 #[.val (.int x0), .val (.int x1), .val (.int x2), .val (.long x3), .second, .val (.int x5), .val (.int x6), .val (.int x7), .val (.int x8), .unset, .unset, .unset, .unset, .unset, .unset, .unset, .unset] [(.ref b238), (.ref b238), (.ref b237), (.ref b237)])) rfl (by rw [hml]; rfl) (Steps.refl _) (a := b238) (argsL := []) (rest := [(.ref b238), (.ref b237), (.ref b237)]) (lenOf own_pd0 rfl) rfl (by show 2 * 0 + _ ≤ _; exact Nat.le_of_eq rfl) (hb hby at_33) (fun _ _ => ⟨rfl, e238, (show cells + 1 + 1 + 0 ≤ 32 by omega), (show slots + 15 + 3 + 0 ≤ 2176 by omega)⟩)
  dsimp only [Pt.U, Pt.locs, Pt.cells, Pt.slots] at X241 l241 y241 z241 st241 hQ241
  rw [l241, y241, z241] at X241
  obtain ⟨rfl, N241q, K241q⟩ := hQ241
  obtain ⟨h241, e241⟩ : ∃ z, T241.heap = z := ⟨_, rfl⟩
  rw [e241] at K241q
  have Z241 : n0 ≤ h241.size := Nat.le_trans Z238 K241q.1
  have N241 := Fr.app N0 N241q
  refine own_st (g' := (mkF m 36 #[.val (.int x0), .val (.int x1), .val (.int x2), .val (.long x3), .second, .val (.int x5), .val (.int x6), .val (.int x7), .val (.int x8), .unset, .unset, .unset, .unset, .unset, .unset, .unset, .unset] [(.ref b238), (.ref b237), (.ref b237)])) (fun t k => st241.trans k) ?_
  have F242 := ((A237.ext E238).keep K241q)
  have F243 := ((F_ints_b237.ext E238).keep K241q (ninS ne239 nin0))
  have F244 := ((F_longs_b237.ext E238).keep K241q (ninS ne239 nin0))
  have F245 := ((F_ranges_b237.ext E238).keep K241q (ninS ne239 nin0))
  have F246 := ((F_cellOwners_b237.ext E238).keep K241q (ninS ne239 nin0))
  have F247 := ((F_cellIndexes_b237.ext E238).keep K241q (ninS ne239 nin0))
  have F248 := ((F_cellValues_b237.ext E238).keep K241q (ninS ne239 nin0))
  have F249 := ((F_cellStamps_b237.ext E238).keep K241q (ninS ne239 nin0))
  have F250 := ((F_worldMarks_b237.ext E238).keep K241q (ninS ne239 nin0))
  have F251 := ((F_cellMarks_b237.ext E238).keep K241q (ninS ne239 nin0))
  have F252 := ((F_worldNumbers_b237.ext E238).keep K241q (ninS ne239 nin0))
  have F253 := ((F_variables_b237.ext E238).keep K241q (ninS ne239 nin0))
  have F254 := ((F_depth_b237.ext E238).keep K241q (ninS ne239 nin0))
  have F255 := ((F_entries_b237.ext E238).keep K241q (ninS ne239 nin0))
  have F256 := ((F_cellEntries_b237.ext E238).keep K241q (ninS ne239 nin0))
  have F257 := ((F_worldsOpened_b237.ext E238).keep K241q (ninS ne239 nin0))
  obtain ⟨_, _, ⟨T258, L258, k258, n258⟩, -, X258, ⟨Lc258, hQ258, l258, y258, z258⟩, st258⟩ := X241.specialBack hx (y := (⟨"com/example/propagule/propagule/Trail", "<init>", "(Ljava/util/List;)V"⟩ : MethodName)) rfl hown (mvT hZ (hw _ (List.mem_of_getElem? (i := 30) rfl))) (mvT hZ (hw _ (List.mem_of_getElem? (i := 31) rfl))) (mvT hZ (hw _ (List.mem_of_getElem? (i := 32) rfl))) (by decide) (backOf (W := 1) (own_rmtri l Z a0 hw [] b237 b238 h241 n0 Z241 F242 F243 F244 F245 F246 F247 F248 F249 F250 F251 F252 F253 F254 F255 F256 F257 gz237) hZ (hw _ (List.mem_of_getElem? (i := 32) rfl)) (hw _ (List.mem_of_getElem? (i := 3) rfl)) (by decide) (by decide)) (g := (mkF m 36 #[.val (.int x0), .val (.int x1), .val (.int x2), .val (.long x3), .second, .val (.int x5), .val (.int x6), .val (.int x7), .val (.int x8), .unset, .unset, .unset, .unset, .unset, .unset, .unset, .unset] [(.ref b238), (.ref b237), (.ref b237)])) rfl (by rw [hml]; rfl) (Steps.refl _) (a := b237) (argsL := [(.ref b238)]) (rest := [(.ref b237)]) (lenOf own_pd1 rfl) rfl (by show 2 * 0 + _ ≤ _; exact Nat.le_of_eq rfl) (hb hby at_36) (fun _ _ => ⟨rfl, e241, (show cells + 1 + 1 + 10 ≤ 32 by omega), (show slots + 15 + 3 + 1025 ≤ 2176 by omega)⟩)
  dsimp only [Pt.U, Pt.locs, Pt.cells, Pt.slots] at X258 l258 y258 z258 st258 hQ258
  rw [l258, y258, z258] at X258
  obtain ⟨rfl, N258q, wm, cm, wn, TR258⟩ := hQ258
  obtain ⟨h258, e258⟩ : ∃ z, T258.heap = z := ⟨_, rfl⟩
  rw [e258] at TR258
  have N258 := Fr.app N241 N258q
  have Z258 := own_Tr_sz TR258
  refine own_st (g' := (mkF m 39 #[.val (.int x0), .val (.int x1), .val (.int x2), .val (.long x3), .second, .val (.int x5), .val (.int x6), .val (.int x7), .val (.int x8), .unset, .unset, .unset, .unset, .unset, .unset, .unset, .unset] [(.ref b237)])) (fun t k => st258.trans k) ?_
  refine own_st (g' := (mkF m 41 #[.val (.int x0), .val (.int x1), .val (.int x2), .val (.long x3), .second, .val (.int x5), .val (.int x6), .val (.int x7), .val (.int x8), .val (.ref b237), .unset, .unset, .unset, .unset, .unset, .unset, .unset] [])) (fun tt_ kk_ => XS.astore X258.here hx rfl (hb hby at_39) rfl rfl (l' := #[.val (.int x0), .val (.int x1), .val (.int x2), .val (.long x3), .second, .val (.int x5), .val (.int x6), .val (.int x7), .val (.int x8), .val (.ref b237), .unset, .unset, .unset, .unset, .unset, .unset, .unset]) rfl kk_) ?_
  refine own_st (g' := (mkF m 43 #[.val (.int x0), .val (.int x1), .val (.int x2), .val (.long x3), .second, .val (.int x5), .val (.int x6), .val (.int x7), .val (.int x8), .val (.ref b237), .unset, .unset, .unset, .unset, .unset, .unset, .unset] [(.int x6)])) (fun tt_ kk_ => XS.iload X258.here hx rfl (hb hby at_41) rfl kk_) ?_
  refine own_st (g' := (mkF m 44 #[.val (.int x0), .val (.int x1), .val (.int x2), .val (.long x3), .second, .val (.int x5), .val (.int x6), .val (.int x7), .val (.int x8), .val (.ref b237), .unset, .unset, .unset, .unset, .unset, .unset, .unset] [(.int (1 : Int32)), (.int x6)])) (fun tt_ kk_ => XS.iconst X258.here hx rfl (hb hby at_43) kk_) ?_
  by_cases hc44 : x6 < (1 : Int32)
  · skip
    refine own_st (g' := (mkF m 52 #[.val (.int x0), .val (.int x1), .val (.int x2), .val (.long x3), .second, .val (.int x5), .val (.int x6), .val (.int x7), .val (.int x8), .val (.ref b237), .unset, .unset, .unset, .unset, .unset, .unset, .unset] [])) (fun tt_ kk_ => XS.icmpYes X258.here hx rfl (pc0 := 44) (pc' := 52) rfl (hb hby at_44) rfl (tlt hc44).1 (by decide) (by decide) kk_) ?_
    refine own_st (g' := (mkF m 54 #[.val (.int x0), .val (.int x1), .val (.int x2), .val (.long x3), .second, .val (.int x5), .val (.int x6), .val (.int x7), .val (.int x8), .val (.ref b237), .unset, .unset, .unset, .unset, .unset, .unset, .unset] [(.int x6)])) (fun tt_ kk_ => XS.iload X258.here hx rfl (hb hby at_52) rfl kk_) ?_
    refine own_st (g' := (mkF m 55 #[.val (.int x0), .val (.int x1), .val (.int x2), .val (.long x3), .second, .val (.int x5), .val (.int x6), .val (.int x7), .val (.int x8), .val (.ref b237), .unset, .unset, .unset, .unset, .unset, .unset, .unset] [(.int (2 : Int32)), (.int x6)])) (fun tt_ kk_ => XS.iconst X258.here hx rfl (hb hby at_54) kk_) ?_
    refine own_st (g' := (mkF m 63 #[.val (.int x0), .val (.int x1), .val (.int x2), .val (.long x3), .second, .val (.int x5), .val (.int x6), .val (.int x7), .val (.int x8), .val (.ref b237), .unset, .unset, .unset, .unset, .unset, .unset, .unset] [])) (fun tt_ kk_ => XS.icmpYes X258.here hx rfl (pc0 := 55) (pc' := 63) rfl (hb hby at_55) rfl (tlt (own_up hc44 (by decide))).1 (by decide) (by decide) kk_) ?_
    refine own_st (g' := (mkF m 65 #[.val (.int x0), .val (.int x1), .val (.int x2), .val (.long x3), .second, .val (.int x5), .val (.int x6), .val (.int x7), .val (.int x8), .val (.ref b237), .unset, .unset, .unset, .unset, .unset, .unset, .unset] [(.int x6)])) (fun tt_ kk_ => XS.iload X258.here hx rfl (hb hby at_63) rfl kk_) ?_
    refine own_st (g' := (mkF m 66 #[.val (.int x0), .val (.int x1), .val (.int x2), .val (.long x3), .second, .val (.int x5), .val (.int x6), .val (.int x7), .val (.int x8), .val (.ref b237), .unset, .unset, .unset, .unset, .unset, .unset, .unset] [(.int (3 : Int32)), (.int x6)])) (fun tt_ kk_ => XS.iconst X258.here hx rfl (hb hby at_65) kk_) ?_
    refine own_st (g' := (mkF m 74 #[.val (.int x0), .val (.int x1), .val (.int x2), .val (.long x3), .second, .val (.int x5), .val (.int x6), .val (.int x7), .val (.int x8), .val (.ref b237), .unset, .unset, .unset, .unset, .unset, .unset, .unset] [])) (fun tt_ kk_ => XS.icmpYes X258.here hx rfl (pc0 := 66) (pc' := 74) rfl (hb hby at_66) rfl (tlt (own_up hc44 (by decide))).1 (by decide) (by decide) kk_) ?_
    have q270 : x6 = (0 : Int32) := by
      apply Int32.toInt_inj.mp
      have := hk1
      rw [own_lt32] at hc44
      simp only [Int32.reduceToInt] at *
      omega
    exact own_t74 X258 hx hlk hby hml hret hown hZ hw e258 N258 Z258 (by omega) (by omega) x0 x1 x2 x3 x5 x6 x7 x8 b237 wm cm wn (0 : Int32) (0 : Int64) (fun _ => 0) TR258 (by rw [q270] <;> rfl) (by rw [q270] <;> rfl) (by rw [q270]; exact own_hf0) hk1 hk2 hg
  refine own_st (g' := (mkF m 47 #[.val (.int x0), .val (.int x1), .val (.int x2), .val (.long x3), .second, .val (.int x5), .val (.int x6), .val (.int x7), .val (.int x8), .val (.ref b237), .unset, .unset, .unset, .unset, .unset, .unset, .unset] [])) (fun tt_ kk_ => XS.icmpNo X258.here hx rfl (hb hby at_44) rfl (flt hc44).1 kk_) ?_
  refine own_st (g' := (mkF m 49 #[.val (.int x0), .val (.int x1), .val (.int x2), .val (.long x3), .second, .val (.int x5), .val (.int x6), .val (.int x7), .val (.int x8), .val (.ref b237), .unset, .unset, .unset, .unset, .unset, .unset, .unset] [(.ref b237)])) (fun tt_ kk_ => XS.aload X258.here hx rfl (hb hby at_47) rfl rfl kk_) ?_
  obtain ⟨cq271, kq271, q271a, q271b, q271c⟩ := isOf hZ e258 TR258.1
  obtain ⟨_, _, ⟨T271, L271, k271, n271⟩, -, X271, ⟨Lc271, hQ271, l271, y271, z271⟩, st271⟩ := X258.virtualBack hx (y := (⟨"com/example/propagule/propagule/Trail", "openWorld", "()V"⟩ : MethodName)) (z := (⟨"com/example/propagule/propagule/Trail", "openWorld", "()V"⟩ : MethodName)) hown (mvT hZ (hw _ (List.mem_of_getElem? (i := 75) rfl))) (mvT hZ (hw _ (List.mem_of_getElem? (i := 76) rfl))) (notFace_of_selects (args := #[]) (mvT hZ (hw _ (List.mem_of_getElem? (i := 78) rfl)))) (mvT hZ (hw _ (List.mem_of_getElem? (i := 78) rfl))) (mvT hZ (hw _ (List.mem_of_getElem? (i := 77) rfl))) (by decide) (backOf (W := 0) (own_rmopn l Z a0 hw [] b237 wm cm wn (0 : Int32) (0 : Int64) (fun _ => 0)  h258 n0 TR258 (by decide) (by decide)) hZ (hw _ (List.mem_of_getElem? (i := 79) rfl)) (hw _ (List.mem_of_getElem? (i := 3) rfl)) (by decide) (by decide)) q271a q271c (g := (mkF m 49 #[.val (.int x0), .val (.int x1), .val (.int x2), .val (.long x3), .second, .val (.int x5), .val (.int x6), .val (.int x7), .val (.int x8), .val (.ref b237), .unset, .unset, .unset, .unset, .unset, .unset, .unset] [(.ref b237)])) rfl (by rw [hml]; rfl) (Steps.refl _) (argsL := []) (rest := []) (lenOf own_pd0 rfl) rfl (by show 2 * 0 + _ ≤ _; exact Nat.le_of_eq rfl) (hb hby at_49) (fun _ _ => ⟨rfl, e258, (show cells + 1 + 1 + 10 + 0 ≤ 32 by omega), (show slots + 15 + 3 + 1025 + 0 ≤ 2176 by omega)⟩)
  dsimp only [Pt.U, Pt.locs, Pt.cells, Pt.slots] at X271 l271 y271 z271 st271 hQ271
  rw [l271, y271, z271] at X271
  obtain ⟨rfl, N271q, TR271⟩ := hQ271
  obtain ⟨h271, e271⟩ : ∃ z, T271.heap = z := ⟨_, rfl⟩
  rw [e271] at TR271
  have Z271 := own_Tr_sz TR271
  have N271 := Fr.app N258 N271q
  refine own_st (g' := (mkF m 52 #[.val (.int x0), .val (.int x1), .val (.int x2), .val (.long x3), .second, .val (.int x5), .val (.int x6), .val (.int x7), .val (.int x8), .val (.ref b237), .unset, .unset, .unset, .unset, .unset, .unset, .unset] [])) (fun t k => st271.trans k) ?_
  refine own_st (g' := (mkF m 54 #[.val (.int x0), .val (.int x1), .val (.int x2), .val (.long x3), .second, .val (.int x5), .val (.int x6), .val (.int x7), .val (.int x8), .val (.ref b237), .unset, .unset, .unset, .unset, .unset, .unset, .unset] [(.int x6)])) (fun tt_ kk_ => XS.iload X271.here hx rfl (hb hby at_52) rfl kk_) ?_
  refine own_st (g' := (mkF m 55 #[.val (.int x0), .val (.int x1), .val (.int x2), .val (.long x3), .second, .val (.int x5), .val (.int x6), .val (.int x7), .val (.int x8), .val (.ref b237), .unset, .unset, .unset, .unset, .unset, .unset, .unset] [(.int (2 : Int32)), (.int x6)])) (fun tt_ kk_ => XS.iconst X271.here hx rfl (hb hby at_54) kk_) ?_
  by_cases hc55 : x6 < (2 : Int32)
  · skip
    refine own_st (g' := (mkF m 63 #[.val (.int x0), .val (.int x1), .val (.int x2), .val (.long x3), .second, .val (.int x5), .val (.int x6), .val (.int x7), .val (.int x8), .val (.ref b237), .unset, .unset, .unset, .unset, .unset, .unset, .unset] [])) (fun tt_ kk_ => XS.icmpYes X271.here hx rfl (pc0 := 55) (pc' := 63) rfl (hb hby at_55) rfl (tlt hc55).1 (by decide) (by decide) kk_) ?_
    refine own_st (g' := (mkF m 65 #[.val (.int x0), .val (.int x1), .val (.int x2), .val (.long x3), .second, .val (.int x5), .val (.int x6), .val (.int x7), .val (.int x8), .val (.ref b237), .unset, .unset, .unset, .unset, .unset, .unset, .unset] [(.int x6)])) (fun tt_ kk_ => XS.iload X271.here hx rfl (hb hby at_63) rfl kk_) ?_
    refine own_st (g' := (mkF m 66 #[.val (.int x0), .val (.int x1), .val (.int x2), .val (.long x3), .second, .val (.int x5), .val (.int x6), .val (.int x7), .val (.int x8), .val (.ref b237), .unset, .unset, .unset, .unset, .unset, .unset, .unset] [(.int (3 : Int32)), (.int x6)])) (fun tt_ kk_ => XS.iconst X271.here hx rfl (hb hby at_65) kk_) ?_
    refine own_st (g' := (mkF m 74 #[.val (.int x0), .val (.int x1), .val (.int x2), .val (.long x3), .second, .val (.int x5), .val (.int x6), .val (.int x7), .val (.int x8), .val (.ref b237), .unset, .unset, .unset, .unset, .unset, .unset, .unset] [])) (fun tt_ kk_ => XS.icmpYes X271.here hx rfl (pc0 := 66) (pc' := 74) rfl (hb hby at_66) rfl (tlt (own_up hc55 (by decide))).1 (by decide) (by decide) kk_) ?_
    have q272 : x6 = (1 : Int32) := by
      apply Int32.toInt_inj.mp
      have := hk1
      rw [own_lt32] at hc44
      rw [own_lt32] at hc55
      simp only [Int32.reduceToInt] at *
      omega
    exact own_t74 X271 hx hlk hby hml hret hown hZ hw e271 N271 Z271 (by omega) (by omega) x0 x1 x2 x3 x5 x6 x7 x8 b237 wm cm wn ((0 : Int32) + (1 : Int32)) ((0 : Int64) + (1 : Int64)) (fun i => if i = ((0 : Int32) + (1 : Int32)).toNatClampNeg then (0 : Int64) + (1 : Int64) else (fun _ => 0) i) TR271 (by rw [q272] <;> rfl) (by rw [q272] <;> rfl) (by rw [q272]; exact own_hf1) hk1 hk2 hg
  refine own_st (g' := (mkF m 58 #[.val (.int x0), .val (.int x1), .val (.int x2), .val (.long x3), .second, .val (.int x5), .val (.int x6), .val (.int x7), .val (.int x8), .val (.ref b237), .unset, .unset, .unset, .unset, .unset, .unset, .unset] [])) (fun tt_ kk_ => XS.icmpNo X271.here hx rfl (hb hby at_55) rfl (flt hc55).1 kk_) ?_
  refine own_st (g' := (mkF m 60 #[.val (.int x0), .val (.int x1), .val (.int x2), .val (.long x3), .second, .val (.int x5), .val (.int x6), .val (.int x7), .val (.int x8), .val (.ref b237), .unset, .unset, .unset, .unset, .unset, .unset, .unset] [(.ref b237)])) (fun tt_ kk_ => XS.aload X271.here hx rfl (hb hby at_58) rfl rfl kk_) ?_
  obtain ⟨cq273, kq273, q273a, q273b, q273c⟩ := isOf hZ e271 TR271.1
  obtain ⟨_, _, ⟨T273, L273, k273, n273⟩, -, X273, ⟨Lc273, hQ273, l273, y273, z273⟩, st273⟩ := X271.virtualBack hx (y := (⟨"com/example/propagule/propagule/Trail", "openWorld", "()V"⟩ : MethodName)) (z := (⟨"com/example/propagule/propagule/Trail", "openWorld", "()V"⟩ : MethodName)) hown (mvT hZ (hw _ (List.mem_of_getElem? (i := 75) rfl))) (mvT hZ (hw _ (List.mem_of_getElem? (i := 76) rfl))) (notFace_of_selects (args := #[]) (mvT hZ (hw _ (List.mem_of_getElem? (i := 78) rfl)))) (mvT hZ (hw _ (List.mem_of_getElem? (i := 78) rfl))) (mvT hZ (hw _ (List.mem_of_getElem? (i := 77) rfl))) (by decide) (backOf (W := 0) (own_rmopn l Z a0 hw [] b237 wm cm wn ((0 : Int32) + (1 : Int32)) ((0 : Int64) + (1 : Int64)) (fun i => if i = ((0 : Int32) + (1 : Int32)).toNatClampNeg then (0 : Int64) + (1 : Int64) else (fun _ => 0) i)  h271 n0 TR271 (by decide) (by decide)) hZ (hw _ (List.mem_of_getElem? (i := 79) rfl)) (hw _ (List.mem_of_getElem? (i := 3) rfl)) (by decide) (by decide)) q273a q273c (g := (mkF m 60 #[.val (.int x0), .val (.int x1), .val (.int x2), .val (.long x3), .second, .val (.int x5), .val (.int x6), .val (.int x7), .val (.int x8), .val (.ref b237), .unset, .unset, .unset, .unset, .unset, .unset, .unset] [(.ref b237)])) rfl (by rw [hml]; rfl) (Steps.refl _) (argsL := []) (rest := []) (lenOf own_pd0 rfl) rfl (by show 2 * 0 + _ ≤ _; exact Nat.le_of_eq rfl) (hb hby at_60) (fun _ _ => ⟨rfl, e271, (show cells + 1 + 1 + 10 + 0 ≤ 32 by omega), (show slots + 15 + 3 + 1025 + 0 ≤ 2176 by omega)⟩)
  dsimp only [Pt.U, Pt.locs, Pt.cells, Pt.slots] at X273 l273 y273 z273 st273 hQ273
  rw [l273, y273, z273] at X273
  obtain ⟨rfl, N273q, TR273⟩ := hQ273
  obtain ⟨h273, e273⟩ : ∃ z, T273.heap = z := ⟨_, rfl⟩
  rw [e273] at TR273
  have Z273 := own_Tr_sz TR273
  have N273 := Fr.app N271 N273q
  refine own_st (g' := (mkF m 63 #[.val (.int x0), .val (.int x1), .val (.int x2), .val (.long x3), .second, .val (.int x5), .val (.int x6), .val (.int x7), .val (.int x8), .val (.ref b237), .unset, .unset, .unset, .unset, .unset, .unset, .unset] [])) (fun t k => st273.trans k) ?_
  refine own_st (g' := (mkF m 65 #[.val (.int x0), .val (.int x1), .val (.int x2), .val (.long x3), .second, .val (.int x5), .val (.int x6), .val (.int x7), .val (.int x8), .val (.ref b237), .unset, .unset, .unset, .unset, .unset, .unset, .unset] [(.int x6)])) (fun tt_ kk_ => XS.iload X273.here hx rfl (hb hby at_63) rfl kk_) ?_
  refine own_st (g' := (mkF m 66 #[.val (.int x0), .val (.int x1), .val (.int x2), .val (.long x3), .second, .val (.int x5), .val (.int x6), .val (.int x7), .val (.int x8), .val (.ref b237), .unset, .unset, .unset, .unset, .unset, .unset, .unset] [(.int (3 : Int32)), (.int x6)])) (fun tt_ kk_ => XS.iconst X273.here hx rfl (hb hby at_65) kk_) ?_
  by_cases hc66 : x6 < (3 : Int32)
  · skip
    refine own_st (g' := (mkF m 74 #[.val (.int x0), .val (.int x1), .val (.int x2), .val (.long x3), .second, .val (.int x5), .val (.int x6), .val (.int x7), .val (.int x8), .val (.ref b237), .unset, .unset, .unset, .unset, .unset, .unset, .unset] [])) (fun tt_ kk_ => XS.icmpYes X273.here hx rfl (pc0 := 66) (pc' := 74) rfl (hb hby at_66) rfl (tlt hc66).1 (by decide) (by decide) kk_) ?_
    have q274 : x6 = (2 : Int32) := by
      apply Int32.toInt_inj.mp
      have := hk1
      rw [own_lt32] at hc44
      rw [own_lt32] at hc55
      rw [own_lt32] at hc66
      simp only [Int32.reduceToInt] at *
      omega
    exact own_t74 X273 hx hlk hby hml hret hown hZ hw e273 N273 Z273 (by omega) (by omega) x0 x1 x2 x3 x5 x6 x7 x8 b237 wm cm wn (((0 : Int32) + (1 : Int32)) + (1 : Int32)) (((0 : Int64) + (1 : Int64)) + (1 : Int64)) (fun i => if i = (((0 : Int32) + (1 : Int32)) + (1 : Int32)).toNatClampNeg then ((0 : Int64) + (1 : Int64)) + (1 : Int64) else (fun i => if i = ((0 : Int32) + (1 : Int32)).toNatClampNeg then (0 : Int64) + (1 : Int64) else (fun _ => 0) i) i) TR273 (by rw [q274] <;> rfl) (by rw [q274] <;> rfl) (by rw [q274]; exact own_hf2) hk1 hk2 hg
  refine own_st (g' := (mkF m 69 #[.val (.int x0), .val (.int x1), .val (.int x2), .val (.long x3), .second, .val (.int x5), .val (.int x6), .val (.int x7), .val (.int x8), .val (.ref b237), .unset, .unset, .unset, .unset, .unset, .unset, .unset] [])) (fun tt_ kk_ => XS.icmpNo X273.here hx rfl (hb hby at_66) rfl (flt hc66).1 kk_) ?_
  refine own_st (g' := (mkF m 71 #[.val (.int x0), .val (.int x1), .val (.int x2), .val (.long x3), .second, .val (.int x5), .val (.int x6), .val (.int x7), .val (.int x8), .val (.ref b237), .unset, .unset, .unset, .unset, .unset, .unset, .unset] [(.ref b237)])) (fun tt_ kk_ => XS.aload X273.here hx rfl (hb hby at_69) rfl rfl kk_) ?_
  obtain ⟨cq275, kq275, q275a, q275b, q275c⟩ := isOf hZ e273 TR273.1
  obtain ⟨_, _, ⟨T275, L275, k275, n275⟩, -, X275, ⟨Lc275, hQ275, l275, y275, z275⟩, st275⟩ := X273.virtualBack hx (y := (⟨"com/example/propagule/propagule/Trail", "openWorld", "()V"⟩ : MethodName)) (z := (⟨"com/example/propagule/propagule/Trail", "openWorld", "()V"⟩ : MethodName)) hown (mvT hZ (hw _ (List.mem_of_getElem? (i := 75) rfl))) (mvT hZ (hw _ (List.mem_of_getElem? (i := 76) rfl))) (notFace_of_selects (args := #[]) (mvT hZ (hw _ (List.mem_of_getElem? (i := 78) rfl)))) (mvT hZ (hw _ (List.mem_of_getElem? (i := 78) rfl))) (mvT hZ (hw _ (List.mem_of_getElem? (i := 77) rfl))) (by decide) (backOf (W := 0) (own_rmopn l Z a0 hw [] b237 wm cm wn (((0 : Int32) + (1 : Int32)) + (1 : Int32)) (((0 : Int64) + (1 : Int64)) + (1 : Int64)) (fun i => if i = (((0 : Int32) + (1 : Int32)) + (1 : Int32)).toNatClampNeg then ((0 : Int64) + (1 : Int64)) + (1 : Int64) else (fun i => if i = ((0 : Int32) + (1 : Int32)).toNatClampNeg then (0 : Int64) + (1 : Int64) else (fun _ => 0) i) i)  h273 n0 TR273 (by decide) (by decide)) hZ (hw _ (List.mem_of_getElem? (i := 79) rfl)) (hw _ (List.mem_of_getElem? (i := 3) rfl)) (by decide) (by decide)) q275a q275c (g := (mkF m 71 #[.val (.int x0), .val (.int x1), .val (.int x2), .val (.long x3), .second, .val (.int x5), .val (.int x6), .val (.int x7), .val (.int x8), .val (.ref b237), .unset, .unset, .unset, .unset, .unset, .unset, .unset] [(.ref b237)])) rfl (by rw [hml]; rfl) (Steps.refl _) (argsL := []) (rest := []) (lenOf own_pd0 rfl) rfl (by show 2 * 0 + _ ≤ _; exact Nat.le_of_eq rfl) (hb hby at_71) (fun _ _ => ⟨rfl, e273, (show cells + 1 + 1 + 10 + 0 ≤ 32 by omega), (show slots + 15 + 3 + 1025 + 0 ≤ 2176 by omega)⟩)
  dsimp only [Pt.U, Pt.locs, Pt.cells, Pt.slots] at X275 l275 y275 z275 st275 hQ275
  rw [l275, y275, z275] at X275
  obtain ⟨rfl, N275q, TR275⟩ := hQ275
  obtain ⟨h275, e275⟩ : ∃ z, T275.heap = z := ⟨_, rfl⟩
  rw [e275] at TR275
  have Z275 := own_Tr_sz TR275
  have N275 := Fr.app N273 N275q
  refine own_st (g' := (mkF m 74 #[.val (.int x0), .val (.int x1), .val (.int x2), .val (.long x3), .second, .val (.int x5), .val (.int x6), .val (.int x7), .val (.int x8), .val (.ref b237), .unset, .unset, .unset, .unset, .unset, .unset, .unset] [])) (fun t k => st275.trans k) ?_
  have q276 : x6 = (3 : Int32) := by
    apply Int32.toInt_inj.mp
    have := hk1
    rw [own_lt32] at hc44
    rw [own_lt32] at hc55
    rw [own_lt32] at hc66
    simp only [Int32.reduceToInt] at *
    omega
  exact own_t74 X275 hx hlk hby hml hret hown hZ hw e275 N275 Z275 (by omega) (by omega) x0 x1 x2 x3 x5 x6 x7 x8 b237 wm cm wn ((((0 : Int32) + (1 : Int32)) + (1 : Int32)) + (1 : Int32)) ((((0 : Int64) + (1 : Int64)) + (1 : Int64)) + (1 : Int64)) (fun i => if i = ((((0 : Int32) + (1 : Int32)) + (1 : Int32)) + (1 : Int32)).toNatClampNeg then (((0 : Int64) + (1 : Int64)) + (1 : Int64)) + (1 : Int64) else (fun i => if i = (((0 : Int32) + (1 : Int32)) + (1 : Int32)).toNatClampNeg then ((0 : Int64) + (1 : Int64)) + (1 : Int64) else (fun i => if i = ((0 : Int32) + (1 : Int32)).toNatClampNeg then (0 : Int64) + (1 : Int64) else (fun _ => 0) i) i) i) TR275 (by rw [q276] <;> rfl) (by rw [q276] <;> rfl) (by rw [q276]; exact own_hf3) hk1 hk2 hg
set_option maxRecDepth 65536 in
set_option maxHeartbeats 8000000 in
theorem own_t0 {p : Program} {l : Launch} {e : Env} {s : State} {m : MethodId} {args : Array Value} {below : List Frame} {meth : Method} {c : Code} {T : State} {locs : List Loc} {cells slots : Nat} {Z : State} {a0 : Array Value} {h0 : Heap} {n0 : Nat} (X0 : Stand p l e room_1 s m args below meth c T locs cells slots) (hx : p.tables.exec = Jvm.exec) (hlk : meth.locks = false) (hby : c.code = code) (hml : c.maxLocals = 17) (hret : meth.sig.returnType = some .boolean) (hown : s.vm.findClass "com/example/propagule/propagule/TrailIsOpenPinLaw" = some m.cls) (hZ : Z.Warmed39 s.vm) (hw : ∀ d ∈ tables_1, d.before a0 Z = true) (e0 : T.heap = h0) (N0 : Fr n0 locs) (Z0 : n0 ≤ h0.size) (hcc : cells ≤ 0) (hss : slots ≤ 0) (x0 : Int32) (x1 : Int32) (x2 : Int32) (x3 : Int64) (x5 : Int32) (dA : Addr) (S_d : Sta Z h0 "java/util/ArrayList" "DEFAULTCAPACITY_EMPTY_ELEMENTDATA" "[Ljava/lang/Object;" (.ref dA)) :
    own_Go p e below s T (mkF m 0 #[.val (.int x0), .val (.int x1), .val (.int x2), .val (.long x3), .second, .val (.int x5), .unset, .unset, .unset, .unset, .unset, .unset, .unset, .unset, .unset, .unset, .unset] []) (own_Q0 n0) 32 2176 := by
  refine own_st (g' := (mkF m 1 #[.val (.int x0), .val (.int x1), .val (.int x2), .val (.long x3), .second, .val (.int x5), .unset, .unset, .unset, .unset, .unset, .unset, .unset, .unset, .unset, .unset, .unset] [(.int x0)])) (fun tt_ kk_ => XS.iloadN X0.here hx rfl (hb hby at_0) rfl kk_) ?_
  refine own_st (g' := (mkF m 2 #[.val (.int x0), .val (.int x1), .val (.int x2), .val (.long x3), .second, .val (.int x5), .unset, .unset, .unset, .unset, .unset, .unset, .unset, .unset, .unset, .unset, .unset] [(.int (3 : Int32)), (.int x0)])) (fun tt_ kk_ => XS.iconst X0.here hx rfl (hb hby at_1) kk_) ?_
  refine own_st (g' := (mkF m 3 #[.val (.int x0), .val (.int x1), .val (.int x2), .val (.long x3), .second, .val (.int x5), .unset, .unset, .unset, .unset, .unset, .unset, .unset, .unset, .unset, .unset, .unset] [(.int (x0 &&& (3 : Int32)))])) (fun tt_ kk_ => XS.iand X0.here hx rfl (hb hby at_2) rfl kk_) ?_
  refine own_st (g' := (mkF m 5 #[.val (.int x0), .val (.int x1), .val (.int x2), .val (.long x3), .second, .val (.int x5), .val (.int (x0 &&& (3 : Int32))), .unset, .unset, .unset, .unset, .unset, .unset, .unset, .unset, .unset, .unset] [])) (fun tt_ kk_ => XS.istore X0.here hx rfl (hb hby at_3) rfl (l' := #[.val (.int x0), .val (.int x1), .val (.int x2), .val (.long x3), .second, .val (.int x5), .val (.int (x0 &&& (3 : Int32))), .unset, .unset, .unset, .unset, .unset, .unset, .unset, .unset, .unset, .unset]) rfl kk_) ?_
  refine own_st (g' := (mkF m 6 #[.val (.int x0), .val (.int x1), .val (.int x2), .val (.long x3), .second, .val (.int x5), .val (.int (x0 &&& (3 : Int32))), .unset, .unset, .unset, .unset, .unset, .unset, .unset, .unset, .unset, .unset] [(.int x0)])) (fun tt_ kk_ => XS.iloadN X0.here hx rfl (hb hby at_5) rfl kk_) ?_
  refine own_st (g' := (mkF m 7 #[.val (.int x0), .val (.int x1), .val (.int x2), .val (.long x3), .second, .val (.int x5), .val (.int (x0 &&& (3 : Int32))), .unset, .unset, .unset, .unset, .unset, .unset, .unset, .unset, .unset, .unset] [(.int (2 : Int32)), (.int x0)])) (fun tt_ kk_ => XS.iconst X0.here hx rfl (hb hby at_6) kk_) ?_
  refine own_st (g' := (mkF m 8 #[.val (.int x0), .val (.int x1), .val (.int x2), .val (.long x3), .second, .val (.int x5), .val (.int (x0 &&& (3 : Int32))), .unset, .unset, .unset, .unset, .unset, .unset, .unset, .unset, .unset, .unset] [(.int ((x0.toUInt32 >>> ((2 : Int32) &&& 31).toUInt32).toInt32))])) (fun tt_ kk_ => XS.iushr X0.here hx rfl (hb hby at_7) rfl kk_) ?_
  refine own_st (g' := (mkF m 9 #[.val (.int x0), .val (.int x1), .val (.int x2), .val (.long x3), .second, .val (.int x5), .val (.int (x0 &&& (3 : Int32))), .unset, .unset, .unset, .unset, .unset, .unset, .unset, .unset, .unset, .unset] [(.int (3 : Int32)), (.int ((x0.toUInt32 >>> ((2 : Int32) &&& 31).toUInt32).toInt32))])) (fun tt_ kk_ => XS.iconst X0.here hx rfl (hb hby at_8) kk_) ?_
  refine own_st (g' := (mkF m 10 #[.val (.int x0), .val (.int x1), .val (.int x2), .val (.long x3), .second, .val (.int x5), .val (.int (x0 &&& (3 : Int32))), .unset, .unset, .unset, .unset, .unset, .unset, .unset, .unset, .unset, .unset] [(.int (((x0.toUInt32 >>> ((2 : Int32) &&& 31).toUInt32).toInt32) &&& (3 : Int32)))])) (fun tt_ kk_ => XS.iand X0.here hx rfl (hb hby at_9) rfl kk_) ?_
  refine own_st (g' := (mkF m 11 #[.val (.int x0), .val (.int x1), .val (.int x2), .val (.long x3), .second, .val (.int x5), .val (.int (x0 &&& (3 : Int32))), .unset, .unset, .unset, .unset, .unset, .unset, .unset, .unset, .unset, .unset] [(.int (3 : Int32)), (.int (((x0.toUInt32 >>> ((2 : Int32) &&& 31).toUInt32).toInt32) &&& (3 : Int32)))])) (fun tt_ kk_ => XS.iconst X0.here hx rfl (hb hby at_10) kk_) ?_
  refine own_st (g' := (mkF m 12 #[.val (.int x0), .val (.int x1), .val (.int x2), .val (.long x3), .second, .val (.int x5), .val (.int (x0 &&& (3 : Int32))), .unset, .unset, .unset, .unset, .unset, .unset, .unset, .unset, .unset, .unset] [(.int ((((x0.toUInt32 >>> ((2 : Int32) &&& 31).toUInt32).toInt32) &&& (3 : Int32)) % (3 : Int32)))])) (fun tt_ kk_ => iremM X0 hx rfl (hb hby at_11) rfl (by decide) kk_) ?_
  refine own_st (g' := (mkF m 14 #[.val (.int x0), .val (.int x1), .val (.int x2), .val (.long x3), .second, .val (.int x5), .val (.int (x0 &&& (3 : Int32))), .val (.int ((((x0.toUInt32 >>> ((2 : Int32) &&& 31).toUInt32).toInt32) &&& (3 : Int32)) % (3 : Int32))), .unset, .unset, .unset, .unset, .unset, .unset, .unset, .unset, .unset] [])) (fun tt_ kk_ => XS.istore X0.here hx rfl (hb hby at_12) rfl (l' := #[.val (.int x0), .val (.int x1), .val (.int x2), .val (.long x3), .second, .val (.int x5), .val (.int (x0 &&& (3 : Int32))), .val (.int ((((x0.toUInt32 >>> ((2 : Int32) &&& 31).toUInt32).toInt32) &&& (3 : Int32)) % (3 : Int32))), .unset, .unset, .unset, .unset, .unset, .unset, .unset, .unset, .unset]) rfl kk_) ?_
  refine own_st (g' := (mkF m 15 #[.val (.int x0), .val (.int x1), .val (.int x2), .val (.long x3), .second, .val (.int x5), .val (.int (x0 &&& (3 : Int32))), .val (.int ((((x0.toUInt32 >>> ((2 : Int32) &&& 31).toUInt32).toInt32) &&& (3 : Int32)) % (3 : Int32))), .unset, .unset, .unset, .unset, .unset, .unset, .unset, .unset, .unset] [(.int x1)])) (fun tt_ kk_ => XS.iloadN X0.here hx rfl (hb hby at_14) rfl kk_) ?_
  refine own_st (g' := (mkF m 17 #[.val (.int x0), .val (.int x1), .val (.int x2), .val (.long x3), .second, .val (.int x5), .val (.int (x0 &&& (3 : Int32))), .val (.int ((((x0.toUInt32 >>> ((2 : Int32) &&& 31).toUInt32).toInt32) &&& (3 : Int32)) % (3 : Int32))), .unset, .unset, .unset, .unset, .unset, .unset, .unset, .unset, .unset] [(.int (2147483647 : Int32)), (.int x1)])) (fun tt_ kk_ => X0.ldcInt hx hown (mvT hZ (hw _ (List.mem_of_getElem? (i := 0) rfl))) (g := (mkF m 15 #[.val (.int x0), .val (.int x1), .val (.int x2), .val (.long x3), .second, .val (.int x5), .val (.int (x0 &&& (3 : Int32))), .val (.int ((((x0.toUInt32 >>> ((2 : Int32) &&& 31).toUInt32).toInt32) &&& (3 : Int32)) % (3 : Int32))), .unset, .unset, .unset, .unset, .unset, .unset, .unset, .unset, .unset] [(.int x1)])) rfl (hb hby at_15) _ kk_) ?_
  refine own_st (g' := (mkF m 18 #[.val (.int x0), .val (.int x1), .val (.int x2), .val (.long x3), .second, .val (.int x5), .val (.int (x0 &&& (3 : Int32))), .val (.int ((((x0.toUInt32 >>> ((2 : Int32) &&& 31).toUInt32).toInt32) &&& (3 : Int32)) % (3 : Int32))), .unset, .unset, .unset, .unset, .unset, .unset, .unset, .unset, .unset] [(.int (x1 &&& (2147483647 : Int32)))])) (fun tt_ kk_ => XS.iand X0.here hx rfl (hb hby at_17) rfl kk_) ?_
  refine own_st (g' := (mkF m 20 #[.val (.int x0), .val (.int x1), .val (.int x2), .val (.long x3), .second, .val (.int x5), .val (.int (x0 &&& (3 : Int32))), .val (.int ((((x0.toUInt32 >>> ((2 : Int32) &&& 31).toUInt32).toInt32) &&& (3 : Int32)) % (3 : Int32))), .unset, .unset, .unset, .unset, .unset, .unset, .unset, .unset, .unset] [(.int (x0 &&& (3 : Int32))), (.int (x1 &&& (2147483647 : Int32)))])) (fun tt_ kk_ => XS.iload X0.here hx rfl (hb hby at_18) rfl kk_) ?_
  refine own_st (g' := (mkF m 21 #[.val (.int x0), .val (.int x1), .val (.int x2), .val (.long x3), .second, .val (.int x5), .val (.int (x0 &&& (3 : Int32))), .val (.int ((((x0.toUInt32 >>> ((2 : Int32) &&& 31).toUInt32).toInt32) &&& (3 : Int32)) % (3 : Int32))), .unset, .unset, .unset, .unset, .unset, .unset, .unset, .unset, .unset] [(.int (1 : Int32)), (.int (x0 &&& (3 : Int32))), (.int (x1 &&& (2147483647 : Int32)))])) (fun tt_ kk_ => XS.iconst X0.here hx rfl (hb hby at_20) kk_) ?_
  refine own_st (g' := (mkF m 22 #[.val (.int x0), .val (.int x1), .val (.int x2), .val (.long x3), .second, .val (.int x5), .val (.int (x0 &&& (3 : Int32))), .val (.int ((((x0.toUInt32 >>> ((2 : Int32) &&& 31).toUInt32).toInt32) &&& (3 : Int32)) % (3 : Int32))), .unset, .unset, .unset, .unset, .unset, .unset, .unset, .unset, .unset] [(.int ((x0 &&& (3 : Int32)) + (1 : Int32))), (.int (x1 &&& (2147483647 : Int32)))])) (fun tt_ kk_ => XS.iadd X0.here hx rfl (hb hby at_21) rfl kk_) ?_
  refine own_st (g' := (mkF m 23 #[.val (.int x0), .val (.int x1), .val (.int x2), .val (.long x3), .second, .val (.int x5), .val (.int (x0 &&& (3 : Int32))), .val (.int ((((x0.toUInt32 >>> ((2 : Int32) &&& 31).toUInt32).toInt32) &&& (3 : Int32)) % (3 : Int32))), .unset, .unset, .unset, .unset, .unset, .unset, .unset, .unset, .unset] [(.int ((x1 &&& (2147483647 : Int32)) % ((x0 &&& (3 : Int32)) + (1 : Int32))))])) (fun tt_ kk_ => iremM X0 hx rfl (hb hby at_22) rfl (own_nz1 _) kk_) ?_
  refine own_st (g' := (mkF m 25 #[.val (.int x0), .val (.int x1), .val (.int x2), .val (.long x3), .second, .val (.int x5), .val (.int (x0 &&& (3 : Int32))), .val (.int ((((x0.toUInt32 >>> ((2 : Int32) &&& 31).toUInt32).toInt32) &&& (3 : Int32)) % (3 : Int32))), .val (.int ((x1 &&& (2147483647 : Int32)) % ((x0 &&& (3 : Int32)) + (1 : Int32)))), .unset, .unset, .unset, .unset, .unset, .unset, .unset, .unset] [])) (fun tt_ kk_ => XS.istore X0.here hx rfl (hb hby at_23) rfl (l' := #[.val (.int x0), .val (.int x1), .val (.int x2), .val (.long x3), .second, .val (.int x5), .val (.int (x0 &&& (3 : Int32))), .val (.int ((((x0.toUInt32 >>> ((2 : Int32) &&& 31).toUInt32).toInt32) &&& (3 : Int32)) % (3 : Int32))), .val (.int ((x1 &&& (2147483647 : Int32)) % ((x0 &&& (3 : Int32)) + (1 : Int32)))), .unset, .unset, .unset, .unset, .unset, .unset, .unset, .unset]) rfl kk_) ?_
  exact own_t25 X0 hx hlk hby hml hret hown hZ hw e0 N0 Z0 (by omega) (by omega) x0 x1 x2 x3 x5 (x0 &&& (3 : Int32)) ((((x0.toUInt32 >>> ((2 : Int32) &&& 31).toUInt32).toInt32) &&& (3 : Int32)) % (3 : Int32)) ((x1 &&& (2147483647 : Int32)) % ((x0 &&& (3 : Int32)) + (1 : Int32))) dA S_d (own_k1 _) (own_k2 _) (own_tg _ _)
theorem own_ef0 (m : MethodId) (x0 : Int32) (x1 : Int32) (x2 : Int32) (x3 : Int64) (x5 : Int32) : entryFrame m #[(.int x0), (.int x1), (.int x2), (.long x3), (.int x5)] maxLocals = mkF m 0 #[.val (.int x0), .val (.int x1), .val (.int x2), .val (.long x3), .second, .val (.int x5), .unset, .unset, .unset, .unset, .unset, .unset, .unset, .unset, .unset, .unset, .unset] [] := by first | (simp [entryFrame, mkF, argsToLocals, Value.category, maxLocals]; done) | rfl
set_option maxRecDepth 65536 in
set_option maxHeartbeats 4000000 in
theorem own_rm0 (l : Launch) (Z : State) (a0 : Array Value) (hw : ∀ d ∈ tables_1, d.before a0 Z = true) (ws : List Jvm.Cond) (x0 : Int32) (x1 : Int32) (x2 : Int32) (x3 : Int64) (x5 : Int32) (h0 : Heap) (n0 : Nat) (Z0 : n0 ≤ h0.size) (dA : Addr) (S_d : Sta Z h0 "java/util/ArrayList" "DEFAULTCAPACITY_EMPTY_ELEMENTDATA" "[Ljava/lang/Object;" (.ref dA)) :
    MetFree l x (head1 (Jvm.Cond.code x code maxLocals ret :: ws) room_1) (fun aa UU => aa = #[(.int x0), (.int x1), (.int x2), (.long x3), (.int x5)] ∧ Z.Warmed39 UU.vm ∧ UU.heap = h0) (fun _ _ _ _ _ => True) (fun _ U o U' => ∃ v L, o = .returned v ∧ own_Q0 n0 v U'.heap L ∧ FrameEnd U o U' L 32 2176) := by
  refine MetFree.of_bodySF (plainFor_of_name own_pn4) hisR ?_
  intro p e s m args below meth c s₁ Bd hml0 hP hK
  obtain ⟨rfl, hZ, hh⟩ := hP
  have X0 : Stand p l e room_1 s m #[(.int x0), (.int x1), (.int x2), (.long x3), (.int x5)] below meth c s₁ [] 0 0 := Stand.of_body Bd
  have e0 : s₁.heap = h0 := by rw [← hh, Bd.state]; rfl
  refine own_cast (own_ef0 m x0 x1 x2 x3 x5) ?_
  exact own_t0 X0 Bd.exec Bd.notSynchronized Bd.bytes hml0 Bd.returns (findClass_of_methodNamed Bd.named) hZ hw e0 (Fr.nil n0) Z0 (by decide) (by decide) x0 x1 x2 x3 x5 dA S_d
set_option maxRecDepth 65536 in
set_option maxHeartbeats 4000000 in
theorem own_comes_1 {Post : Tables → Env → Array Value → State → Outcome → State → Prop} (hpost : ∀ tb e args s v u, (limb_1_1.after args s (.returned v) u = true ∧ limb_1_2.after args s (.returned v) u = true ∧ True) → FrameEnd s (.returned v) u (Jvm.fieldLocs frame_1_writes args s ++ Jvm.arrayLocs frame_1_arrays args s ++ Jvm.staticLocs frame_1_statics s) 32 2176 → Post tb e args s (.returned v) u) :
    ArmFor flags0 classFile x code maxLocals ret World_1 tables_1 room_1 Calls_1 rest_1 Pre_1 Post := by
  intro l hfl _ _ p e ha hc hk s m args below hf hA hF happ hP
  obtain ⟨hcalls, hrest, hpre⟩ := hP
  obtain ⟨-, -, -, hnamed, -, -, -, hat⟩ := (Spec.applies_iff hf).mp happ
  obtain ⟨hg, hn⟩ := and_e (Cond.before_iff.mp (show (Jvm.Cond.and given_1 narrow_1).before args s = true from hpre))
  obtain ⟨gg1, gg2⟩ := and_e hg
  obtain ⟨gg3, gg4⟩ := and_e gg2
  obtain ⟨gg5, gg6⟩ := and_e gg4
  obtain ⟨gg7, gg8⟩ := and_e gg6
  obtain ⟨gg9, gg10⟩ := and_e gg8
  obtain ⟨w0, w1, w2, w3, w4, rfl⟩ : ∃ w0 w1 w2 w3 w4 : Value, args = #[w0, w1, w2, w3, w4] := by
    have hs : args.size = 5 := by simpa [Cond.value, given_1] using gg1
    obtain ⟨L⟩ := args
    match L, hs with
    | [w0, w1, w2, w3, w4], _ => exact ⟨w0, w1, w2, w3, w4, rfl⟩
  have hw := fun d (hd : d ∈ tables_1) => atoms_spec (ws := Jvm.Cond.code x code maxLocals ret :: tables_1) hat d (List.mem_cons_of_mem _ hd)
  have hfit : Fit s := fun {y c} hc i hi => by
    obtain ⟨ha, rfl⟩ := Array.getElem?_eq_some_iff.mp hc
    have q := List.all_eq_true.mp ((Array.all_eq_true_iff_forall_mem.mp hF) _ (Array.getElem_mem ha)) i (List.mem_range.mpr hi)
    simpa [Array.getElem?_eq_getElem hi] using q
  obtain ⟨hsets, hown0⟩ := atoms_of _ (rest_1_c_eq ▸ (show rest_1_c.before _ s = true from hrest))
  obtain ⟨i0, ei0⟩ := is_v gg3
  obtain rfl : w0 = (.int i0) := Option.some.inj ei0
  obtain ⟨i1, ei1⟩ := is_v gg5
  obtain rfl : w1 = (.int i1) := Option.some.inj ei1
  obtain ⟨i2, ei2⟩ := is_v gg7
  obtain rfl : w2 = (.int i2) := Option.some.inj ei2
  obtain ⟨i3, ei3⟩ := isL_v gg9
  obtain rfl : w3 = (.long i3) := Option.some.inj ei3
  obtain ⟨i4, ei4⟩ := is_v gg10
  obtain rfl : w4 = (.int i4) := Option.some.inj ei4
  obtain ⟨dA, evd⟩ := arr_v (Cond.before_iff.mp (hsets _ (List.mem_of_getElem? (i := 6) rfl)))
  have S_d := Sta.start evd (Or.inr ⟨hw _ (List.mem_of_getElem? (i := 6) rfl), hsets _ (List.mem_of_getElem? (i := 2) rfl)⟩)
  obtain ⟨n, o, h1, h2, h3, _, L, rfl, ⟨rfl, N⟩, hq⟩ := own_rm0 l s _ hw tables_1 i0 i1 i2 i3 i4 s.heap s.heap.size (Nat.le_refl _) dA S_d p e ha hc hk s m _ below hf ((Spec.applies_iff_loose hf).mp happ).1 ⟨rfl, State.Warmed39.refl s, rfl⟩ trivial
  refine ⟨n, _, h1, h2, h3, hpost _ _ _ _ _ _ ⟨Cond.after_iff.mpr rfl, Cond.after_iff.mpr (eq_i res_at (Term.int_eval (1)) rfl), trivial⟩ ⟨hq.1, hq.2.1, (hq.2.2.sift fun y hy => Or.inr (N y hy)).mono (by decide) (by decide)⟩⟩
theorem main_1_1 : Claimed_1_1 := own_comes_1 fun _ _ _ _ _ _ h hF => ⟨h.1, hF⟩
theorem main_1_2 : Claimed_1_2 := own_comes_1 fun _ _ _ _ _ _ h hF => ⟨h.2.1, hF⟩
end Jvm.Pilot.@@N@@
namespace Jvm.Pilot.@@N@@
open Jvm Jvm.ClassFile Sem Op Lib Jvm.Free Jvm.Stand Jvm.Pilot.@@N@@.Jvm.D
/-! MADE BY PROGRAM (witnessworld.py) out of the Statement's table words and the real class files: 22 classes; the members and pool entries that the words name. The judged class is class 1, her method 1. -/
namespace start1
open Jvm.ClassFile
def u (s : String) : CpInfo := .utf8 (stringToUtf16 s)
/-- a pool by its gaps: so many unusable entries, then the entry; so many at the end -/
def gap : Nat → List CpInfo → List CpInfo
  | 0, r => r
  | n + 1, r => .unusable :: gap n r
def poolList (es : List (Nat × CpInfo)) (last : Nat) : List CpInfo := es.foldr (fun e r => gap e.1 (e.2 :: r)) (gap last [])
def pool (es : List (Nat × CpInfo)) (last : Nat) : Array CpInfo := ⟨poolList es last⟩
def fileOf (pool : Array CpInfo) (this : Nat) (attrs : Array Attribute := #[]) (ms : Array MethodInfo := #[]) (fl : Nat := 33) (sup : Nat := 0) (ifs : Array Nat := #[]) (fds : Array FieldInfo := #[]) : ClassFile where
  minorVersion := 0
  majorVersion := 65
  constantPool := pool
  accessFlags := fl
  thisClass := this
  superClass := sup
  interfaces := ifs
  fields := fds
  methods := ms
  attributes := attrs
def plain (name : String) (sup : Option ClassId) : Class where
  name := name
  kind := .ordinary
  loader := none
  accessFlags := 33
  super := sup
  interfaces := #[]
  cf := none
  fields := #[]
  methods := #[]
  instanceTypes := #[]
  staticTypes := #[]
  resolved := #[]
  callSites := []
  init := .initialized
  statics := none
  mirror := none

def pool0 : Array CpInfo := pool [(5, u "<init>"), (0, u "()V"), (1, .class_ 10), (1, u "java/lang/Object")] 113

def k0c0 : Code := { maxStack := 0, maxLocals := 1, code := object_method_1_code, exceptionTable := #[], attributes := #[] }
def k0m0 : Method := { name := "<init>", desc := "()V", sig := { parameters := [], returnType := none }, accessFlags := 1, code := some k0c0 }
/-- java/lang/Object -/
def k0 : Class := { plain "java/lang/Object" none with
  accessFlags := 33
  interfaces := #[]
  cf := some (fileOf pool0 8 #[] #[{ accessFlags := 1, nameIndex := 5, descriptorIndex := 6, attributes := #[] }] 33 0 #[] #[])
  fields := #[]
  methods := #[k0m0]
  instanceTypes := #[]
  staticTypes := #[]
  resolved := Array.replicate 124 none
  statics := none }

def pool1 : Array CpInfo := pool [(2, .class_ 4), (0, .nameAndType 5 6), (0, u "java/lang/Object"), (0, u "<init>"), (0, u "()V"), (0, .integer 2147483647), (0, .class_ 9), (0, u "com/example/propagule/propagule/Trail"), (0, .class_ 11), (0, u "java/util/ArrayList"), (0, .methodref 10 3), (0, .methodref 8 14), (0, .nameAndType 5 15), (0, u "(Ljava/util/List;)V"), (0, .methodref 8 17), (0, .nameAndType 18 6), (0, u "openWorld"), (0, .methodref 8 20), (0, .nameAndType 21 22), (0, u "closeWorldsTo"), (0, u "(I)V"), (0, .long 15), (1, .methodref 8 26), (0, .nameAndType 27 28), (0, u "isOpen"), (0, u "(IJ)Z"), (0, .class_ 30), (0, u "com/example/propagule/propagule/TrailIsOpenPinLaw"), (2, u "law"), (0, u "(IIIJI)Z")] 3

def k1m0 : Method := { name := "<init>", desc := "()V", sig := { parameters := [], returnType := none }, accessFlags := 2, code := none }
def k1c1 : Code := { maxStack := 4, maxLocals := 17, code := code, exceptionTable := #[], attributes := #[] }
def k1m1 : Method := { name := "law", desc := "(IIIJI)Z", sig := { parameters := [.int, .int, .int, .long, .int], returnType := some .boolean }, accessFlags := 9, code := some k1c1 }
/-- com/example/propagule/propagule/TrailIsOpenPinLaw -/
def k1 : Class := { plain "com/example/propagule/propagule/TrailIsOpenPinLaw" (some 0) with
  accessFlags := 49
  interfaces := #[]
  cf := some (fileOf pool1 29 #[] #[{ accessFlags := 2, nameIndex := 5, descriptorIndex := 6, attributes := #[] }, { accessFlags := 9, nameIndex := 33, descriptorIndex := 34, attributes := #[] }] 49 2 #[] #[])
  fields := #[]
  methods := #[k1m0, k1m1]
  instanceTypes := #[]
  staticTypes := #[]
  resolved := Array.replicate 38 none
  statics := none }

def pool2 : Array CpInfo := pool [(1, .methodref 2 3), (0, .class_ 4), (0, .nameAndType 5 6), (0, u "java/lang/Object"), (0, u "<init>"), (0, u "()V"), (0, .class_ 8), (0, u "com/example/propagule/propagule/Trail"), (0, .fieldref 7 10), (0, .nameAndType 11 12), (0, u "ints"), (0, u "[I"), (0, .fieldref 7 14), (0, .nameAndType 15 16), (0, u "longs"), (0, u "[J"), (0, .class_ 12), (0, .fieldref 7 19), (0, .nameAndType 20 21), (0, u "ranges"), (0, u "[[I"), (0, .class_ 23), (0, u "com/example/propagule/propagule/ReversibleLongs"), (0, .fieldref 7 25), (0, .nameAndType 26 27), (0, u "cellOwners"), (0, u "[Lcom/example/propagule/propagule/ReversibleLongs;"), (0, .fieldref 7 29), (0, .nameAndType 30 12), (0, u "cellIndexes"), (0, .fieldref 7 32), (0, .nameAndType 33 16), (0, u "cellValues"), (0, .fieldref 7 35), (0, .nameAndType 36 12), (0, u "cellStamps"), (0, .fieldref 7 38), (0, .nameAndType 39 12), (0, u "worldMarks"), (0, .fieldref 7 41), (0, .nameAndType 42 12), (0, u "cellMarks"), (0, .fieldref 7 44), (0, .nameAndType 45 16), (0, u "worldNumbers"), (0, .fieldref 7 47), (0, .nameAndType 48 49), (0, u "variables"), (0, u "Ljava/util/List;"), (0, .fieldref 7 51), (0, .nameAndType 52 53), (0, u "depth"), (0, u "I"), (9, .fieldref 7 64), (0, .nameAndType 65 53), (0, u "entries"), (0, .fieldref 7 67), (0, .nameAndType 68 53), (0, u "cellEntries"), (0, .fieldref 7 70), (0, .nameAndType 71 72), (0, u "worldsOpened"), (0, u "J"), (39, u "INITIAL_CAPACITY"), (2, u "INTS"), (1, u "VAR"), (1, u "MIN"), (1, u "MAX"), (1, u "FIRST"), (1, u "LAST"), (1, u "STAMP"), (1, u "LONGS"), (2, u "(Ljava/util/List;)V"), (5, u "isOpen"), (0, u "(IJ)Z"), (1, u "openWorld"), (0, u "closeWorldsTo"), (0, u "(I)V")] 20

def k2c0 : Code := { maxStack := 2, maxLocals := 2, code := prog_74_method_1_code, exceptionTable := #[], attributes := #[] }
def k2m0 : Method := { name := "<init>", desc := "(Ljava/util/List;)V", sig := { parameters := [(.object "java/util/List")], returnType := none }, accessFlags := 0, code := some k2c0 }
def k2c1 : Code := { maxStack := 4, maxLocals := 4, code := prog_74_method_4_code, exceptionTable := #[], attributes := #[] }
def k2m1 : Method := { name := "isOpen", desc := "(IJ)Z", sig := { parameters := [.int, .long], returnType := some .boolean }, accessFlags := 0, code := some k2c1 }
def k2c2 : Code := { maxStack := 7, maxLocals := 1, code := prog_74_method_5_code, exceptionTable := #[], attributes := #[] }
def k2m2 : Method := { name := "openWorld", desc := "()V", sig := { parameters := [], returnType := none }, accessFlags := 0, code := some k2c2 }
def k2c3 : Code := { maxStack := 13, maxLocals := 6, code := prog_74_method_6_code, exceptionTable := #[], attributes := #[] }
def k2m3 : Method := { name := "closeWorldsTo", desc := "(I)V", sig := { parameters := [.int], returnType := none }, accessFlags := 0, code := some k2c3 }
/-- com/example/propagule/propagule/Trail -/
def k2 : Class := { plain "com/example/propagule/propagule/Trail" (some 0) with
  accessFlags := 48
  interfaces := #[]
  cf := some (fileOf pool2 7 #[] #[{ accessFlags := 0, nameIndex := 5, descriptorIndex := 132, attributes := #[] }, { accessFlags := 0, nameIndex := 138, descriptorIndex := 139, attributes := #[] }, { accessFlags := 0, nameIndex := 141, descriptorIndex := 6, attributes := #[] }, { accessFlags := 0, nameIndex := 142, descriptorIndex := 143, attributes := #[] }] 48 2 #[] #[{ accessFlags := 26, nameIndex := 112, descriptorIndex := 53, attributes := #[] }, { accessFlags := 26, nameIndex := 115, descriptorIndex := 53, attributes := #[] }, { accessFlags := 26, nameIndex := 117, descriptorIndex := 53, attributes := #[] }, { accessFlags := 26, nameIndex := 119, descriptorIndex := 53, attributes := #[] }, { accessFlags := 26, nameIndex := 121, descriptorIndex := 53, attributes := #[] }, { accessFlags := 26, nameIndex := 123, descriptorIndex := 53, attributes := #[] }, { accessFlags := 26, nameIndex := 125, descriptorIndex := 53, attributes := #[] }, { accessFlags := 26, nameIndex := 127, descriptorIndex := 53, attributes := #[] }, { accessFlags := 26, nameIndex := 129, descriptorIndex := 53, attributes := #[] }, { accessFlags := 18, nameIndex := 48, descriptorIndex := 49, attributes := #[] }, { accessFlags := 2, nameIndex := 11, descriptorIndex := 12, attributes := #[] }, { accessFlags := 2, nameIndex := 15, descriptorIndex := 16, attributes := #[] }, { accessFlags := 2, nameIndex := 20, descriptorIndex := 21, attributes := #[] }, { accessFlags := 2, nameIndex := 65, descriptorIndex := 53, attributes := #[] }, { accessFlags := 2, nameIndex := 26, descriptorIndex := 27, attributes := #[] }, { accessFlags := 2, nameIndex := 30, descriptorIndex := 12, attributes := #[] }, { accessFlags := 2, nameIndex := 33, descriptorIndex := 16, attributes := #[] }, { accessFlags := 2, nameIndex := 36, descriptorIndex := 12, attributes := #[] }, { accessFlags := 2, nameIndex := 68, descriptorIndex := 53, attributes := #[] }, { accessFlags := 2, nameIndex := 39, descriptorIndex := 12, attributes := #[] }, { accessFlags := 2, nameIndex := 42, descriptorIndex := 12, attributes := #[] }, { accessFlags := 2, nameIndex := 45, descriptorIndex := 16, attributes := #[] }, { accessFlags := 2, nameIndex := 71, descriptorIndex := 72, attributes := #[] }, { accessFlags := 2, nameIndex := 52, descriptorIndex := 53, attributes := #[] }])
  fields := #[{ name := "INITIAL_CAPACITY", type := .int, accessFlags := 26, slot := 0, constantValue := 0 }, { name := "INTS", type := .int, accessFlags := 26, slot := 1, constantValue := 0 }, { name := "VAR", type := .int, accessFlags := 26, slot := 2, constantValue := 0 }, { name := "MIN", type := .int, accessFlags := 26, slot := 3, constantValue := 0 }, { name := "MAX", type := .int, accessFlags := 26, slot := 4, constantValue := 0 }, { name := "FIRST", type := .int, accessFlags := 26, slot := 5, constantValue := 0 }, { name := "LAST", type := .int, accessFlags := 26, slot := 6, constantValue := 0 }, { name := "STAMP", type := .int, accessFlags := 26, slot := 7, constantValue := 0 }, { name := "LONGS", type := .int, accessFlags := 26, slot := 8, constantValue := 0 }, { name := "variables", type := (.object "java/util/List"), accessFlags := 18, slot := 0, constantValue := 0 }, { name := "ints", type := (.array .int), accessFlags := 2, slot := 1, constantValue := 0 }, { name := "longs", type := (.array .long), accessFlags := 2, slot := 2, constantValue := 0 }, { name := "ranges", type := (.array (.array .int)), accessFlags := 2, slot := 3, constantValue := 0 }, { name := "entries", type := .int, accessFlags := 2, slot := 4, constantValue := 0 }, { name := "cellOwners", type := (.array (.object "com/example/propagule/propagule/ReversibleLongs")), accessFlags := 2, slot := 5, constantValue := 0 }, { name := "cellIndexes", type := (.array .int), accessFlags := 2, slot := 6, constantValue := 0 }, { name := "cellValues", type := (.array .long), accessFlags := 2, slot := 7, constantValue := 0 }, { name := "cellStamps", type := (.array .int), accessFlags := 2, slot := 8, constantValue := 0 }, { name := "cellEntries", type := .int, accessFlags := 2, slot := 9, constantValue := 0 }, { name := "worldMarks", type := (.array .int), accessFlags := 2, slot := 10, constantValue := 0 }, { name := "cellMarks", type := (.array .int), accessFlags := 2, slot := 11, constantValue := 0 }, { name := "worldNumbers", type := (.array .long), accessFlags := 2, slot := 12, constantValue := 0 }, { name := "worldsOpened", type := .long, accessFlags := 2, slot := 13, constantValue := 0 }, { name := "depth", type := .int, accessFlags := 2, slot := 14, constantValue := 0 }]
  methods := #[k2m0, k2m1, k2m2, k2m3]
  instanceTypes := #[(.object "java/util/List"), (.array .int), (.array .long), (.array (.array .int)), .int, (.array (.object "com/example/propagule/propagule/ReversibleLongs")), (.array .int), (.array .long), (.array .int), .int, (.array .int), (.array .int), (.array .long), .long, .int]
  staticTypes := #[.int, .int, .int, .int, .int, .int, .int, .int, .int]
  resolved := Array.replicate 164 none
  statics := none }

def pool3 : Array CpInfo := pool [(8, .class_ 10), (1, u "java/lang/Iterable"), (24, .class_ 36), (0, u "java/lang/Object")] 25

/-- java/lang/Iterable -/
def k3 : Class := { plain "java/lang/Iterable" (some 0) with
  accessFlags := 1537
  interfaces := #[]
  cf := some (fileOf pool3 8 #[] #[] 1537 35 #[] #[])
  fields := #[]
  methods := #[]
  instanceTypes := #[]
  staticTypes := #[]
  resolved := Array.replicate 62 none
  statics := none }

def pool4 : Array CpInfo := pool [(10, .class_ 12), (1, u "java/util/Collection"), (47, .class_ 61), (0, u "java/lang/Object"), (0, .class_ 63), (0, u "java/lang/Iterable")] 51

/-- java/util/Collection -/
def k4 : Class := { plain "java/util/Collection" (some 0) with
  accessFlags := 1537
  interfaces := #[3]
  cf := some (fileOf pool4 10 #[] #[] 1537 60 #[62] #[])
  fields := #[]
  methods := #[]
  instanceTypes := #[]
  staticTypes := #[]
  resolved := Array.replicate 115 none
  statics := none }

def pool5 : Array CpInfo := pool [(1, .methodref 2 3), (0, .class_ 4), (0, .nameAndType 5 6), (0, u "java/lang/Object"), (0, u "<init>"), (0, u "()V"), (1, .class_ 10), (1, u "java/util/AbstractCollection"), (66, .class_ 78), (0, u "java/util/Collection")] 81

def k5c0 : Code := { maxStack := 1, maxLocals := 1, code := jdk_22_method_1_code, exceptionTable := #[], attributes := #[] }
def k5m0 : Method := { name := "<init>", desc := "()V", sig := { parameters := [], returnType := none }, accessFlags := 4, code := some k5c0 }
/-- java/util/AbstractCollection -/
def k5 : Class := { plain "java/util/AbstractCollection" (some 0) with
  accessFlags := 1057
  interfaces := #[4]
  cf := some (fileOf pool5 8 #[] #[{ accessFlags := 4, nameIndex := 5, descriptorIndex := 6, attributes := #[] }] 1057 2 #[77] #[])
  fields := #[]
  methods := #[k5m0]
  instanceTypes := #[]
  staticTypes := #[]
  resolved := Array.replicate 160 none
  statics := none }

def pool6 : Array CpInfo := pool [(8, .class_ 10), (1, u "java/util/SequencedCollection"), (15, .class_ 27), (0, u "java/lang/Object"), (0, .class_ 29), (0, u "java/util/Collection")] 27

/-- java/util/SequencedCollection -/
def k6 : Class := { plain "java/util/SequencedCollection" (some 0) with
  accessFlags := 1537
  interfaces := #[4]
  cf := some (fileOf pool6 8 #[] #[] 1537 26 #[28] #[])
  fields := #[]
  methods := #[]
  instanceTypes := #[]
  staticTypes := #[]
  resolved := Array.replicate 57 none
  statics := none }

def pool7 : Array CpInfo := pool [(8, .class_ 10), (1, u "java/util/List"), (92, .class_ 104), (0, u "java/lang/Object"), (15, .class_ 121), (0, u "java/util/SequencedCollection")] 129

/-- java/util/List -/
def k7 : Class := { plain "java/util/List" (some 0) with
  accessFlags := 1537
  interfaces := #[6]
  cf := some (fileOf pool7 8 #[] #[] 1537 103 #[120] #[])
  fields := #[]
  methods := #[]
  instanceTypes := #[]
  staticTypes := #[]
  resolved := Array.replicate 251 none
  statics := none }

def pool8 : Array CpInfo := pool [(1, .methodref 2 3), (0, .class_ 4), (0, .nameAndType 5 6), (0, u "java/util/AbstractCollection"), (0, u "<init>"), (0, u "()V"), (0, .fieldref 8 9), (0, .class_ 10), (0, .nameAndType 11 12), (0, u "java/util/AbstractList"), (0, u "modCount"), (0, u "I"), (64, .class_ 78), (0, u "java/util/AbstractList$Itr"), (3, .class_ 83), (0, u "java/util/AbstractList$ListItr"), (9, .class_ 94), (0, u "java/util/AbstractList$RandomAccessSubList"), (3, .class_ 99), (0, u "java/util/AbstractList$SubList"), (33, .class_ 134), (0, u "java/util/List"), (73, .class_ 209), (0, u "java/util/AbstractList$SubList$1"), (0, .class_ 211), (0, u "java/util/AbstractList$RandomAccessSpliterator")] 6

def k8c0 : Code := { maxStack := 2, maxLocals := 1, code := jdk_39_method_1_code, exceptionTable := #[], attributes := #[] }
def k8m0 : Method := { name := "<init>", desc := "()V", sig := { parameters := [], returnType := none }, accessFlags := 4, code := some k8c0 }
/-- java/util/AbstractList -/
def k8 : Class := { plain "java/util/AbstractList" (some 5) with
  accessFlags := 1057
  interfaces := #[7]
  cf := some (fileOf pool8 8 #[.nestMembers #[93, 98, 208, 210, 82, 77]] #[{ accessFlags := 4, nameIndex := 5, descriptorIndex := 6, attributes := #[] }] 1057 2 #[133] #[{ accessFlags := 132, nameIndex := 11, descriptorIndex := 12, attributes := #[] }])
  fields := #[{ name := "modCount", type := .int, accessFlags := 132, slot := 0, constantValue := 0 }]
  methods := #[k8m0]
  instanceTypes := #[.int]
  staticTypes := #[]
  resolved := Array.replicate 218 none
  statics := none }

def pool9 : Array CpInfo := pool [(1, .class_ 2), (0, u "java/util/RandomAccess"), (0, .class_ 4), (0, u "java/lang/Object")] 2

/-- java/util/RandomAccess -/
def k9 : Class := { plain "java/util/RandomAccess" (some 0) with
  accessFlags := 1537
  interfaces := #[]
  cf := some (fileOf pool9 1 #[] #[] 1537 3 #[] #[])
  fields := #[]
  methods := #[]
  instanceTypes := #[]
  staticTypes := #[]
  resolved := Array.replicate 7 none
  statics := none }

def pool10 : Array CpInfo := pool [(1, .class_ 2), (0, u "java/lang/Cloneable"), (0, .class_ 4), (0, u "java/lang/Object")] 2

/-- java/lang/Cloneable -/
def k10 : Class := { plain "java/lang/Cloneable" (some 0) with
  accessFlags := 1537
  interfaces := #[]
  cf := some (fileOf pool10 1 #[] #[] 1537 3 #[] #[])
  fields := #[]
  methods := #[]
  instanceTypes := #[]
  staticTypes := #[]
  resolved := Array.replicate 7 none
  statics := none }

def pool11 : Array CpInfo := pool [(1, .class_ 2), (0, u "java/io/Serializable"), (0, .class_ 4), (0, u "java/lang/Object")] 2

/-- java/io/Serializable -/
def k11 : Class := { plain "java/io/Serializable" (some 0) with
  accessFlags := 1537
  interfaces := #[]
  cf := some (fileOf pool11 1 #[] #[] 1537 3 #[] #[])
  fields := #[]
  methods := #[]
  instanceTypes := #[]
  staticTypes := #[]
  resolved := Array.replicate 7 none
  statics := none }

def pool12 : Array CpInfo := pool [(1, .methodref 2 3), (0, .class_ 4), (0, .nameAndType 5 6), (0, u "java/util/AbstractList"), (0, u "<init>"), (0, u "()V"), (2, .fieldref 10 11), (0, .class_ 12), (0, .nameAndType 13 14), (0, u "java/util/ArrayList"), (0, u "elementData"), (0, u "[Ljava/lang/Object;"), (2, u "EMPTY_ELEMENTDATA"), (21, .fieldref 10 40), (0, .nameAndType 41 14), (0, u "DEFAULTCAPACITY_EMPTY_ELEMENTDATA"), (8, u "size"), (0, u "I"), (96, .class_ 149), (0, u "java/util/List"), (112, .class_ 263), (0, u "java/util/ArrayList$ListItr"), (3, .class_ 268), (0, u "java/util/ArrayList$Itr"), (7, .class_ 277), (0, u "java/util/ArrayList$SubList"), (12, .class_ 291), (0, u "java/util/ArrayList$ArrayListSpliterator"), (37, .class_ 330), (0, u "java/util/RandomAccess"), (0, .class_ 332), (0, u "java/lang/Cloneable"), (0, .class_ 334), (0, u "java/io/Serializable"), (0, u "serialVersionUID"), (0, u "J"), (3, u "DEFAULT_CAPACITY"), (159, .class_ 501), (0, u "java/util/ArrayList$SubList$2"), (0, .class_ 503), (0, u "java/util/ArrayList$SubList$1")] 5

def k12c0 : Code := { maxStack := 2, maxLocals := 1, code := jdk_38_method_2_code, exceptionTable := #[], attributes := #[] }
def k12m0 : Method := { name := "<init>", desc := "()V", sig := { parameters := [], returnType := none }, accessFlags := 1, code := some k12c0 }
/-- java/util/ArrayList -/
def k12 : Class := { plain "java/util/ArrayList" (some 8) with
  accessFlags := 33
  interfaces := #[7, 9, 10, 11]
  cf := some (fileOf pool12 10 #[.nestMembers #[290, 276, 500, 502, 262, 267]] #[{ accessFlags := 1, nameIndex := 5, descriptorIndex := 6, attributes := #[] }] 33 2 #[148, 329, 331, 333] #[{ accessFlags := 26, nameIndex := 335, descriptorIndex := 336, attributes := #[] }, { accessFlags := 26, nameIndex := 340, descriptorIndex := 51, attributes := #[] }, { accessFlags := 26, nameIndex := 17, descriptorIndex := 14, attributes := #[] }, { accessFlags := 26, nameIndex := 41, descriptorIndex := 14, attributes := #[] }, { accessFlags := 128, nameIndex := 13, descriptorIndex := 14, attributes := #[] }, { accessFlags := 2, nameIndex := 50, descriptorIndex := 51, attributes := #[] }])
  fields := #[{ name := "serialVersionUID", type := .long, accessFlags := 26, slot := 0, constantValue := 0 }, { name := "DEFAULT_CAPACITY", type := .int, accessFlags := 26, slot := 1, constantValue := 0 }, { name := "EMPTY_ELEMENTDATA", type := (.array (.object "java/lang/Object")), accessFlags := 26, slot := 2, constantValue := 0 }, { name := "DEFAULTCAPACITY_EMPTY_ELEMENTDATA", type := (.array (.object "java/lang/Object")), accessFlags := 26, slot := 3, constantValue := 0 }, { name := "elementData", type := (.array (.object "java/lang/Object")), accessFlags := 128, slot := 1, constantValue := 0 }, { name := "size", type := .int, accessFlags := 2, slot := 2, constantValue := 0 }]
  methods := #[k12m0]
  instanceTypes := #[.int, (.array (.object "java/lang/Object")), .int]
  staticTypes := #[.long, .int, (.array (.object "java/lang/Object")), (.array (.object "java/lang/Object"))]
  resolved := Array.replicate 509 none
  statics := some 0 }

def pool13 : Array CpInfo := pool [(2, .class_ 4), (1, u "java/lang/Object"), (3, .class_ 10), (1, u "com/example/propagule/propagule/ReversibleLongs"), (0, u "trail"), (0, u "Lcom/example/propagule/propagule/Trail;"), (3, u "[J"), (4, u "values"), (2, u "stamps"), (0, u "[I")] 22

/-- com/example/propagule/propagule/ReversibleLongs -/
def k13 : Class := { plain "com/example/propagule/propagule/ReversibleLongs" (some 0) with
  accessFlags := 48
  interfaces := #[]
  cf := some (fileOf pool13 8 #[] #[] 48 2 #[] #[{ accessFlags := 18, nameIndex := 11, descriptorIndex := 12, attributes := #[] }, { accessFlags := 18, nameIndex := 21, descriptorIndex := 16, attributes := #[] }, { accessFlags := 18, nameIndex := 24, descriptorIndex := 25, attributes := #[] }])
  fields := #[{ name := "trail", type := (.object "com/example/propagule/propagule/Trail"), accessFlags := 18, slot := 0, constantValue := 0 }, { name := "values", type := (.array .long), accessFlags := 18, slot := 1, constantValue := 0 }, { name := "stamps", type := (.array .int), accessFlags := 18, slot := 2, constantValue := 0 }]
  methods := #[]
  instanceTypes := #[(.object "com/example/propagule/propagule/Trail"), (.array .long), (.array .int)]
  staticTypes := #[]
  resolved := Array.replicate 48 none
  statics := none }

/-- the primitive byte -/
def k14 : Class := { plain "byte" none with kind := .primitive 'B', accessFlags := 0x411 }
/-- [B -/
def k15 : Class := { plain "[B" (some 0) with kind := .array 14 .byte, interfaces := #[10, 11], accessFlags := 1041 }

/-- the primitive int -/
def k16 : Class := { plain "int" none with kind := .primitive 'I', accessFlags := 0x411 }
/-- [I -/
def k17 : Class := { plain "[I" (some 0) with kind := .array 16 .int, interfaces := #[10, 11], accessFlags := 1041 }

/-- the primitive long -/
def k18 : Class := { plain "long" none with kind := .primitive 'J', accessFlags := 0x411 }
/-- [J -/
def k19 : Class := { plain "[J" (some 0) with kind := .array 18 .long, interfaces := #[10, 11], accessFlags := 1041 }

/-- [Lcom/example/propagule/propagule/ReversibleLongs; -/
def k20 : Class := { plain "[Lcom/example/propagule/propagule/ReversibleLongs;" (some 0) with kind := .array 13 (.object "com/example/propagule/propagule/ReversibleLongs"), interfaces := #[10, 11], accessFlags := 1041 }

/-- [Ljava/lang/Object; -/
def k21 : Class := { plain "[Ljava/lang/Object;" (some 0) with kind := .array 0 (.object "java/lang/Object"), interfaces := #[10, 11], accessFlags := 1041 }

/-- [[I -/
def k22 : Class := { plain "[[I" (some 0) with kind := .array 17 (.array .int), interfaces := #[10, 11], accessFlags := 1041 }
def heap : Heap := #[{ cls := 12, slots := #[.long 0, .int 0, .ref 1, .ref 2], vm := .statics 12 },
  { cls := 21, slots := #[], vm := .none },
  { cls := 21, slots := #[], vm := .none }]
def classes : Array Class := #[k0, k1, k2, k3, k4, k5, k6, k7, k8, k9, k10, k11, k12, k13, k14, k15, k16, k17, k18, k19, k20, k21, k22]
def interned : List (Array UInt16 × Addr) := []
def slotsUsed : Nat := 4
def theMethod : MethodId := ⟨1, 1⟩
def args0 : Array Value := #[.int 5, .int 1, .int 2, .long 3, .int 1]
def aboutOver (below : List Frame) : State where
  vm := { classes := classes, interned := interned.toArray }
  heap := heap
  slotsUsed := slotsUsed
  threads := #[{ frames := .invoking theMethod args0 :: below }]
def below0 : List Frame := [.native { method := ⟨0, 0⟩, args := #[] }]
def about1 : State := aboutOver below0
def p0 : Program := .bare "" "" ""
def e0 : Env := launch0.env 0 0 0
theorem w_frames : about1.frames = Frame.invoking theMethod args0 :: below0 := rfl
set_option maxRecDepth 65536 in
theorem w_args : argsFit about1.vm theMethod args0 = true := by decide +kernel
set_option maxRecDepth 65536 in
theorem w_heap : heapFits about1 = true := by decide +kernel
set_option maxRecDepth 65536 in
theorem w_runnable : about1.curStatus? = some .runnable := by decide +kernel
set_option maxRecDepth 65536 in
theorem w_alone : about1.alone = true := by decide +kernel
set_option maxRecDepth 65536 in
theorem w_named : about1.methodNamed? x = some theMethod := by decide +kernel
set_option maxRecDepth 65536 in
theorem w_hears : about1.hears theMethod below0 = true := by decide +kernel
set_option maxRecDepth 65536 in
theorem w_ripe : about1.ripe theMethod args0 below0 = true := by decide +kernel
theorem w_running : about1.status = .running := rfl
set_option maxRecDepth 65536 in
theorem w_room : about1.hasRoom e0.platform room_1 = true :=
  launch0.hasRoom_least _ room_1 (by decide +kernel) (by decide +kernel) (by decide +kernel) (by decide +kernel) (by decide +kernel) (by decide +kernel)
theorem allAtoms_all (ts : List Jvm.Cond) (a : Array Jvm.Value) (st : Jvm.State) : (allAtoms ts).before a st = ts.all (fun c => c.before a st) := by
  induction ts with
  | nil => rfl
  | cons c t ih =>
    show (Jvm.Cond.and c (allAtoms t)).before a st = _
    rw [Jvm.Cond.before_and, ih, List.all_cons]
def words1 : List Jvm.Cond := Jvm.Cond.code x code maxLocals ret :: tables_1
/-- a 'code' word, met by the world's own term for the bytes: nothing is compared byte by byte -/
theorem code_word {y : MethodName} {bytes : ByteArray} {mx : Nat} {rt : Option FieldType} {a : Array Value} {s : State} {m : MethodId} {meth : Method} {c : Code} (h1 : s.methodNamed? y = some m) (h2 : s.vm.method? m = some meth) (h3 : meth.code = some c) (h4 : c.code = bytes)
    (h5 : (c.maxLocals == mx && c.exceptionTable.isEmpty && decide (c.maxStack ≤ mostOperands) && decide (meth.sig.returnType = rt) && !meth.locks && decide (parseMethodDescriptor y.desc = some meth.sig)) = true) : (Jvm.Cond.code y bytes mx rt).before a s = true := by
  simp only [Bool.and_eq_true, beq_iff_eq, Bool.not_eq_true', decide_eq_true_eq] at h5
  obtain ⟨⟨⟨⟨⟨g1, g2⟩, g3⟩, g4⟩, g5⟩, g6⟩ := h5
  simp [Cond.before, Cond.holds, Cond.value, h1, h2, h3, h4, g1, g2, g3, g4, g5, g6]
def isCode : Jvm.Cond → Bool
  | .code _ _ _ _ => true
  | _ => false
theorem all_split {L : List Jvm.Cond} {P : Jvm.Cond → Bool} (h1 : L.all (fun c => isCode c || P c) = true) (h2 : ∀ c ∈ L.filter isCode, P c = true) : L.all P = true := by
  refine List.all_eq_true.mpr fun c hc => ?_
  have h := List.all_eq_true.mp h1 c hc
  rcases Bool.eq_false_or_eq_true (isCode c) with hi | hi
  · exact h2 c (List.mem_filter.mpr ⟨hc, hi⟩)
  · simpa [hi] using h
set_option maxRecDepth 65536 in
theorem w_c0 : (Jvm.Cond.code x code maxLocals ret).before args0 about1 = true := code_word (m := ⟨1, 1⟩) (meth := k1m1) (c := k1c1) (by decide +kernel) rfl rfl rfl (by decide +kernel)
set_option maxRecDepth 65536 in
theorem w_c1 : (Jvm.Cond.code ({ cls := "java/util/ArrayList", name := "<init>", desc := "()V" } : Jvm.MethodName) jdk_38_method_2_code (1 : Nat) (Option.none : Option Jvm.ClassFile.FieldType)).before args0 about1 = true := code_word (m := ⟨12, 0⟩) (meth := k12m0) (c := k12c0) (by decide +kernel) rfl rfl rfl (by decide +kernel)
set_option maxRecDepth 65536 in
theorem w_c2 : (Jvm.Cond.code ({ cls := "java/util/AbstractList", name := "<init>", desc := "()V" } : Jvm.MethodName) jdk_39_method_1_code (1 : Nat) (Option.none : Option Jvm.ClassFile.FieldType)).before args0 about1 = true := code_word (m := ⟨8, 0⟩) (meth := k8m0) (c := k8c0) (by decide +kernel) rfl rfl rfl (by decide +kernel)
set_option maxRecDepth 65536 in
theorem w_c3 : (Jvm.Cond.code ({ cls := "java/util/AbstractCollection", name := "<init>", desc := "()V" } : Jvm.MethodName) jdk_22_method_1_code (1 : Nat) (Option.none : Option Jvm.ClassFile.FieldType)).before args0 about1 = true := code_word (m := ⟨5, 0⟩) (meth := k5m0) (c := k5c0) (by decide +kernel) rfl rfl rfl (by decide +kernel)
set_option maxRecDepth 65536 in
theorem w_c4 : (Jvm.Cond.code ({ cls := "java/lang/Object", name := "<init>", desc := "()V" } : Jvm.MethodName) object_method_1_code (1 : Nat) (Option.none : Option Jvm.ClassFile.FieldType)).before args0 about1 = true := code_word (m := ⟨0, 0⟩) (meth := k0m0) (c := k0c0) (by decide +kernel) rfl rfl rfl (by decide +kernel)
set_option maxRecDepth 65536 in
theorem w_c5 : (Jvm.Cond.code ({ cls := "com/example/propagule/propagule/Trail", name := "<init>", desc := "(Ljava/util/List;)V" } : Jvm.MethodName) prog_74_method_1_code (2 : Nat) (Option.none : Option Jvm.ClassFile.FieldType)).before args0 about1 = true := code_word (m := ⟨2, 0⟩) (meth := k2m0) (c := k2c0) (by decide +kernel) rfl rfl rfl (by decide +kernel)
set_option maxRecDepth 65536 in
theorem w_c6 : (Jvm.Cond.code ({ cls := "com/example/propagule/propagule/Trail", name := "closeWorldsTo", desc := "(I)V" } : Jvm.MethodName) prog_74_method_6_code (6 : Nat) (Option.none : Option Jvm.ClassFile.FieldType)).before args0 about1 = true := code_word (m := ⟨2, 3⟩) (meth := k2m3) (c := k2c3) (by decide +kernel) rfl rfl rfl (by decide +kernel)
set_option maxRecDepth 65536 in
theorem w_c7 : (Jvm.Cond.code ({ cls := "com/example/propagule/propagule/Trail", name := "isOpen", desc := "(IJ)Z" } : Jvm.MethodName) prog_74_method_4_code (4 : Nat) (Option.some Jvm.ClassFile.FieldType.boolean)).before args0 about1 = true := code_word (m := ⟨2, 1⟩) (meth := k2m1) (c := k2c1) (by decide +kernel) rfl rfl rfl (by decide +kernel)
set_option maxRecDepth 65536 in
theorem w_c8 : (Jvm.Cond.code ({ cls := "com/example/propagule/propagule/Trail", name := "openWorld", desc := "()V" } : Jvm.MethodName) prog_74_method_5_code (1 : Nat) (Option.none : Option Jvm.ClassFile.FieldType)).before args0 about1 = true := code_word (m := ⟨2, 2⟩) (meth := k2m2) (c := k2c2) (by decide +kernel) rfl rfl rfl (by decide +kernel)
def codes1 : List Jvm.Cond := [Jvm.Cond.code x code maxLocals ret, Jvm.Cond.code ({ cls := "java/util/ArrayList", name := "<init>", desc := "()V" } : Jvm.MethodName) jdk_38_method_2_code (1 : Nat) (Option.none : Option Jvm.ClassFile.FieldType), Jvm.Cond.code ({ cls := "java/util/AbstractList", name := "<init>", desc := "()V" } : Jvm.MethodName) jdk_39_method_1_code (1 : Nat) (Option.none : Option Jvm.ClassFile.FieldType), Jvm.Cond.code ({ cls := "java/util/AbstractCollection", name := "<init>", desc := "()V" } : Jvm.MethodName) jdk_22_method_1_code (1 : Nat) (Option.none : Option Jvm.ClassFile.FieldType), Jvm.Cond.code ({ cls := "java/lang/Object", name := "<init>", desc := "()V" } : Jvm.MethodName) object_method_1_code (1 : Nat) (Option.none : Option Jvm.ClassFile.FieldType), Jvm.Cond.code ({ cls := "com/example/propagule/propagule/Trail", name := "<init>", desc := "(Ljava/util/List;)V" } : Jvm.MethodName) prog_74_method_1_code (2 : Nat) (Option.none : Option Jvm.ClassFile.FieldType), Jvm.Cond.code ({ cls := "com/example/propagule/propagule/Trail", name := "closeWorldsTo", desc := "(I)V" } : Jvm.MethodName) prog_74_method_6_code (6 : Nat) (Option.none : Option Jvm.ClassFile.FieldType), Jvm.Cond.code ({ cls := "com/example/propagule/propagule/Trail", name := "isOpen", desc := "(IJ)Z" } : Jvm.MethodName) prog_74_method_4_code (4 : Nat) (Option.some Jvm.ClassFile.FieldType.boolean), Jvm.Cond.code ({ cls := "com/example/propagule/propagule/Trail", name := "openWorld", desc := "()V" } : Jvm.MethodName) prog_74_method_5_code (1 : Nat) (Option.none : Option Jvm.ClassFile.FieldType)]
set_option maxRecDepth 65536 in
theorem codes_eq : words1.filter isCode = codes1 := rfl
theorem w_codes : ∀ c ∈ words1.filter isCode, c.before args0 about1 = true := by
  rw [codes_eq]
  intro c hc
  simp only [codes1, List.mem_cons, List.not_mem_nil, or_false] at hc
  rcases hc with rfl | rfl | rfl | rfl | rfl | rfl | rfl | rfl | rfl
  · exact w_c0
  · exact w_c1
  · exact w_c2
  · exact w_c3
  · exact w_c4
  · exact w_c5
  · exact w_c6
  · exact w_c7
  · exact w_c8
set_option maxRecDepth 65536 in
theorem w_t1 : (words1.take 24).all (fun c => isCode c || c.before args0 about1) = true := by decide +kernel
set_option maxRecDepth 65536 in
theorem w_t2 : ((words1.drop 24).take 24).all (fun c => isCode c || c.before args0 about1) = true := by decide +kernel
set_option maxRecDepth 65536 in
theorem w_t3 : (((words1.drop 24).drop 24).take 24).all (fun c => isCode c || c.before args0 about1) = true := by decide +kernel
set_option maxRecDepth 65536 in
theorem w_t4 : (((words1.drop 24).drop 24).drop 24).all (fun c => isCode c || c.before args0 about1) = true := by decide +kernel
theorem w_tables : (allAtoms (Jvm.Cond.code x code maxLocals ret :: tables_1)).before args0 about1 = true := by
  rw [allAtoms_all]
  show words1.all (fun c => c.before args0 about1) = true
  refine all_split ?_ w_codes
  rw [← List.take_append_drop 24 words1, List.all_append, w_t1, ← List.take_append_drop 24 (words1.drop 24), List.all_append, w_t2, ← List.take_append_drop 24 ((words1.drop 24).drop 24), List.all_append, w_t3, w_t4]
  rfl
set_option maxRecDepth 65536 in
theorem w_rest : rest_1_c.before args0 about1 = true := by decide +kernel
set_option maxRecDepth 65536 in
theorem w_case : (Jvm.Cond.and given_1 narrow_1).before args0 about1 = true := by decide +kernel
theorem w_applies : (headSpec (Jvm.Cond.code x code maxLocals ret :: tables_1) room_1).applies x e0.platform about1 = true :=
  (Spec.applies_iff w_frames).mpr ⟨w_running, w_runnable, w_alone, w_named, w_hears, w_ripe, w_room, w_tables⟩
theorem atStart : AtStart classFile x code maxLocals ret World_1 tables_1 room_1 Calls_1 rest_1 Pre_1 launch0 p0 e0 about1 theMethod args0 below0 :=
  ⟨lists_1, trivial, launch0.admits_env _ _ _, launch0.least_env, fairChoices_fair.cas, fairChoices_fair.clock, w_frames, w_args, w_heap, w_applies, trivial, w_rest, w_case⟩
end start1
theorem witness_1 : WitnessClaimed_1 := ⟨start1.p0, start1.e0, start1.about1, start1.theMethod, start1.args0, start1.below0, start1.atStart⟩
end Jvm.Pilot.@@N@@
