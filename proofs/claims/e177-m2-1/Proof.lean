import JvmDerived
import JvmDerived.Pilot.@@N@@Statement
import JvmDerived.Pilot.@@N@@Code
set_option linter.unusedVariables false
set_option linter.unusedSimpArgs false
namespace Jvm.Pilot.@@N@@
open Jvm Jvm.ClassFile Sem Op Lib Jvm.Free Jvm.Stand Jvm.LawKit Jvm.RoadKit Bundle Jvm.Pilot.@@N@@.Jvm.D
/-- the sheet's words hold -/
abbrev own_HW (Z : State) (a0 : Array Value) : Prop := ∀ d ∈ tables_1, d.before a0 Z = true
/-- the i-th word of the sheet -/
theorem own_w {Z : State} {a0 : Array Value} (hw : own_HW Z a0) (i : Nat) {d : Jvm.Cond} (h : tables_1[i]? = some d) : d.before a0 Z = true := hw _ (List.mem_of_getElem? h)
theorem own_slne {Z : State} {a0 : Array Value} {C O n d O' n' d' : String} (L : Laid Z a0 C O n d) (L' : Laid Z a0 C O' n' d') (hn : n ≠ n' := by decide) (ht : (parseFieldDescriptor d).isSome = true := by decide) (ht' : (parseFieldDescriptor d').isSome = true := by decide) : RoadKit.slotOf Z O n d ≠ RoadKit.slotOf Z O' n' d' :=
  slot_ne L L' hn (Option.some_get ht).symm (Option.some_get ht').symm
section Own
variable {p : Program} {l : Launch} {e : Env} {R : Room} {s : State} {m : MethodId} {args : Array Value} {below : List Frame} {meth : Method} {c : Code} {T T' : State} {locs : List Loc} {cells slots kc ks : Nat} {g g' : JFrame} {Q : Option Value → Heap → List Loc → Prop}
/-- from here the run goes on to its return, with Q of what it returns, the heap and the places written -/
def own_Go (p : Program) (e : Env) (below : List Frame) (s T : State) (g : JFrame) (Q : Option Value → Heap → List Loc → Prop) (kc ks : Nat) : Prop :=
  ∃ s₂ o, Steps p.tables e below (T.setTop g) s₂ ∧ s₂.status = .running ∧ Ended s₂ below o ∧ ∃ v L, o = .returned v ∧ Q v s₂.heap L ∧ FrameEnd s o s₂ L kc ks
theorem own_st (st : ∀ t, Steps p.tables e below (T'.setTop g') t → Steps p.tables e below (T.setTop g) t) (k : own_Go p e below s T' g' Q kc ks) : own_Go p e below s T g Q kc ks := by
  obtain ⟨s₂, o, h1, h2⟩ := k
  exact ⟨s₂, o, st _ h1, h2⟩
theorem own_stt (st : Steps p.tables e below (T.setTop g) (T'.setTop g')) (k : own_Go p e below s T' g' Q kc ks) : own_Go p e below s T g Q kc ks := own_st (fun _ k => st.trans k) k
theorem own_cast (q : g = g') (k : own_Go p e below s T g' Q kc ks) : own_Go p e below s T g Q kc ks := q ▸ k
theorem own_retN (X : Stand p l e R s m args below meth c T locs cells slots) (hx : p.tables.exec = Jvm.exec) (hlk : meth.locks = false) {t : FieldType} (ht : t = .boolean ∨ t = .byte ∨ t = .char ∨ t = .short) (hret : meth.sig.returnType = some t)
    {pc : Nat} {Ls : Array Slot} {z : Int32} {rest : List Value} (hd : decode c.code pc = .ok (.ireturn, 1)) (hc : cells ≤ kc) (hs : slots ≤ ks) (hq : Q (some (.int (nar t z))) T.heap locs) :
    own_Go p e below s T (mkF m pc Ls (.int z :: rest)) Q kc ks := by
  obtain ⟨fs, hr, hrun, hended, hW, hsame⟩ := X.leave (v := some (.int (nar t z))) (fun h => by rw [hret] at h; cases h) hlk
  exact ⟨_, _, retN X hx hret ht hd hr, hrun, hended, _, _, rfl, hq, ⟨_, rfl⟩, hW, hsame.mono hc hs⟩
theorem own_retI (X : Stand p l e R s m args below meth c T locs cells slots) (hx : p.tables.exec = Jvm.exec) (hlk : meth.locks = false) (hret : meth.sig.returnType = some .int)
    {pc : Nat} {Ls : Array Slot} {z : Int32} {rest : List Value} (hd : decode c.code pc = .ok (.ireturn, 1)) (hc : cells ≤ kc) (hs : slots ≤ ks) (hq : Q (some (.int z)) T.heap locs) :
    own_Go p e below s T (mkF m pc Ls (.int z :: rest)) Q kc ks := by
  obtain ⟨fs, hr, hrun, hended, hW, hsame⟩ := X.leave (v := some (.int z)) (fun h => by rw [hret] at h; cases h) hlk
  exact ⟨_, _, retOut X hx hret rfl (Or.inl ⟨rfl, Or.inl rfl, _, rfl⟩) hd hr, hrun, hended, _, _, rfl, hq, ⟨_, rfl⟩, hW, hsame.mono hc hs⟩
theorem own_retJ (X : Stand p l e R s m args below meth c T locs cells slots) (hx : p.tables.exec = Jvm.exec) (hlk : meth.locks = false) (hret : meth.sig.returnType = some .long)
    {pc : Nat} {Ls : Array Slot} {z : Int64} {rest : List Value} (hd : decode c.code pc = .ok (.lreturn, 1)) (hc : cells ≤ kc) (hs : slots ≤ ks) (hq : Q (some (.long z)) T.heap locs) :
    own_Go p e below s T (mkF m pc Ls (.long z :: rest)) Q kc ks := by
  obtain ⟨fs, hr, hrun, hended, hW, hsame⟩ := X.leave (v := some (.long z)) (fun h => by rw [hret] at h; cases h) hlk
  exact ⟨_, _, retOut X hx hret rfl (Or.inr (Or.inl ⟨rfl, rfl, _, rfl⟩)) hd hr, hrun, hended, _, _, rfl, hq, ⟨_, rfl⟩, hW, hsame.mono hc hs⟩
theorem own_retR (X : Stand p l e R s m args below meth c T locs cells slots) (hx : p.tables.exec = Jvm.exec) (hlk : meth.locks = false) {t : FieldType} (ht : t.isReference = true) (hret : meth.sig.returnType = some t)
    {pc : Nat} {Ls : Array Slot} {a : Addr} {rest : List Value} (hd : decode c.code pc = .ok (.areturn, 1)) (hc : cells ≤ kc) (hs : slots ≤ ks) (hq : Q (some (.ref a)) T.heap locs) :
    own_Go p e below s T (mkF m pc Ls (.ref a :: rest)) Q kc ks := by
  obtain ⟨fs, hr, hrun, hended, hW, hsame⟩ := X.leave (v := some (.ref a)) (fun h => by rw [hret] at h; cases h) hlk
  exact ⟨_, _, retOut X hx hret (by cases t <;> first | rfl | cases ht) (Or.inr (Or.inr (Or.inr (Or.inr ⟨rfl, ht, rfl⟩)))) hd hr, hrun, hended, _, _, rfl, hq, ⟨_, rfl⟩, hW, hsame.mono hc hs⟩
theorem own_retV (X : Stand p l e R s m args below meth c T locs cells slots) (hx : p.tables.exec = Jvm.exec) (hlk : meth.locks = false) (hret : meth.sig.returnType = none)
    {pc : Nat} {Ls : Array Slot} (hd : decode c.code pc = .ok (.return_, 1)) (hc : cells ≤ kc) (hs : slots ≤ ks) (hq : Q none T.heap locs) :
    own_Go p e below s T (mkF m pc Ls []) Q kc ks := by
  obtain ⟨fs, hr, hrun, hended, hW, hsame⟩ := X.leave (v := none) (fun _ => rfl) hlk
  exact ⟨_, _, X.returnOut hx hret hd hr, hrun, hended, _, _, rfl, hq, ⟨_, rfl⟩, hW, hsame.mono hc hs⟩
/-- getfield, and on -/
theorem own_gG {Z : State} {a0 : Array Value} {h : Heap} {own O n d : String} {index : Nat} {a : Addr} {v : Value} {rest : List Value} {s0 : State} (X : Stand p l e R s m args below meth c T locs cells slots) (hx : p.tables.exec = Jvm.exec) (hZ : Z.Warmed39 s.vm) (hown : s.vm.findClass own = some m.cls) (w : (Jvm.Cond.fieldLink own index O n d).before a0 Z = true) (eT : T.heap = h) (F : Fld Z h a O n d v) (hg : g.method = m) (hs : g.stack = .ref a :: rest) (hd : decode c.code g.pc = .ok (.getfield index, 3))
    (k : ∀ {T' : State}, Stand p l e R s m args below meth c T' locs cells slots → T'.heap = h → own_Go p e below s0 T' { g with pc := g.pc + 3, stack := v :: rest } Q kc ks) : own_Go p e below s0 T g Q kc ks := by
  obtain ⟨T', X', e', st⟩ := getF X hx hZ hown (host := "") (Or.inl w) Via.refl eT F hg hs hd
  exact own_st st (k X' e')
end Own
/-- what a body that writes nothing leaves: its value, nothing old written, the heap as it was -/
def own_QP (w : Value) (h0 : Heap) (n0 : Nat) (v : Option Value) (h : Heap) (L : List Loc) : Prop := v = some w ∧ Fr n0 L ∧ h = h0
abbrev own_D (c : ByteArray) (i : Nat) (x : Instr) (k : Nat) : Prop := decode c i = .ok (x, k)
abbrev own_NE (Z : State) (O n d O' n' d' : String) : Prop := RoadKit.slotOf Z O n d ≠ RoadKit.slotOf Z O' n' d'
abbrev own_b1 : ByteArray := jdk_29_method_69_code
abbrev own_b2 : ByteArray := jdk_29_method_65_code
abbrev own_b7 : ByteArray := jdk_29_method_70_code
abbrev own_b6 : ByteArray := jdk_33_method_47_code
abbrev own_b5 : ByteArray := jdk_35_method_48_code
abbrev own_b8 : ByteArray := prog_160_method_3_code
abbrev own_b15 : ByteArray := prog_160_method_14_code
abbrev own_b13 : ByteArray := prog_160_method_8_code
abbrev own_b11 : ByteArray := jdk_65_method_101_code
abbrev own_b10 : ByteArray := prog_160_method_10_code
abbrev own_b12 : ByteArray := prog_160_method_15_code
abbrev own_b17 : ByteArray := prog_160_method_11_code
abbrev own_b14 : ByteArray := prog_160_method_12_code
abbrev own_b9 : ByteArray := prog_160_method_6_code
abbrev own_b16 : ByteArray := prog_160_method_9_code
abbrev own_b3 : ByteArray := prog_160_method_2_code
theorem own_sll {Z : State} {a0 : Array Value} (hw : own_HW Z a0) (i j : Nat) {C O n d O' n' d' : String} (h : tables_1[i]? = some (.lays C O n d)) (h' : tables_1[j]? = some (.lays C O' n' d')) (hn : n ≠ n' := by decide) (ht : (parseFieldDescriptor d).isSome = true := by decide) (ht' : (parseFieldDescriptor d').isSome = true := by decide) : RoadKit.slotOf Z O n d ≠ RoadKit.slotOf Z O' n' d' := own_slne (Or.inl (own_w hw i h)) (Or.inl (own_w hw j h')) hn ht ht'
theorem own_slr {Z : State} {a0 : Array Value} (hw : own_HW Z a0) (i j : Nat) {C O n d O' n' d' : String} (h : tables_1[i]? = some (.lays C O n d)) (h' : tables_1[j]? = some (.laysFinal C O' n' d')) (hn : n ≠ n' := by decide) (ht : (parseFieldDescriptor d).isSome = true := by decide) (ht' : (parseFieldDescriptor d').isSome = true := by decide) : RoadKit.slotOf Z O n d ≠ RoadKit.slotOf Z O' n' d' := own_slne (Or.inl (own_w hw i h)) (Or.inr (own_w hw j h')) hn ht ht'
theorem own_srl {Z : State} {a0 : Array Value} (hw : own_HW Z a0) (i j : Nat) {C O n d O' n' d' : String} (h : tables_1[i]? = some (.laysFinal C O n d)) (h' : tables_1[j]? = some (.lays C O' n' d')) (hn : n ≠ n' := by decide) (ht : (parseFieldDescriptor d).isSome = true := by decide) (ht' : (parseFieldDescriptor d').isSome = true := by decide) : RoadKit.slotOf Z O n d ≠ RoadKit.slotOf Z O' n' d' := own_slne (Or.inr (own_w hw i h)) (Or.inl (own_w hw j h')) hn ht ht'
theorem own_srr {Z : State} {a0 : Array Value} (hw : own_HW Z a0) (i j : Nat) {C O n d O' n' d' : String} (h : tables_1[i]? = some (.laysFinal C O n d)) (h' : tables_1[j]? = some (.laysFinal C O' n' d')) (hn : n ≠ n' := by decide) (ht : (parseFieldDescriptor d).isSome = true := by decide) (ht' : (parseFieldDescriptor d').isSome = true := by decide) : RoadKit.slotOf Z O n d ≠ RoadKit.slotOf Z O' n' d' := own_slne (Or.inr (own_w hw i h)) (Or.inr (own_w hw j h')) hn ht ht'
abbrev own_z0 : String := "com/example/weigh/weigh/models/explicit/StateTable"
abbrev own_z1 : String := "numberOfLeadingZeros"
abbrev own_z2 : String := "java/lang/Math"
abbrev own_z3 : String := "java/lang/Integer"
section OwnArr
variable {p : Program} {l : Launch} {e : Env} {R : Room} {s : State} {m : MethodId} {args : Array Value} {below : List Frame} {meth : Method} {c : Code} {T T' : State} {locs : List Loc} {cells slots : Nat} {Z : State} {h h' : Heap} {a b : Addr} {n : Nat}
theorem own_nb {j : Int32} {n : Nat} (h0 : ¬ j < 0) (hj : j.toInt < n) : j.toNatClampNeg < n := by have := nat_of h0; omega
/-- an array of ints: its length, its elements -/
def own_AI (Z : State) (h : Heap) (a : Addr) (n : Nat) (f : Nat → Int32) : Prop := ∃ c : Cell, Arr Z h a c .int ∧ c.slots.size = n ∧ n < 2 ^ 31 ∧ ∀ i, i < n → c.slots[i]? = some (.int (f i))
theorem own_AI.lt {f : Nat → Int32} (F : own_AI Z h a n f) : a < h.size := by obtain ⟨c, A, -⟩ := F; exact A.lt
theorem own_AI.ext {f : Nat → Int32} (F : own_AI Z h a n f) (E : Ext h h') : own_AI Z h' a n f := by obtain ⟨c, A, r⟩ := F; exact ⟨c, A.ext E, r⟩
theorem own_AI.other {f : Nat → Int32} {sl : Nat} {v : Value} (F : own_AI Z h b n f) (W : Wr h h' a sl v) (q : b ≠ a) : own_AI Z h' b n f := by obtain ⟨c, A, r⟩ := F; exact ⟨c, A.other W q, r⟩
theorem own_AI.keep {f : Nat → Int32} {ws : List Addr} (F : own_AI Z h a n f) (K : Keep h h' ws) (q : a ∉ ws) : own_AI Z h' a n f := by obtain ⟨c, A, r⟩ := F; exact ⟨c, ⟨K.2.1 a c A.1 q, A.2⟩, r⟩
theorem own_AI.new {k : ClassId} {z : Int32} (A : Arr Z h a (newA k .int z) .int) (q : ¬ z < 0) : own_AI Z h a z.toNatClampNeg (fun _ => 0) := by
  refine ⟨_, A, sz_new _ _ _, (back32 q).2, fun i hi => ?_⟩
  have := (newA k .int z).slots.size
  simp [newA, hi, defaultValue]
theorem own_AI.congr {f g : Nat → Int32} (F : own_AI Z h a n f) (q : ∀ i, i < n → f i = g i) : own_AI Z h a n g := by obtain ⟨c, A, r1, r2, r3⟩ := F; exact ⟨c, A, r1, r2, fun i hi => by rw [← q i hi]; exact r3 i hi⟩
theorem own_AI.set {f : Nat → Int32} {c : Cell} {j x : Int32} (A : Arr Z h a c .int) (S : c.slots.size = n) (N : n < 2 ^ 31) (H : ∀ i, i < n → c.slots[i]? = some (.int (f i))) (W : Wr h h' a j.toNatClampNeg (.int x)) : own_AI Z h' a n (fun i => if i = j.toNatClampNeg then x else f i) := by
  refine ⟨_, A.same W, by rw [sz_set, S], N, fun i hi => ?_⟩
  by_cases q : i = j.toNatClampNeg
  · subst q; simp [Cell.setSlot, S, hi]
  · simp only [if_neg q, Cell.setSlot]
    rw [Array.getElem?_setIfInBounds_ne (Ne.symm q)]
    exact H i hi
theorem own_ldI {f : Nat → Int32} {g : JFrame} {j : Int32} {rest : List Value} (X : Stand p l e R s m args below meth c T locs cells slots) (hx : p.tables.exec = Jvm.exec) (hZ : Z.Warmed39 s.vm) (eT : T.heap = h) (F : own_AI Z h a n f) (h0 : ¬ j < 0) (hj : j.toInt < n) (hg : g.method = m) (hs : g.stack = .int j :: .ref a :: rest) (hd : decode c.code g.pc = .ok (.iaload, 1)) :
    ∀ target, Steps p.tables e below (T.setTop { g with pc := g.pc + 1, stack := .int (f j.toNatClampNeg) :: rest }) target → Steps p.tables e below (T.setTop g) target := by
  obtain ⟨c, A, S, N, H⟩ := F
  have hb := own_nb h0 hj
  exact X.iaload hx (by rw [eT]; exact A.1) (State.isArrayOf_alike hZ.alike A.2.1) A.2.2 (fun q => q.elim h0 (fun q => by omega)) (H _ hb) hg hs hd
theorem own_stI {f : Nat → Int32} {g : JFrame} {j x : Int32} {rest : List Value} (X : Stand p l e R s m args below meth c T locs cells slots) (hx : p.tables.exec = Jvm.exec) (hZ : Z.Warmed39 s.vm) (eT : T.heap = h) (F : own_AI Z h a n f) (h0 : ¬ j < 0) (hj : j.toInt < n) (hg : g.method = m) (hs : g.stack = .int x :: .int j :: .ref a :: rest) (hd : decode c.code g.pc = .ok (.iastore, 1)) :
    ∃ T' h', Stand p l e R s m args below meth c T' (locs ++ [⟨a, j.toNatClampNeg⟩]) cells slots ∧ T'.heap = h' ∧ Wr h h' a j.toNatClampNeg (.int x) ∧ own_AI Z h' a n (fun i => if i = j.toNatClampNeg then x else f i) ∧ ∀ target, Steps p.tables e below (T'.setTop { g with pc := g.pc + 1, stack := rest }) target → Steps p.tables e below (T.setTop g) target := by
  obtain ⟨c, A, S, N, H⟩ := F
  have hb := own_nb h0 hj
  obtain ⟨T', h', X', e', W, st⟩ := stI X hx hZ eT A (fun q => q.elim h0 (fun q => by omega)) hg hs hd
  exact ⟨T', h', X', e', W, own_AI.set A S N H W, st⟩
theorem own_lenI {f : Nat → Int32} {g : JFrame} {rest : List Value} (X : Stand p l e R s m args below meth c T locs cells slots) (hx : p.tables.exec = Jvm.exec) (hZ : Z.Warmed39 s.vm) (eT : T.heap = h) (F : own_AI Z h a n f) {z : Int32} (hz : z.toInt = n) (hg : g.method = m) (hs : g.stack = .ref a :: rest) (hd : decode c.code g.pc = .ok (.arraylength, 1)) :
    ∀ target, Steps p.tables e below (T.setTop { g with pc := g.pc + 1, stack := .int z :: rest }) target → Steps p.tables e below (T.setTop g) target := by
  obtain ⟨c, A, S, N, H⟩ := F
  have q : c.slots.size.toInt32 = z := by
    apply Int32.toInt_inj.mp
    rw [len_toInt (by omega), S, hz]
  have := X.arraylength hx (by rw [eT]; exact A.1) (State.isArrayOf_alike hZ.alike A.2.1) hg hs hd
  rw [q] at this
  exact this
/-- an array of longs: its length, its elements -/
def own_AJ (Z : State) (h : Heap) (a : Addr) (n : Nat) (f : Nat → Int64) : Prop := ∃ c : Cell, Arr Z h a c .long ∧ c.slots.size = n ∧ n < 2 ^ 31 ∧ ∀ i, i < n → c.slots[i]? = some (.long (f i))
theorem own_AJ.lt {f : Nat → Int64} (F : own_AJ Z h a n f) : a < h.size := by obtain ⟨c, A, -⟩ := F; exact A.lt
theorem own_AJ.ext {f : Nat → Int64} (F : own_AJ Z h a n f) (E : Ext h h') : own_AJ Z h' a n f := by obtain ⟨c, A, r⟩ := F; exact ⟨c, A.ext E, r⟩
theorem own_AJ.other {f : Nat → Int64} {sl : Nat} {v : Value} (F : own_AJ Z h b n f) (W : Wr h h' a sl v) (q : b ≠ a) : own_AJ Z h' b n f := by obtain ⟨c, A, r⟩ := F; exact ⟨c, A.other W q, r⟩
theorem own_AJ.keep {f : Nat → Int64} {ws : List Addr} (F : own_AJ Z h a n f) (K : Keep h h' ws) (q : a ∉ ws) : own_AJ Z h' a n f := by obtain ⟨c, A, r⟩ := F; exact ⟨c, ⟨K.2.1 a c A.1 q, A.2⟩, r⟩
theorem own_AJ.new {k : ClassId} {z : Int32} (A : Arr Z h a (newA k .long z) .long) (q : ¬ z < 0) : own_AJ Z h a z.toNatClampNeg (fun _ => 0) := by
  refine ⟨_, A, sz_new _ _ _, (back32 q).2, fun i hi => ?_⟩
  simp [newA, hi, defaultValue]
theorem own_AJ.congr {f g : Nat → Int64} (F : own_AJ Z h a n f) (q : ∀ i, i < n → f i = g i) : own_AJ Z h a n g := by obtain ⟨c, A, r1, r2, r3⟩ := F; exact ⟨c, A, r1, r2, fun i hi => by rw [← q i hi]; exact r3 i hi⟩
theorem own_AJ.set {f : Nat → Int64} {c : Cell} {j : Int32} {x : Int64} (A : Arr Z h a c .long) (S : c.slots.size = n) (N : n < 2 ^ 31) (H : ∀ i, i < n → c.slots[i]? = some (.long (f i))) (W : Wr h h' a j.toNatClampNeg (.long x)) : own_AJ Z h' a n (fun i => if i = j.toNatClampNeg then x else f i) := by
  refine ⟨_, A.same W, by rw [sz_set, S], N, fun i hi => ?_⟩
  by_cases q : i = j.toNatClampNeg
  · subst q; simp [Cell.setSlot, S, hi]
  · simp only [if_neg q, Cell.setSlot]
    rw [Array.getElem?_setIfInBounds_ne (Ne.symm q)]
    exact H i hi
theorem own_ldJ {f : Nat → Int64} {g : JFrame} {j : Int32} {rest : List Value} (X : Stand p l e R s m args below meth c T locs cells slots) (hx : p.tables.exec = Jvm.exec) (hZ : Z.Warmed39 s.vm) (eT : T.heap = h) (F : own_AJ Z h a n f) (h0 : ¬ j < 0) (hj : j.toInt < n) (hg : g.method = m) (hs : g.stack = .int j :: .ref a :: rest) (hd : decode c.code g.pc = .ok (.laload, 1)) :
    ∀ target, Steps p.tables e below (T.setTop { g with pc := g.pc + 1, stack := .long (f j.toNatClampNeg) :: rest }) target → Steps p.tables e below (T.setTop g) target := by
  obtain ⟨c, A, S, N, H⟩ := F
  have hb := own_nb h0 hj
  exact X.laload hx (by rw [eT]; exact A.1) (State.isArrayOf_alike hZ.alike A.2.1) A.2.2 (fun q => q.elim h0 (fun q => by omega)) (H _ hb) hg hs hd
theorem own_stJ {f : Nat → Int64} {g : JFrame} {j : Int32} {x : Int64} {rest : List Value} (X : Stand p l e R s m args below meth c T locs cells slots) (hx : p.tables.exec = Jvm.exec) (hZ : Z.Warmed39 s.vm) (eT : T.heap = h) (F : own_AJ Z h a n f) (h0 : ¬ j < 0) (hj : j.toInt < n) (hg : g.method = m) (hs : g.stack = .long x :: .int j :: .ref a :: rest) (hd : decode c.code g.pc = .ok (.lastore, 1)) :
    ∃ T' h', Stand p l e R s m args below meth c T' (locs ++ [⟨a, j.toNatClampNeg⟩]) cells slots ∧ T'.heap = h' ∧ Wr h h' a j.toNatClampNeg (.long x) ∧ own_AJ Z h' a n (fun i => if i = j.toNatClampNeg then x else f i) ∧ ∀ target, Steps p.tables e below (T'.setTop { g with pc := g.pc + 1, stack := rest }) target → Steps p.tables e below (T.setTop g) target := by
  obtain ⟨c, A, S, N, H⟩ := F
  have hb := own_nb h0 hj
  obtain ⟨T', h', X', e', W, st⟩ := stJ X hx hZ eT A (fun q => q.elim h0 (fun q => by omega)) hg hs hd
  exact ⟨T', h', X', e', W, own_AJ.set A S N H W, st⟩
end OwnArr
theorem own_sel {s : State} {args : Array Value} {y : MethodName} {n : Nat} (hinst : (Jvm.Cond.instanceMethod y).before args s = true) (hp : (Jvm.Cond.privateMethod y).before args s = true) (hi : (Jvm.Cond.instantiable y.cls n).before args s = true)
    (hy : y.cls ≠ "java/lang/invoke/MethodHandle" ∧ y.cls ≠ "java/lang/invoke/VarHandle") : (Jvm.Cond.selects y.cls y y).before args s = true := by
  obtain ⟨m, meth, h1, h2, h3, h4⟩ := Cond.instanceMethod_spec hinst
  obtain ⟨c, k, i1, i2, i3, i4, -⟩ := Cond.instantiable_spec hi
  have hc := findClass_of_methodNamed h1
  cases i1.symm.trans hc
  have hf := State.methodFound?_of_named h1 hy
  have hs : selectMethod {} s.vm m.cls m = .method m := selectMethod_private h2 (Cond.privateMethod_at hp m meth h1 h2)
  have hk : k.isInterface = false := (Bool.or_eq_false_iff.mp i4).1
  simp [Cond.before, Cond.holds, Cond.value, hc, hf, h1, hs, i2, hk]
section OwnArv
variable {p : Program} {l : Launch} {e : Env} {R : Room} {s : State} {m : MethodId} {args : Array Value} {below : List Frame} {meth : Method} {c : Code} {T : State} {locs : List Loc} {cells slots : Nat} {Z : State} {h : Heap} {a : Addr} {k : ClassId} {z : Int32} {vs : List Value} {dv : Value} {g : JFrame} {j : Int32} {rest : List Value}
/-- loads and stores of an array whose values are listed -/
theorem own_lvI {v : Int32} (X : Stand p l e R s m args below meth c T locs cells slots) (hx : p.tables.exec = Jvm.exec) (hZ : Z.Warmed39 s.vm) (eT : T.heap = h) (F : Arv Z h a k .int z vs dv) (hj : ¬ j < 0 ∧ j < z) (hv : vs.getD j.toNatClampNeg dv = .int v) (hg : g.method = m) (hs : g.stack = .int j :: .ref a :: rest) (hd : decode c.code g.pc = .ok (.iaload, 1)) :
    ∀ target, Steps p.tables e below (T.setTop { g with pc := g.pc + 1, stack := .int v :: rest }) target → Steps p.tables e below (T.setTop g) target := by
  obtain ⟨c, A, q, S, M, H, G⟩ := F
  exact X.iaload hx (by rw [eT]; exact A.1) (State.isArrayOf_alike hZ.alike A.2.1) A.2.2 (inb_of S hj) (H.at (inb_of S hj) hv) hg hs hd
theorem own_lvJ {v : Int64} (X : Stand p l e R s m args below meth c T locs cells slots) (hx : p.tables.exec = Jvm.exec) (hZ : Z.Warmed39 s.vm) (eT : T.heap = h) (F : Arv Z h a k .long z vs dv) (hj : ¬ j < 0 ∧ j < z) (hv : vs.getD j.toNatClampNeg dv = .long v) (hg : g.method = m) (hs : g.stack = .int j :: .ref a :: rest) (hd : decode c.code g.pc = .ok (.laload, 1)) :
    ∀ target, Steps p.tables e below (T.setTop { g with pc := g.pc + 1, stack := .long v :: rest }) target → Steps p.tables e below (T.setTop g) target := by
  obtain ⟨c, A, q, S, M, H, G⟩ := F
  exact X.laload hx (by rw [eT]; exact A.1) (State.isArrayOf_alike hZ.alike A.2.1) A.2.2 (inb_of S hj) (H.at (inb_of S hj) hv) hg hs hd
theorem own_svI {x : Int32} (X : Stand p l e R s m args below meth c T locs cells slots) (hx : p.tables.exec = Jvm.exec) (hZ : Z.Warmed39 s.vm) (eT : T.heap = h) (F : Arv Z h a k .int z vs dv) (hj : ¬ j < 0 ∧ j < z) (i : Nat) (hi : j.toNatClampNeg = i) (hl : i < vs.length) (hg : g.method = m) (hs : g.stack = .int x :: .int j :: .ref a :: rest) (hd : decode c.code g.pc = .ok (.iastore, 1)) :
    ∃ T' h', Stand p l e R s m args below meth c T' (locs ++ [⟨a, j.toNatClampNeg⟩]) cells slots ∧ T'.heap = h' ∧ Wr h h' a j.toNatClampNeg (.int x) ∧ Arv Z h' a k .int z (vs.set i (.int x)) dv ∧ ∀ target, Steps p.tables e below (T'.setTop { g with pc := g.pc + 1, stack := rest }) target → Steps p.tables e below (T.setTop g) target := by
  obtain ⟨c, A, q, S, M, H, G⟩ := F
  obtain ⟨T', h', X', e', W, st⟩ := stI X hx hZ eT A (inb_of S hj) hg hs hd
  exact ⟨T', h', X', e', W, Arv.set A q S M H G rfl W i hi hl, st⟩
theorem own_svJ {x : Int64} (X : Stand p l e R s m args below meth c T locs cells slots) (hx : p.tables.exec = Jvm.exec) (hZ : Z.Warmed39 s.vm) (eT : T.heap = h) (F : Arv Z h a k .long z vs dv) (hj : ¬ j < 0 ∧ j < z) (i : Nat) (hi : j.toNatClampNeg = i) (hl : i < vs.length) (hg : g.method = m) (hs : g.stack = .long x :: .int j :: .ref a :: rest) (hd : decode c.code g.pc = .ok (.lastore, 1)) :
    ∃ T' h', Stand p l e R s m args below meth c T' (locs ++ [⟨a, j.toNatClampNeg⟩]) cells slots ∧ T'.heap = h' ∧ Wr h h' a j.toNatClampNeg (.long x) ∧ Arv Z h' a k .long z (vs.set i (.long x)) dv ∧ ∀ target, Steps p.tables e below (T'.setTop { g with pc := g.pc + 1, stack := rest }) target → Steps p.tables e below (T.setTop g) target := by
  obtain ⟨c, A, q, S, M, H, G⟩ := F
  obtain ⟨T', h', X', e', W, st⟩ := stJ X hx hZ eT A (inb_of S hj) hg hs hd
  exact ⟨T', h', X', e', W, Arv.set A q S M H G rfl W i hi hl, st⟩
theorem own_lnV {ty : FieldType} (X : Stand p l e R s m args below meth c T locs cells slots) (hx : p.tables.exec = Jvm.exec) (hZ : Z.Warmed39 s.vm) (eT : T.heap = h) (F : Arv Z h a k ty z vs dv) (hg : g.method = m) (hs : g.stack = .ref a :: rest) (hd : decode c.code g.pc = .ok (.arraylength, 1)) :
    ∀ target, Steps p.tables e below (T.setTop { g with pc := g.pc + 1, stack := .int z :: rest }) target → Steps p.tables e below (T.setTop g) target := by
  obtain ⟨c, A, q, S, M, H, G⟩ := F
  have := X.arraylength hx (by rw [eT]; exact A.1) (State.isArrayOf_alike hZ.alike A.2.1) hg hs hd
  rw [len_of S M] at this
  exact this
theorem own_iv2 {i j : Int32} (h1 : ¬ i < 0) (h2 : i < j) : ¬ i < 0 ∧ i < j := ⟨h1, h2⟩
end OwnArv
abbrev own_c0 : String := "com/example/weigh/weigh/models/explicit/StateTable"
theorem own_sn0 {Z a0} (hw : own_HW Z a0) : own_NE Z own_c0 "slots" "[I" own_c0 "size" "I" := own_sll hw 62 93 rfl rfl
theorem own_sn1 {Z a0} (hw : own_HW Z a0) : own_NE Z own_c0 "lows" "[I" own_c0 "size" "I" := own_srl hw 30 93 rfl rfl
theorem own_sn2 {Z a0} (hw : own_HW Z a0) : own_NE Z own_c0 "spans" "[J" own_c0 "size" "I" := own_srl hw 33 93 rfl rfl
theorem own_sn3 {Z a0} (hw : own_HW Z a0) : own_NE Z own_c0 "masks" "[J" own_c0 "size" "I" := own_srl hw 35 93 rfl rfl
theorem own_sn4 {Z a0} (hw : own_HW Z a0) : own_NE Z own_c0 "words" "[I" own_c0 "size" "I" := own_srl hw 37 93 rfl rfl
theorem own_sn5 {Z a0} (hw : own_HW Z a0) : own_NE Z own_c0 "shifts" "[I" own_c0 "size" "I" := own_srl hw 39 93 rfl rfl
theorem own_sn6 {Z a0} (hw : own_HW Z a0) : own_NE Z own_c0 "packed" "[J" own_c0 "size" "I" := own_sll hw 57 93 rfl rfl
theorem own_sn7 {Z a0} (hw : own_HW Z a0) : own_NE Z own_c0 "key" "[J" own_c0 "size" "I" := own_srl hw 64 93 rfl rfl
theorem own_sn8 {Z a0} (hw : own_HW Z a0) : own_NE Z own_c0 "wordCount" "I" own_c0 "size" "I" := own_srl hw 50 93 rfl rfl
theorem own_sn9 {Z a0} (hw : own_HW Z a0) : own_NE Z own_c0 "spans" "[J" own_c0 "lows" "[I" := own_srr hw 33 30 rfl rfl
theorem own_sn10 {Z a0} (hw : own_HW Z a0) : own_NE Z own_c0 "masks" "[J" own_c0 "lows" "[I" := own_srr hw 35 30 rfl rfl
theorem own_sn11 {Z a0} (hw : own_HW Z a0) : own_NE Z own_c0 "masks" "[J" own_c0 "spans" "[J" := own_srr hw 35 33 rfl rfl
theorem own_sn12 {Z a0} (hw : own_HW Z a0) : own_NE Z own_c0 "words" "[I" own_c0 "lows" "[I" := own_srr hw 37 30 rfl rfl
theorem own_sn13 {Z a0} (hw : own_HW Z a0) : own_NE Z own_c0 "words" "[I" own_c0 "spans" "[J" := own_srr hw 37 33 rfl rfl
theorem own_sn14 {Z a0} (hw : own_HW Z a0) : own_NE Z own_c0 "words" "[I" own_c0 "masks" "[J" := own_srr hw 37 35 rfl rfl
theorem own_sn15 {Z a0} (hw : own_HW Z a0) : own_NE Z own_c0 "shifts" "[I" own_c0 "lows" "[I" := own_srr hw 39 30 rfl rfl
theorem own_sn16 {Z a0} (hw : own_HW Z a0) : own_NE Z own_c0 "shifts" "[I" own_c0 "spans" "[J" := own_srr hw 39 33 rfl rfl
theorem own_sn17 {Z a0} (hw : own_HW Z a0) : own_NE Z own_c0 "shifts" "[I" own_c0 "masks" "[J" := own_srr hw 39 35 rfl rfl
theorem own_sn18 {Z a0} (hw : own_HW Z a0) : own_NE Z own_c0 "shifts" "[I" own_c0 "words" "[I" := own_srr hw 39 37 rfl rfl
theorem own_sn19 {Z a0} (hw : own_HW Z a0) : own_NE Z own_c0 "wordCount" "I" own_c0 "lows" "[I" := own_srr hw 50 30 rfl rfl
theorem own_sn20 {Z a0} (hw : own_HW Z a0) : own_NE Z own_c0 "wordCount" "I" own_c0 "spans" "[J" := own_srr hw 50 33 rfl rfl
theorem own_sn21 {Z a0} (hw : own_HW Z a0) : own_NE Z own_c0 "wordCount" "I" own_c0 "masks" "[J" := own_srr hw 50 35 rfl rfl
theorem own_sn22 {Z a0} (hw : own_HW Z a0) : own_NE Z own_c0 "wordCount" "I" own_c0 "words" "[I" := own_srr hw 50 37 rfl rfl
theorem own_sn23 {Z a0} (hw : own_HW Z a0) : own_NE Z own_c0 "wordCount" "I" own_c0 "shifts" "[I" := own_srr hw 50 39 rfl rfl
theorem own_sn24 {Z a0} (hw : own_HW Z a0) : own_NE Z own_c0 "packed" "[J" own_c0 "lows" "[I" := own_slr hw 57 30 rfl rfl
theorem own_sn25 {Z a0} (hw : own_HW Z a0) : own_NE Z own_c0 "packed" "[J" own_c0 "spans" "[J" := own_slr hw 57 33 rfl rfl
theorem own_sn26 {Z a0} (hw : own_HW Z a0) : own_NE Z own_c0 "packed" "[J" own_c0 "masks" "[J" := own_slr hw 57 35 rfl rfl
theorem own_sn27 {Z a0} (hw : own_HW Z a0) : own_NE Z own_c0 "packed" "[J" own_c0 "words" "[I" := own_slr hw 57 37 rfl rfl
theorem own_sn28 {Z a0} (hw : own_HW Z a0) : own_NE Z own_c0 "packed" "[J" own_c0 "shifts" "[I" := own_slr hw 57 39 rfl rfl
theorem own_sn29 {Z a0} (hw : own_HW Z a0) : own_NE Z own_c0 "packed" "[J" own_c0 "wordCount" "I" := own_slr hw 57 50 rfl rfl
theorem own_sn30 {Z a0} (hw : own_HW Z a0) : own_NE Z own_c0 "slots" "[I" own_c0 "lows" "[I" := own_slr hw 62 30 rfl rfl
theorem own_sn31 {Z a0} (hw : own_HW Z a0) : own_NE Z own_c0 "slots" "[I" own_c0 "spans" "[J" := own_slr hw 62 33 rfl rfl
theorem own_sn32 {Z a0} (hw : own_HW Z a0) : own_NE Z own_c0 "slots" "[I" own_c0 "masks" "[J" := own_slr hw 62 35 rfl rfl
theorem own_sn33 {Z a0} (hw : own_HW Z a0) : own_NE Z own_c0 "slots" "[I" own_c0 "words" "[I" := own_slr hw 62 37 rfl rfl
theorem own_sn34 {Z a0} (hw : own_HW Z a0) : own_NE Z own_c0 "slots" "[I" own_c0 "shifts" "[I" := own_slr hw 62 39 rfl rfl
theorem own_sn35 {Z a0} (hw : own_HW Z a0) : own_NE Z own_c0 "slots" "[I" own_c0 "wordCount" "I" := own_slr hw 62 50 rfl rfl
theorem own_sn36 {Z a0} (hw : own_HW Z a0) : own_NE Z own_c0 "slots" "[I" own_c0 "packed" "[J" := own_sll hw 62 57 rfl rfl
theorem own_sn37 {Z a0} (hw : own_HW Z a0) : own_NE Z own_c0 "key" "[J" own_c0 "lows" "[I" := own_srr hw 64 30 rfl rfl
theorem own_sn38 {Z a0} (hw : own_HW Z a0) : own_NE Z own_c0 "key" "[J" own_c0 "spans" "[J" := own_srr hw 64 33 rfl rfl
theorem own_sn39 {Z a0} (hw : own_HW Z a0) : own_NE Z own_c0 "key" "[J" own_c0 "masks" "[J" := own_srr hw 64 35 rfl rfl
theorem own_sn40 {Z a0} (hw : own_HW Z a0) : own_NE Z own_c0 "key" "[J" own_c0 "words" "[I" := own_srr hw 64 37 rfl rfl
theorem own_sn41 {Z a0} (hw : own_HW Z a0) : own_NE Z own_c0 "key" "[J" own_c0 "shifts" "[I" := own_srr hw 64 39 rfl rfl
theorem own_sn42 {Z a0} (hw : own_HW Z a0) : own_NE Z own_c0 "key" "[J" own_c0 "wordCount" "I" := own_srr hw 64 50 rfl rfl
theorem own_sn43 {Z a0} (hw : own_HW Z a0) : own_NE Z own_c0 "key" "[J" own_c0 "packed" "[J" := own_srl hw 64 57 rfl rfl
theorem own_sn44 {Z a0} (hw : own_HW Z a0) : own_NE Z own_c0 "key" "[J" own_c0 "slots" "[I" := own_srl hw 64 62 rfl rfl
theorem own_d1_0 : own_D own_b1 0 (.iload_n 0) 1 := by decide +kernel
theorem own_d1_1 : own_D own_b1 1 (.iload_n 1) 1 := by decide +kernel
theorem own_d1_2 : own_D own_b1 2 (.if_icmp .gt 7) 3 := by decide +kernel
theorem own_d1_5 : own_D own_b1 5 (.iload_n 0) 1 := by decide +kernel
theorem own_d1_6 : own_D own_b1 6 (.goto 4) 3 := by decide +kernel
theorem own_d1_9 : own_D own_b1 9 (.iload_n 1) 1 := by decide +kernel
theorem own_d1_10 : own_D own_b1 10 .ireturn 1 := by decide +kernel
def own_f1_0 (x0 : Int32) (x1 : Int32) : Int32 := (if x1 < x0 then x1 else x0)
set_option maxRecDepth 65536 in
set_option maxHeartbeats 4000000 in
theorem own_b1_0 {p : Program} {l : Launch} {e : Env} {s : State} {m : MethodId} {args : Array Value} {below : List Frame} {meth : Method} {c : Code} {T : State} {locs : List Loc} {cells slots : Nat} {Z : State} {a0 : Array Value} {h0 : Heap} {n0 : Nat} (X0 : Stand p l e ({ frames := 0, cells := 0, slots := 0, locals := 0 } : Room) s m args below meth c T locs cells slots) (hx : p.tables.exec = Jvm.exec) (hlk : meth.locks = false) (hby : c.code = jdk_29_method_69_code) (hml : c.maxLocals = 2) (hret : meth.sig.returnType = some .int) (hown : s.vm.findClass own_z2 = some m.cls) (hZ : Z.Warmed39 s.vm) (hw : own_HW Z a0) (e0 : T.heap = h0) (N0 : Fr n0 locs) (hcs : cells ≤ 0) (hss : slots ≤ 0) (x0 : Int32) (x1 : Int32) :
    own_Go p e below s T (mkF m 0 #[iv x0, iv x1] []) (own_QP (.int (own_f1_0 x0 x1)) h0 n0) 0 0 := by
  unfold own_f1_0
  refine own_st (g' := (mkF m 2 #[iv x0, iv x1] [(.int x1), (.int x0)])) (fun tt_ kk_ => XS.iloadN X0.here hx rfl (hb hby own_d1_0) rfl (XS.iloadN X0.here hx rfl (hb hby own_d1_1) rfl kk_)) ?_
  by_cases hc2 : x1 < x0
  · rw [if_pos hc2]
    refine own_st (g' := (mkF m 10 #[iv x0, iv x1] [(.int x1)])) (fun tt_ kk_ => XS.icmpYes X0.here hx rfl (pc0 := 2) (pc' := 9) rfl (hb hby own_d1_2) rfl (tlt hc2).2.2.1 (by decide) (by decide) (XS.iloadN X0.here hx rfl (hb hby own_d1_9) rfl kk_)) ?_
    exact own_retI X0 hx hlk hret (hb hby own_d1_10) hcs hss ⟨rfl, N0, e0⟩
  rw [if_neg hc2]
  refine own_st (g' := (mkF m 10 #[iv x0, iv x1] [(.int x0)])) (fun tt_ kk_ => XS.icmpNo X0.here hx rfl (hb hby own_d1_2) rfl (flt hc2).2.2.1 (XS.iloadN X0.here hx rfl (hb hby own_d1_5) rfl (XS.goto X0.here hx rfl (pc0 := 6) (pc' := 10) rfl (hb hby own_d1_6) (by decide) (by decide) kk_))) ?_
  exact own_retI X0 hx hlk hret (hb hby own_d1_10) hcs hss ⟨rfl, N0, e0⟩
theorem own_ef1 (m : MethodId) (x0 : Int32) (x1 : Int32) : entryFrame m #[(.int x0), (.int x1)] 2 = mkF m 0 #[iv x0, iv x1] [] := by first | (simp [entryFrame, mkF, argsToLocals, Value.category]; done) | rfl
set_option maxRecDepth 65536 in
set_option maxHeartbeats 4000000 in
theorem own_rm1 (l : Launch) (Z : State) (a0 : Array Value) (hw : own_HW Z a0) (ws : List Jvm.Cond) (x0 : Int32) (x1 : Int32) (h0 : Heap) (n0 : Nat) :
    MetFree l (⟨own_z2, "min", "(II)I"⟩ : MethodName) (head1 (Jvm.Cond.code (⟨own_z2, "min", "(II)I"⟩ : MethodName) jdk_29_method_69_code 2 (some .int) :: ws) ({ frames := 0, cells := 0, slots := 0, locals := 0 } : Room)) (fun aa UU => aa = #[(.int x0), (.int x1)] ∧ Z.Warmed39 UU.vm ∧ UU.heap = h0) (fun _ _ _ _ _ => True) (fun _ U o U' => ∃ v L, o = .returned v ∧ own_QP (.int (own_f1_0 x0 x1)) h0 n0 v U'.heap L ∧ FrameEnd U o U' L ({ frames := 0, cells := 0, slots := 0, locals := 0 } : Room).cells ({ frames := 0, cells := 0, slots := 0, locals := 0 } : Room).slots) := by
  refine MetFree.of_bodySF (Jvm.Free.JP.mathPlain rfl (by decide +kernel)) hisR ?_
  intro p e s m args below meth c s₁ Bd hml0 hP hK
  obtain ⟨rfl, hZ, hh⟩ := hP
  have X0 : Stand p l e ({ frames := 0, cells := 0, slots := 0, locals := 0 } : Room) s m #[(.int x0), (.int x1)] below meth c s₁ [] 0 0 := Stand.of_body Bd
  have e0 : s₁.heap = h0 := by rw [← hh, Bd.state]; rfl
  refine own_cast (own_ef1 m x0 x1) ?_
  exact own_b1_0 X0 Bd.exec Bd.notSynchronized Bd.bytes hml0 Bd.returns (findClass_of_methodNamed Bd.named) hZ hw e0 (Fr.nil n0) (by decide) (by decide) x0 x1
theorem own_d2_0 : own_D own_b2 0 (.iload_n 0) 1 := by decide +kernel
theorem own_d2_1 : own_D own_b2 1 (.iload_n 1) 1 := by decide +kernel
theorem own_d2_2 : own_D own_b2 2 (.if_icmp .lt 7) 3 := by decide +kernel
theorem own_d2_5 : own_D own_b2 5 (.iload_n 0) 1 := by decide +kernel
theorem own_d2_6 : own_D own_b2 6 (.goto 4) 3 := by decide +kernel
theorem own_d2_9 : own_D own_b2 9 (.iload_n 1) 1 := by decide +kernel
theorem own_d2_10 : own_D own_b2 10 .ireturn 1 := by decide +kernel
def own_f2_0 (x0 : Int32) (x1 : Int32) : Int32 := (if x0 < x1 then x1 else x0)
set_option maxRecDepth 65536 in
set_option maxHeartbeats 4000000 in
theorem own_b2_0 {p : Program} {l : Launch} {e : Env} {s : State} {m : MethodId} {args : Array Value} {below : List Frame} {meth : Method} {c : Code} {T : State} {locs : List Loc} {cells slots : Nat} {Z : State} {a0 : Array Value} {h0 : Heap} {n0 : Nat} (X0 : Stand p l e ({ frames := 0, cells := 0, slots := 0, locals := 0 } : Room) s m args below meth c T locs cells slots) (hx : p.tables.exec = Jvm.exec) (hlk : meth.locks = false) (hby : c.code = jdk_29_method_65_code) (hml : c.maxLocals = 2) (hret : meth.sig.returnType = some .int) (hown : s.vm.findClass own_z2 = some m.cls) (hZ : Z.Warmed39 s.vm) (hw : own_HW Z a0) (e0 : T.heap = h0) (N0 : Fr n0 locs) (hcs : cells ≤ 0) (hss : slots ≤ 0) (x0 : Int32) (x1 : Int32) :
    own_Go p e below s T (mkF m 0 #[iv x0, iv x1] []) (own_QP (.int (own_f2_0 x0 x1)) h0 n0) 0 0 := by
  unfold own_f2_0
  refine own_st (g' := (mkF m 2 #[iv x0, iv x1] [(.int x1), (.int x0)])) (fun tt_ kk_ => XS.iloadN X0.here hx rfl (hb hby own_d2_0) rfl (XS.iloadN X0.here hx rfl (hb hby own_d2_1) rfl kk_)) ?_
  by_cases hc2 : x0 < x1
  · rw [if_pos hc2]
    refine own_st (g' := (mkF m 10 #[iv x0, iv x1] [(.int x1)])) (fun tt_ kk_ => XS.icmpYes X0.here hx rfl (pc0 := 2) (pc' := 9) rfl (hb hby own_d2_2) rfl (tlt hc2).1 (by decide) (by decide) (XS.iloadN X0.here hx rfl (hb hby own_d2_9) rfl kk_)) ?_
    exact own_retI X0 hx hlk hret (hb hby own_d2_10) hcs hss ⟨rfl, N0, e0⟩
  rw [if_neg hc2]
  refine own_st (g' := (mkF m 10 #[iv x0, iv x1] [(.int x0)])) (fun tt_ kk_ => XS.icmpNo X0.here hx rfl (hb hby own_d2_2) rfl (flt hc2).1 (XS.iloadN X0.here hx rfl (hb hby own_d2_5) rfl (XS.goto X0.here hx rfl (pc0 := 6) (pc' := 10) rfl (hb hby own_d2_6) (by decide) (by decide) kk_))) ?_
  exact own_retI X0 hx hlk hret (hb hby own_d2_10) hcs hss ⟨rfl, N0, e0⟩
theorem own_ef2 (m : MethodId) (x0 : Int32) (x1 : Int32) : entryFrame m #[(.int x0), (.int x1)] 2 = mkF m 0 #[iv x0, iv x1] [] := by first | (simp [entryFrame, mkF, argsToLocals, Value.category]; done) | rfl
set_option maxRecDepth 65536 in
set_option maxHeartbeats 4000000 in
theorem own_rm2 (l : Launch) (Z : State) (a0 : Array Value) (hw : own_HW Z a0) (ws : List Jvm.Cond) (x0 : Int32) (x1 : Int32) (h0 : Heap) (n0 : Nat) :
    MetFree l (⟨own_z2, "max", "(II)I"⟩ : MethodName) (head1 (Jvm.Cond.code (⟨own_z2, "max", "(II)I"⟩ : MethodName) jdk_29_method_65_code 2 (some .int) :: ws) ({ frames := 0, cells := 0, slots := 0, locals := 0 } : Room)) (fun aa UU => aa = #[(.int x0), (.int x1)] ∧ Z.Warmed39 UU.vm ∧ UU.heap = h0) (fun _ _ _ _ _ => True) (fun _ U o U' => ∃ v L, o = .returned v ∧ own_QP (.int (own_f2_0 x0 x1)) h0 n0 v U'.heap L ∧ FrameEnd U o U' L ({ frames := 0, cells := 0, slots := 0, locals := 0 } : Room).cells ({ frames := 0, cells := 0, slots := 0, locals := 0 } : Room).slots) := by
  refine MetFree.of_bodySF (Jvm.Free.JP.mathPlain rfl (by decide +kernel)) hisR ?_
  intro p e s m args below meth c s₁ Bd hml0 hP hK
  obtain ⟨rfl, hZ, hh⟩ := hP
  have X0 : Stand p l e ({ frames := 0, cells := 0, slots := 0, locals := 0 } : Room) s m #[(.int x0), (.int x1)] below meth c s₁ [] 0 0 := Stand.of_body Bd
  have e0 : s₁.heap = h0 := by rw [← hh, Bd.state]; rfl
  refine own_cast (own_ef2 m x0 x1) ?_
  exact own_b2_0 X0 Bd.exec Bd.notSynchronized Bd.bytes hml0 Bd.returns (findClass_of_methodNamed Bd.named) hZ hw e0 (Fr.nil n0) (by decide) (by decide) x0 x1
theorem own_d7_0 : own_D own_b7 0 (.lload_n 0) 1 := by decide +kernel
theorem own_d7_1 : own_D own_b7 1 (.lload_n 2) 1 := by decide +kernel
theorem own_d7_2 : own_D own_b7 2 .lcmp 1 := by decide +kernel
theorem own_d7_3 : own_D own_b7 3 (.ifCond .gt 7) 3 := by decide +kernel
theorem own_d7_6 : own_D own_b7 6 (.lload_n 0) 1 := by decide +kernel
theorem own_d7_7 : own_D own_b7 7 (.goto 4) 3 := by decide +kernel
theorem own_d7_10 : own_D own_b7 10 (.lload_n 2) 1 := by decide +kernel
theorem own_d7_11 : own_D own_b7 11 .lreturn 1 := by decide +kernel
def own_f7_11 (x0 : Int64) (x2 : Int64) (y0 : Int64) : Int64 := y0
set_option maxRecDepth 65536 in
set_option maxHeartbeats 4000000 in
theorem own_b7_11 {p : Program} {l : Launch} {e : Env} {s : State} {m : MethodId} {args : Array Value} {below : List Frame} {meth : Method} {c : Code} {T : State} {locs : List Loc} {cells slots : Nat} {Z : State} {a0 : Array Value} {h0 : Heap} {n0 : Nat} (X0 : Stand p l e ({ frames := 0, cells := 0, slots := 0, locals := 0 } : Room) s m args below meth c T locs cells slots) (hx : p.tables.exec = Jvm.exec) (hlk : meth.locks = false) (hby : c.code = jdk_29_method_70_code) (hml : c.maxLocals = 4) (hret : meth.sig.returnType = some .long) (hown : s.vm.findClass own_z2 = some m.cls) (hZ : Z.Warmed39 s.vm) (hw : own_HW Z a0) (e0 : T.heap = h0) (N0 : Fr n0 locs) (hcs : cells ≤ 0) (hss : slots ≤ 0) (x0 : Int64) (x2 : Int64) (y0 : Int64) :
    own_Go p e below s T (mkF m 11 #[.val (.long x0), .second, .val (.long x2), .second] [(.long y0)]) (own_QP (.long (own_f7_11 x0 x2 y0)) h0 n0) 0 0 := by
  unfold own_f7_11
  exact own_retJ X0 hx hlk hret (hb hby own_d7_11) hcs hss ⟨rfl, N0, e0⟩
def own_f7_0 (x0 : Int64) (x2 : Int64) : Int64 := (if (0 : Int32) < (lcmpW x0 x2) then (own_f7_11 x0 x2 x2) else (own_f7_11 x0 x2 x0))
set_option maxRecDepth 65536 in
set_option maxHeartbeats 4000000 in
theorem own_b7_0 {p : Program} {l : Launch} {e : Env} {s : State} {m : MethodId} {args : Array Value} {below : List Frame} {meth : Method} {c : Code} {T : State} {locs : List Loc} {cells slots : Nat} {Z : State} {a0 : Array Value} {h0 : Heap} {n0 : Nat} (X0 : Stand p l e ({ frames := 0, cells := 0, slots := 0, locals := 0 } : Room) s m args below meth c T locs cells slots) (hx : p.tables.exec = Jvm.exec) (hlk : meth.locks = false) (hby : c.code = jdk_29_method_70_code) (hml : c.maxLocals = 4) (hret : meth.sig.returnType = some .long) (hown : s.vm.findClass own_z2 = some m.cls) (hZ : Z.Warmed39 s.vm) (hw : own_HW Z a0) (e0 : T.heap = h0) (N0 : Fr n0 locs) (hcs : cells ≤ 0) (hss : slots ≤ 0) (x0 : Int64) (x2 : Int64) :
    own_Go p e below s T (mkF m 0 #[.val (.long x0), .second, .val (.long x2), .second] []) (own_QP (.long (own_f7_0 x0 x2)) h0 n0) 0 0 := by
  unfold own_f7_0
  refine own_st (g' := (mkF m 3 #[.val (.long x0), .second, .val (.long x2), .second] [(.int (lcmpW x0 x2))])) (fun tt_ kk_ => XS.lloadN X0.here hx rfl (hb hby own_d7_0) rfl (XS.lloadN X0.here hx rfl (hb hby own_d7_1) rfl (XS.lcmp X0.here hx rfl (hb hby own_d7_2) rfl kk_))) ?_
  by_cases hc3 : (0 : Int32) < (lcmpW x0 x2)
  · rw [if_pos hc3]
    refine own_st (g' := (mkF m 11 #[.val (.long x0), .second, .val (.long x2), .second] [(.long x2)])) (fun tt_ kk_ => XS.ifYes X0.here hx rfl (pc0 := 3) (pc' := 10) rfl (hb hby own_d7_3) rfl ((if0 _ _).trans (tlt hc3).2.2.1) (by decide) (by decide) (XS.lloadN X0.here hx rfl (hb hby own_d7_10) rfl kk_)) ?_
    exact own_b7_11 X0 hx hlk hby hml hret hown hZ hw e0 N0 hcs hss x0 x2 x2
  rw [if_neg hc3]
  refine own_st (g' := (mkF m 11 #[.val (.long x0), .second, .val (.long x2), .second] [(.long x0)])) (fun tt_ kk_ => XS.ifNo X0.here hx rfl (hb hby own_d7_3) rfl ((if0 _ _).trans (flt hc3).2.2.1) (XS.lloadN X0.here hx rfl (hb hby own_d7_6) rfl (XS.goto X0.here hx rfl (pc0 := 7) (pc' := 11) rfl (hb hby own_d7_7) (by decide) (by decide) kk_))) ?_
  exact own_b7_11 X0 hx hlk hby hml hret hown hZ hw e0 N0 hcs hss x0 x2 x0
theorem own_ef7 (m : MethodId) (x0 : Int64) (x2 : Int64) : entryFrame m #[(.long x0), (.long x2)] 4 = mkF m 0 #[.val (.long x0), .second, .val (.long x2), .second] [] := by first | (simp [entryFrame, mkF, argsToLocals, Value.category]; done) | rfl
set_option maxRecDepth 65536 in
set_option maxHeartbeats 4000000 in
theorem own_rm7 (l : Launch) (Z : State) (a0 : Array Value) (hw : own_HW Z a0) (ws : List Jvm.Cond) (x0 : Int64) (x2 : Int64) (h0 : Heap) (n0 : Nat) :
    MetFree l (⟨own_z2, "min", "(JJ)J"⟩ : MethodName) (head1 (Jvm.Cond.code (⟨own_z2, "min", "(JJ)J"⟩ : MethodName) jdk_29_method_70_code 4 (some .long) :: ws) ({ frames := 0, cells := 0, slots := 0, locals := 0 } : Room)) (fun aa UU => aa = #[(.long x0), (.long x2)] ∧ Z.Warmed39 UU.vm ∧ UU.heap = h0) (fun _ _ _ _ _ => True) (fun _ U o U' => ∃ v L, o = .returned v ∧ own_QP (.long (own_f7_0 x0 x2)) h0 n0 v U'.heap L ∧ FrameEnd U o U' L ({ frames := 0, cells := 0, slots := 0, locals := 0 } : Room).cells ({ frames := 0, cells := 0, slots := 0, locals := 0 } : Room).slots) := by
  refine MetFree.of_bodySF (Jvm.Free.JP.mathPlain rfl (by decide +kernel)) hisR ?_
  intro p e s m args below meth c s₁ Bd hml0 hP hK
  obtain ⟨rfl, hZ, hh⟩ := hP
  have X0 : Stand p l e ({ frames := 0, cells := 0, slots := 0, locals := 0 } : Room) s m #[(.long x0), (.long x2)] below meth c s₁ [] 0 0 := Stand.of_body Bd
  have e0 : s₁.heap = h0 := by rw [← hh, Bd.state]; rfl
  refine own_cast (own_ef7 m x0 x2) ?_
  exact own_b7_0 X0 Bd.exec Bd.notSynchronized Bd.bytes hml0 Bd.returns (findClass_of_methodNamed Bd.named) hZ hw e0 (Fr.nil n0) (by decide) (by decide) x0 x2
theorem own_d6_0 : own_D own_b6 0 (.iload_n 0) 1 := by decide +kernel
theorem own_d6_1 : own_D own_b6 1 (.ifCond .gt 14) 3 := by decide +kernel
theorem own_d6_4 : own_D own_b6 4 (.iload_n 0) 1 := by decide +kernel
theorem own_d6_5 : own_D own_b6 5 (.ifCond .ne 8) 3 := by decide +kernel
theorem own_d6_8 : own_D own_b6 8 (.bipush 32) 2 := by decide +kernel
theorem own_d6_10 : own_D own_b6 10 (.goto 4) 3 := by decide +kernel
theorem own_d6_13 : own_D own_b6 13 (.iconst 0) 1 := by decide +kernel
theorem own_d6_14 : own_D own_b6 14 .ireturn 1 := by decide +kernel
theorem own_d6_15 : own_D own_b6 15 (.bipush 31) 2 := by decide +kernel
theorem own_d6_17 : own_D own_b6 17 (.istore_n 1) 1 := by decide +kernel
theorem own_d6_18 : own_D own_b6 18 (.iload_n 0) 1 := by decide +kernel
theorem own_d6_19 : own_D own_b6 19 (.ldc_w 264) 3 := by decide +kernel
theorem own_d6_22 : own_D own_b6 22 (.if_icmp .lt 11) 3 := by decide +kernel
theorem own_d6_25 : own_D own_b6 25 (.iinc 1 (-16)) 3 := by decide +kernel
theorem own_d6_28 : own_D own_b6 28 (.iload_n 0) 1 := by decide +kernel
theorem own_d6_29 : own_D own_b6 29 (.bipush 16) 2 := by decide +kernel
theorem own_d6_31 : own_D own_b6 31 .iushr 1 := by decide +kernel
theorem own_d6_32 : own_D own_b6 32 (.istore_n 0) 1 := by decide +kernel
theorem own_d6_33 : own_D own_b6 33 (.iload_n 0) 1 := by decide +kernel
theorem own_d6_34 : own_D own_b6 34 (.sipush 256) 3 := by decide +kernel
theorem own_d6_37 : own_D own_b6 37 (.if_icmp .lt 11) 3 := by decide +kernel
theorem own_d6_40 : own_D own_b6 40 (.iinc 1 (-8)) 3 := by decide +kernel
theorem own_d6_43 : own_D own_b6 43 (.iload_n 0) 1 := by decide +kernel
theorem own_d6_44 : own_D own_b6 44 (.bipush 8) 2 := by decide +kernel
theorem own_d6_46 : own_D own_b6 46 .iushr 1 := by decide +kernel
theorem own_d6_47 : own_D own_b6 47 (.istore_n 0) 1 := by decide +kernel
theorem own_d6_48 : own_D own_b6 48 (.iload_n 0) 1 := by decide +kernel
theorem own_d6_49 : own_D own_b6 49 (.bipush 16) 2 := by decide +kernel
theorem own_d6_51 : own_D own_b6 51 (.if_icmp .lt 10) 3 := by decide +kernel
theorem own_d6_54 : own_D own_b6 54 (.iinc 1 (-4)) 3 := by decide +kernel
theorem own_d6_57 : own_D own_b6 57 (.iload_n 0) 1 := by decide +kernel
theorem own_d6_58 : own_D own_b6 58 (.iconst 4) 1 := by decide +kernel
theorem own_d6_59 : own_D own_b6 59 .iushr 1 := by decide +kernel
theorem own_d6_60 : own_D own_b6 60 (.istore_n 0) 1 := by decide +kernel
theorem own_d6_61 : own_D own_b6 61 (.iload_n 0) 1 := by decide +kernel
theorem own_d6_62 : own_D own_b6 62 (.iconst 4) 1 := by decide +kernel
theorem own_d6_63 : own_D own_b6 63 (.if_icmp .lt 10) 3 := by decide +kernel
theorem own_d6_66 : own_D own_b6 66 (.iinc 1 (-2)) 3 := by decide +kernel
theorem own_d6_69 : own_D own_b6 69 (.iload_n 0) 1 := by decide +kernel
theorem own_d6_70 : own_D own_b6 70 (.iconst 2) 1 := by decide +kernel
theorem own_d6_71 : own_D own_b6 71 .iushr 1 := by decide +kernel
theorem own_d6_72 : own_D own_b6 72 (.istore_n 0) 1 := by decide +kernel
theorem own_d6_73 : own_D own_b6 73 (.iload_n 1) 1 := by decide +kernel
theorem own_d6_74 : own_D own_b6 74 (.iload_n 0) 1 := by decide +kernel
theorem own_d6_75 : own_D own_b6 75 (.iconst 1) 1 := by decide +kernel
theorem own_d6_76 : own_D own_b6 76 .iushr 1 := by decide +kernel
theorem own_d6_77 : own_D own_b6 77 .isub 1 := by decide +kernel
theorem own_d6_78 : own_D own_b6 78 .ireturn 1 := by decide +kernel
theorem own_pn0 : plainName "java/lang/Integer" = true := by first | (simp [plainName, overriddenIn]; done) | decide +kernel
def own_f6_73 (x0 : Int32) (x1 : Int32) : Int32 := (x1 - ((x0.toUInt32 >>> ((1 : Int32) &&& 31).toUInt32).toInt32))
set_option maxRecDepth 65536 in
set_option maxHeartbeats 4000000 in
theorem own_b6_73 {p : Program} {l : Launch} {e : Env} {s : State} {m : MethodId} {args : Array Value} {below : List Frame} {meth : Method} {c : Code} {T : State} {locs : List Loc} {cells slots : Nat} {Z : State} {a0 : Array Value} {h0 : Heap} {n0 : Nat} (X0 : Stand p l e ({ frames := 0, cells := 0, slots := 0, locals := 0 } : Room) s m args below meth c T locs cells slots) (hx : p.tables.exec = Jvm.exec) (hlk : meth.locks = false) (hby : c.code = jdk_33_method_47_code) (hml : c.maxLocals = 2) (hret : meth.sig.returnType = some .int) (hown : s.vm.findClass own_z3 = some m.cls) (hZ : Z.Warmed39 s.vm) (hw : own_HW Z a0) (e0 : T.heap = h0) (N0 : Fr n0 locs) (hcs : cells ≤ 0) (hss : slots ≤ 0) (x0 : Int32) (x1 : Int32) :
    own_Go p e below s T (mkF m 73 #[iv x0, iv x1] []) (own_QP (.int (own_f6_73 x0 x1)) h0 n0) 0 0 := by
  unfold own_f6_73
  refine own_st (g' := (mkF m 78 #[iv x0, iv x1] [(.int (x1 - ((x0.toUInt32 >>> ((1 : Int32) &&& 31).toUInt32).toInt32)))])) (fun tt_ kk_ => XS.iloadN X0.here hx rfl (hb hby own_d6_73) rfl (XS.iloadN X0.here hx rfl (hb hby own_d6_74) rfl (XS.iconst X0.here hx rfl (hb hby own_d6_75) (XS.iushr X0.here hx rfl (hb hby own_d6_76) rfl (XS.isub X0.here hx rfl (hb hby own_d6_77) rfl kk_))))) ?_
  exact own_retI X0 hx hlk hret (hb hby own_d6_78) hcs hss ⟨rfl, N0, e0⟩
def own_f6_61 (x0 : Int32) (x1 : Int32) : Int32 := (if x0 < (4 : Int32) then (own_f6_73 x0 x1) else (own_f6_73 ((x0.toUInt32 >>> ((2 : Int32) &&& 31).toUInt32).toInt32) (x1 + (-2 : Int32))))
set_option maxRecDepth 65536 in
set_option maxHeartbeats 4000000 in
theorem own_b6_61 {p : Program} {l : Launch} {e : Env} {s : State} {m : MethodId} {args : Array Value} {below : List Frame} {meth : Method} {c : Code} {T : State} {locs : List Loc} {cells slots : Nat} {Z : State} {a0 : Array Value} {h0 : Heap} {n0 : Nat} (X0 : Stand p l e ({ frames := 0, cells := 0, slots := 0, locals := 0 } : Room) s m args below meth c T locs cells slots) (hx : p.tables.exec = Jvm.exec) (hlk : meth.locks = false) (hby : c.code = jdk_33_method_47_code) (hml : c.maxLocals = 2) (hret : meth.sig.returnType = some .int) (hown : s.vm.findClass own_z3 = some m.cls) (hZ : Z.Warmed39 s.vm) (hw : own_HW Z a0) (e0 : T.heap = h0) (N0 : Fr n0 locs) (hcs : cells ≤ 0) (hss : slots ≤ 0) (x0 : Int32) (x1 : Int32) :
    own_Go p e below s T (mkF m 61 #[iv x0, iv x1] []) (own_QP (.int (own_f6_61 x0 x1)) h0 n0) 0 0 := by
  unfold own_f6_61
  refine own_st (g' := (mkF m 63 #[iv x0, iv x1] [(.int 4), (.int x0)])) (fun tt_ kk_ => XS.iloadN X0.here hx rfl (hb hby own_d6_61) rfl (XS.iconst X0.here hx rfl (hb hby own_d6_62) kk_)) ?_
  by_cases hc63 : x0 < (4 : Int32)
  · rw [if_pos hc63]
    refine own_st (g' := (mkF m 73 #[iv x0, iv x1] [])) (fun tt_ kk_ => XS.icmpYes X0.here hx rfl (pc0 := 63) (pc' := 73) rfl (hb hby own_d6_63) rfl (tlt hc63).1 (by decide) (by decide) kk_) ?_
    exact own_b6_73 X0 hx hlk hby hml hret hown hZ hw e0 N0 hcs hss x0 x1
  rw [if_neg hc63]
  refine own_st (g' := (mkF m 73 #[iv ((x0.toUInt32 >>> ((2 : Int32) &&& 31).toUInt32).toInt32), iv (x1 + (-2 : Int32))] [])) (fun tt_ kk_ => XS.icmpNo X0.here hx rfl (hb hby own_d6_63) rfl (flt hc63).1 (XS.iinc X0.here hx rfl (hb hby own_d6_66) rfl (l' := #[iv x0, iv (x1 + (-2 : Int32))]) rfl (XS.iloadN X0.here hx rfl (hb hby own_d6_69) rfl (XS.iconst X0.here hx rfl (hb hby own_d6_70) (XS.iushr X0.here hx rfl (hb hby own_d6_71) rfl (XS.istoreN X0.here hx rfl (hb hby own_d6_72) rfl (l' := #[iv ((x0.toUInt32 >>> ((2 : Int32) &&& 31).toUInt32).toInt32), iv (x1 + (-2 : Int32))]) rfl kk_)))))) ?_
  exact own_b6_73 X0 hx hlk hby hml hret hown hZ hw e0 N0 hcs hss ((x0.toUInt32 >>> ((2 : Int32) &&& 31).toUInt32).toInt32) (x1 + (-2 : Int32))
def own_f6_48 (x0 : Int32) (x1 : Int32) : Int32 := (if x0 < (16 : Int32) then (own_f6_61 x0 x1) else (own_f6_61 ((x0.toUInt32 >>> ((4 : Int32) &&& 31).toUInt32).toInt32) (x1 + (-4 : Int32))))
set_option maxRecDepth 65536 in
set_option maxHeartbeats 4000000 in
theorem own_b6_48 {p : Program} {l : Launch} {e : Env} {s : State} {m : MethodId} {args : Array Value} {below : List Frame} {meth : Method} {c : Code} {T : State} {locs : List Loc} {cells slots : Nat} {Z : State} {a0 : Array Value} {h0 : Heap} {n0 : Nat} (X0 : Stand p l e ({ frames := 0, cells := 0, slots := 0, locals := 0 } : Room) s m args below meth c T locs cells slots) (hx : p.tables.exec = Jvm.exec) (hlk : meth.locks = false) (hby : c.code = jdk_33_method_47_code) (hml : c.maxLocals = 2) (hret : meth.sig.returnType = some .int) (hown : s.vm.findClass own_z3 = some m.cls) (hZ : Z.Warmed39 s.vm) (hw : own_HW Z a0) (e0 : T.heap = h0) (N0 : Fr n0 locs) (hcs : cells ≤ 0) (hss : slots ≤ 0) (x0 : Int32) (x1 : Int32) :
    own_Go p e below s T (mkF m 48 #[iv x0, iv x1] []) (own_QP (.int (own_f6_48 x0 x1)) h0 n0) 0 0 := by
  unfold own_f6_48
  refine own_st (g' := (mkF m 51 #[iv x0, iv x1] [(.int 16), (.int x0)])) (fun tt_ kk_ => XS.iloadN X0.here hx rfl (hb hby own_d6_48) rfl (XS.bipush X0.here hx rfl (hb hby own_d6_49) kk_)) ?_
  by_cases hc51 : x0 < (16 : Int32)
  · rw [if_pos hc51]
    refine own_st (g' := (mkF m 61 #[iv x0, iv x1] [])) (fun tt_ kk_ => XS.icmpYes X0.here hx rfl (pc0 := 51) (pc' := 61) rfl (hb hby own_d6_51) rfl (tlt hc51).1 (by decide) (by decide) kk_) ?_
    exact own_b6_61 X0 hx hlk hby hml hret hown hZ hw e0 N0 hcs hss x0 x1
  rw [if_neg hc51]
  refine own_st (g' := (mkF m 61 #[iv ((x0.toUInt32 >>> ((4 : Int32) &&& 31).toUInt32).toInt32), iv (x1 + (-4 : Int32))] [])) (fun tt_ kk_ => XS.icmpNo X0.here hx rfl (hb hby own_d6_51) rfl (flt hc51).1 (XS.iinc X0.here hx rfl (hb hby own_d6_54) rfl (l' := #[iv x0, iv (x1 + (-4 : Int32))]) rfl (XS.iloadN X0.here hx rfl (hb hby own_d6_57) rfl (XS.iconst X0.here hx rfl (hb hby own_d6_58) (XS.iushr X0.here hx rfl (hb hby own_d6_59) rfl (XS.istoreN X0.here hx rfl (hb hby own_d6_60) rfl (l' := #[iv ((x0.toUInt32 >>> ((4 : Int32) &&& 31).toUInt32).toInt32), iv (x1 + (-4 : Int32))]) rfl kk_)))))) ?_
  exact own_b6_61 X0 hx hlk hby hml hret hown hZ hw e0 N0 hcs hss ((x0.toUInt32 >>> ((4 : Int32) &&& 31).toUInt32).toInt32) (x1 + (-4 : Int32))
def own_f6_33 (x0 : Int32) (x1 : Int32) : Int32 := (if x0 < (256 : Int32) then (own_f6_48 x0 x1) else (own_f6_48 ((x0.toUInt32 >>> ((8 : Int32) &&& 31).toUInt32).toInt32) (x1 + (-8 : Int32))))
set_option maxRecDepth 65536 in
set_option maxHeartbeats 4000000 in
theorem own_b6_33 {p : Program} {l : Launch} {e : Env} {s : State} {m : MethodId} {args : Array Value} {below : List Frame} {meth : Method} {c : Code} {T : State} {locs : List Loc} {cells slots : Nat} {Z : State} {a0 : Array Value} {h0 : Heap} {n0 : Nat} (X0 : Stand p l e ({ frames := 0, cells := 0, slots := 0, locals := 0 } : Room) s m args below meth c T locs cells slots) (hx : p.tables.exec = Jvm.exec) (hlk : meth.locks = false) (hby : c.code = jdk_33_method_47_code) (hml : c.maxLocals = 2) (hret : meth.sig.returnType = some .int) (hown : s.vm.findClass own_z3 = some m.cls) (hZ : Z.Warmed39 s.vm) (hw : own_HW Z a0) (e0 : T.heap = h0) (N0 : Fr n0 locs) (hcs : cells ≤ 0) (hss : slots ≤ 0) (x0 : Int32) (x1 : Int32) :
    own_Go p e below s T (mkF m 33 #[iv x0, iv x1] []) (own_QP (.int (own_f6_33 x0 x1)) h0 n0) 0 0 := by
  unfold own_f6_33
  refine own_st (g' := (mkF m 37 #[iv x0, iv x1] [(.int 256), (.int x0)])) (fun tt_ kk_ => XS.iloadN X0.here hx rfl (hb hby own_d6_33) rfl (XS.sipush X0.here hx rfl (hb hby own_d6_34) kk_)) ?_
  by_cases hc37 : x0 < (256 : Int32)
  · rw [if_pos hc37]
    refine own_st (g' := (mkF m 48 #[iv x0, iv x1] [])) (fun tt_ kk_ => XS.icmpYes X0.here hx rfl (pc0 := 37) (pc' := 48) rfl (hb hby own_d6_37) rfl (tlt hc37).1 (by decide) (by decide) kk_) ?_
    exact own_b6_48 X0 hx hlk hby hml hret hown hZ hw e0 N0 hcs hss x0 x1
  rw [if_neg hc37]
  refine own_st (g' := (mkF m 48 #[iv ((x0.toUInt32 >>> ((8 : Int32) &&& 31).toUInt32).toInt32), iv (x1 + (-8 : Int32))] [])) (fun tt_ kk_ => XS.icmpNo X0.here hx rfl (hb hby own_d6_37) rfl (flt hc37).1 (XS.iinc X0.here hx rfl (hb hby own_d6_40) rfl (l' := #[iv x0, iv (x1 + (-8 : Int32))]) rfl (XS.iloadN X0.here hx rfl (hb hby own_d6_43) rfl (XS.bipush X0.here hx rfl (hb hby own_d6_44) (XS.iushr X0.here hx rfl (hb hby own_d6_46) rfl (XS.istoreN X0.here hx rfl (hb hby own_d6_47) rfl (l' := #[iv ((x0.toUInt32 >>> ((8 : Int32) &&& 31).toUInt32).toInt32), iv (x1 + (-8 : Int32))]) rfl kk_)))))) ?_
  exact own_b6_48 X0 hx hlk hby hml hret hown hZ hw e0 N0 hcs hss ((x0.toUInt32 >>> ((8 : Int32) &&& 31).toUInt32).toInt32) (x1 + (-8 : Int32))
def own_f6_0 (x0 : Int32) : Int32 := (if (0 : Int32) < x0 then (if x0 < (65536 : Int32) then (own_f6_33 x0 (31 : Int32)) else (own_f6_33 ((x0.toUInt32 >>> ((16 : Int32) &&& 31).toUInt32).toInt32) (15 : Int32))) else (if x0 = (0 : Int32) then (32 : Int32) else (0 : Int32)))
set_option maxRecDepth 65536 in
set_option maxHeartbeats 4000000 in
theorem own_b6_0 {p : Program} {l : Launch} {e : Env} {s : State} {m : MethodId} {args : Array Value} {below : List Frame} {meth : Method} {c : Code} {T : State} {locs : List Loc} {cells slots : Nat} {Z : State} {a0 : Array Value} {h0 : Heap} {n0 : Nat} (X0 : Stand p l e ({ frames := 0, cells := 0, slots := 0, locals := 0 } : Room) s m args below meth c T locs cells slots) (hx : p.tables.exec = Jvm.exec) (hlk : meth.locks = false) (hby : c.code = jdk_33_method_47_code) (hml : c.maxLocals = 2) (hret : meth.sig.returnType = some .int) (hown : s.vm.findClass own_z3 = some m.cls) (hZ : Z.Warmed39 s.vm) (hw : own_HW Z a0) (e0 : T.heap = h0) (N0 : Fr n0 locs) (hcs : cells ≤ 0) (hss : slots ≤ 0) (x0 : Int32) :
    own_Go p e below s T (mkF m 0 #[iv x0, .unset] []) (own_QP (.int (own_f6_0 x0)) h0 n0) 0 0 := by
  unfold own_f6_0
  refine own_st (g' := (mkF m 1 #[iv x0, .unset] [(.int x0)])) (fun tt_ kk_ => XS.iloadN X0.here hx rfl (hb hby own_d6_0) rfl kk_) ?_
  by_cases hc1 : (0 : Int32) < x0
  · rw [if_pos hc1]
    refine own_st (g' := (mkF m 22 #[iv x0, iv 31] [(.int 65536), (.int x0)])) (fun tt_ kk_ => XS.ifYes X0.here hx rfl (pc0 := 1) (pc' := 15) rfl (hb hby own_d6_1) rfl ((if0 _ _).trans (tlt hc1).2.2.1) (by decide) (by decide) (XS.bipush X0.here hx rfl (hb hby own_d6_15) (XS.istoreN X0.here hx rfl (hb hby own_d6_17) rfl (l' := #[iv x0, iv 31]) rfl (XS.iloadN X0.here hx rfl (hb hby own_d6_18) rfl (X0.ldcwInt hx hown (mvT hZ (own_w hw 48 rfl)) (g := (mkF m 19 #[iv x0, iv 31] [(.int x0)])) rfl (hb hby own_d6_19) _ kk_))))) ?_
    by_cases hc22 : x0 < (65536 : Int32)
    · rw [if_pos hc22]
      refine own_st (g' := (mkF m 33 #[iv x0, iv 31] [])) (fun tt_ kk_ => XS.icmpYes X0.here hx rfl (pc0 := 22) (pc' := 33) rfl (hb hby own_d6_22) rfl (tlt hc22).1 (by decide) (by decide) kk_) ?_
      exact own_b6_33 X0 hx hlk hby hml hret hown hZ hw e0 N0 hcs hss x0 (31 : Int32)
    rw [if_neg hc22]
    refine own_st (g' := (mkF m 33 #[iv ((x0.toUInt32 >>> ((16 : Int32) &&& 31).toUInt32).toInt32), iv 15] [])) (fun tt_ kk_ => XS.icmpNo X0.here hx rfl (hb hby own_d6_22) rfl (flt hc22).1 (XS.iinc X0.here hx rfl (hb hby own_d6_25) rfl (l' := #[iv x0, iv 15]) rfl (XS.iloadN X0.here hx rfl (hb hby own_d6_28) rfl (XS.bipush X0.here hx rfl (hb hby own_d6_29) (XS.iushr X0.here hx rfl (hb hby own_d6_31) rfl (XS.istoreN X0.here hx rfl (hb hby own_d6_32) rfl (l' := #[iv ((x0.toUInt32 >>> ((16 : Int32) &&& 31).toUInt32).toInt32), iv 15]) rfl kk_)))))) ?_
    exact own_b6_33 X0 hx hlk hby hml hret hown hZ hw e0 N0 hcs hss ((x0.toUInt32 >>> ((16 : Int32) &&& 31).toUInt32).toInt32) (15 : Int32)
  rw [if_neg hc1]
  refine own_st (g' := (mkF m 5 #[iv x0, .unset] [(.int x0)])) (fun tt_ kk_ => XS.ifNo X0.here hx rfl (hb hby own_d6_1) rfl ((if0 _ _).trans (flt hc1).2.2.1) (XS.iloadN X0.here hx rfl (hb hby own_d6_4) rfl kk_)) ?_
  by_cases hc5 : x0 = (0 : Int32)
  · rw [if_pos hc5]
    refine own_st (g' := (mkF m 14 #[iv x0, .unset] [(.int 32)])) (fun tt_ kk_ => XS.ifNo X0.here hx rfl (hb hby own_d6_5) rfl ((if0 _ _).trans (teq hc5).2) (XS.bipush X0.here hx rfl (hb hby own_d6_8) (XS.goto X0.here hx rfl (pc0 := 10) (pc' := 14) rfl (hb hby own_d6_10) (by decide) (by decide) kk_))) ?_
    exact own_retI X0 hx hlk hret (hb hby own_d6_14) hcs hss ⟨rfl, N0, e0⟩
  rw [if_neg hc5]
  refine own_st (g' := (mkF m 14 #[iv x0, .unset] [(.int 0)])) (fun tt_ kk_ => XS.ifYes X0.here hx rfl (pc0 := 5) (pc' := 13) rfl (hb hby own_d6_5) rfl ((if0 _ _).trans (feq hc5).2) (by decide) (by decide) (XS.iconst X0.here hx rfl (hb hby own_d6_13) kk_)) ?_
  exact own_retI X0 hx hlk hret (hb hby own_d6_14) hcs hss ⟨rfl, N0, e0⟩
theorem own_ef6 (m : MethodId) (x0 : Int32) : entryFrame m #[(.int x0)] 2 = mkF m 0 #[iv x0, .unset] [] := by first | (simp [entryFrame, mkF, argsToLocals, Value.category]; done) | rfl
set_option maxRecDepth 65536 in
set_option maxHeartbeats 4000000 in
theorem own_rm6 (l : Launch) (Z : State) (a0 : Array Value) (hw : own_HW Z a0) (ws : List Jvm.Cond) (x0 : Int32) (h0 : Heap) (n0 : Nat) :
    MetFree l (⟨own_z3, own_z1, "(I)I"⟩ : MethodName) (head1 (Jvm.Cond.code (⟨own_z3, own_z1, "(I)I"⟩ : MethodName) jdk_33_method_47_code 2 (some .int) :: ws) ({ frames := 0, cells := 0, slots := 0, locals := 0 } : Room)) (fun aa UU => aa = #[(.int x0)] ∧ Z.Warmed39 UU.vm ∧ UU.heap = h0) (fun _ _ _ _ _ => True) (fun _ U o U' => ∃ v L, o = .returned v ∧ own_QP (.int (own_f6_0 x0)) h0 n0 v U'.heap L ∧ FrameEnd U o U' L ({ frames := 0, cells := 0, slots := 0, locals := 0 } : Room).cells ({ frames := 0, cells := 0, slots := 0, locals := 0 } : Room).slots) := by
  refine MetFree.of_bodySF (plainFor_of_name own_pn0) hisR ?_
  intro p e s m args below meth c s₁ Bd hml0 hP hK
  obtain ⟨rfl, hZ, hh⟩ := hP
  have X0 : Stand p l e ({ frames := 0, cells := 0, slots := 0, locals := 0 } : Room) s m #[(.int x0)] below meth c s₁ [] 0 0 := Stand.of_body Bd
  have e0 : s₁.heap = h0 := by rw [← hh, Bd.state]; rfl
  refine own_cast (own_ef6 m x0) ?_
  exact own_b6_0 X0 Bd.exec Bd.notSynchronized Bd.bytes hml0 Bd.returns (findClass_of_methodNamed Bd.named) hZ hw e0 (Fr.nil n0) (by decide) (by decide) x0
theorem own_d5_0 : own_D own_b5 0 (.lload_n 0) 1 := by decide +kernel
theorem own_d5_1 : own_D own_b5 1 (.bipush 32) 2 := by decide +kernel
theorem own_d5_3 : own_D own_b5 3 .lushr 1 := by decide +kernel
theorem own_d5_4 : own_D own_b5 4 .l2i 1 := by decide +kernel
theorem own_d5_5 : own_D own_b5 5 (.istore_n 2) 1 := by decide +kernel
theorem own_d5_6 : own_D own_b5 6 (.iload_n 2) 1 := by decide +kernel
theorem own_d5_7 : own_D own_b5 7 (.ifCond .ne 14) 3 := by decide +kernel
theorem own_d5_10 : own_D own_b5 10 (.bipush 32) 2 := by decide +kernel
theorem own_d5_12 : own_D own_b5 12 (.lload_n 0) 1 := by decide +kernel
theorem own_d5_13 : own_D own_b5 13 .l2i 1 := by decide +kernel
theorem own_d5_14 : own_D own_b5 14 (.invokestatic 308) 3 := by decide +kernel
theorem own_d5_17 : own_D own_b5 17 .iadd 1 := by decide +kernel
theorem own_d5_18 : own_D own_b5 18 (.goto 7) 3 := by decide +kernel
theorem own_d5_21 : own_D own_b5 21 (.iload_n 2) 1 := by decide +kernel
theorem own_d5_22 : own_D own_b5 22 (.invokestatic 308) 3 := by decide +kernel
theorem own_d5_25 : own_D own_b5 25 .ireturn 1 := by decide +kernel
theorem own_pd0 : parseMethodDescriptor "(I)I" = some ⟨[.int], some .int⟩ := by decide +kernel
theorem own_pn1 : plainName "java/lang/Long" = true := by first | (simp [plainName, overriddenIn]; done) | decide +kernel
def own_f5_0 (x0 : Int64) : Int32 := (if (((x0.toUInt64 >>> ((32 : Int32) &&& 0x3f).toInt64.toUInt64).toInt64).toInt32) = (0 : Int32) then ((32 : Int32) + (own_f6_0 (x0.toInt32))) else (own_f6_0 (((x0.toUInt64 >>> ((32 : Int32) &&& 0x3f).toInt64.toUInt64).toInt64).toInt32)))
set_option maxRecDepth 65536 in
set_option maxHeartbeats 4000000 in
theorem own_b5_0 {p : Program} {l : Launch} {e : Env} {s : State} {m : MethodId} {args : Array Value} {below : List Frame} {meth : Method} {c : Code} {T : State} {locs : List Loc} {cells slots : Nat} {Z : State} {a0 : Array Value} {h0 : Heap} {n0 : Nat} (X0 : Stand p l e ({ frames := 1, cells := 0, slots := 0, locals := 14 } : Room) s m args below meth c T locs cells slots) (hx : p.tables.exec = Jvm.exec) (hlk : meth.locks = false) (hby : c.code = jdk_35_method_48_code) (hml : c.maxLocals = 3) (hret : meth.sig.returnType = some .int) (hown : s.vm.findClass "java/lang/Long" = some m.cls) (hZ : Z.Warmed39 s.vm) (hw : own_HW Z a0) (e0 : T.heap = h0) (N0 : Fr n0 locs) (hcs : cells ≤ 0) (hss : slots ≤ 0) (x0 : Int64) :
    own_Go p e below s T (mkF m 0 #[.val (.long x0), .second, .unset] []) (own_QP (.int (own_f5_0 x0)) h0 n0) 0 0 := by
  unfold own_f5_0
  refine own_st (g' := (mkF m 7 #[.val (.long x0), .second, iv (((x0.toUInt64 >>> ((32 : Int32) &&& 0x3f).toInt64.toUInt64).toInt64).toInt32)] [(.int (((x0.toUInt64 >>> ((32 : Int32) &&& 0x3f).toInt64.toUInt64).toInt64).toInt32))])) (fun tt_ kk_ => XS.lloadN X0.here hx rfl (hb hby own_d5_0) rfl (XS.bipush X0.here hx rfl (hb hby own_d5_1) (XS.lushr X0.here hx rfl (hb hby own_d5_3) rfl (XS.l2i X0.here hx rfl (hb hby own_d5_4) rfl (XS.istoreN X0.here hx rfl (hb hby own_d5_5) rfl (l' := #[.val (.long x0), .second, iv (((x0.toUInt64 >>> ((32 : Int32) &&& 0x3f).toInt64.toUInt64).toInt64).toInt32)]) rfl (XS.iloadN X0.here hx rfl (hb hby own_d5_6) rfl kk_)))))) ?_
  by_cases hc7 : (((x0.toUInt64 >>> ((32 : Int32) &&& 0x3f).toInt64.toUInt64).toInt64).toInt32) = (0 : Int32)
  · rw [if_pos hc7]
    refine own_st (g' := (mkF m 14 #[.val (.long x0), .second, iv (((x0.toUInt64 >>> ((32 : Int32) &&& 0x3f).toInt64.toUInt64).toInt64).toInt32)] [(.int (x0.toInt32)), (.int 32)])) (fun tt_ kk_ => XS.ifNo X0.here hx rfl (hb hby own_d5_7) rfl ((if0 _ _).trans (teq hc7).2) (XS.bipush X0.here hx rfl (hb hby own_d5_10) (XS.lloadN X0.here hx rfl (hb hby own_d5_12) rfl (XS.l2i X0.here hx rfl (hb hby own_d5_13) rfl kk_)))) ?_
    obtain ⟨_, _, ⟨T1, L1, k1, n1⟩, -, X1, ⟨Lc1, hQ1, l1, y1, z1⟩, st1⟩ := Jvm.LawKit.callS X0 hx (y := (⟨own_z3, own_z1, "(I)I"⟩ : MethodName)) hown (mvT hZ (own_w hw 44 rfl)) (mvT hZ (own_w hw 45 rfl)) (mvT hZ (own_w hw 46 rfl)) (mvT hZ (own_w hw 47 rfl)) (by decide) (backOf (W := 1) (own_rm6 l Z a0 hw [] (x0.toInt32) h0 n0) hZ (own_w hw 47 rfl) (own_w hw 46 rfl) (by decide) (by decide)) (g := (mkF m 14 #[.val (.long x0), .second, iv (((x0.toUInt64 >>> ((32 : Int32) &&& 0x3f).toInt64.toUInt64).toInt64).toInt32)] [(.int (x0.toInt32)), (.int 32)])) rfl (by rw [hml]; rfl) (argsL := [(.int (x0.toInt32))]) (rest := [(.int 32)]) (lenOf own_pd0 rfl) rfl (by show 2 * 0 + _ ≤ _; exact Nat.le_of_eq rfl) (hb hby own_d5_14) (fun _ _ => ⟨rfl, e0, (show cells + 0 ≤ 0 by omega), (show slots + 0 ≤ 0 by omega)⟩)
    dsimp only [Pt.U, Pt.locs, Pt.cells, Pt.slots] at X1 l1 y1 z1 st1 hQ1
    rw [l1, y1, z1] at X1
    obtain ⟨rfl, N1q, e1⟩ := hQ1
    have N1 := Fr.app N0 N1q
    refine own_st st1 ?_
    refine own_st (g' := (mkF m 25 #[.val (.long x0), .second, iv (((x0.toUInt64 >>> ((32 : Int32) &&& 0x3f).toInt64.toUInt64).toInt64).toInt32)] [(.int ((32 : Int32) + (own_f6_0 (x0.toInt32))))])) (fun tt_ kk_ => XS.iadd X1.here hx rfl (hb hby own_d5_17) rfl (XS.goto X1.here hx rfl (pc0 := 18) (pc' := 25) rfl (hb hby own_d5_18) (by decide) (by decide) kk_)) ?_
    exact own_retI X1 hx hlk hret (hb hby own_d5_25) hcs hss ⟨rfl, N1, e1⟩
  rw [if_neg hc7]
  refine own_st (g' := (mkF m 22 #[.val (.long x0), .second, iv (((x0.toUInt64 >>> ((32 : Int32) &&& 0x3f).toInt64.toUInt64).toInt64).toInt32)] [(.int (((x0.toUInt64 >>> ((32 : Int32) &&& 0x3f).toInt64.toUInt64).toInt64).toInt32))])) (fun tt_ kk_ => XS.ifYes X0.here hx rfl (pc0 := 7) (pc' := 21) rfl (hb hby own_d5_7) rfl ((if0 _ _).trans (feq hc7).2) (by decide) (by decide) (XS.iloadN X0.here hx rfl (hb hby own_d5_21) rfl kk_)) ?_
  obtain ⟨_, _, ⟨T2, L2, k2, n2⟩, -, X2, ⟨Lc2, hQ2, l2, y2, z2⟩, st2⟩ := Jvm.LawKit.callS X0 hx (y := (⟨own_z3, own_z1, "(I)I"⟩ : MethodName)) hown (mvT hZ (own_w hw 44 rfl)) (mvT hZ (own_w hw 45 rfl)) (mvT hZ (own_w hw 46 rfl)) (mvT hZ (own_w hw 47 rfl)) (by decide) (backOf (W := 0) (own_rm6 l Z a0 hw [] (((x0.toUInt64 >>> ((32 : Int32) &&& 0x3f).toInt64.toUInt64).toInt64).toInt32) h0 n0) hZ (own_w hw 47 rfl) (own_w hw 46 rfl) (by decide) (by decide)) (g := (mkF m 22 #[.val (.long x0), .second, iv (((x0.toUInt64 >>> ((32 : Int32) &&& 0x3f).toInt64.toUInt64).toInt64).toInt32)] [(.int (((x0.toUInt64 >>> ((32 : Int32) &&& 0x3f).toInt64.toUInt64).toInt64).toInt32))])) rfl (by rw [hml]; rfl) (argsL := [(.int (((x0.toUInt64 >>> ((32 : Int32) &&& 0x3f).toInt64.toUInt64).toInt64).toInt32))]) (rest := []) (lenOf own_pd0 rfl) rfl (by show 2 * 0 + _ ≤ _; exact Nat.le_of_eq rfl) (hb hby own_d5_22) (fun _ _ => ⟨rfl, e0, (show cells + 0 ≤ 0 by omega), (show slots + 0 ≤ 0 by omega)⟩)
  dsimp only [Pt.U, Pt.locs, Pt.cells, Pt.slots] at X2 l2 y2 z2 st2 hQ2
  rw [l2, y2, z2] at X2
  obtain ⟨rfl, N2q, e2⟩ := hQ2
  have N2 := Fr.app N0 N2q
  refine own_st st2 ?_
  exact own_retI X2 hx hlk hret (hb hby own_d5_25) hcs hss ⟨rfl, N2, e2⟩
theorem own_ef5 (m : MethodId) (x0 : Int64) : entryFrame m #[(.long x0)] 3 = mkF m 0 #[.val (.long x0), .second, .unset] [] := by first | (simp [entryFrame, mkF, argsToLocals, Value.category]; done) | rfl
set_option maxRecDepth 65536 in
set_option maxHeartbeats 4000000 in
theorem own_rm5 (l : Launch) (Z : State) (a0 : Array Value) (hw : own_HW Z a0) (ws : List Jvm.Cond) (x0 : Int64) (h0 : Heap) (n0 : Nat) :
    MetFree l (⟨"java/lang/Long", own_z1, "(J)I"⟩ : MethodName) (head1 (Jvm.Cond.code (⟨"java/lang/Long", own_z1, "(J)I"⟩ : MethodName) jdk_35_method_48_code 3 (some .int) :: ws) ({ frames := 1, cells := 0, slots := 0, locals := 14 } : Room)) (fun aa UU => aa = #[(.long x0)] ∧ Z.Warmed39 UU.vm ∧ UU.heap = h0) (fun _ _ _ _ _ => True) (fun _ U o U' => ∃ v L, o = .returned v ∧ own_QP (.int (own_f5_0 x0)) h0 n0 v U'.heap L ∧ FrameEnd U o U' L ({ frames := 1, cells := 0, slots := 0, locals := 14 } : Room).cells ({ frames := 1, cells := 0, slots := 0, locals := 14 } : Room).slots) := by
  refine MetFree.of_bodySF (plainFor_of_name own_pn1) hisR ?_
  intro p e s m args below meth c s₁ Bd hml0 hP hK
  obtain ⟨rfl, hZ, hh⟩ := hP
  have X0 : Stand p l e ({ frames := 1, cells := 0, slots := 0, locals := 14 } : Room) s m #[(.long x0)] below meth c s₁ [] 0 0 := Stand.of_body Bd
  have e0 : s₁.heap = h0 := by rw [← hh, Bd.state]; rfl
  refine own_cast (own_ef5 m x0) ?_
  exact own_b5_0 X0 Bd.exec Bd.notSynchronized Bd.bytes hml0 Bd.returns (findClass_of_methodNamed Bd.named) hZ hw e0 (Fr.nil n0) (by decide) (by decide) x0
def own_off (v l : Int32) : Int64 := (v.toInt64) - (l.toInt64)
def own_shl (x : Int64) (s : Int32) : Int64 := x <<< (s &&& 0x3f).toInt64
def own_shr (x : Int64) (s : Int32) : Int64 := (x.toUInt64 >>> (s &&& 0x3f).toInt64.toUInt64).toInt64
def own_kA (v0 v1 v2 l0 l1 l2 s0 s1 s2 : Int32) : Int64 := (((0 : Int64) ||| own_shl (own_off v0 l0) s0) ||| own_shl (own_off v1 l1) s1) ||| own_shl (own_off v2 l2) s2
def own_kB (v0 v1 l0 l1 s0 s1 : Int32) : Int64 := ((0 : Int64) ||| own_shl (own_off v0 l0) s0) ||| own_shl (own_off v1 l1) s1
def own_kC (v2 l2 s2 : Int32) : Int64 := (0 : Int64) ||| own_shl (own_off v2 l2) s2
def own_gv (l : Int32) (q : Int64) (s : Int32) (m : Int64) : Int32 := ((l.toInt64) + ((own_shr q s) &&& m)).toInt32
def own_nn (x : Int64) : Nat := x.toBitVec.toNat
theorem own_nn_inj {x y : Int64} (h : own_nn x = own_nn y) : x = y := Int64.toBitVec_inj.mp (BitVec.eq_of_toNat_eq h)
theorem own_nn_or (x y : Int64) : own_nn (x ||| y) = own_nn x ||| own_nn y := by simp [own_nn]
theorem own_nn_and (x y : Int64) : own_nn (x &&& y) = own_nn x &&& own_nn y := by simp [own_nn]
theorem own_nn_lt (x : Int64) : own_nn x < 2 ^ 64 := x.toBitVec.isLt
theorem own_sa : ∀ b : Fin 33, ((Int32.ofNat b) &&& 0x3f).toInt64.toBitVec.smod 64 = BitVec.ofNat 64 b := by decide
theorem own_sb : ∀ b : Fin 33, ((Int32.ofNat b) &&& 0x3f).toInt64.toUInt64.toBitVec % 64 = BitVec.ofNat 64 b := by decide
theorem own_nn_shl (x : Int64) (b : Nat) (hb : b ≤ 32) : own_nn (own_shl x (Int32.ofNat b)) = (own_nn x <<< b) % 2 ^ 64 := by
  have h := own_sa ⟨b, by omega⟩
  simp only [own_nn, own_shl, Int64.toBitVec_shiftLeft] 
  simp only at h
  rw [h]
  simp [BitVec.toNat_shiftLeft, Nat.mod_eq_of_lt (show b < 18446744073709551616 by omega)]
theorem own_nn_shr (x : Int64) (b : Nat) (hb : b ≤ 32) : own_nn (own_shr x (Int32.ofNat b)) = own_nn x >>> b := by
  have h := own_sb ⟨b, by omega⟩
  simp only at h
  show (x.toUInt64 >>> ((Int32.ofNat b) &&& 0x3f).toInt64.toUInt64).toBitVec.toNat = x.toBitVec.toNat >>> b
  rw [UInt64.toBitVec_shiftRight, h]
  simp [BitVec.toNat_ushiftRight, Nat.mod_eq_of_lt (show b < 18446744073709551616 by omega)]
theorem own_nn_off {v l : Int32} (h : l.toInt ≤ v.toInt) : own_nn (own_off v l) = (v.toInt - l.toInt).toNat := by
  have a := v.toInt_lt
  have b := v.le_toInt
  have c := l.toInt_lt
  have d := l.le_toInt
  have e : (own_off v l).toInt = v.toInt - l.toInt := by
    rw [own_off, Int64.toInt_sub, Int32.toInt_toInt64, Int32.toInt_toInt64, Int.bmod_eq_of_le] <;> omega
  have f : (own_off v l).toInt = (own_off v l).toBitVec.toInt := rfl
  rw [BitVec.toInt_eq_toNat_cond] at f
  rw [own_nn]
  split at f <;> omega
theorem own_back {v l : Int32} {y : Int64} (h : y = own_off v l) : ((l.toInt64) + y).toInt32 = v := by
  rw [h, own_off]
  apply Int32.toInt_inj.mp
  have a := v.toInt_lt
  have b := v.le_toInt
  have c := l.toInt_lt
  have d := l.le_toInt
  have e : (v.toInt64 - l.toInt64).toInt = v.toInt - l.toInt := by
    rw [Int64.toInt_sub, Int32.toInt_toInt64, Int32.toInt_toInt64, Int.bmod_eq_of_le] <;> omega
  have f : (l.toInt64 + (v.toInt64 - l.toInt64)).toInt = v.toInt := by
    rw [Int64.toInt_add, e, Int32.toInt_toInt64, Int.bmod_eq_of_le] <;> omega
  rw [Int64.toInt_toInt32, f, Int.bmod_eq_of_le] <;> omega
def own_mk (s : Int32) : Int64 := own_shl (1 : Int64) s - (1 : Int64)
theorem own_nn_mk : ∀ b : Fin 33, own_nn (own_mk (Int32.ofNat b)) = 2 ^ b.val - 1 := by decide
theorem own_pw {b : Nat} (hb : b ≤ 32) : 2 ^ b ≤ 4294967296 := Nat.le_trans (Nat.pow_le_pow_right (by decide) hb) (by decide)
/-- the parts of a word: x below 2^b, y above it -/
theorem own_lo {x y b : Nat} (hx : x < 2 ^ b) (hb : b ≤ 32) (hy : y < 4294967296) : ((x ||| (y <<< b) % 2 ^ 64) &&& (2 ^ b - 1)) = x := by
  have h1 := own_pw hb
  have h2 : y * 2 ^ b ≤ 4294967295 * 4294967296 := Nat.mul_le_mul (by omega) h1
  rw [Nat.shiftLeft_eq, Nat.mod_eq_of_lt (by omega), Nat.and_two_pow_sub_one_eq_mod, Nat.or_mod_two_pow, Nat.mul_mod_left, Nat.mod_eq_of_lt hx, Nat.or_zero]
theorem own_hi {x y b : Nat} (hx : x < 2 ^ b) (hb : b ≤ 32) (hy : y < 4294967296) : (((x ||| (y <<< b) % 2 ^ 64) >>> b) &&& 4294967295) = y := by
  have h1 := own_pw hb
  have h2 : y * 2 ^ b ≤ 4294967295 * 4294967296 := Nat.mul_le_mul (by omega) h1
  rw [Nat.shiftRight_or_distrib, Nat.mod_eq_of_lt (by rw [Nat.shiftLeft_eq]; omega), Nat.shiftLeft_shiftRight, Nat.shiftRight_eq_div_pow, Nat.div_eq_of_lt hx, Nat.zero_or, show 4294967295 = 2 ^ 32 - 1 from rfl, Nat.and_two_pow_sub_one_eq_mod, Nat.mod_eq_of_lt hy]
theorem own_al {y : Nat} (hy : y < 4294967296) : y &&& 4294967295 = y := by
  rw [show 4294967295 = 2 ^ 32 - 1 from rfl, Nat.and_two_pow_sub_one_eq_mod, Nat.mod_eq_of_lt hy]
theorem own_o32 {v l : Int32} (h : l.toInt = -2147483648) : l.toInt ≤ v.toInt ∧ (v.toInt - l.toInt).toNat < 4294967296 := by
  have a := v.toInt_lt
  have b := v.le_toInt
  omega
theorem own_nn0 : own_nn 0 = 0 := rfl
theorem own_nm32 : own_nn (own_mk (Int32.ofNat 32)) = 4294967295 := own_nn_mk ⟨32, by decide⟩
theorem own_s0 (x : Int64) : own_nn (own_shl x (Int32.ofNat 0)) = own_nn x := by rw [own_nn_shl x 0 (by decide), Nat.shiftLeft_zero, Nat.mod_eq_of_lt (own_nn_lt x)]
theorem own_r0 (x : Int64) : own_nn (own_shr x (Int32.ofNat 0)) = own_nn x := by rw [own_nn_shr x 0 (by decide), Nat.shiftRight_zero]
theorem own_nkB {v0 v1 l0 l1 s0 s1 : Int32} {b : Nat} (hb : b ≤ 32) (h0 : s0 = Int32.ofNat 0) (h1 : s1 = Int32.ofNat b) : own_nn (own_kB v0 v1 l0 l1 s0 s1) = own_nn (own_off v0 l0) ||| (own_nn (own_off v1 l1) <<< b) % 2 ^ 64 := by
  subst h0 h1
  rw [own_kB, own_nn_or, own_nn_or, own_s0, own_nn0, Nat.zero_or, own_nn_shl _ b hb]
theorem own_rB0 {v0 v1 l0 l1 s0 s1 : Int32} {m0 : Int64} {b : Nat} (hb : b ≤ 32) (h0 : s0 = Int32.ofNat 0) (h1 : s1 = Int32.ofNat b) (hm : m0 = own_mk (Int32.ofNat b)) (hl : l0.toInt ≤ v0.toInt) (hv : (v0.toInt - l0.toInt).toNat < 2 ^ b) (hl1 : l1.toInt = -2147483648) : own_gv l0 (own_kB v0 v1 l0 l1 s0 s1) s0 m0 = v0 := by
  refine own_back (own_nn_inj ?_)
  have q := own_o32 (v := v1) hl1
  have e := own_nkB (v0 := v0) (v1 := v1) (l0 := l0) (l1 := l1) hb h0 h1
  subst h0 hm
  have u : own_nn (own_mk (Int32.ofNat b)) = 2 ^ b - 1 := own_nn_mk ⟨b, by omega⟩
  rw [own_nn_and, own_r0, e, u, own_nn_off hl, own_nn_off q.1, own_lo hv hb q.2]
theorem own_rB1 {v0 v1 l0 l1 s0 s1 : Int32} {m1 : Int64} {b : Nat} (hb : b ≤ 32) (h0 : s0 = Int32.ofNat 0) (h1 : s1 = Int32.ofNat b) (hm : m1 = own_mk (Int32.ofNat 32)) (hl : l0.toInt ≤ v0.toInt) (hv : (v0.toInt - l0.toInt).toNat < 2 ^ b) (hl1 : l1.toInt = -2147483648) : own_gv l1 (own_kB v0 v1 l0 l1 s0 s1) s1 m1 = v1 := by
  refine own_back (own_nn_inj ?_)
  have q := own_o32 (v := v1) hl1
  have e := own_nkB (v0 := v0) (v1 := v1) (l0 := l0) (l1 := l1) hb h0 h1
  subst h1 hm
  rw [own_nn_and, own_nn_shr _ b hb, e, own_nm32, own_nn_off hl, own_nn_off q.1, own_hi hv hb q.2]
theorem own_rC {v2 l2 s2 : Int32} {m2 : Int64} (h2 : s2 = Int32.ofNat 0) (hm : m2 = own_mk (Int32.ofNat 32)) (hl : l2.toInt = -2147483648) : own_gv l2 (own_kC v2 l2 s2) s2 m2 = v2 := by
  refine own_back (own_nn_inj ?_)
  have q := own_o32 (v := v2) hl
  subst h2 hm
  rw [own_nn_and, own_r0, own_kC, own_nn_or, own_s0, own_nn0, Nat.zero_or, own_nm32, own_nn_off q.1, own_al q.2]
theorem own_nkA {v0 v1 v2 l0 l1 l2 s0 s1 s2 : Int32} (h0 : s0 = Int32.ofNat 0) (h1 : s1 = Int32.ofNat 0) (h2 : s2 = Int32.ofNat 32) (hv : v0 = l0) : own_nn (own_kA v0 v1 v2 l0 l1 l2 s0 s1 s2) = own_nn (own_off v1 l1) ||| (own_nn (own_off v2 l2) <<< 32) % 2 ^ 64 := by
  subst h0 h1 h2 hv
  have z : own_nn (own_off v0 v0) = 0 := by rw [own_nn_off (Int.le_refl _)]; omega
  rw [own_kA, own_nn_or, own_nn_or, own_nn_or, own_s0, own_s0, own_nn0, Nat.zero_or, z, Nat.zero_or, own_nn_shl _ 32 (by decide)]
theorem own_rA0 {v0 v1 v2 l0 l1 l2 s0 s1 s2 : Int32} {m0 : Int64} (hm : m0 = own_mk (Int32.ofNat 0)) (hv : v0 = l0) : own_gv l0 (own_kA v0 v1 v2 l0 l1 l2 s0 s1 s2) s0 m0 = v0 := by
  subst hv hm
  refine own_back (own_nn_inj ?_)
  have u : own_nn (own_mk (Int32.ofNat 0)) = 0 := rfl
  rw [own_nn_and, u, Nat.and_zero, own_nn_off (Int.le_refl _)]; omega
theorem own_rA1 {v0 v1 v2 l0 l1 l2 s0 s1 s2 : Int32} {m1 : Int64} (h0 : s0 = Int32.ofNat 0) (h1 : s1 = Int32.ofNat 0) (h2 : s2 = Int32.ofNat 32) (hm : m1 = own_mk (Int32.ofNat 32)) (hv : v0 = l0) (hl1 : l1.toInt = -2147483648) (hl2 : l2.toInt = -2147483648) : own_gv l1 (own_kA v0 v1 v2 l0 l1 l2 s0 s1 s2) s1 m1 = v1 := by
  refine own_back (own_nn_inj ?_)
  have q := own_o32 (v := v1) hl1
  have r := own_o32 (v := v2) hl2
  have e := own_nkA (v0 := v0) (v1 := v1) (v2 := v2) (l0 := l0) (l1 := l1) (l2 := l2) h0 h1 h2 hv
  subst h1 hm
  rw [own_nn_and, own_r0, e, own_nm32, own_nn_off q.1, own_nn_off r.1]
  exact own_lo (b := 32) q.2 (by decide) r.2
theorem own_rA2 {v0 v1 v2 l0 l1 l2 s0 s1 s2 : Int32} {m2 : Int64} (h0 : s0 = Int32.ofNat 0) (h1 : s1 = Int32.ofNat 0) (h2 : s2 = Int32.ofNat 32) (hm : m2 = own_mk (Int32.ofNat 32)) (hv : v0 = l0) (hl1 : l1.toInt = -2147483648) (hl2 : l2.toInt = -2147483648) : own_gv l2 (own_kA v0 v1 v2 l0 l1 l2 s0 s1 s2) s2 m2 = v2 := by
  refine own_back (own_nn_inj ?_)
  have q := own_o32 (v := v1) hl1
  have r := own_o32 (v := v2) hl2
  have e := own_nkA (v0 := v0) (v1 := v1) (v2 := v2) (l0 := l0) (l1 := l1) (l2 := l2) h0 h1 h2 hv
  subst h2 hm
  rw [own_nn_and, own_nn_shr _ 32 (by decide), e, own_nm32, own_nn_off q.1, own_nn_off r.1]
  exact own_hi (b := 32) q.2 (by decide) r.2
theorem own_us : ∀ k : Fin 17, ((Int32.ofNat k) &&& 31).toUInt32.toBitVec % 32 = BitVec.ofNat 32 k := by decide
theorem own_ush {i : Int32} (h : 0 ≤ i.toInt) (k : Nat) (hk : k ≤ 16) : ((i.toUInt32 >>> ((Int32.ofNat k) &&& 31).toUInt32).toInt32).toInt = i.toInt / 2 ^ k := by
  have q := own_us ⟨k, by omega⟩
  simp only at q
  have e : ((i.toUInt32 >>> ((Int32.ofNat k) &&& 31).toUInt32).toInt32).toBitVec.toNat = i.toBitVec.toNat >>> k := by
    show (i.toUInt32 >>> ((Int32.ofNat k) &&& 31).toUInt32).toBitVec.toNat = _
    rw [UInt32.toBitVec_shiftRight, q]
    simp [BitVec.toNat_ushiftRight, Nat.mod_eq_of_lt (show k < 4294967296 by omega)]
  have f : i.toInt = i.toBitVec.toInt := rfl
  have g : ((i.toUInt32 >>> ((Int32.ofNat k) &&& 31).toUInt32).toInt32).toInt = ((i.toUInt32 >>> ((Int32.ofNat k) &&& 31).toUInt32).toInt32).toBitVec.toInt := rfl
  have lt := i.toBitVec.isLt
  rw [BitVec.toInt_eq_toNat_cond] at f g
  have f' : i.toInt = (i.toBitVec.toNat : Int) := by split at f <;> omega
  have d : i.toBitVec.toNat >>> k = i.toBitVec.toNat / 2 ^ k := Nat.shiftRight_eq_div_pow _ _
  have d' : i.toBitVec.toNat / 2 ^ k ≤ i.toBitVec.toNat := Nat.div_le_self _ _
  have lt2 : i.toBitVec.toNat < 2147483648 := by have := i.toInt_lt; omega
  rw [e, d] at g
  rw [g, if_pos (by omega), f']
  push_cast
  rfl
/-- the shape of each step: n less some e, i below 2^(e+1) -/
def own_nz (i n r : Int32) (m : Nat) : Prop := ∃ e : Nat, e ≤ m ∧ r.toInt = n.toInt - e ∧ i.toInt < 2 ^ (e + 1)
theorem own_nz73 {i n : Int32} (hi : 0 ≤ i.toInt ∧ i.toInt < 4) (hn : 0 ≤ n.toInt - 1 ∧ n.toInt ≤ 31) : own_nz i n (own_f6_73 i n) 1 := by
  have e := own_ush hi.1 1 (by decide)
  have e' : ((i.toUInt32 >>> ((1 : Int32) &&& 31).toUInt32).toInt32).toInt = i.toInt / 2 := e
  refine ⟨(i.toInt / 2).toNat, by omega, ?_, ?_⟩
  · rw [own_f6_73, Int32.toInt_sub, e', Int.bmod_eq_of_le] <;> omega
  · have c : i.toInt / 2 = 0 ∨ i.toInt / 2 = 1 := by omega
    rcases c with c | c <;> rw [c] <;> simp <;> omega
theorem own_nzs {i i' n n' r : Int32} {k m : Nat} (h : own_nz i' n' r m) (hi : i'.toInt = i.toInt / 2 ^ k) (hn : n'.toInt = n.toInt - k) : own_nz i n r (m + k) := by
  obtain ⟨e, a, b, c⟩ := h
  refine ⟨e + k, by omega, by omega, ?_⟩
  rw [hi] at c
  have p : (0 : Int) < 2 ^ k := Int.pow_pos (by decide)
  have := (Int.ediv_lt_iff_lt_mul p).mp c
  rw [← Int.pow_add] at this
  rw [show e + k + 1 = e + 1 + k by omega]
  exact this
theorem own_nzm {i n r : Int32} {m m' : Nat} (h : own_nz i n r m) (hm : m ≤ m') : own_nz i n r m' := by obtain ⟨e, a, b⟩ := h; exact ⟨e, by omega, b⟩
theorem own_dn {n k : Int32} {j : Nat} (hk : k.toInt = -(j : Int)) (hj : j ≤ 16) (hn : (j : Int) ≤ n.toInt ∧ n.toInt ≤ 31) : (n + k).toInt = n.toInt - j := by
  rw [Int32.toInt_add, hk, Int.bmod_eq_of_le] <;> omega
theorem own_nz61 {i n : Int32} (hi : 0 ≤ i.toInt ∧ i.toInt < 16) (hn : 3 ≤ n.toInt ∧ n.toInt ≤ 31) : own_nz i n (own_f6_61 i n) 3 := by
  rw [own_f6_61]
  have l : (4 : Int32).toInt = 4 := rfl
  split
  · rename_i c
    rw [Int32.lt_iff_toInt_lt, l] at c
    exact own_nzm (own_nz73 (by omega) (by omega)) (by decide)
  · have e := own_ush hi.1 2 (by decide)
    have d := own_dn (n := n) (k := (-2 : Int32)) (j := 2) rfl (by decide) (by omega)
    exact own_nzs (k := 2) (own_nz73 (by rw [show ((2 : Int32)) = Int32.ofNat 2 from rfl, e]; omega) (by rw [d]; omega)) e d
theorem own_nz48 {i n : Int32} (hi : 0 ≤ i.toInt ∧ i.toInt < 256) (hn : 7 ≤ n.toInt ∧ n.toInt ≤ 31) : own_nz i n (own_f6_48 i n) 7 := by
  rw [own_f6_48]
  have l : (16 : Int32).toInt = 16 := rfl
  split
  · rename_i c
    rw [Int32.lt_iff_toInt_lt, l] at c
    exact own_nzm (own_nz61 (by omega) (by omega)) (by decide)
  · have e := own_ush hi.1 4 (by decide)
    have d := own_dn (n := n) (k := (-4 : Int32)) (j := 4) rfl (by decide) (by omega)
    exact own_nzs (k := 4) (own_nz61 (by rw [show ((4 : Int32)) = Int32.ofNat 4 from rfl, e]; omega) (by rw [d]; omega)) e d
theorem own_nz33 {i n : Int32} (hi : 0 ≤ i.toInt ∧ i.toInt < 65536) (hn : 15 ≤ n.toInt ∧ n.toInt ≤ 31) : own_nz i n (own_f6_33 i n) 15 := by
  rw [own_f6_33]
  have l : (256 : Int32).toInt = 256 := rfl
  split
  · rename_i c
    rw [Int32.lt_iff_toInt_lt, l] at c
    exact own_nzm (own_nz48 (by omega) (by omega)) (by decide)
  · have e := own_ush hi.1 8 (by decide)
    have d := own_dn (n := n) (k := (-8 : Int32)) (j := 8) rfl (by decide) (by omega)
    exact own_nzs (k := 8) (own_nz48 (by rw [show ((8 : Int32)) = Int32.ofNat 8 from rfl, e]; omega) (by rw [d]; omega)) e d
theorem own_nz0 {i : Int32} (hi : 0 < i.toInt) : own_nz i (31 : Int32) (own_f6_0 i) 31 := by
  have l : (65536 : Int32).toInt = 65536 := rfl
  have z : (0 : Int32).toInt = 0 := rfl
  have n31 : (31 : Int32).toInt = 31 := rfl
  have n15 : (15 : Int32).toInt = 15 := rfl
  rw [own_f6_0, if_pos (by rw [Int32.lt_iff_toInt_lt, z]; exact hi)]
  split
  · rename_i c
    rw [Int32.lt_iff_toInt_lt, l] at c
    exact own_nzm (own_nz33 (by omega) (by decide)) (by decide)
  · have e := own_ush (i := i) (by omega) 16 (by decide)
    have := i.toInt_lt
    exact own_nzs (k := 16) (own_nz33 (by rw [show ((16 : Int32)) = Int32.ofNat 16 from rfl, e]; omega) (by decide)) e (by rw [n31, n15]; rfl)
theorem own_of (b : Nat) (hb : b ≤ 64) {x : Int32} (h : x.toInt = b) : x = Int32.ofNat b := by
  apply Int32.toInt_inj.mp
  rw [h, Int32.toInt_ofNat', show Int32.size = 4294967296 from rfl, Int.bmod_eq_of_le] <;> omega
/-- the leading zeros of a long below 2^32 -/
theorem own_nlz {x : Int64} (h : 0 ≤ x.toInt ∧ x.toInt < 4294967296) : ∃ b : Nat, b ≤ 32 ∧ (64 : Int32) - own_f5_0 x = Int32.ofNat b ∧ x.toInt < 2 ^ b := by
  have xe : x.toInt = x.toBitVec.toInt := rfl
  rw [BitVec.toInt_eq_toNat_cond] at xe
  have xn : x.toInt = (x.toBitVec.toNat : Int) := by have := x.toBitVec.isLt; split at xe <;> omega
  have top : ((x.toUInt64 >>> ((32 : Int32) &&& 0x3f).toInt64.toUInt64).toInt64).toInt32 = (0 : Int32) := by
    have e : (x.toUInt64 >>> ((32 : Int32) &&& 0x3f).toInt64.toUInt64).toInt64 = 0 := by
      apply own_nn_inj
      have := own_nn_shr x 32 (by decide)
      refine (show own_nn (own_shr x (Int32.ofNat 32)) = _ from ?_)
      rw [this, own_nn0, own_nn, Nat.shiftRight_eq_div_pow]
      exact Nat.div_eq_of_lt (by omega)
    rw [e]; rfl
  have c64 : (64 : Int32).toInt = 64 := rfl
  have c32 : (32 : Int32).toInt = 32 := rfl
  have n31 : (31 : Int32).toInt = 31 := rfl
  have c0 : (0 : Int32).toInt = 0 := rfl
  have low : x.toInt32.toInt = Int.bmod x.toInt (2 ^ 32) := Int64.toInt_toInt32 x
  rw [own_f5_0, if_pos top]
  by_cases p : 0 < x.toInt32.toInt
  · obtain ⟨e, a, b, c⟩ := own_nz0 p
    rw [n31] at b
    have s1 : ((32 : Int32) + own_f6_0 x.toInt32).toInt = 63 - e := by rw [Int32.toInt_add, c32, b, Int.bmod_eq_of_le] <;> omega
    refine ⟨e + 1, by omega, own_of _ (by omega) ?_, ?_⟩
    · rw [Int32.toInt_sub, s1, c64, Int.bmod_eq_of_le] <;> omega
    · rw [low] at c p
      rw [Int.bmod_def] at c p
      have := h.2
      split at p <;> omega
  · rw [own_f6_0, if_neg (by rw [Int32.lt_iff_toInt_lt, c0]; exact p)]
    by_cases z : x.toInt32 = 0
    · rw [if_pos z]
      refine ⟨0, by decide, rfl, ?_⟩
      rw [z, c0, Int.bmod_def] at low
      split at low <;> omega
    · rw [if_neg z]
      exact ⟨32, by decide, rfl, h.2⟩
theorem own_lt32 {a b : Int32} : a < b ↔ a.toInt < b.toInt := Int32.lt_iff_toInt_lt
theorem own_lohi (p q : Int32) : (own_f1_0 p q).toInt ≤ (own_f2_0 p q).toInt := by
  rw [own_f1_0, own_f2_0]
  by_cases a : q < p
  · rw [if_pos a, if_neg (by rw [own_lt32] at *; omega)]; rw [own_lt32] at a; omega
  · rw [if_neg a]; rw [own_lt32] at a
    split
    · omega
    · omega
theorem own_spn {lo hi : Int32} (h : lo.toInt ≤ hi.toInt) : (((hi.toInt64) - (lo.toInt64)) + (1 : Int64)).toInt = hi.toInt - lo.toInt + 1 := by
  have a := hi.toInt_lt
  have b := hi.le_toInt
  have c := lo.toInt_lt
  have d := lo.le_toInt
  have o : (1 : Int64).toInt = 1 := rfl
  have e : (hi.toInt64 - lo.toInt64).toInt = hi.toInt - lo.toInt := by
    rw [Int64.toInt_sub, Int32.toInt_toInt64, Int32.toInt_toInt64, Int.bmod_eq_of_le] <;> omega
  rw [Int64.toInt_add, e, o, Int.bmod_eq_of_le] <;> omega
theorem own_sp1 {lo hi : Int32} (h : lo.toInt ≤ hi.toInt) : ((((hi.toInt64) - (lo.toInt64)) + (1 : Int64)) - (1 : Int64)).toInt = hi.toInt - lo.toInt := by
  have a := hi.toInt_lt
  have b := hi.le_toInt
  have c := lo.toInt_lt
  have d := lo.le_toInt
  have o : (1 : Int64).toInt = 1 := rfl
  rw [Int64.toInt_sub, own_spn h, o, Int.bmod_eq_of_le] <;> omega
theorem own_spz {lo hi : Int32} (h : lo.toInt ≤ hi.toInt) : (((hi.toInt64) - (lo.toInt64)) + (1 : Int64)) ≠ 0 := fun q => by
  have := own_spn h
  rw [q] at this
  have z : (0 : Int64).toInt = 0 := rfl
  omega
theorem own_msk (r : Int64) : 0 ≤ (r &&& (9223372036854775807 : Int64)).toInt := by
  have e : own_nn (r &&& (9223372036854775807 : Int64)) = own_nn r % 2 ^ 63 := by
    rw [own_nn_and, show own_nn 9223372036854775807 = 2 ^ 63 - 1 from rfl, Nat.and_two_pow_sub_one_eq_mod]
  have f : (r &&& (9223372036854775807 : Int64)).toInt = (r &&& (9223372036854775807 : Int64)).toBitVec.toInt := rfl
  rw [BitVec.toInt_eq_toNat_cond] at f
  rw [own_nn] at e
  split at f <;> omega
theorem own_in {lo hi : Int32} (h : lo.toInt ≤ hi.toInt) {x : Int64} (hx : 0 ≤ x.toInt) : lo.toInt ≤ (((lo.toInt64) + (x - (x / (((hi.toInt64) - (lo.toInt64)) + (1 : Int64))) * (((hi.toInt64) - (lo.toInt64)) + (1 : Int64)))).toInt32).toInt ∧ (((lo.toInt64) + (x - (x / (((hi.toInt64) - (lo.toInt64)) + (1 : Int64))) * (((hi.toInt64) - (lo.toInt64)) + (1 : Int64)))).toInt32).toInt ≤ hi.toInt := by
  rw [lrem_mod]
  have s := own_spn h
  have m : (x % (((hi.toInt64) - (lo.toInt64)) + (1 : Int64))).toInt = x.toInt % (hi.toInt - lo.toInt + 1) := by
    rw [Int64.toInt_mod, s, Int.tmod_eq_emod_of_nonneg hx]
  have m1 := Int.emod_nonneg x.toInt (show hi.toInt - lo.toInt + 1 ≠ 0 by omega)
  have m2 := Int.emod_lt_of_pos x.toInt (show 0 < hi.toInt - lo.toInt + 1 by omega)
  have a := hi.toInt_lt
  have b := hi.le_toInt
  have c := lo.toInt_lt
  have d := lo.le_toInt
  have f : ((lo.toInt64) + x % (((hi.toInt64) - (lo.toInt64)) + (1 : Int64))).toInt = lo.toInt + x.toInt % (hi.toInt - lo.toInt + 1) := by
    rw [Int64.toInt_add, Int32.toInt_toInt64, m, Int.bmod_eq_of_le] <;> omega
  rw [Int64.toInt_toInt32, f, Int.bmod_eq_of_le] <;> omega
theorem own_ofi {v l : Int32} : ((v.toInt64) - (l.toInt64)).toInt = v.toInt - l.toInt := by
  have a := v.toInt_lt
  have b := v.le_toInt
  have c := l.toInt_lt
  have d := l.le_toInt
  rw [Int64.toInt_sub, Int32.toInt_toInt64, Int32.toInt_toInt64, Int.bmod_eq_of_le] <;> omega
/-- the places of the slots -/
theorem own_mn (j : Int32) : (j &&& (1023 : Int32)).toInt = ((j.toBitVec.toNat % 1024 : Nat) : Int) := by
  have e : (j &&& (1023 : Int32)).toBitVec.toNat = j.toBitVec.toNat % 1024 := by
    rw [Int32.toBitVec_and, BitVec.toNat_and, show (1023 : Int32).toBitVec.toNat = 2 ^ 10 - 1 from rfl, Nat.and_two_pow_sub_one_eq_mod]
  have f : (j &&& (1023 : Int32)).toInt = (j &&& (1023 : Int32)).toBitVec.toInt := rfl
  rw [BitVec.toInt_eq_toNat_cond, e] at f
  split at f <;> omega
theorem own_ix0 (j : Int32) : ¬ (j &&& (1023 : Int32)) < 0 := by
  rw [own_lt32, own_mn]; have : (0 : Int32).toInt = 0 := rfl; omega
theorem own_ix1 (j : Int32) : (j &&& (1023 : Int32)).toInt < ((1024 : Nat) : Int) := by rw [own_mn]; omega
theorem own_ixn (j : Int32) : (j &&& (1023 : Int32)).toNatClampNeg = j.toBitVec.toNat % 1024 := by
  rw [Int32.toNatClampNeg, own_mn]; rfl
def own_sl (hh : Int32) : Nat → Int32 := fun i => if i = (hh &&& (1023 : Int32)).toNatClampNeg then ((hh &&& (-1024 : Int32)) ||| (1 : Int32)) else 0
theorem own_v1 (hh : Int32) : (((hh &&& (-1024 : Int32)) ||| (1 : Int32)) &&& (1023 : Int32)) = 1 := by
  apply Int32.toBitVec_inj.mp
  apply BitVec.eq_of_getLsbD_eq
  intro i hi
  simp only [Int32.toBitVec_and, Int32.toBitVec_or, BitVec.getLsbD_and, BitVec.getLsbD_or]
  have : ∀ i : Fin 32, ((-1024 : Int32).toBitVec.getLsbD i && (1023 : Int32).toBitVec.getLsbD i) = false ∧ ((1 : Int32).toBitVec.getLsbD i && (1023 : Int32).toBitVec.getLsbD i) = (1 : Int32).toBitVec.getLsbD i := by decide
  obtain ⟨a, b⟩ := this ⟨i, hi⟩
  simp only at a b
  rw [Bool.and_or_distrib_right, Bool.and_assoc, a, b, Bool.and_false, Bool.false_or]
theorem own_sl1 {hh : Int32} {i : Nat} (h : ¬ own_sl hh i = (0 : Int32)) : ((own_sl hh i) &&& (1023 : Int32)) - (1 : Int32) = (0 : Int32) := by
  unfold own_sl at h ⊢
  by_cases q : i = (hh &&& (1023 : Int32)).toNatClampNeg
  · simp only [if_pos q]; rw [own_v1]; rfl
  · simp only [if_neg q] at h; exact absurd trivial h
theorem own_sl2 {hh j : Int32} (h : ¬ own_sl hh (j &&& (1023 : Int32)).toNatClampNeg = (0 : Int32)) : own_sl hh (((j &&& (1023 : Int32)) + (1 : Int32)) &&& (1023 : Int32)).toNatClampNeg = (0 : Int32) := by
  unfold own_sl at h ⊢
  by_cases q : (j &&& (1023 : Int32)).toNatClampNeg = (hh &&& (1023 : Int32)).toNatClampNeg
  · rw [if_neg]
    rw [← q, own_ixn, own_ixn]
    have e : (((j &&& (1023 : Int32)) + (1 : Int32))).toBitVec.toNat = j.toBitVec.toNat % 1024 + 1 := by
      rw [Int32.toBitVec_add, BitVec.toNat_add, Int32.toBitVec_and, BitVec.toNat_and, show (1023 : Int32).toBitVec.toNat = 2 ^ 10 - 1 from rfl, Nat.and_two_pow_sub_one_eq_mod, show (1 : Int32).toBitVec.toNat = 1 from rfl]
      omega
    rw [e]; omega
  · simp only [if_neg q] at h; exact absurd trivial h
theorem own_c2 {NL : Int32} {b : Nat} (hb : b ≤ 32) (hB : (64 : Int32) - NL = Int32.ofNat b) : ¬ (64 : Int32) < ((0 : Int32) + ((64 : Int32) - NL)) := by
  have := (by decide : ∀ b : Fin 33, ¬ (64 : Int32) < ((0 : Int32) + Int32.ofNat b)) ⟨b, by omega⟩
  rw [hB]; exact this
theorem own_c3 {NL : Int32} {b : Nat} (hb : b ≤ 32) (hB : (64 : Int32) - NL = Int32.ofNat b) : ¬ (64 : Int32) < (((0 : Int32) + ((64 : Int32) - NL)) + (32 : Int32)) := by
  have := (by decide : ∀ b : Fin 33, ¬ (64 : Int32) < (((0 : Int32) + Int32.ofNat b) + (32 : Int32))) ⟨b, by omega⟩
  rw [hB]; exact this
theorem own_c4B {NL : Int32} {b : Nat} (hb : b ≤ 32) (hz : ¬ b = 0) (hB : (64 : Int32) - NL = Int32.ofNat b) : (64 : Int32) < ((((0 : Int32) + ((64 : Int32) - NL)) + (32 : Int32)) + (32 : Int32)) := by
  have := (by decide : ∀ b : Fin 33, b.val = 0 ∨ (64 : Int32) < ((((0 : Int32) + Int32.ofNat b) + (32 : Int32)) + (32 : Int32))) ⟨b, by omega⟩
  rw [hB]; exact this.resolve_left hz
theorem own_c4A {NL : Int32} {b : Nat} (hb : b ≤ 32) (hz : b = 0) (hB : (64 : Int32) - NL = Int32.ofNat b) : ¬ (64 : Int32) < ((((0 : Int32) + ((64 : Int32) - NL)) + (32 : Int32)) + (32 : Int32)) := by
  rw [hB, hz]; decide
theorem own_sh1 {NL : Int32} {b : Nat} (hB : (64 : Int32) - NL = Int32.ofNat b) : ((0 : Int32) + ((64 : Int32) - NL)) = Int32.ofNat b := by rw [hB, Int32.zero_add]
theorem own_sh2 {NL : Int32} {b : Nat} (hz : b = 0) (hB : (64 : Int32) - NL = Int32.ofNat b) : (((0 : Int32) + ((64 : Int32) - NL)) + (32 : Int32)) = Int32.ofNat 32 := by rw [hB, hz]; rfl
theorem own_mk0 {NL : Int32} {b : Nat} (hB : (64 : Int32) - NL = Int32.ofNat b) : (((1 : Int64) <<< (((64 : Int32) - NL) &&& 0x3f).toInt64) - (1 : Int64)) = own_mk (Int32.ofNat b) := by rw [hB]; rfl
theorem own_mk1 : (((1 : Int64) <<< ((32 : Int32) &&& 0x3f).toInt64) - (1 : Int64)) = own_mk (Int32.ofNat 32) := rfl
/-- the span's bits hold every value of it -/
theorem own_pb {lo hi v : Int32} {b : Nat} (h : lo.toInt ≤ v.toInt ∧ v.toInt ≤ hi.toInt) (hx : ((((hi.toInt64) - (lo.toInt64)) + (1 : Int64)) - (1 : Int64)).toInt < 2 ^ b) : (v.toInt - lo.toInt).toNat < 2 ^ b := by
  rw [own_sp1 (by omega)] at hx
  have : ((v.toInt - lo.toInt).toNat : Int) < ((2 ^ b : Nat) : Int) := by push_cast; omega
  exact Int.ofNat_lt.mp this
theorem own_pz {lo hi v : Int32} {b : Nat} (hz : b = 0) (h : lo.toInt ≤ v.toInt ∧ v.toInt ≤ hi.toInt) (hx : ((((hi.toInt64) - (lo.toInt64)) + (1 : Int64)) - (1 : Int64)).toInt < 2 ^ b) : v = lo := by
  have := own_pb h hx
  rw [hz] at this
  exact Int32.toInt_inj.mp (by omega)
theorem own_nlh {lo hi : Int32} (h : lo.toInt ≤ hi.toInt) : 0 ≤ ((((hi.toInt64) - (lo.toInt64)) + (1 : Int64)) - (1 : Int64)).toInt ∧ ((((hi.toInt64) - (lo.toInt64)) + (1 : Int64)) - (1 : Int64)).toInt < 4294967296 := by
  have a := hi.toInt_lt
  have b := hi.le_toInt
  have c := lo.toInt_lt
  have d := lo.le_toInt
  rw [own_sp1 h]; omega
theorem own_cs1 {lo hi : Int32} (h : lo.toInt ≤ hi.toInt) : ¬ (lcmpW (((hi.toInt64) - (lo.toInt64)) + (1 : Int64)) (1 : Int64)) < (0 : Int32) := by
  rw [lw_lt, Int64.lt_iff_toInt_lt, own_spn h]; have : (1 : Int64).toInt = 1 := rfl; omega
theorem own_hge {v l : Int32} (h : l.toInt ≤ v.toInt) : ¬ (lcmpW ((v.toInt64) - (l.toInt64)) (0 : Int64)) < (0 : Int32) := by
  rw [lw_lt, Int64.lt_iff_toInt_lt, own_ofi]; have : (0 : Int64).toInt = 0 := rfl; omega
theorem own_hlt {v l : Int32} {sp : Int64} (h : v.toInt - l.toInt < sp.toInt) : (lcmpW ((v.toInt64) - (l.toInt64)) sp) < (0 : Int32) := by
  rw [lw_lt, Int64.lt_iff_toInt_lt, own_ofi]; exact h
theorem own_h32 {v l : Int32} (h : l.toInt = -2147483648) : (lcmpW ((v.toInt64) - (l.toInt64)) (4294967296 : Int64)) < (0 : Int32) := own_hlt (by
  have : (4294967296 : Int64).toInt = 4294967296 := rfl
  have a := v.toInt_lt
  omega)
theorem own_g32 {v l : Int32} (h : l.toInt = -2147483648) : ¬ (lcmpW ((v.toInt64) - (l.toInt64)) (0 : Int64)) < (0 : Int32) := own_hge (by have a := v.le_toInt; omega)
theorem own_lt0 {v lo hi : Int32} (h : lo.toInt ≤ v.toInt ∧ v.toInt ≤ hi.toInt) : (lcmpW ((v.toInt64) - (lo.toInt64)) (((hi.toInt64) - (lo.toInt64)) + (1 : Int64))) < (0 : Int32) := own_hlt (by rw [own_spn (by omega)]; omega)
theorem own_min : (-2147483648 : Int32).toInt = -2147483648 := rfl
theorem own_sh1' {NL : Int32} {b : Nat} (hz : b = 0) (hB : (64 : Int32) - NL = Int32.ofNat b) : ((0 : Int32) + ((64 : Int32) - NL)) = Int32.ofNat 0 := by rw [hB, hz]; rfl
theorem own_mk0' {NL : Int32} {b : Nat} (hz : b = 0) (hB : (64 : Int32) - NL = Int32.ofNat b) : (((1 : Int64) <<< (((64 : Int32) - NL) &&& 0x3f).toInt64) - (1 : Int64)) = own_mk (Int32.ofNat 0) := by rw [hB, hz]; rfl
theorem own_clone {p : Program} {l : Launch} {e : Env} {R : Room} {s : State} {m : MethodId} {args : Array Value} {below : List Frame} {meth : Method} {c : Code} {T : State} {locs : List Loc} {cells slots : Nat} {Z : State} {a0 : Array Value} {h : Heap} {a : Addr} {k : ClassId} {z : Int32} {vs : List Value} {dv : Value} {ty : FieldType} {own ad : String} {index : Nat} (X : Stand p l e R s m args below meth c T locs cells slots) (hx : p.tables.exec = Jvm.exec) (hZ : Z.Warmed39 s.vm) (hown : s.vm.findClass own = some m.cls)
    (w1 : (Jvm.Cond.methodLink own index ⟨ad, "clone", "()Ljava/lang/Object;"⟩).before a0 Z = true) (w2 : (Jvm.Cond.sameMethod ad "java/lang/Object" "clone" "()Ljava/lang/Object;").before a0 Z = true) (w3 : (Jvm.Cond.native ⟨"java/lang/Object", "clone", "()Ljava/lang/Object;"⟩).before a0 Z = true)
    (w4 : (Jvm.Cond.instanceMethod ⟨"java/lang/Object", "clone", "()Ljava/lang/Object;"⟩).before a0 Z = true) (w5 : (Jvm.Cond.selects ad ⟨ad, "clone", "()Ljava/lang/Object;"⟩ ⟨"java/lang/Object", "clone", "()Ljava/lang/Object;"⟩).before a0 Z = true) (w6 : (Jvm.Cond.castable ad "java/lang/Cloneable").before a0 Z = true)
    (eT : T.heap = h) (F : Arv Z h a k ty z vs dv) (E : Exa Z h a ad) {g : JFrame} (hg : g.method = m) (hsize : g.locals.size = c.maxLocals) {rest : List Value} (hst : g.stack = .ref a :: rest) (hd : decode c.code g.pc = .ok (.invokevirtual index, 3))
    (hf : 1 ≤ R.frames) {W cap : Nat} (hW : 2 * g.monitorRoom + (rest.map fun v => v.category).sum ≤ W) (hl : W + 14 ≤ R.locals) (hcap : z.toNatClampNeg ≤ cap) (hc : cells + 1 ≤ R.cells) (hsl : slots + cap ≤ R.slots) :
    ∃ T' h', Stand p l e R s m args below meth c T' locs (cells + 1) (slots + cap) ∧ T'.heap = h' ∧ Ext h h' ∧ Arv Z h' h.size k ty z vs dv ∧ Exa Z h' h.size ad ∧
      ∀ target, Steps p.tables e below (T'.setTop { g with pc := g.pc + 3, stack := .ref h.size :: rest }) target → Steps p.tables e below (T.setTop g) target := by
  obtain ⟨cl, A, q1, S, q3, H, G⟩ := F
  have FC : FitC Z cl := fitC_of A fun i hi v hv => by rw [H i hi] at hv; cases hv; exact G i hi
  obtain ⟨T', h', X', e', ex, A', E', st⟩ := cloneA X hx hZ hown w1 w2 w3 w4 w5 w6 eT A E FC hg hsize hst hd hf hW hl (by rw [S]; exact hcap) hc hsl
  exact ⟨T', h', X', e', ex, ⟨cloneOf cl, A', q1, S, q3, H, G⟩, E', st⟩
theorem own_d8_0 : own_D own_b8 0 (.sipush 1024) 3 := by decide +kernel
theorem own_d8_3 : own_D own_b8 3 (.istore_n 1) 1 := by decide +kernel
theorem own_d8_4 : own_D own_b8 4 (.iload_n 1) 1 := by decide +kernel
theorem own_d8_5 : own_D own_b8 5 (.iconst 4) 1 := by decide +kernel
theorem own_d8_6 : own_D own_b8 6 .idiv 1 := by decide +kernel
theorem own_d8_7 : own_D own_b8 7 (.iconst 3) 1 := by decide +kernel
theorem own_d8_8 : own_D own_b8 8 .imul 1 := by decide +kernel
theorem own_d8_9 : own_D own_b8 9 (.iload_n 0) 1 := by decide +kernel
theorem own_d8_10 : own_D own_b8 10 (.if_icmp .ge 16) 3 := by decide +kernel
theorem own_d8_26 : own_D own_b8 26 (.iload_n 1) 1 := by decide +kernel
theorem own_d8_27 : own_D own_b8 27 .ireturn 1 := by decide +kernel
theorem own_pn2 : plainName "com/example/weigh/weigh/models/explicit/StateTable" = true := by first | (simp [plainName, overriddenIn]; done) | decide +kernel
def own_Qslf (Z : State)  (h0 : Heap) (n0 : Nat) (v : Option Value) (h : Heap) (L : List Loc) : Prop := v = some (.int 1024) ∧ Fr n0 L ∧ h = h0
theorem own_efslf (m : MethodId)  : entryFrame m #[(.int 0)] 2 = mkF m 0 #[iv 0, .unset] [] := by first | (simp [entryFrame, mkF, argsToLocals, Value.category]; done) | rfl
set_option maxRecDepth 65536 in
set_option maxHeartbeats 16000000 in
theorem own_rmslf (l : Launch) (Z : State) (a0 : Array Value) (hw : own_HW Z a0) (ws : List Jvm.Cond)  (h0 : Heap) (n0 : Nat) (Z0 : n0 ≤ h0.size) :
    MetFree l (⟨own_z0, "slotsFor", "(I)I"⟩ : MethodName) (head1 (Jvm.Cond.code (⟨own_z0, "slotsFor", "(I)I"⟩ : MethodName) prog_160_method_3_code 2 (some .int) :: ws) ({ frames := 0, cells := 0, slots := 0, locals := 0 } : Room)) (fun aa UU => aa = #[(.int 0)] ∧ Z.Warmed39 UU.vm ∧ UU.heap = h0) (fun _ _ _ _ _ => True) (fun _ U o U' => ∃ v L, o = .returned v ∧ own_Qslf Z  h0 n0 v U'.heap L ∧ FrameEnd U o U' L ({ frames := 0, cells := 0, slots := 0, locals := 0 } : Room).cells ({ frames := 0, cells := 0, slots := 0, locals := 0 } : Room).slots) := by
  refine MetFree.of_bodySF (plainFor_of_name own_pn2) hisR ?_
  intro p e s m args below meth c s₁ Bd hml hP hK
  obtain ⟨rfl, hZ, hh⟩ := hP
  have hx := Bd.exec
  have hlk := Bd.notSynchronized
  have hby := Bd.bytes
  have hret := Bd.returns
  have hown := findClass_of_methodNamed Bd.named
  have hnm := (name_of_methodNamed Bd.named Bd.method).1
  have X0 : Stand p l e ({ frames := 0, cells := 0, slots := 0, locals := 0 } : Room) s m #[(.int 0)] below meth c s₁ [] 0 0 := Stand.of_body Bd
  have e0 : s₁.heap = h0 := by rw [← hh, Bd.state]; rfl
  have N0 := Fr.nil n0
  refine own_cast (own_efslf m ) ?_
  show own_Go p e below s s₁ _ (own_Qslf Z  h0 n0) 0 0
  refine own_st (g' := (mkF m 10 #[iv 0, iv 1024] [(.int 0), (.int (((1024 : Int32) / (4 : Int32)) * (3 : Int32)))])) (fun tt_ kk_ => XS.sipush X0.here hx rfl (hb hby own_d8_0) (XS.istoreN X0.here hx rfl (hb hby own_d8_3) rfl (l' := #[iv 0, iv 1024]) rfl (XS.iloadN X0.here hx rfl (hb hby own_d8_4) rfl (XS.iconst X0.here hx rfl (hb hby own_d8_5) (XS.idiv X0.here hx rfl (hb hby own_d8_6) rfl (by decide) (XS.iconst X0.here hx rfl (hb hby own_d8_7) (XS.imul X0.here hx rfl (hb hby own_d8_8) rfl (XS.iloadN X0.here hx rfl (hb hby own_d8_9) rfl kk_)))))))) ?_
  refine own_st (g' := (mkF m 27 #[iv 0, iv 1024] [(.int 1024)])) (fun tt_ kk_ => XS.icmpYes X0.here hx rfl (pc0 := 10) (pc' := 26) rfl (hb hby own_d8_10) rfl (flt (by decide +kernel : ¬ ((((1024 : Int32) / (4 : Int32)) * (3 : Int32)) < (0 : Int32)))).2.1 (by decide) (by decide) (XS.iloadN X0.here hx rfl (hb hby own_d8_26) rfl kk_)) ?_
  exact own_retI X0 hx hlk hret (hb hby own_d8_27) (by decide) (by decide) (by rw [e0]; exact ⟨rfl, N0, rfl⟩)
theorem own_d15_0 : own_D own_b15 0 (.aload_n 2) 1 := by decide +kernel
theorem own_d15_1 : own_D own_b15 1 .arraylength 1 := by decide +kernel
theorem own_d15_2 : own_D own_b15 2 (.iconst 1) 1 := by decide +kernel
theorem own_d15_3 : own_D own_b15 3 .isub 1 := by decide +kernel
theorem own_d15_4 : own_D own_b15 4 (.istore_n 3) 1 := by decide +kernel
theorem own_d15_5 : own_D own_b15 5 (.iload_n 1) 1 := by decide +kernel
theorem own_d15_6 : own_D own_b15 6 (.iload_n 3) 1 := by decide +kernel
theorem own_d15_7 : own_D own_b15 7 .iand 1 := by decide +kernel
theorem own_d15_8 : own_D own_b15 8 (.istore 4) 2 := by decide +kernel
theorem own_d15_10 : own_D own_b15 10 (.aload_n 2) 1 := by decide +kernel
theorem own_d15_11 : own_D own_b15 11 (.iload 4) 2 := by decide +kernel
theorem own_d15_13 : own_D own_b15 13 .iaload 1 := by decide +kernel
theorem own_d15_14 : own_D own_b15 14 (.ifCond .eq 14) 3 := by decide +kernel
theorem own_d15_17 : own_D own_b15 17 (.iload 4) 2 := by decide +kernel
theorem own_d15_19 : own_D own_b15 19 (.iconst 1) 1 := by decide +kernel
theorem own_d15_20 : own_D own_b15 20 .iadd 1 := by decide +kernel
theorem own_d15_21 : own_D own_b15 21 (.iload_n 3) 1 := by decide +kernel
theorem own_d15_22 : own_D own_b15 22 .iand 1 := by decide +kernel
theorem own_d15_23 : own_D own_b15 23 (.istore 4) 2 := by decide +kernel
theorem own_d15_25 : own_D own_b15 25 (.goto (-15)) 3 := by decide +kernel
theorem own_d15_28 : own_D own_b15 28 (.aload_n 2) 1 := by decide +kernel
theorem own_d15_29 : own_D own_b15 29 (.iload 4) 2 := by decide +kernel
theorem own_d15_31 : own_D own_b15 31 (.iload_n 1) 1 := by decide +kernel
theorem own_d15_32 : own_D own_b15 32 (.iload_n 3) 1 := by decide +kernel
theorem own_d15_33 : own_D own_b15 33 (.iconst (-1)) 1 := by decide +kernel
theorem own_d15_34 : own_D own_b15 34 .ixor 1 := by decide +kernel
theorem own_d15_35 : own_D own_b15 35 .iand 1 := by decide +kernel
theorem own_d15_36 : own_D own_b15 36 (.iload_n 0) 1 := by decide +kernel
theorem own_d15_37 : own_D own_b15 37 (.iconst 1) 1 := by decide +kernel
theorem own_d15_38 : own_D own_b15 38 .iadd 1 := by decide +kernel
theorem own_d15_39 : own_D own_b15 39 .ior 1 := by decide +kernel
theorem own_d15_40 : own_D own_b15 40 .iastore 1 := by decide +kernel
theorem own_d15_41 : own_D own_b15 41 .return_ 1 := by decide +kernel
def own_Qpl1 (Z : State) (hk : Int32) (aQ : Addr) (h0 : Heap) (n0 : Nat) (v : Option Value) (h : Heap) (L : List Loc) : Prop := v = none ∧ Fr n0 L ∧ Keep h0 h [aQ] ∧ own_AI Z h aQ 1024 (own_sl hk)
theorem own_efpl1 (m : MethodId) (hk : Int32) (aQ : Addr) : entryFrame m #[(.int 0), (.int hk), (.ref aQ)] 5 = mkF m 0 #[iv 0, iv hk, rv aQ, .unset, .unset] [] := by first | (simp [entryFrame, mkF, argsToLocals, Value.category]; done) | rfl
set_option maxRecDepth 65536 in
set_option maxHeartbeats 16000000 in
theorem own_rmpl1 (l : Launch) (Z : State) (a0 : Array Value) (hw : own_HW Z a0) (ws : List Jvm.Cond) (hk : Int32) (aQ : Addr) (h0 : Heap) (n0 : Nat) (Z0 : n0 ≤ h0.size) (P_aQ : own_AI Z h0 aQ 1024 (fun _ => 0)) (g_aQ : n0 ≤ aQ) :
    MetFree l (⟨own_z0, "place", "(II[I)V"⟩ : MethodName) (head1 (Jvm.Cond.code (⟨own_z0, "place", "(II[I)V"⟩ : MethodName) prog_160_method_14_code 5 none :: ws) ({ frames := 0, cells := 0, slots := 0, locals := 0 } : Room)) (fun aa UU => aa = #[(.int 0), (.int hk), (.ref aQ)] ∧ Z.Warmed39 UU.vm ∧ UU.heap = h0) (fun _ _ _ _ _ => True) (fun _ U o U' => ∃ v L, o = .returned v ∧ own_Qpl1 Z hk aQ h0 n0 v U'.heap L ∧ FrameEnd U o U' L ({ frames := 0, cells := 0, slots := 0, locals := 0 } : Room).cells ({ frames := 0, cells := 0, slots := 0, locals := 0 } : Room).slots) := by
  refine MetFree.of_bodySF (plainFor_of_name own_pn2) hisR ?_
  intro p e s m args below meth c s₁ Bd hml hP hK
  obtain ⟨rfl, hZ, hh⟩ := hP
  have hx := Bd.exec
  have hlk := Bd.notSynchronized
  have hby := Bd.bytes
  have hret := Bd.returns
  have hown := findClass_of_methodNamed Bd.named
  have hnm := (name_of_methodNamed Bd.named Bd.method).1
  have X0 : Stand p l e ({ frames := 0, cells := 0, slots := 0, locals := 0 } : Room) s m #[(.int 0), (.int hk), (.ref aQ)] below meth c s₁ [] 0 0 := Stand.of_body Bd
  have e0 : s₁.heap = h0 := by rw [← hh, Bd.state]; rfl
  have N0 := Fr.nil n0
  refine own_cast (own_efpl1 m hk aQ) ?_
  show own_Go p e below s s₁ _ (own_Qpl1 Z hk aQ h0 n0) 0 0
  have K0 : Keep h0 h0 [aQ] := Keep.refl _ _
  refine own_st (g' := (mkF m 1 #[iv 0, iv hk, rv aQ, .unset, .unset] [(.ref aQ)])) (fun tt_ kk_ => XS.aloadN X0.here hx rfl (hb hby own_d15_0) rfl rfl kk_) ?_
  refine own_st (g' := (mkF m 13 #[iv 0, iv hk, rv aQ, iv 1023, iv (hk &&& (1023 : Int32))] [(.int (hk &&& (1023 : Int32))), (.ref aQ)])) (fun tt_ kk_ => own_lenI (g := (mkF m 1 #[iv 0, iv hk, rv aQ, .unset, .unset] [(.ref aQ)])) X0 hx hZ e0 P_aQ (z := (1024 : Int32)) rfl rfl rfl (hb hby own_d15_1) tt_ (XS.iconst X0.here hx rfl (hb hby own_d15_2) (XS.isub X0.here hx rfl (hb hby own_d15_3) rfl (XS.istoreN X0.here hx rfl (hb hby own_d15_4) rfl (l' := #[iv 0, iv hk, rv aQ, iv 1023, .unset]) rfl (XS.iloadN X0.here hx rfl (hb hby own_d15_5) rfl (XS.iloadN X0.here hx rfl (hb hby own_d15_6) rfl (XS.iand X0.here hx rfl (hb hby own_d15_7) rfl (XS.istore X0.here hx rfl (hb hby own_d15_8) rfl (l' := #[iv 0, iv hk, rv aQ, iv 1023, iv (hk &&& (1023 : Int32))]) rfl (XS.aloadN X0.here hx rfl (hb hby own_d15_10) rfl rfl (XS.iload X0.here hx rfl (hb hby own_d15_11) rfl kk_)))))))))) ?_
  refine own_st (g' := (mkF m 39 #[iv 0, iv hk, rv aQ, iv 1023, iv (hk &&& (1023 : Int32))] [(.int 1), (.int (hk &&& (-1024 : Int32))), (.int (hk &&& (1023 : Int32))), (.ref aQ)])) (fun tt_ kk_ => own_ldI (g := (mkF m 13 #[iv 0, iv hk, rv aQ, iv 1023, iv (hk &&& (1023 : Int32))] [(.int (hk &&& (1023 : Int32))), (.ref aQ)])) X0 hx hZ e0 P_aQ (own_ix0 _) (own_ix1 _) rfl rfl (hb hby own_d15_13) tt_ (XS.ifYes X0.here hx rfl (pc0 := 14) (pc' := 28) rfl (hb hby own_d15_14) rfl ((if0 _ _).trans (teq (by decide : (0 : Int32) = (0 : Int32))).1) (by decide) (by decide) (XS.aloadN X0.here hx rfl (hb hby own_d15_28) rfl rfl (XS.iload X0.here hx rfl (hb hby own_d15_29) rfl (XS.iloadN X0.here hx rfl (hb hby own_d15_31) rfl (XS.iloadN X0.here hx rfl (hb hby own_d15_32) rfl (XS.iconst X0.here hx rfl (hb hby own_d15_33) (XS.ixor X0.here hx rfl (hb hby own_d15_34) rfl (XS.iand X0.here hx rfl (hb hby own_d15_35) rfl (XS.iloadN X0.here hx rfl (hb hby own_d15_36) rfl (XS.iconst X0.here hx rfl (hb hby own_d15_37) (XS.iadd X0.here hx rfl (hb hby own_d15_38) rfl kk_)))))))))))) ?_
  refine own_st (g' := (mkF m 40 #[iv 0, iv hk, rv aQ, iv 1023, iv (hk &&& (1023 : Int32))] [(.int ((hk &&& (-1024 : Int32)) ||| (1 : Int32))), (.int (hk &&& (1023 : Int32))), (.ref aQ)])) (fun tt_ kk_ => XS.ior X0.here hx rfl (hb hby own_d15_39) rfl kk_) ?_
  obtain ⟨T3, h3, X3, e3, W3, P3, st3⟩ := own_stI X0 hx hZ e0 P_aQ (own_ix0 _) (own_ix1 _) (g := (mkF m 40 #[iv 0, iv hk, rv aQ, iv 1023, iv (hk &&& (1023 : Int32))] [(.int ((hk &&& (-1024 : Int32)) ||| (1 : Int32))), (.int (hk &&& (1023 : Int32))), (.ref aQ)])) rfl rfl (hb hby own_d15_40)
  have N3 := Fr.snoc X3 N0 g_aQ
  have Z3 : n0 ≤ h3.size := Nat.le_trans Z0 (Keep.of_wr W3).1
  have K3 : Keep h0 h3 [aQ] := K0.wr W3 (Or.inl (List.mem_of_getElem? (i := 0) rfl))
  refine own_st st3 ?_
  exact own_retV X3 hx hlk hret (hb hby own_d15_41) (by decide) (by decide) (by rw [e3]; exact ⟨rfl, N3, K3, P3⟩)
def own_Qpl2 (Z : State) (hk : Int32) (aQ : Addr) (ho : Int32) (h0 : Heap) (n0 : Nat) (v : Option Value) (h : Heap) (L : List Loc) : Prop := v = none ∧ Fr n0 L ∧ Keep h0 h [aQ]
theorem own_efpl2 (m : MethodId) (hk : Int32) (aQ : Addr) : entryFrame m #[(.int 1), (.int hk), (.ref aQ)] 5 = mkF m 0 #[iv 1, iv hk, rv aQ, .unset, .unset] [] := by first | (simp [entryFrame, mkF, argsToLocals, Value.category]; done) | rfl
set_option maxRecDepth 65536 in
set_option maxHeartbeats 16000000 in
theorem own_rmpl2 (l : Launch) (Z : State) (a0 : Array Value) (hw : own_HW Z a0) (ws : List Jvm.Cond) (hk : Int32) (aQ : Addr) (ho : Int32) (h0 : Heap) (n0 : Nat) (Z0 : n0 ≤ h0.size) (P_aQ : own_AI Z h0 aQ 1024 (own_sl ho)) (g_aQ : n0 ≤ aQ) :
    MetFree l (⟨own_z0, "place", "(II[I)V"⟩ : MethodName) (head1 (Jvm.Cond.code (⟨own_z0, "place", "(II[I)V"⟩ : MethodName) prog_160_method_14_code 5 none :: ws) ({ frames := 0, cells := 0, slots := 0, locals := 0 } : Room)) (fun aa UU => aa = #[(.int 1), (.int hk), (.ref aQ)] ∧ Z.Warmed39 UU.vm ∧ UU.heap = h0) (fun _ _ _ _ _ => True) (fun _ U o U' => ∃ v L, o = .returned v ∧ own_Qpl2 Z hk aQ ho h0 n0 v U'.heap L ∧ FrameEnd U o U' L ({ frames := 0, cells := 0, slots := 0, locals := 0 } : Room).cells ({ frames := 0, cells := 0, slots := 0, locals := 0 } : Room).slots) := by
  refine MetFree.of_bodySF (plainFor_of_name own_pn2) hisR ?_
  intro p e s m args below meth c s₁ Bd hml hP hK
  obtain ⟨rfl, hZ, hh⟩ := hP
  have hx := Bd.exec
  have hlk := Bd.notSynchronized
  have hby := Bd.bytes
  have hret := Bd.returns
  have hown := findClass_of_methodNamed Bd.named
  have hnm := (name_of_methodNamed Bd.named Bd.method).1
  have X0 : Stand p l e ({ frames := 0, cells := 0, slots := 0, locals := 0 } : Room) s m #[(.int 1), (.int hk), (.ref aQ)] below meth c s₁ [] 0 0 := Stand.of_body Bd
  have e0 : s₁.heap = h0 := by rw [← hh, Bd.state]; rfl
  have N0 := Fr.nil n0
  refine own_cast (own_efpl2 m hk aQ) ?_
  show own_Go p e below s s₁ _ (own_Qpl2 Z hk aQ ho h0 n0) 0 0
  have K0 : Keep h0 h0 [aQ] := Keep.refl _ _
  refine own_st (g' := (mkF m 1 #[iv 1, iv hk, rv aQ, .unset, .unset] [(.ref aQ)])) (fun tt_ kk_ => XS.aloadN X0.here hx rfl (hb hby own_d15_0) rfl rfl kk_) ?_
  refine own_st (g' := (mkF m 13 #[iv 1, iv hk, rv aQ, iv 1023, iv (hk &&& (1023 : Int32))] [(.int (hk &&& (1023 : Int32))), (.ref aQ)])) (fun tt_ kk_ => own_lenI (g := (mkF m 1 #[iv 1, iv hk, rv aQ, .unset, .unset] [(.ref aQ)])) X0 hx hZ e0 P_aQ (z := (1024 : Int32)) rfl rfl rfl (hb hby own_d15_1) tt_ (XS.iconst X0.here hx rfl (hb hby own_d15_2) (XS.isub X0.here hx rfl (hb hby own_d15_3) rfl (XS.istoreN X0.here hx rfl (hb hby own_d15_4) rfl (l' := #[iv 1, iv hk, rv aQ, iv 1023, .unset]) rfl (XS.iloadN X0.here hx rfl (hb hby own_d15_5) rfl (XS.iloadN X0.here hx rfl (hb hby own_d15_6) rfl (XS.iand X0.here hx rfl (hb hby own_d15_7) rfl (XS.istore X0.here hx rfl (hb hby own_d15_8) rfl (l' := #[iv 1, iv hk, rv aQ, iv 1023, iv (hk &&& (1023 : Int32))]) rfl (XS.aloadN X0.here hx rfl (hb hby own_d15_10) rfl rfl (XS.iload X0.here hx rfl (hb hby own_d15_11) rfl kk_)))))))))) ?_
  refine own_st (g' := (mkF m 14 #[iv 1, iv hk, rv aQ, iv 1023, iv (hk &&& (1023 : Int32))] [(.int ((own_sl ho) ((hk &&& (1023 : Int32))).toNatClampNeg))])) (fun tt_ kk_ => own_ldI (g := (mkF m 13 #[iv 1, iv hk, rv aQ, iv 1023, iv (hk &&& (1023 : Int32))] [(.int (hk &&& (1023 : Int32))), (.ref aQ)])) X0 hx hZ e0 P_aQ (own_ix0 _) (own_ix1 _) rfl rfl (hb hby own_d15_13) tt_ kk_) ?_
  by_cases hc14 : ((own_sl ho) ((hk &&& (1023 : Int32))).toNatClampNeg) = (0 : Int32)
  · skip
    refine own_st (g' := (mkF m 40 #[iv 1, iv hk, rv aQ, iv 1023, iv (hk &&& (1023 : Int32))] [(.int ((hk &&& (-1024 : Int32)) ||| (2 : Int32))), (.int (hk &&& (1023 : Int32))), (.ref aQ)])) (fun tt_ kk_ => XS.ifYes X0.here hx rfl (pc0 := 14) (pc' := 28) rfl (hb hby own_d15_14) rfl ((if0 _ _).trans (teq hc14).1) (by decide) (by decide) (XS.aloadN X0.here hx rfl (hb hby own_d15_28) rfl rfl (XS.iload X0.here hx rfl (hb hby own_d15_29) rfl (XS.iloadN X0.here hx rfl (hb hby own_d15_31) rfl (XS.iloadN X0.here hx rfl (hb hby own_d15_32) rfl (XS.iconst X0.here hx rfl (hb hby own_d15_33) (XS.ixor X0.here hx rfl (hb hby own_d15_34) rfl (XS.iand X0.here hx rfl (hb hby own_d15_35) rfl (XS.iloadN X0.here hx rfl (hb hby own_d15_36) rfl (XS.iconst X0.here hx rfl (hb hby own_d15_37) (XS.iadd X0.here hx rfl (hb hby own_d15_38) rfl (XS.ior X0.here hx rfl (hb hby own_d15_39) rfl kk_)))))))))))) ?_
    obtain ⟨T4, h4, X4, e4, W4, P4, st4⟩ := own_stI X0 hx hZ e0 P_aQ (own_ix0 _) (own_ix1 _) (g := (mkF m 40 #[iv 1, iv hk, rv aQ, iv 1023, iv (hk &&& (1023 : Int32))] [(.int ((hk &&& (-1024 : Int32)) ||| (2 : Int32))), (.int (hk &&& (1023 : Int32))), (.ref aQ)])) rfl rfl (hb hby own_d15_40)
    have N4 := Fr.snoc X4 N0 g_aQ
    have Z4 : n0 ≤ h4.size := Nat.le_trans Z0 (Keep.of_wr W4).1
    have K4 : Keep h0 h4 [aQ] := K0.wr W4 (Or.inl (List.mem_of_getElem? (i := 0) rfl))
    refine own_st st4 ?_
    exact own_retV X4 hx hlk hret (hb hby own_d15_41) (by decide) (by decide) (by rw [e4]; exact ⟨rfl, N4, K4⟩)
  refine own_st (g' := (mkF m 13 #[iv 1, iv hk, rv aQ, iv 1023, iv (((hk &&& (1023 : Int32)) + (1 : Int32)) &&& (1023 : Int32))] [(.int (((hk &&& (1023 : Int32)) + (1 : Int32)) &&& (1023 : Int32))), (.ref aQ)])) (fun tt_ kk_ => XS.ifNo X0.here hx rfl (hb hby own_d15_14) rfl ((if0 _ _).trans (feq hc14).1) (XS.iload X0.here hx rfl (hb hby own_d15_17) rfl (XS.iconst X0.here hx rfl (hb hby own_d15_19) (XS.iadd X0.here hx rfl (hb hby own_d15_20) rfl (XS.iloadN X0.here hx rfl (hb hby own_d15_21) rfl (XS.iand X0.here hx rfl (hb hby own_d15_22) rfl (XS.istore X0.here hx rfl (hb hby own_d15_23) rfl (l' := #[iv 1, iv hk, rv aQ, iv 1023, iv (((hk &&& (1023 : Int32)) + (1 : Int32)) &&& (1023 : Int32))]) rfl (XS.goto X0.here hx rfl (pc0 := 25) (pc' := 10) rfl (hb hby own_d15_25) (by decide) (by decide) (XS.aloadN X0.here hx rfl (hb hby own_d15_10) rfl rfl (XS.iload X0.here hx rfl (hb hby own_d15_11) rfl kk_)))))))))) ?_
  refine own_st (g' := (mkF m 14 #[iv 1, iv hk, rv aQ, iv 1023, iv (((hk &&& (1023 : Int32)) + (1 : Int32)) &&& (1023 : Int32))] [(.int ((own_sl ho) ((((hk &&& (1023 : Int32)) + (1 : Int32)) &&& (1023 : Int32))).toNatClampNeg))])) (fun tt_ kk_ => own_ldI (g := (mkF m 13 #[iv 1, iv hk, rv aQ, iv 1023, iv (((hk &&& (1023 : Int32)) + (1 : Int32)) &&& (1023 : Int32))] [(.int (((hk &&& (1023 : Int32)) + (1 : Int32)) &&& (1023 : Int32))), (.ref aQ)])) X0 hx hZ e0 P_aQ (own_ix0 _) (own_ix1 _) rfl rfl (hb hby own_d15_13) tt_ kk_) ?_
  refine own_st (g' := (mkF m 40 #[iv 1, iv hk, rv aQ, iv 1023, iv (((hk &&& (1023 : Int32)) + (1 : Int32)) &&& (1023 : Int32))] [(.int ((hk &&& (-1024 : Int32)) ||| (2 : Int32))), (.int (((hk &&& (1023 : Int32)) + (1 : Int32)) &&& (1023 : Int32))), (.ref aQ)])) (fun tt_ kk_ => XS.ifYes X0.here hx rfl (pc0 := 14) (pc' := 28) rfl (hb hby own_d15_14) rfl ((if0 _ _).trans (teq (own_sl2 hc14)).1) (by decide) (by decide) (XS.aloadN X0.here hx rfl (hb hby own_d15_28) rfl rfl (XS.iload X0.here hx rfl (hb hby own_d15_29) rfl (XS.iloadN X0.here hx rfl (hb hby own_d15_31) rfl (XS.iloadN X0.here hx rfl (hb hby own_d15_32) rfl (XS.iconst X0.here hx rfl (hb hby own_d15_33) (XS.ixor X0.here hx rfl (hb hby own_d15_34) rfl (XS.iand X0.here hx rfl (hb hby own_d15_35) rfl (XS.iloadN X0.here hx rfl (hb hby own_d15_36) rfl (XS.iconst X0.here hx rfl (hb hby own_d15_37) (XS.iadd X0.here hx rfl (hb hby own_d15_38) rfl (XS.ior X0.here hx rfl (hb hby own_d15_39) rfl kk_)))))))))))) ?_
  obtain ⟨T5, h5, X5, e5, W5, P5, st5⟩ := own_stI X0 hx hZ e0 P_aQ (own_ix0 _) (own_ix1 _) (g := (mkF m 40 #[iv 1, iv hk, rv aQ, iv 1023, iv (((hk &&& (1023 : Int32)) + (1 : Int32)) &&& (1023 : Int32))] [(.int ((hk &&& (-1024 : Int32)) ||| (2 : Int32))), (.int (((hk &&& (1023 : Int32)) + (1 : Int32)) &&& (1023 : Int32))), (.ref aQ)])) rfl rfl (hb hby own_d15_40)
  have N5 := Fr.snoc X5 N0 g_aQ
  have Z5 : n0 ≤ h5.size := Nat.le_trans Z0 (Keep.of_wr W5).1
  have K5 : Keep h0 h5 [aQ] := K0.wr W5 (Or.inl (List.mem_of_getElem? (i := 0) rfl))
  refine own_st st5 ?_
  exact own_retV X5 hx hlk hret (hb hby own_d15_41) (by decide) (by decide) (by rw [e5]; exact ⟨rfl, N5, K5⟩)
theorem own_d13_0 : own_D own_b13 0 (.aload_n 0) 1 := by decide +kernel
theorem own_d13_1 : own_D own_b13 1 (.getfield 77) 3 := by decide +kernel
theorem own_d13_4 : own_D own_b13 4 (.ifnonnull 14) 3 := by decide +kernel
theorem own_d13_18 : own_D own_b13 18 (.aload_n 0) 1 := by decide +kernel
theorem own_d13_19 : own_D own_b13 19 (.getfield 77) 3 := by decide +kernel
theorem own_d13_22 : own_D own_b13 22 .arraylength 1 := by decide +kernel
theorem own_d13_23 : own_D own_b13 23 (.iconst 1) 1 := by decide +kernel
theorem own_d13_24 : own_D own_b13 24 .isub 1 := by decide +kernel
theorem own_d13_25 : own_D own_b13 25 (.istore_n 2) 1 := by decide +kernel
theorem own_d13_26 : own_D own_b13 26 (.iload_n 1) 1 := by decide +kernel
theorem own_d13_27 : own_D own_b13 27 (.iload_n 2) 1 := by decide +kernel
theorem own_d13_28 : own_D own_b13 28 .iand 1 := by decide +kernel
theorem own_d13_29 : own_D own_b13 29 (.istore_n 3) 1 := by decide +kernel
theorem own_d13_30 : own_D own_b13 30 (.iconst (-1)) 1 := by decide +kernel
theorem own_d13_31 : own_D own_b13 31 (.istore 4) 2 := by decide +kernel
theorem own_d13_33 : own_D own_b13 33 (.iload 4) 2 := by decide +kernel
theorem own_d13_35 : own_D own_b13 35 (.ifCond .ge 64) 3 := by decide +kernel
theorem own_d13_38 : own_D own_b13 38 (.aload_n 0) 1 := by decide +kernel
theorem own_d13_39 : own_D own_b13 39 (.getfield 77) 3 := by decide +kernel
theorem own_d13_42 : own_D own_b13 42 (.iload_n 3) 1 := by decide +kernel
theorem own_d13_43 : own_D own_b13 43 .iaload 1 := by decide +kernel
theorem own_d13_44 : own_D own_b13 44 (.ifCond .eq 55) 3 := by decide +kernel
theorem own_d13_47 : own_D own_b13 47 (.aload_n 0) 1 := by decide +kernel
theorem own_d13_48 : own_D own_b13 48 (.getfield 77) 3 := by decide +kernel
theorem own_d13_51 : own_D own_b13 51 (.iload_n 3) 1 := by decide +kernel
theorem own_d13_52 : own_D own_b13 52 .iaload 1 := by decide +kernel
theorem own_d13_53 : own_D own_b13 53 (.iload_n 2) 1 := by decide +kernel
theorem own_d13_54 : own_D own_b13 54 .iand 1 := by decide +kernel
theorem own_d13_55 : own_D own_b13 55 (.iconst 1) 1 := by decide +kernel
theorem own_d13_56 : own_D own_b13 56 .isub 1 := by decide +kernel
theorem own_d13_57 : own_D own_b13 57 (.istore 5) 2 := by decide +kernel
theorem own_d13_59 : own_D own_b13 59 (.aload_n 0) 1 := by decide +kernel
theorem own_d13_60 : own_D own_b13 60 (.getfield 77) 3 := by decide +kernel
theorem own_d13_63 : own_D own_b13 63 (.iload_n 3) 1 := by decide +kernel
theorem own_d13_64 : own_D own_b13 64 .iaload 1 := by decide +kernel
theorem own_d13_65 : own_D own_b13 65 (.iload_n 2) 1 := by decide +kernel
theorem own_d13_66 : own_D own_b13 66 (.iconst (-1)) 1 := by decide +kernel
theorem own_d13_67 : own_D own_b13 67 .ixor 1 := by decide +kernel
theorem own_d13_68 : own_D own_b13 68 .iand 1 := by decide +kernel
theorem own_d13_69 : own_D own_b13 69 (.iload_n 1) 1 := by decide +kernel
theorem own_d13_70 : own_D own_b13 70 (.iload_n 2) 1 := by decide +kernel
theorem own_d13_71 : own_D own_b13 71 (.iconst (-1)) 1 := by decide +kernel
theorem own_d13_72 : own_D own_b13 72 .ixor 1 := by decide +kernel
theorem own_d13_73 : own_D own_b13 73 .iand 1 := by decide +kernel
theorem own_d13_74 : own_D own_b13 74 (.if_icmp .ne 16) 3 := by decide +kernel
theorem own_d13_77 : own_D own_b13 77 (.aload_n 0) 1 := by decide +kernel
theorem own_d13_78 : own_D own_b13 78 (.iload 5) 2 := by decide +kernel
theorem own_d13_80 : own_D own_b13 80 (.invokevirtual 111) 3 := by decide +kernel
theorem own_d13_83 : own_D own_b13 83 (.ifCond .eq 7) 3 := by decide +kernel
theorem own_d13_86 : own_D own_b13 86 (.iload 5) 2 := by decide +kernel
theorem own_d13_88 : own_D own_b13 88 (.istore 4) 2 := by decide +kernel
theorem own_d13_90 : own_D own_b13 90 (.iload_n 3) 1 := by decide +kernel
theorem own_d13_91 : own_D own_b13 91 (.iconst 1) 1 := by decide +kernel
theorem own_d13_92 : own_D own_b13 92 .iadd 1 := by decide +kernel
theorem own_d13_93 : own_D own_b13 93 (.iload_n 2) 1 := by decide +kernel
theorem own_d13_94 : own_D own_b13 94 .iand 1 := by decide +kernel
theorem own_d13_95 : own_D own_b13 95 (.istore_n 3) 1 := by decide +kernel
theorem own_d13_96 : own_D own_b13 96 (.goto (-63)) 3 := by decide +kernel
theorem own_d13_99 : own_D own_b13 99 (.iload 4) 2 := by decide +kernel
theorem own_d13_101 : own_D own_b13 101 .ireturn 1 := by decide +kernel
theorem own_pd1 : parseMethodDescriptor "(I)Z" = some ⟨[.int], some .boolean⟩ := by decide +kernel
def own_Qlk1 (Z : State) (a : Addr) (hk : Int32) (aQ : Addr) (h0 : Heap) (n0 : Nat) (v : Option Value) (h : Heap) (L : List Loc) : Prop := v = some (.int (-1)) ∧ Fr n0 L ∧ h = h0
theorem own_eflk1 (m : MethodId) (a : Addr) (hk : Int32) : entryFrame m #[(.ref a), (.int hk)] 6 = mkF m 0 #[rv a, iv hk, .unset, .unset, .unset, .unset] [] := by first | (simp [entryFrame, mkF, argsToLocals, Value.category]; done) | rfl
set_option maxRecDepth 65536 in
set_option maxHeartbeats 16000000 in
theorem own_rmlk1 (l : Launch) (Z : State) (a0 : Array Value) (hw : own_HW Z a0) (ws : List Jvm.Cond) (a : Addr) (hk : Int32) (aQ : Addr) (h0 : Heap) (n0 : Nat) (Z0 : n0 ≤ h0.size) (F_slots_a : Fld Z h0 a own_z0 "slots" "[I" (.ref aQ)) (P_aQ : own_AI Z h0 aQ 1024 (fun _ => 0)) :
    MetFree l (⟨own_z0, "lookUp", "(I)I"⟩ : MethodName) (head1 (Jvm.Cond.code (⟨own_z0, "lookUp", "(I)I"⟩ : MethodName) prog_160_method_8_code 6 (some .int) :: ws) ({ frames := 0, cells := 0, slots := 0, locals := 0 } : Room)) (fun aa UU => aa = #[(.ref a), (.int hk)] ∧ Z.Warmed39 UU.vm ∧ UU.heap = h0) (fun _ _ _ _ _ => True) (fun _ U o U' => ∃ v L, o = .returned v ∧ own_Qlk1 Z a hk aQ h0 n0 v U'.heap L ∧ FrameEnd U o U' L ({ frames := 0, cells := 0, slots := 0, locals := 0 } : Room).cells ({ frames := 0, cells := 0, slots := 0, locals := 0 } : Room).slots) := by
  refine MetFree.of_bodySF (plainFor_of_name own_pn2) hisR ?_
  intro p e s m args below meth c s₁ Bd hml hP hK
  obtain ⟨rfl, hZ, hh⟩ := hP
  have hx := Bd.exec
  have hlk := Bd.notSynchronized
  have hby := Bd.bytes
  have hret := Bd.returns
  have hown := findClass_of_methodNamed Bd.named
  have hnm := (name_of_methodNamed Bd.named Bd.method).1
  have X0 : Stand p l e ({ frames := 0, cells := 0, slots := 0, locals := 0 } : Room) s m #[(.ref a), (.int hk)] below meth c s₁ [] 0 0 := Stand.of_body Bd
  have e0 : s₁.heap = h0 := by rw [← hh, Bd.state]; rfl
  have N0 := Fr.nil n0
  refine own_cast (own_eflk1 m a hk) ?_
  show own_Go p e below s s₁ _ (own_Qlk1 Z a hk aQ h0 n0) 0 0
  refine own_st (g' := (mkF m 1 #[rv a, iv hk, .unset, .unset, .unset, .unset] [(.ref a)])) (fun tt_ kk_ => XS.aloadN X0.here hx rfl (hb hby own_d13_0) rfl rfl kk_) ?_
  refine own_gG X0 hx hZ hown (own_w hw 61 rfl) e0 F_slots_a rfl rfl (hb hby own_d13_1) (fun {T6} X6 e6 => ?_)
  refine own_st (g' := (mkF m 19 #[rv a, iv hk, .unset, .unset, .unset, .unset] [(.ref a)])) (fun tt_ kk_ => XS.ifnonnullYes X6.here hx rfl (pc0 := 4) (pc' := 18) rfl (hb hby own_d13_4) rfl (by decide) (by decide) (XS.aloadN X6.here hx rfl (hb hby own_d13_18) rfl rfl kk_)) ?_
  refine own_gG X6 hx hZ hown (own_w hw 61 rfl) e6 F_slots_a rfl rfl (hb hby own_d13_19) (fun {T7} X7 e7 => ?_)
  refine own_st (g' := (mkF m 38 #[rv a, iv hk, iv 1023, iv (hk &&& (1023 : Int32)), iv (-1), .unset] [])) (fun tt_ kk_ => own_lenI (g := (mkF m 22 #[rv a, iv hk, .unset, .unset, .unset, .unset] [(.ref aQ)])) X7 hx hZ e7 P_aQ (z := (1024 : Int32)) rfl rfl rfl (hb hby own_d13_22) tt_ (XS.iconst X7.here hx rfl (hb hby own_d13_23) (XS.isub X7.here hx rfl (hb hby own_d13_24) rfl (XS.istoreN X7.here hx rfl (hb hby own_d13_25) rfl (l' := #[rv a, iv hk, iv 1023, .unset, .unset, .unset]) rfl (XS.iloadN X7.here hx rfl (hb hby own_d13_26) rfl (XS.iloadN X7.here hx rfl (hb hby own_d13_27) rfl (XS.iand X7.here hx rfl (hb hby own_d13_28) rfl (XS.istoreN X7.here hx rfl (hb hby own_d13_29) rfl (l' := #[rv a, iv hk, iv 1023, iv (hk &&& (1023 : Int32)), .unset, .unset]) rfl (XS.iconst X7.here hx rfl (hb hby own_d13_30) (XS.istore X7.here hx rfl (hb hby own_d13_31) rfl (l' := #[rv a, iv hk, iv 1023, iv (hk &&& (1023 : Int32)), iv (-1), .unset]) rfl (XS.iload X7.here hx rfl (hb hby own_d13_33) rfl (XS.ifNo X7.here hx rfl (hb hby own_d13_35) rfl ((if0 _ _).trans (tlt (by decide : (-1 : Int32) < (0 : Int32))).2.1) kk_)))))))))))) ?_
  refine own_st (g' := (mkF m 39 #[rv a, iv hk, iv 1023, iv (hk &&& (1023 : Int32)), iv (-1), .unset] [(.ref a)])) (fun tt_ kk_ => XS.aloadN X7.here hx rfl (hb hby own_d13_38) rfl rfl kk_) ?_
  refine own_gG X7 hx hZ hown (own_w hw 61 rfl) e7 F_slots_a rfl rfl (hb hby own_d13_39) (fun {T8} X8 e8 => ?_)
  refine own_st (g' := (mkF m 43 #[rv a, iv hk, iv 1023, iv (hk &&& (1023 : Int32)), iv (-1), .unset] [(.int (hk &&& (1023 : Int32))), (.ref aQ)])) (fun tt_ kk_ => XS.iloadN X8.here hx rfl (hb hby own_d13_42) rfl kk_) ?_
  refine own_st (g' := (mkF m 101 #[rv a, iv hk, iv 1023, iv (hk &&& (1023 : Int32)), iv (-1), .unset] [(.int (-1))])) (fun tt_ kk_ => own_ldI (g := (mkF m 43 #[rv a, iv hk, iv 1023, iv (hk &&& (1023 : Int32)), iv (-1), .unset] [(.int (hk &&& (1023 : Int32))), (.ref aQ)])) X8 hx hZ e8 P_aQ (own_ix0 _) (own_ix1 _) rfl rfl (hb hby own_d13_43) tt_ (XS.ifYes X8.here hx rfl (pc0 := 44) (pc' := 99) rfl (hb hby own_d13_44) rfl ((if0 _ _).trans (teq (by decide : (0 : Int32) = (0 : Int32))).1) (by decide) (by decide) (XS.iload X8.here hx rfl (hb hby own_d13_99) rfl kk_))) ?_
  exact own_retI X8 hx hlk hret (hb hby own_d13_101) (by decide) (by decide) (by rw [e8]; exact ⟨rfl, N0, rfl⟩)
theorem own_d11_0 : own_D own_b11 0 (.iconst 0) 1 := by decide +kernel
theorem own_d11_1 : own_D own_b11 1 (.istore_n 3) 1 := by decide +kernel
theorem own_d11_2 : own_D own_b11 2 (.aload_n 0) 1 := by decide +kernel
theorem own_d11_3 : own_D own_b11 3 .arraylength 1 := by decide +kernel
theorem own_d11_4 : own_D own_b11 4 (.istore 4) 2 := by decide +kernel
theorem own_d11_6 : own_D own_b11 6 (.iload_n 3) 1 := by decide +kernel
theorem own_d11_7 : own_D own_b11 7 (.iload 4) 2 := by decide +kernel
theorem own_d11_9 : own_D own_b11 9 (.if_icmp .ge 13) 3 := by decide +kernel
theorem own_d11_12 : own_D own_b11 12 (.aload_n 0) 1 := by decide +kernel
theorem own_d11_13 : own_D own_b11 13 (.iload_n 3) 1 := by decide +kernel
theorem own_d11_14 : own_D own_b11 14 (.lload_n 1) 1 := by decide +kernel
theorem own_d11_15 : own_D own_b11 15 .lastore 1 := by decide +kernel
theorem own_d11_16 : own_D own_b11 16 (.iinc 3 1) 3 := by decide +kernel
theorem own_d11_19 : own_D own_b11 19 (.goto (-13)) 3 := by decide +kernel
theorem own_d11_22 : own_D own_b11 22 .return_ 1 := by decide +kernel
theorem own_pn3 : plainName "java/util/Arrays" = true := by first | (simp [plainName, overriddenIn]; done) | decide +kernel
def own_QfilA (Z : State) (aK : Addr) (kaK : ClassId) (y0 : Int64) (h0 : Heap) (n0 : Nat) (v : Option Value) (h : Heap) (L : List Loc) : Prop := v = none ∧ Fr n0 L ∧ Keep h0 h [aK] ∧ Arv Z h aK kaK .long (1 : Int32) [(.long 0)] (.long 0)
theorem own_effilA (m : MethodId) (aK : Addr) : entryFrame m #[(.ref aK), (.long 0)] 5 = mkF m 0 #[rv aK, .val (.long 0), .second, .unset, .unset] [] := by first | (simp [entryFrame, mkF, argsToLocals, Value.category]; done) | rfl
set_option maxRecDepth 65536 in
set_option maxHeartbeats 16000000 in
theorem own_rmfilA (l : Launch) (Z : State) (a0 : Array Value) (hw : own_HW Z a0) (ws : List Jvm.Cond) (aK : Addr) (kaK : ClassId) (y0 : Int64) (h0 : Heap) (n0 : Nat) (Z0 : n0 ≤ h0.size) (V_aK : Arv Z h0 aK kaK .long (1 : Int32) [(.long y0)] (.long 0)) (g_aK : n0 ≤ aK) :
    MetFree l (⟨"java/util/Arrays", "fill", "([JJ)V"⟩ : MethodName) (head1 (Jvm.Cond.code (⟨"java/util/Arrays", "fill", "([JJ)V"⟩ : MethodName) jdk_65_method_101_code 5 none :: ws) ({ frames := 0, cells := 0, slots := 0, locals := 0 } : Room)) (fun aa UU => aa = #[(.ref aK), (.long 0)] ∧ Z.Warmed39 UU.vm ∧ UU.heap = h0) (fun _ _ _ _ _ => True) (fun _ U o U' => ∃ v L, o = .returned v ∧ own_QfilA Z aK kaK y0 h0 n0 v U'.heap L ∧ FrameEnd U o U' L ({ frames := 0, cells := 0, slots := 0, locals := 0 } : Room).cells ({ frames := 0, cells := 0, slots := 0, locals := 0 } : Room).slots) := by
  refine MetFree.of_bodySF (plainFor_of_name own_pn3) hisR ?_
  intro p e s m args below meth c s₁ Bd hml hP hK
  obtain ⟨rfl, hZ, hh⟩ := hP
  have hx := Bd.exec
  have hlk := Bd.notSynchronized
  have hby := Bd.bytes
  have hret := Bd.returns
  have hown := findClass_of_methodNamed Bd.named
  have hnm := (name_of_methodNamed Bd.named Bd.method).1
  have X0 : Stand p l e ({ frames := 0, cells := 0, slots := 0, locals := 0 } : Room) s m #[(.ref aK), (.long 0)] below meth c s₁ [] 0 0 := Stand.of_body Bd
  have e0 : s₁.heap = h0 := by rw [← hh, Bd.state]; rfl
  have N0 := Fr.nil n0
  refine own_cast (own_effilA m aK) ?_
  show own_Go p e below s s₁ _ (own_QfilA Z aK kaK y0 h0 n0) 0 0
  have K0 : Keep h0 h0 [aK] := Keep.refl _ _
  refine own_st (g' := (mkF m 3 #[rv aK, .val (.long 0), .second, iv 0, .unset] [(.ref aK)])) (fun tt_ kk_ => XS.iconst X0.here hx rfl (hb hby own_d11_0) (XS.istoreN X0.here hx rfl (hb hby own_d11_1) rfl (l' := #[rv aK, .val (.long 0), .second, iv 0, .unset]) rfl (XS.aloadN X0.here hx rfl (hb hby own_d11_2) rfl rfl kk_))) ?_
  refine own_st (g' := (mkF m 15 #[rv aK, .val (.long 0), .second, iv 0, iv 1] [(.long 0), (.int 0), (.ref aK)])) (fun tt_ kk_ => own_lnV (g := (mkF m 3 #[rv aK, .val (.long 0), .second, iv 0, .unset] [(.ref aK)])) X0 hx hZ e0 V_aK rfl rfl (hb hby own_d11_3) tt_ (XS.istore X0.here hx rfl (hb hby own_d11_4) rfl (l' := #[rv aK, .val (.long 0), .second, iv 0, iv 1]) rfl (XS.iloadN X0.here hx rfl (hb hby own_d11_6) rfl (XS.iload X0.here hx rfl (hb hby own_d11_7) rfl (XS.icmpNo X0.here hx rfl (hb hby own_d11_9) rfl (tlt (by decide : (0 : Int32) < (1 : Int32))).2.1 (XS.aloadN X0.here hx rfl (hb hby own_d11_12) rfl rfl (XS.iloadN X0.here hx rfl (hb hby own_d11_13) rfl (XS.lloadN X0.here hx rfl (hb hby own_d11_14) rfl kk_)))))))) ?_
  obtain ⟨T9, h9, X9, e9, W9, V9q, st9⟩ := own_svJ X0 hx hZ e0 V_aK (j := (0 : Int32)) (by decide) 0 rfl (Nat.le_of_ble_eq_true rfl) (g := (mkF m 15 #[rv aK, .val (.long 0), .second, iv 0, iv 1] [(.long 0), (.int 0), (.ref aK)])) rfl rfl (hb hby own_d11_15)
  have N9 := Fr.snoc X9 N0 g_aK
  have Z9 : n0 ≤ h9.size := Nat.le_trans Z0 (Keep.of_wr W9).1
  have K9 : Keep h0 h9 [aK] := K0.wr W9 (Or.inl (List.mem_of_getElem? (i := 0) rfl))
  have V9 : Arv Z h9 aK kaK .long (1 : Int32) [(.long 0)] (.long 0) := V9q
  refine own_st st9 ?_
  refine own_st (g' := (mkF m 22 #[rv aK, .val (.long 0), .second, iv 1, iv 1] [])) (fun tt_ kk_ => XS.iinc X9.here hx rfl (hb hby own_d11_16) rfl (l' := #[rv aK, .val (.long 0), .second, iv 1, iv 1]) rfl (XS.goto X9.here hx rfl (pc0 := 19) (pc' := 6) rfl (hb hby own_d11_19) (by decide) (by decide) (XS.iloadN X9.here hx rfl (hb hby own_d11_6) rfl (XS.iload X9.here hx rfl (hb hby own_d11_7) rfl (XS.icmpYes X9.here hx rfl (pc0 := 9) (pc' := 22) rfl (hb hby own_d11_9) rfl (flt (by decide : ¬ ((1 : Int32) < (1 : Int32)))).2.1 (by decide) (by decide) kk_))))) ?_
  exact own_retV X9 hx hlk hret (hb hby own_d11_22) (by decide) (by decide) (by rw [e9]; exact ⟨rfl, N9, K9, V9⟩)
theorem own_d10_0 : own_D own_b10 0 (.aload_n 0) 1 := by decide +kernel
theorem own_d10_1 : own_D own_b10 1 (.getfield 80) 3 := by decide +kernel
theorem own_d10_4 : own_D own_b10 4 (.lconst 0) 1 := by decide +kernel
theorem own_d10_5 : own_D own_b10 5 (.invokestatic 115) 3 := by decide +kernel
theorem own_d10_8 : own_D own_b10 8 (.iconst 0) 1 := by decide +kernel
theorem own_d10_9 : own_D own_b10 9 (.istore_n 2) 1 := by decide +kernel
theorem own_d10_10 : own_D own_b10 10 (.iload_n 2) 1 := by decide +kernel
theorem own_d10_11 : own_D own_b10 11 (.aload_n 0) 1 := by decide +kernel
theorem own_d10_12 : own_D own_b10 12 (.getfield 29) 3 := by decide +kernel
theorem own_d10_15 : own_D own_b10 15 .arraylength 1 := by decide +kernel
theorem own_d10_16 : own_D own_b10 16 (.if_icmp .ge 78) 3 := by decide +kernel
theorem own_d10_19 : own_D own_b10 19 (.aload_n 1) 1 := by decide +kernel
theorem own_d10_20 : own_D own_b10 20 (.iload_n 2) 1 := by decide +kernel
theorem own_d10_21 : own_D own_b10 21 .iaload 1 := by decide +kernel
theorem own_d10_22 : own_D own_b10 22 .i2l 1 := by decide +kernel
theorem own_d10_23 : own_D own_b10 23 (.aload_n 0) 1 := by decide +kernel
theorem own_d10_24 : own_D own_b10 24 (.getfield 29) 3 := by decide +kernel
theorem own_d10_27 : own_D own_b10 27 (.iload_n 2) 1 := by decide +kernel
theorem own_d10_28 : own_D own_b10 28 .iaload 1 := by decide +kernel
theorem own_d10_29 : own_D own_b10 29 .i2l 1 := by decide +kernel
theorem own_d10_30 : own_D own_b10 30 .lsub 1 := by decide +kernel
theorem own_d10_31 : own_D own_b10 31 (.lstore_n 3) 1 := by decide +kernel
theorem own_d10_32 : own_D own_b10 32 (.lload_n 3) 1 := by decide +kernel
theorem own_d10_33 : own_D own_b10 33 (.lconst 0) 1 := by decide +kernel
theorem own_d10_34 : own_D own_b10 34 .lcmp 1 := by decide +kernel
theorem own_d10_35 : own_D own_b10 35 (.ifCond .lt 14) 3 := by decide +kernel
theorem own_d10_38 : own_D own_b10 38 (.lload_n 3) 1 := by decide +kernel
theorem own_d10_39 : own_D own_b10 39 (.aload_n 0) 1 := by decide +kernel
theorem own_d10_40 : own_D own_b10 40 (.getfield 32) 3 := by decide +kernel
theorem own_d10_43 : own_D own_b10 43 (.iload_n 2) 1 := by decide +kernel
theorem own_d10_44 : own_D own_b10 44 .laload 1 := by decide +kernel
theorem own_d10_45 : own_D own_b10 45 .lcmp 1 := by decide +kernel
theorem own_d10_46 : own_D own_b10 46 (.ifCond .lt 20) 3 := by decide +kernel
theorem own_d10_66 : own_D own_b10 66 (.aload_n 0) 1 := by decide +kernel
theorem own_d10_67 : own_D own_b10 67 (.getfield 80) 3 := by decide +kernel
theorem own_d10_70 : own_D own_b10 70 (.aload_n 0) 1 := by decide +kernel
theorem own_d10_71 : own_D own_b10 71 (.getfield 39) 3 := by decide +kernel
theorem own_d10_74 : own_D own_b10 74 (.iload_n 2) 1 := by decide +kernel
theorem own_d10_75 : own_D own_b10 75 .iaload 1 := by decide +kernel
theorem own_d10_76 : own_D own_b10 76 .dup2 1 := by decide +kernel
theorem own_d10_77 : own_D own_b10 77 .laload 1 := by decide +kernel
theorem own_d10_78 : own_D own_b10 78 (.lload_n 3) 1 := by decide +kernel
theorem own_d10_79 : own_D own_b10 79 (.aload_n 0) 1 := by decide +kernel
theorem own_d10_80 : own_D own_b10 80 (.getfield 42) 3 := by decide +kernel
theorem own_d10_83 : own_D own_b10 83 (.iload_n 2) 1 := by decide +kernel
theorem own_d10_84 : own_D own_b10 84 .iaload 1 := by decide +kernel
theorem own_d10_85 : own_D own_b10 85 .lshl 1 := by decide +kernel
theorem own_d10_86 : own_D own_b10 86 .lor 1 := by decide +kernel
theorem own_d10_87 : own_D own_b10 87 .lastore 1 := by decide +kernel
theorem own_d10_88 : own_D own_b10 88 (.iinc 2 1) 3 := by decide +kernel
theorem own_d10_91 : own_D own_b10 91 (.goto (-81)) 3 := by decide +kernel
theorem own_d10_94 : own_D own_b10 94 .return_ 1 := by decide +kernel
theorem own_pd2 : parseMethodDescriptor "([JJ)V" = some ⟨[(.array .long), .long], none⟩ := by decide +kernel
def own_QpakA (Z : State) (a : Addr) (st : Addr) (aL : Addr) (aS : Addr) (aW : Addr) (aH : Addr) (aK : Addr) (kaL : ClassId) (l0 : Int32) (l1 : Int32) (l2 : Int32) (kaS : ClassId) (sp0 : Int64) (sp1 : Int64) (sp2 : Int64) (kaW : ClassId) (kaH : ClassId) (s0 : Int32) (s1 : Int32) (s2 : Int32) (kst : ClassId) (v0 : Int32) (v1 : Int32) (v2 : Int32) (kaK : ClassId) (y0 : Int64) (h0 : Heap) (n0 : Nat) (v : Option Value) (h : Heap) (L : List Loc) : Prop := v = none ∧ Fr n0 L ∧ Keep h0 h [aK] ∧ Arv Z h aK kaK .long (1 : Int32) [(.long (own_kA v0 v1 v2 l0 l1 l2 s0 s1 s2))] (.long 0)
theorem own_efpakA (m : MethodId) (a : Addr) (st : Addr) : entryFrame m #[(.ref a), (.ref st)] 5 = mkF m 0 #[rv a, rv st, .unset, .unset, .unset] [] := by first | (simp [entryFrame, mkF, argsToLocals, Value.category]; done) | rfl
set_option maxRecDepth 65536 in
set_option maxHeartbeats 16000000 in
theorem own_rmpakA (l : Launch) (Z : State) (a0 : Array Value) (hw : own_HW Z a0) (ws : List Jvm.Cond) (a : Addr) (st : Addr) (aL : Addr) (aS : Addr) (aW : Addr) (aH : Addr) (aK : Addr) (kaL : ClassId) (l0 : Int32) (l1 : Int32) (l2 : Int32) (kaS : ClassId) (sp0 : Int64) (sp1 : Int64) (sp2 : Int64) (kaW : ClassId) (kaH : ClassId) (s0 : Int32) (s1 : Int32) (s2 : Int32) (kst : ClassId) (v0 : Int32) (v1 : Int32) (v2 : Int32) (kaK : ClassId) (y0 : Int64) (h0 : Heap) (n0 : Nat) (Z0 : n0 ≤ h0.size) (E_a : Exa Z h0 a own_z0) (F_lows_a : Fld Z h0 a own_z0 "lows" "[I" (.ref aL)) (F_spans_a : Fld Z h0 a own_z0 "spans" "[J" (.ref aS)) (F_words_a : Fld Z h0 a own_z0 "words" "[I" (.ref aW)) (F_shifts_a : Fld Z h0 a own_z0 "shifts" "[I" (.ref aH)) (F_key_a : Fld Z h0 a own_z0 "key" "[J" (.ref aK)) (V_aL : Arv Z h0 aL kaL .int (3 : Int32) [(.int l0), (.int l1), (.int l2)] (.int 0)) (V_aS : Arv Z h0 aS kaS .long (3 : Int32) [(.long sp0), (.long sp1), (.long sp2)] (.long 0)) (V_aW : Arv Z h0 aW kaW .int (3 : Int32) [(.int 0), (.int 0), (.int 0)] (.int 0)) (V_aH : Arv Z h0 aH kaH .int (3 : Int32) [(.int s0), (.int s1), (.int s2)] (.int 0)) (V_st : Arv Z h0 st kst .int (3 : Int32) [(.int v0), (.int v1), (.int v2)] (.int 0)) (V_aK : Arv Z h0 aK kaK .long (1 : Int32) [(.long y0)] (.long 0)) (hA0 : ¬ ((lcmpW ((v0.toInt64) - (l0.toInt64)) (0 : Int64)) < (0 : Int32))) (hB0 : (lcmpW ((v0.toInt64) - (l0.toInt64)) sp0) < (0 : Int32)) (hA1 : ¬ ((lcmpW ((v1.toInt64) - (l1.toInt64)) (0 : Int64)) < (0 : Int32))) (hB1 : (lcmpW ((v1.toInt64) - (l1.toInt64)) sp1) < (0 : Int32)) (hA2 : ¬ ((lcmpW ((v2.toInt64) - (l2.toInt64)) (0 : Int64)) < (0 : Int32))) (hB2 : (lcmpW ((v2.toInt64) - (l2.toInt64)) sp2) < (0 : Int32)) (ne_a_aK : a ≠ aK) (ne_aL_aK : aL ≠ aK) (ne_aS_aK : aS ≠ aK) (ne_aW_aK : aW ≠ aK) (ne_aH_aK : aH ≠ aK) (ne_st_aK : st ≠ aK) (g_aK : n0 ≤ aK) :
    MetFree l (⟨own_z0, "pack", "([I)V"⟩ : MethodName) (head1 (Jvm.Cond.code (⟨own_z0, "pack", "([I)V"⟩ : MethodName) prog_160_method_10_code 5 none :: ws) ({ frames := 1, cells := 0, slots := 0, locals := 16 } : Room)) (fun aa UU => aa = #[(.ref a), (.ref st)] ∧ Z.Warmed39 UU.vm ∧ UU.heap = h0) (fun _ _ _ _ _ => True) (fun _ U o U' => ∃ v L, o = .returned v ∧ own_QpakA Z a st aL aS aW aH aK kaL l0 l1 l2 kaS sp0 sp1 sp2 kaW kaH s0 s1 s2 kst v0 v1 v2 kaK y0 h0 n0 v U'.heap L ∧ FrameEnd U o U' L ({ frames := 1, cells := 0, slots := 0, locals := 16 } : Room).cells ({ frames := 1, cells := 0, slots := 0, locals := 16 } : Room).slots) := by
  refine MetFree.of_bodySF (plainFor_of_name own_pn2) hisR ?_
  intro p e s m args below meth c s₁ Bd hml hP hK
  obtain ⟨rfl, hZ, hh⟩ := hP
  have hx := Bd.exec
  have hlk := Bd.notSynchronized
  have hby := Bd.bytes
  have hret := Bd.returns
  have hown := findClass_of_methodNamed Bd.named
  have hnm := (name_of_methodNamed Bd.named Bd.method).1
  have X0 : Stand p l e ({ frames := 1, cells := 0, slots := 0, locals := 16 } : Room) s m #[(.ref a), (.ref st)] below meth c s₁ [] 0 0 := Stand.of_body Bd
  have e0 : s₁.heap = h0 := by rw [← hh, Bd.state]; rfl
  have N0 := Fr.nil n0
  refine own_cast (own_efpakA m a st) ?_
  show own_Go p e below s s₁ _ (own_QpakA Z a st aL aS aW aH aK kaL l0 l1 l2 kaS sp0 sp1 sp2 kaW kaH s0 s1 s2 kst v0 v1 v2 kaK y0 h0 n0) 0 0
  have K0 : Keep h0 h0 [aK] := Keep.refl _ _
  refine own_st (g' := (mkF m 1 #[rv a, rv st, .unset, .unset, .unset] [(.ref a)])) (fun tt_ kk_ => XS.aloadN X0.here hx rfl (hb hby own_d10_0) rfl rfl kk_) ?_
  refine own_gG X0 hx hZ hown (own_w hw 63 rfl) e0 F_key_a rfl rfl (hb hby own_d10_1) (fun {T10} X10 e10 => ?_)
  refine own_st (g' := (mkF m 5 #[rv a, rv st, .unset, .unset, .unset] [(.long 0), (.ref aK)])) (fun tt_ kk_ => XS.lconst X10.here hx rfl (hb hby own_d10_4) kk_) ?_
  obtain ⟨_, _, ⟨T11, L11, k11, n11⟩, -, X11, ⟨Lc11, hQ11, l11, y11, z11⟩, st11⟩ := Jvm.LawKit.callS X10 hx (y := (⟨"java/util/Arrays", "fill", "([JJ)V"⟩ : MethodName)) hown (mvT hZ (own_w hw 74 rfl)) (mvT hZ (own_w hw 75 rfl)) (mvT hZ (own_w hw 76 rfl)) (mvT hZ (own_w hw 77 rfl)) (by decide) (backOf (W := 0) (own_rmfilA l Z a0 hw [] aK kaK y0 h0 n0 Z0 V_aK g_aK) hZ (own_w hw 77 rfl) (own_w hw 76 rfl) (by decide) (by decide)) (g := (mkF m 5 #[rv a, rv st, .unset, .unset, .unset] [(.long 0), (.ref aK)])) rfl (by rw [hml]; rfl) (argsL := [(.ref aK), (.long 0)]) (rest := []) (lenOf own_pd2 rfl) rfl (by show 2 * 0 + _ ≤ _; exact Nat.le_of_eq rfl) (hb hby own_d10_5) (fun _ _ => ⟨rfl, e10, (by decide : 0 + 0 ≤ _), (by decide : 0 + 0 ≤ _)⟩)
  dsimp only [Pt.U, Pt.locs, Pt.cells, Pt.slots] at X11 l11 y11 z11 st11 hQ11
  rw [l11, y11, z11] at X11
  obtain ⟨rfl, N11q, K11q, f11_0⟩ := hQ11
  obtain ⟨h11, e11⟩ : ∃ z, T11.heap = z := ⟨_, rfl⟩
  rw [e11] at K11q f11_0
  have Z11 : n0 ≤ h11.size := Nat.le_trans Z0 K11q.1
  have K11 : Keep h0 h11 [aK] := K0.trans K11q (allS (P := fun x => x ∈ [aK] ∨ h0.size ≤ x) (Or.inl (List.mem_of_getElem? (i := 0) rfl)) all0)
  have N11 := Fr.app N0 N11q
  refine own_st st11 ?_
  refine own_st (g' := (mkF m 12 #[rv a, rv st, iv 0, .unset, .unset] [(.ref a), (.int 0)])) (fun tt_ kk_ => XS.iconst X11.here hx rfl (hb hby own_d10_8) (XS.istoreN X11.here hx rfl (hb hby own_d10_9) rfl (l' := #[rv a, rv st, iv 0, .unset, .unset]) rfl (XS.iloadN X11.here hx rfl (hb hby own_d10_10) rfl (XS.aloadN X11.here hx rfl (hb hby own_d10_11) rfl rfl kk_)))) ?_
  have F13 := (F_lows_a.keep K11q (ninS ne_a_aK nin0))
  refine own_gG X11 hx hZ hown (own_w hw 29 rfl) e11 F13 rfl rfl (hb hby own_d10_12) (fun {T12} X12 e12 => ?_)
  have F14 := (V_aL.keep K11q (ninS ne_aL_aK nin0))
  refine own_st (g' := (mkF m 21 #[rv a, rv st, iv 0, .unset, .unset] [(.int 0), (.ref st)])) (fun tt_ kk_ => own_lnV (g := (mkF m 15 #[rv a, rv st, iv 0, .unset, .unset] [(.ref aL), (.int 0)])) X12 hx hZ e12 F14 rfl rfl (hb hby own_d10_15) tt_ (XS.icmpNo X12.here hx rfl (hb hby own_d10_16) rfl (tlt (by decide : (0 : Int32) < (3 : Int32))).2.1 (XS.aloadN X12.here hx rfl (hb hby own_d10_19) rfl rfl (XS.iloadN X12.here hx rfl (hb hby own_d10_20) rfl kk_)))) ?_
  have F15 := (V_st.keep K11q (ninS ne_st_aK nin0))
  refine own_st (g' := (mkF m 24 #[rv a, rv st, iv 0, .unset, .unset] [(.ref a), (.long (v0.toInt64))])) (fun tt_ kk_ => own_lvI (g := (mkF m 21 #[rv a, rv st, iv 0, .unset, .unset] [(.int 0), (.ref st)])) X12 hx hZ e12 F15 (by decide) rfl rfl rfl (hb hby own_d10_21) tt_ (XS.i2l X12.here hx rfl (hb hby own_d10_22) rfl (XS.aloadN X12.here hx rfl (hb hby own_d10_23) rfl rfl kk_))) ?_
  refine own_gG X12 hx hZ hown (own_w hw 29 rfl) e12 F13 rfl rfl (hb hby own_d10_24) (fun {T16} X16 e16 => ?_)
  refine own_st (g' := (mkF m 28 #[rv a, rv st, iv 0, .unset, .unset] [(.int 0), (.ref aL), (.long (v0.toInt64))])) (fun tt_ kk_ => XS.iloadN X16.here hx rfl (hb hby own_d10_27) rfl kk_) ?_
  refine own_st (g' := (mkF m 35 #[rv a, rv st, iv 0, .val (.long ((v0.toInt64) - (l0.toInt64))), .second] [(.int (lcmpW ((v0.toInt64) - (l0.toInt64)) (0 : Int64)))])) (fun tt_ kk_ => own_lvI (g := (mkF m 28 #[rv a, rv st, iv 0, .unset, .unset] [(.int 0), (.ref aL), (.long (v0.toInt64))])) X16 hx hZ e16 F14 (by decide) rfl rfl rfl (hb hby own_d10_28) tt_ (XS.i2l X16.here hx rfl (hb hby own_d10_29) rfl (XS.lsub X16.here hx rfl (hb hby own_d10_30) rfl (XS.lstoreN X16.here hx rfl (hb hby own_d10_31) rfl (l' := #[rv a, rv st, iv 0, .val (.long ((v0.toInt64) - (l0.toInt64))), .second]) rfl (XS.lloadN X16.here hx rfl (hb hby own_d10_32) rfl (XS.lconst X16.here hx rfl (hb hby own_d10_33) (XS.lcmp X16.here hx rfl (hb hby own_d10_34) rfl kk_))))))) ?_
  refine own_st (g' := (mkF m 40 #[rv a, rv st, iv 0, .val (.long ((v0.toInt64) - (l0.toInt64))), .second] [(.ref a), (.long ((v0.toInt64) - (l0.toInt64)))])) (fun tt_ kk_ => XS.ifNo X16.here hx rfl (hb hby own_d10_35) rfl ((if0 _ _).trans (flt hA0).1) (XS.lloadN X16.here hx rfl (hb hby own_d10_38) rfl (XS.aloadN X16.here hx rfl (hb hby own_d10_39) rfl rfl kk_))) ?_
  have F18 := (F_spans_a.keep K11q (ninS ne_a_aK nin0))
  refine own_gG X16 hx hZ hown (own_w hw 32 rfl) e16 F18 rfl rfl (hb hby own_d10_40) (fun {T17} X17 e17 => ?_)
  refine own_st (g' := (mkF m 44 #[rv a, rv st, iv 0, .val (.long ((v0.toInt64) - (l0.toInt64))), .second] [(.int 0), (.ref aS), (.long ((v0.toInt64) - (l0.toInt64)))])) (fun tt_ kk_ => XS.iloadN X17.here hx rfl (hb hby own_d10_43) rfl kk_) ?_
  have F19 := (V_aS.keep K11q (ninS ne_aS_aK nin0))
  refine own_st (g' := (mkF m 46 #[rv a, rv st, iv 0, .val (.long ((v0.toInt64) - (l0.toInt64))), .second] [(.int (lcmpW ((v0.toInt64) - (l0.toInt64)) sp0))])) (fun tt_ kk_ => own_lvJ (g := (mkF m 44 #[rv a, rv st, iv 0, .val (.long ((v0.toInt64) - (l0.toInt64))), .second] [(.int 0), (.ref aS), (.long ((v0.toInt64) - (l0.toInt64)))])) X17 hx hZ e17 F19 (by decide) rfl rfl rfl (hb hby own_d10_44) tt_ (XS.lcmp X17.here hx rfl (hb hby own_d10_45) rfl kk_)) ?_
  refine own_st (g' := (mkF m 67 #[rv a, rv st, iv 0, .val (.long ((v0.toInt64) - (l0.toInt64))), .second] [(.ref a)])) (fun tt_ kk_ => XS.ifYes X17.here hx rfl (pc0 := 46) (pc' := 66) rfl (hb hby own_d10_46) rfl ((if0 _ _).trans (tlt hB0).1) (by decide) (by decide) (XS.aloadN X17.here hx rfl (hb hby own_d10_66) rfl rfl kk_)) ?_
  have F21 := (F_key_a.keep K11q (ninS ne_a_aK nin0))
  refine own_gG X17 hx hZ hown (own_w hw 63 rfl) e17 F21 rfl rfl (hb hby own_d10_67) (fun {T20} X20 e20 => ?_)
  refine own_st (g' := (mkF m 71 #[rv a, rv st, iv 0, .val (.long ((v0.toInt64) - (l0.toInt64))), .second] [(.ref a), (.ref aK)])) (fun tt_ kk_ => XS.aloadN X20.here hx rfl (hb hby own_d10_70) rfl rfl kk_) ?_
  have F23 := (F_words_a.keep K11q (ninS ne_a_aK nin0))
  refine own_gG X20 hx hZ hown (own_w hw 36 rfl) e20 F23 rfl rfl (hb hby own_d10_71) (fun {T22} X22 e22 => ?_)
  refine own_st (g' := (mkF m 75 #[rv a, rv st, iv 0, .val (.long ((v0.toInt64) - (l0.toInt64))), .second] [(.int 0), (.ref aW), (.ref aK)])) (fun tt_ kk_ => XS.iloadN X22.here hx rfl (hb hby own_d10_74) rfl kk_) ?_
  have F24 := (V_aW.keep K11q (ninS ne_aW_aK nin0))
  refine own_st (g' := (mkF m 77 #[rv a, rv st, iv 0, .val (.long ((v0.toInt64) - (l0.toInt64))), .second] [(.int 0), (.ref aK), (.int 0), (.ref aK)])) (fun tt_ kk_ => own_lvI (g := (mkF m 75 #[rv a, rv st, iv 0, .val (.long ((v0.toInt64) - (l0.toInt64))), .second] [(.int 0), (.ref aW), (.ref aK)])) X22 hx hZ e22 F24 (by decide) rfl rfl rfl (hb hby own_d10_75) tt_ (XT.dup2 X22.here hx rfl (hb hby own_d10_76) rfl rfl rfl kk_)) ?_
  refine own_st (g' := (mkF m 80 #[rv a, rv st, iv 0, .val (.long ((v0.toInt64) - (l0.toInt64))), .second] [(.ref a), (.long ((v0.toInt64) - (l0.toInt64))), (.long 0), (.int 0), (.ref aK)])) (fun tt_ kk_ => own_lvJ (g := (mkF m 77 #[rv a, rv st, iv 0, .val (.long ((v0.toInt64) - (l0.toInt64))), .second] [(.int 0), (.ref aK), (.int 0), (.ref aK)])) X22 hx hZ e22 f11_0 (by decide) rfl rfl rfl (hb hby own_d10_77) tt_ (XS.lloadN X22.here hx rfl (hb hby own_d10_78) rfl (XS.aloadN X22.here hx rfl (hb hby own_d10_79) rfl rfl kk_))) ?_
  have F26 := (F_shifts_a.keep K11q (ninS ne_a_aK nin0))
  refine own_gG X22 hx hZ hown (own_w hw 38 rfl) e22 F26 rfl rfl (hb hby own_d10_80) (fun {T25} X25 e25 => ?_)
  refine own_st (g' := (mkF m 84 #[rv a, rv st, iv 0, .val (.long ((v0.toInt64) - (l0.toInt64))), .second] [(.int 0), (.ref aH), (.long ((v0.toInt64) - (l0.toInt64))), (.long 0), (.int 0), (.ref aK)])) (fun tt_ kk_ => XS.iloadN X25.here hx rfl (hb hby own_d10_83) rfl kk_) ?_
  have F27 := (V_aH.keep K11q (ninS ne_aH_aK nin0))
  refine own_st (g' := (mkF m 87 #[rv a, rv st, iv 0, .val (.long ((v0.toInt64) - (l0.toInt64))), .second] [(.long ((0 : Int64) ||| (((v0.toInt64) - (l0.toInt64)) <<< (s0 &&& 0x3f).toInt64))), (.int 0), (.ref aK)])) (fun tt_ kk_ => own_lvI (g := (mkF m 84 #[rv a, rv st, iv 0, .val (.long ((v0.toInt64) - (l0.toInt64))), .second] [(.int 0), (.ref aH), (.long ((v0.toInt64) - (l0.toInt64))), (.long 0), (.int 0), (.ref aK)])) X25 hx hZ e25 F27 (by decide) rfl rfl rfl (hb hby own_d10_84) tt_ (XS.lshl X25.here hx rfl (hb hby own_d10_85) rfl (XS.lor X25.here hx rfl (hb hby own_d10_86) rfl kk_))) ?_
  obtain ⟨T28, h28, X28, e28, W28, V28q, st28⟩ := own_svJ X25 hx hZ e25 f11_0 (j := (0 : Int32)) (by decide) 0 rfl (Nat.le_of_ble_eq_true rfl) (g := (mkF m 87 #[rv a, rv st, iv 0, .val (.long ((v0.toInt64) - (l0.toInt64))), .second] [(.long ((0 : Int64) ||| (((v0.toInt64) - (l0.toInt64)) <<< (s0 &&& 0x3f).toInt64))), (.int 0), (.ref aK)])) rfl rfl (hb hby own_d10_87)
  have N28 := Fr.snoc X28 N11 g_aK
  have Z28 : n0 ≤ h28.size := Nat.le_trans Z11 (Keep.of_wr W28).1
  have K28 : Keep h0 h28 [aK] := K11.wr W28 (Or.inl (List.mem_of_getElem? (i := 0) rfl))
  have V28 : Arv Z h28 aK kaK .long (1 : Int32) [(.long ((0 : Int64) ||| (((v0.toInt64) - (l0.toInt64)) <<< (s0 &&& 0x3f).toInt64)))] (.long 0) := V28q
  refine own_st st28 ?_
  refine own_st (g' := (mkF m 12 #[rv a, rv st, iv 1, .val (.long ((v0.toInt64) - (l0.toInt64))), .second] [(.ref a), (.int 1)])) (fun tt_ kk_ => XS.iinc X28.here hx rfl (hb hby own_d10_88) rfl (l' := #[rv a, rv st, iv 1, .val (.long ((v0.toInt64) - (l0.toInt64))), .second]) rfl (XS.goto X28.here hx rfl (pc0 := 91) (pc' := 10) rfl (hb hby own_d10_91) (by decide) (by decide) (XS.iloadN X28.here hx rfl (hb hby own_d10_10) rfl (XS.aloadN X28.here hx rfl (hb hby own_d10_11) rfl rfl kk_)))) ?_
  have F30 := (F13.other W28 (Or.inl ne_a_aK))
  refine own_gG X28 hx hZ hown (own_w hw 29 rfl) e28 F30 rfl rfl (hb hby own_d10_12) (fun {T29} X29 e29 => ?_)
  have F31 := (F14.other W28 ne_aL_aK)
  refine own_st (g' := (mkF m 21 #[rv a, rv st, iv 1, .val (.long ((v0.toInt64) - (l0.toInt64))), .second] [(.int 1), (.ref st)])) (fun tt_ kk_ => own_lnV (g := (mkF m 15 #[rv a, rv st, iv 1, .val (.long ((v0.toInt64) - (l0.toInt64))), .second] [(.ref aL), (.int 1)])) X29 hx hZ e29 F31 rfl rfl (hb hby own_d10_15) tt_ (XS.icmpNo X29.here hx rfl (hb hby own_d10_16) rfl (tlt (by decide : (1 : Int32) < (3 : Int32))).2.1 (XS.aloadN X29.here hx rfl (hb hby own_d10_19) rfl rfl (XS.iloadN X29.here hx rfl (hb hby own_d10_20) rfl kk_)))) ?_
  have F32 := (F15.other W28 ne_st_aK)
  refine own_st (g' := (mkF m 24 #[rv a, rv st, iv 1, .val (.long ((v0.toInt64) - (l0.toInt64))), .second] [(.ref a), (.long (v1.toInt64))])) (fun tt_ kk_ => own_lvI (g := (mkF m 21 #[rv a, rv st, iv 1, .val (.long ((v0.toInt64) - (l0.toInt64))), .second] [(.int 1), (.ref st)])) X29 hx hZ e29 F32 (by decide) rfl rfl rfl (hb hby own_d10_21) tt_ (XS.i2l X29.here hx rfl (hb hby own_d10_22) rfl (XS.aloadN X29.here hx rfl (hb hby own_d10_23) rfl rfl kk_))) ?_
  refine own_gG X29 hx hZ hown (own_w hw 29 rfl) e29 F30 rfl rfl (hb hby own_d10_24) (fun {T33} X33 e33 => ?_)
  refine own_st (g' := (mkF m 28 #[rv a, rv st, iv 1, .val (.long ((v0.toInt64) - (l0.toInt64))), .second] [(.int 1), (.ref aL), (.long (v1.toInt64))])) (fun tt_ kk_ => XS.iloadN X33.here hx rfl (hb hby own_d10_27) rfl kk_) ?_
  refine own_st (g' := (mkF m 35 #[rv a, rv st, iv 1, .val (.long ((v1.toInt64) - (l1.toInt64))), .second] [(.int (lcmpW ((v1.toInt64) - (l1.toInt64)) (0 : Int64)))])) (fun tt_ kk_ => own_lvI (g := (mkF m 28 #[rv a, rv st, iv 1, .val (.long ((v0.toInt64) - (l0.toInt64))), .second] [(.int 1), (.ref aL), (.long (v1.toInt64))])) X33 hx hZ e33 F31 (by decide) rfl rfl rfl (hb hby own_d10_28) tt_ (XS.i2l X33.here hx rfl (hb hby own_d10_29) rfl (XS.lsub X33.here hx rfl (hb hby own_d10_30) rfl (XS.lstoreN X33.here hx rfl (hb hby own_d10_31) rfl (l' := #[rv a, rv st, iv 1, .val (.long ((v1.toInt64) - (l1.toInt64))), .second]) rfl (XS.lloadN X33.here hx rfl (hb hby own_d10_32) rfl (XS.lconst X33.here hx rfl (hb hby own_d10_33) (XS.lcmp X33.here hx rfl (hb hby own_d10_34) rfl kk_))))))) ?_
  refine own_st (g' := (mkF m 40 #[rv a, rv st, iv 1, .val (.long ((v1.toInt64) - (l1.toInt64))), .second] [(.ref a), (.long ((v1.toInt64) - (l1.toInt64)))])) (fun tt_ kk_ => XS.ifNo X33.here hx rfl (hb hby own_d10_35) rfl ((if0 _ _).trans (flt hA1).1) (XS.lloadN X33.here hx rfl (hb hby own_d10_38) rfl (XS.aloadN X33.here hx rfl (hb hby own_d10_39) rfl rfl kk_))) ?_
  have F35 := (F18.other W28 (Or.inl ne_a_aK))
  refine own_gG X33 hx hZ hown (own_w hw 32 rfl) e33 F35 rfl rfl (hb hby own_d10_40) (fun {T34} X34 e34 => ?_)
  refine own_st (g' := (mkF m 44 #[rv a, rv st, iv 1, .val (.long ((v1.toInt64) - (l1.toInt64))), .second] [(.int 1), (.ref aS), (.long ((v1.toInt64) - (l1.toInt64)))])) (fun tt_ kk_ => XS.iloadN X34.here hx rfl (hb hby own_d10_43) rfl kk_) ?_
  have F36 := (F19.other W28 ne_aS_aK)
  refine own_st (g' := (mkF m 46 #[rv a, rv st, iv 1, .val (.long ((v1.toInt64) - (l1.toInt64))), .second] [(.int (lcmpW ((v1.toInt64) - (l1.toInt64)) sp1))])) (fun tt_ kk_ => own_lvJ (g := (mkF m 44 #[rv a, rv st, iv 1, .val (.long ((v1.toInt64) - (l1.toInt64))), .second] [(.int 1), (.ref aS), (.long ((v1.toInt64) - (l1.toInt64)))])) X34 hx hZ e34 F36 (by decide) rfl rfl rfl (hb hby own_d10_44) tt_ (XS.lcmp X34.here hx rfl (hb hby own_d10_45) rfl kk_)) ?_
  refine own_st (g' := (mkF m 67 #[rv a, rv st, iv 1, .val (.long ((v1.toInt64) - (l1.toInt64))), .second] [(.ref a)])) (fun tt_ kk_ => XS.ifYes X34.here hx rfl (pc0 := 46) (pc' := 66) rfl (hb hby own_d10_46) rfl ((if0 _ _).trans (tlt hB1).1) (by decide) (by decide) (XS.aloadN X34.here hx rfl (hb hby own_d10_66) rfl rfl kk_)) ?_
  have F38 := (F21.other W28 (Or.inl ne_a_aK))
  refine own_gG X34 hx hZ hown (own_w hw 63 rfl) e34 F38 rfl rfl (hb hby own_d10_67) (fun {T37} X37 e37 => ?_)
  refine own_st (g' := (mkF m 71 #[rv a, rv st, iv 1, .val (.long ((v1.toInt64) - (l1.toInt64))), .second] [(.ref a), (.ref aK)])) (fun tt_ kk_ => XS.aloadN X37.here hx rfl (hb hby own_d10_70) rfl rfl kk_) ?_
  have F40 := (F23.other W28 (Or.inl ne_a_aK))
  refine own_gG X37 hx hZ hown (own_w hw 36 rfl) e37 F40 rfl rfl (hb hby own_d10_71) (fun {T39} X39 e39 => ?_)
  refine own_st (g' := (mkF m 75 #[rv a, rv st, iv 1, .val (.long ((v1.toInt64) - (l1.toInt64))), .second] [(.int 1), (.ref aW), (.ref aK)])) (fun tt_ kk_ => XS.iloadN X39.here hx rfl (hb hby own_d10_74) rfl kk_) ?_
  have F41 := (F24.other W28 ne_aW_aK)
  refine own_st (g' := (mkF m 77 #[rv a, rv st, iv 1, .val (.long ((v1.toInt64) - (l1.toInt64))), .second] [(.int 0), (.ref aK), (.int 0), (.ref aK)])) (fun tt_ kk_ => own_lvI (g := (mkF m 75 #[rv a, rv st, iv 1, .val (.long ((v1.toInt64) - (l1.toInt64))), .second] [(.int 1), (.ref aW), (.ref aK)])) X39 hx hZ e39 F41 (by decide) rfl rfl rfl (hb hby own_d10_75) tt_ (XT.dup2 X39.here hx rfl (hb hby own_d10_76) rfl rfl rfl kk_)) ?_
  refine own_st (g' := (mkF m 80 #[rv a, rv st, iv 1, .val (.long ((v1.toInt64) - (l1.toInt64))), .second] [(.ref a), (.long ((v1.toInt64) - (l1.toInt64))), (.long ((0 : Int64) ||| (((v0.toInt64) - (l0.toInt64)) <<< (s0 &&& 0x3f).toInt64))), (.int 0), (.ref aK)])) (fun tt_ kk_ => own_lvJ (g := (mkF m 77 #[rv a, rv st, iv 1, .val (.long ((v1.toInt64) - (l1.toInt64))), .second] [(.int 0), (.ref aK), (.int 0), (.ref aK)])) X39 hx hZ e39 V28 (by decide) rfl rfl rfl (hb hby own_d10_77) tt_ (XS.lloadN X39.here hx rfl (hb hby own_d10_78) rfl (XS.aloadN X39.here hx rfl (hb hby own_d10_79) rfl rfl kk_))) ?_
  have F43 := (F26.other W28 (Or.inl ne_a_aK))
  refine own_gG X39 hx hZ hown (own_w hw 38 rfl) e39 F43 rfl rfl (hb hby own_d10_80) (fun {T42} X42 e42 => ?_)
  refine own_st (g' := (mkF m 84 #[rv a, rv st, iv 1, .val (.long ((v1.toInt64) - (l1.toInt64))), .second] [(.int 1), (.ref aH), (.long ((v1.toInt64) - (l1.toInt64))), (.long ((0 : Int64) ||| (((v0.toInt64) - (l0.toInt64)) <<< (s0 &&& 0x3f).toInt64))), (.int 0), (.ref aK)])) (fun tt_ kk_ => XS.iloadN X42.here hx rfl (hb hby own_d10_83) rfl kk_) ?_
  have F44 := (F27.other W28 ne_aH_aK)
  refine own_st (g' := (mkF m 87 #[rv a, rv st, iv 1, .val (.long ((v1.toInt64) - (l1.toInt64))), .second] [(.long (((0 : Int64) ||| (((v0.toInt64) - (l0.toInt64)) <<< (s0 &&& 0x3f).toInt64)) ||| (((v1.toInt64) - (l1.toInt64)) <<< (s1 &&& 0x3f).toInt64))), (.int 0), (.ref aK)])) (fun tt_ kk_ => own_lvI (g := (mkF m 84 #[rv a, rv st, iv 1, .val (.long ((v1.toInt64) - (l1.toInt64))), .second] [(.int 1), (.ref aH), (.long ((v1.toInt64) - (l1.toInt64))), (.long ((0 : Int64) ||| (((v0.toInt64) - (l0.toInt64)) <<< (s0 &&& 0x3f).toInt64))), (.int 0), (.ref aK)])) X42 hx hZ e42 F44 (by decide) rfl rfl rfl (hb hby own_d10_84) tt_ (XS.lshl X42.here hx rfl (hb hby own_d10_85) rfl (XS.lor X42.here hx rfl (hb hby own_d10_86) rfl kk_))) ?_
  obtain ⟨T45, h45, X45, e45, W45, V45q, st45⟩ := own_svJ X42 hx hZ e42 V28 (j := (0 : Int32)) (by decide) 0 rfl (Nat.le_of_ble_eq_true rfl) (g := (mkF m 87 #[rv a, rv st, iv 1, .val (.long ((v1.toInt64) - (l1.toInt64))), .second] [(.long (((0 : Int64) ||| (((v0.toInt64) - (l0.toInt64)) <<< (s0 &&& 0x3f).toInt64)) ||| (((v1.toInt64) - (l1.toInt64)) <<< (s1 &&& 0x3f).toInt64))), (.int 0), (.ref aK)])) rfl rfl (hb hby own_d10_87)
  have N45 := Fr.snoc X45 N28 g_aK
  have Z45 : n0 ≤ h45.size := Nat.le_trans Z28 (Keep.of_wr W45).1
  have K45 : Keep h0 h45 [aK] := K28.wr W45 (Or.inl (List.mem_of_getElem? (i := 0) rfl))
  have V45 : Arv Z h45 aK kaK .long (1 : Int32) [(.long (((0 : Int64) ||| (((v0.toInt64) - (l0.toInt64)) <<< (s0 &&& 0x3f).toInt64)) ||| (((v1.toInt64) - (l1.toInt64)) <<< (s1 &&& 0x3f).toInt64)))] (.long 0) := V45q
  refine own_st st45 ?_
  refine own_st (g' := (mkF m 12 #[rv a, rv st, iv 2, .val (.long ((v1.toInt64) - (l1.toInt64))), .second] [(.ref a), (.int 2)])) (fun tt_ kk_ => XS.iinc X45.here hx rfl (hb hby own_d10_88) rfl (l' := #[rv a, rv st, iv 2, .val (.long ((v1.toInt64) - (l1.toInt64))), .second]) rfl (XS.goto X45.here hx rfl (pc0 := 91) (pc' := 10) rfl (hb hby own_d10_91) (by decide) (by decide) (XS.iloadN X45.here hx rfl (hb hby own_d10_10) rfl (XS.aloadN X45.here hx rfl (hb hby own_d10_11) rfl rfl kk_)))) ?_
  have F47 := (F30.other W45 (Or.inl ne_a_aK))
  refine own_gG X45 hx hZ hown (own_w hw 29 rfl) e45 F47 rfl rfl (hb hby own_d10_12) (fun {T46} X46 e46 => ?_)
  have F48 := (F31.other W45 ne_aL_aK)
  refine own_st (g' := (mkF m 21 #[rv a, rv st, iv 2, .val (.long ((v1.toInt64) - (l1.toInt64))), .second] [(.int 2), (.ref st)])) (fun tt_ kk_ => own_lnV (g := (mkF m 15 #[rv a, rv st, iv 2, .val (.long ((v1.toInt64) - (l1.toInt64))), .second] [(.ref aL), (.int 2)])) X46 hx hZ e46 F48 rfl rfl (hb hby own_d10_15) tt_ (XS.icmpNo X46.here hx rfl (hb hby own_d10_16) rfl (tlt (by decide : (2 : Int32) < (3 : Int32))).2.1 (XS.aloadN X46.here hx rfl (hb hby own_d10_19) rfl rfl (XS.iloadN X46.here hx rfl (hb hby own_d10_20) rfl kk_)))) ?_
  have F49 := (F32.other W45 ne_st_aK)
  refine own_st (g' := (mkF m 24 #[rv a, rv st, iv 2, .val (.long ((v1.toInt64) - (l1.toInt64))), .second] [(.ref a), (.long (v2.toInt64))])) (fun tt_ kk_ => own_lvI (g := (mkF m 21 #[rv a, rv st, iv 2, .val (.long ((v1.toInt64) - (l1.toInt64))), .second] [(.int 2), (.ref st)])) X46 hx hZ e46 F49 (by decide) rfl rfl rfl (hb hby own_d10_21) tt_ (XS.i2l X46.here hx rfl (hb hby own_d10_22) rfl (XS.aloadN X46.here hx rfl (hb hby own_d10_23) rfl rfl kk_))) ?_
  refine own_gG X46 hx hZ hown (own_w hw 29 rfl) e46 F47 rfl rfl (hb hby own_d10_24) (fun {T50} X50 e50 => ?_)
  refine own_st (g' := (mkF m 28 #[rv a, rv st, iv 2, .val (.long ((v1.toInt64) - (l1.toInt64))), .second] [(.int 2), (.ref aL), (.long (v2.toInt64))])) (fun tt_ kk_ => XS.iloadN X50.here hx rfl (hb hby own_d10_27) rfl kk_) ?_
  refine own_st (g' := (mkF m 35 #[rv a, rv st, iv 2, .val (.long ((v2.toInt64) - (l2.toInt64))), .second] [(.int (lcmpW ((v2.toInt64) - (l2.toInt64)) (0 : Int64)))])) (fun tt_ kk_ => own_lvI (g := (mkF m 28 #[rv a, rv st, iv 2, .val (.long ((v1.toInt64) - (l1.toInt64))), .second] [(.int 2), (.ref aL), (.long (v2.toInt64))])) X50 hx hZ e50 F48 (by decide) rfl rfl rfl (hb hby own_d10_28) tt_ (XS.i2l X50.here hx rfl (hb hby own_d10_29) rfl (XS.lsub X50.here hx rfl (hb hby own_d10_30) rfl (XS.lstoreN X50.here hx rfl (hb hby own_d10_31) rfl (l' := #[rv a, rv st, iv 2, .val (.long ((v2.toInt64) - (l2.toInt64))), .second]) rfl (XS.lloadN X50.here hx rfl (hb hby own_d10_32) rfl (XS.lconst X50.here hx rfl (hb hby own_d10_33) (XS.lcmp X50.here hx rfl (hb hby own_d10_34) rfl kk_))))))) ?_
  refine own_st (g' := (mkF m 40 #[rv a, rv st, iv 2, .val (.long ((v2.toInt64) - (l2.toInt64))), .second] [(.ref a), (.long ((v2.toInt64) - (l2.toInt64)))])) (fun tt_ kk_ => XS.ifNo X50.here hx rfl (hb hby own_d10_35) rfl ((if0 _ _).trans (flt hA2).1) (XS.lloadN X50.here hx rfl (hb hby own_d10_38) rfl (XS.aloadN X50.here hx rfl (hb hby own_d10_39) rfl rfl kk_))) ?_
  have F52 := (F35.other W45 (Or.inl ne_a_aK))
  refine own_gG X50 hx hZ hown (own_w hw 32 rfl) e50 F52 rfl rfl (hb hby own_d10_40) (fun {T51} X51 e51 => ?_)
  refine own_st (g' := (mkF m 44 #[rv a, rv st, iv 2, .val (.long ((v2.toInt64) - (l2.toInt64))), .second] [(.int 2), (.ref aS), (.long ((v2.toInt64) - (l2.toInt64)))])) (fun tt_ kk_ => XS.iloadN X51.here hx rfl (hb hby own_d10_43) rfl kk_) ?_
  have F53 := (F36.other W45 ne_aS_aK)
  refine own_st (g' := (mkF m 46 #[rv a, rv st, iv 2, .val (.long ((v2.toInt64) - (l2.toInt64))), .second] [(.int (lcmpW ((v2.toInt64) - (l2.toInt64)) sp2))])) (fun tt_ kk_ => own_lvJ (g := (mkF m 44 #[rv a, rv st, iv 2, .val (.long ((v2.toInt64) - (l2.toInt64))), .second] [(.int 2), (.ref aS), (.long ((v2.toInt64) - (l2.toInt64)))])) X51 hx hZ e51 F53 (by decide) rfl rfl rfl (hb hby own_d10_44) tt_ (XS.lcmp X51.here hx rfl (hb hby own_d10_45) rfl kk_)) ?_
  refine own_st (g' := (mkF m 67 #[rv a, rv st, iv 2, .val (.long ((v2.toInt64) - (l2.toInt64))), .second] [(.ref a)])) (fun tt_ kk_ => XS.ifYes X51.here hx rfl (pc0 := 46) (pc' := 66) rfl (hb hby own_d10_46) rfl ((if0 _ _).trans (tlt hB2).1) (by decide) (by decide) (XS.aloadN X51.here hx rfl (hb hby own_d10_66) rfl rfl kk_)) ?_
  have F55 := (F38.other W45 (Or.inl ne_a_aK))
  refine own_gG X51 hx hZ hown (own_w hw 63 rfl) e51 F55 rfl rfl (hb hby own_d10_67) (fun {T54} X54 e54 => ?_)
  refine own_st (g' := (mkF m 71 #[rv a, rv st, iv 2, .val (.long ((v2.toInt64) - (l2.toInt64))), .second] [(.ref a), (.ref aK)])) (fun tt_ kk_ => XS.aloadN X54.here hx rfl (hb hby own_d10_70) rfl rfl kk_) ?_
  have F57 := (F40.other W45 (Or.inl ne_a_aK))
  refine own_gG X54 hx hZ hown (own_w hw 36 rfl) e54 F57 rfl rfl (hb hby own_d10_71) (fun {T56} X56 e56 => ?_)
  refine own_st (g' := (mkF m 75 #[rv a, rv st, iv 2, .val (.long ((v2.toInt64) - (l2.toInt64))), .second] [(.int 2), (.ref aW), (.ref aK)])) (fun tt_ kk_ => XS.iloadN X56.here hx rfl (hb hby own_d10_74) rfl kk_) ?_
  have F58 := (F41.other W45 ne_aW_aK)
  refine own_st (g' := (mkF m 77 #[rv a, rv st, iv 2, .val (.long ((v2.toInt64) - (l2.toInt64))), .second] [(.int 0), (.ref aK), (.int 0), (.ref aK)])) (fun tt_ kk_ => own_lvI (g := (mkF m 75 #[rv a, rv st, iv 2, .val (.long ((v2.toInt64) - (l2.toInt64))), .second] [(.int 2), (.ref aW), (.ref aK)])) X56 hx hZ e56 F58 (by decide) rfl rfl rfl (hb hby own_d10_75) tt_ (XT.dup2 X56.here hx rfl (hb hby own_d10_76) rfl rfl rfl kk_)) ?_
  refine own_st (g' := (mkF m 80 #[rv a, rv st, iv 2, .val (.long ((v2.toInt64) - (l2.toInt64))), .second] [(.ref a), (.long ((v2.toInt64) - (l2.toInt64))), (.long (((0 : Int64) ||| (((v0.toInt64) - (l0.toInt64)) <<< (s0 &&& 0x3f).toInt64)) ||| (((v1.toInt64) - (l1.toInt64)) <<< (s1 &&& 0x3f).toInt64))), (.int 0), (.ref aK)])) (fun tt_ kk_ => own_lvJ (g := (mkF m 77 #[rv a, rv st, iv 2, .val (.long ((v2.toInt64) - (l2.toInt64))), .second] [(.int 0), (.ref aK), (.int 0), (.ref aK)])) X56 hx hZ e56 V45 (by decide) rfl rfl rfl (hb hby own_d10_77) tt_ (XS.lloadN X56.here hx rfl (hb hby own_d10_78) rfl (XS.aloadN X56.here hx rfl (hb hby own_d10_79) rfl rfl kk_))) ?_
  have F60 := (F43.other W45 (Or.inl ne_a_aK))
  refine own_gG X56 hx hZ hown (own_w hw 38 rfl) e56 F60 rfl rfl (hb hby own_d10_80) (fun {T59} X59 e59 => ?_)
  refine own_st (g' := (mkF m 84 #[rv a, rv st, iv 2, .val (.long ((v2.toInt64) - (l2.toInt64))), .second] [(.int 2), (.ref aH), (.long ((v2.toInt64) - (l2.toInt64))), (.long (((0 : Int64) ||| (((v0.toInt64) - (l0.toInt64)) <<< (s0 &&& 0x3f).toInt64)) ||| (((v1.toInt64) - (l1.toInt64)) <<< (s1 &&& 0x3f).toInt64))), (.int 0), (.ref aK)])) (fun tt_ kk_ => XS.iloadN X59.here hx rfl (hb hby own_d10_83) rfl kk_) ?_
  have F61 := (F44.other W45 ne_aH_aK)
  refine own_st (g' := (mkF m 87 #[rv a, rv st, iv 2, .val (.long ((v2.toInt64) - (l2.toInt64))), .second] [(.long ((((0 : Int64) ||| (((v0.toInt64) - (l0.toInt64)) <<< (s0 &&& 0x3f).toInt64)) ||| (((v1.toInt64) - (l1.toInt64)) <<< (s1 &&& 0x3f).toInt64)) ||| (((v2.toInt64) - (l2.toInt64)) <<< (s2 &&& 0x3f).toInt64))), (.int 0), (.ref aK)])) (fun tt_ kk_ => own_lvI (g := (mkF m 84 #[rv a, rv st, iv 2, .val (.long ((v2.toInt64) - (l2.toInt64))), .second] [(.int 2), (.ref aH), (.long ((v2.toInt64) - (l2.toInt64))), (.long (((0 : Int64) ||| (((v0.toInt64) - (l0.toInt64)) <<< (s0 &&& 0x3f).toInt64)) ||| (((v1.toInt64) - (l1.toInt64)) <<< (s1 &&& 0x3f).toInt64))), (.int 0), (.ref aK)])) X59 hx hZ e59 F61 (by decide) rfl rfl rfl (hb hby own_d10_84) tt_ (XS.lshl X59.here hx rfl (hb hby own_d10_85) rfl (XS.lor X59.here hx rfl (hb hby own_d10_86) rfl kk_))) ?_
  obtain ⟨T62, h62, X62, e62, W62, V62q, st62⟩ := own_svJ X59 hx hZ e59 V45 (j := (0 : Int32)) (by decide) 0 rfl (Nat.le_of_ble_eq_true rfl) (g := (mkF m 87 #[rv a, rv st, iv 2, .val (.long ((v2.toInt64) - (l2.toInt64))), .second] [(.long ((((0 : Int64) ||| (((v0.toInt64) - (l0.toInt64)) <<< (s0 &&& 0x3f).toInt64)) ||| (((v1.toInt64) - (l1.toInt64)) <<< (s1 &&& 0x3f).toInt64)) ||| (((v2.toInt64) - (l2.toInt64)) <<< (s2 &&& 0x3f).toInt64))), (.int 0), (.ref aK)])) rfl rfl (hb hby own_d10_87)
  have N62 := Fr.snoc X62 N45 g_aK
  have Z62 : n0 ≤ h62.size := Nat.le_trans Z45 (Keep.of_wr W62).1
  have K62 : Keep h0 h62 [aK] := K45.wr W62 (Or.inl (List.mem_of_getElem? (i := 0) rfl))
  have V62 : Arv Z h62 aK kaK .long (1 : Int32) [(.long ((((0 : Int64) ||| (((v0.toInt64) - (l0.toInt64)) <<< (s0 &&& 0x3f).toInt64)) ||| (((v1.toInt64) - (l1.toInt64)) <<< (s1 &&& 0x3f).toInt64)) ||| (((v2.toInt64) - (l2.toInt64)) <<< (s2 &&& 0x3f).toInt64)))] (.long 0) := V62q
  refine own_st st62 ?_
  refine own_st (g' := (mkF m 12 #[rv a, rv st, iv 3, .val (.long ((v2.toInt64) - (l2.toInt64))), .second] [(.ref a), (.int 3)])) (fun tt_ kk_ => XS.iinc X62.here hx rfl (hb hby own_d10_88) rfl (l' := #[rv a, rv st, iv 3, .val (.long ((v2.toInt64) - (l2.toInt64))), .second]) rfl (XS.goto X62.here hx rfl (pc0 := 91) (pc' := 10) rfl (hb hby own_d10_91) (by decide) (by decide) (XS.iloadN X62.here hx rfl (hb hby own_d10_10) rfl (XS.aloadN X62.here hx rfl (hb hby own_d10_11) rfl rfl kk_)))) ?_
  have F64 := (F47.other W62 (Or.inl ne_a_aK))
  refine own_gG X62 hx hZ hown (own_w hw 29 rfl) e62 F64 rfl rfl (hb hby own_d10_12) (fun {T63} X63 e63 => ?_)
  have F65 := (F48.other W62 ne_aL_aK)
  refine own_st (g' := (mkF m 94 #[rv a, rv st, iv 3, .val (.long ((v2.toInt64) - (l2.toInt64))), .second] [])) (fun tt_ kk_ => own_lnV (g := (mkF m 15 #[rv a, rv st, iv 3, .val (.long ((v2.toInt64) - (l2.toInt64))), .second] [(.ref aL), (.int 3)])) X63 hx hZ e63 F65 rfl rfl (hb hby own_d10_15) tt_ (XS.icmpYes X63.here hx rfl (pc0 := 16) (pc' := 94) rfl (hb hby own_d10_16) rfl (flt (by decide : ¬ ((3 : Int32) < (3 : Int32)))).2.1 (by decide) (by decide) kk_)) ?_
  exact own_retV X63 hx hlk hret (hb hby own_d10_94) (by decide) (by decide) (by rw [e63]; exact ⟨rfl, N62, K62, V62⟩)
theorem own_d12_0 : own_D own_b12 0 (.lconst 0) 1 := by decide +kernel
theorem own_d12_1 : own_D own_b12 1 (.lstore_n 3) 1 := by decide +kernel
theorem own_d12_2 : own_D own_b12 2 (.iconst 0) 1 := by decide +kernel
theorem own_d12_3 : own_D own_b12 3 (.istore 5) 2 := by decide +kernel
theorem own_d12_5 : own_D own_b12 5 (.iload 5) 2 := by decide +kernel
theorem own_d12_7 : own_D own_b12 7 (.aload_n 0) 1 := by decide +kernel
theorem own_d12_8 : own_D own_b12 8 (.getfield 54) 3 := by decide +kernel
theorem own_d12_11 : own_D own_b12 11 (.if_icmp .ge 29) 3 := by decide +kernel
theorem own_d12_14 : own_D own_b12 14 (.lload_n 3) 1 := by decide +kernel
theorem own_d12_15 : own_D own_b12 15 (.aload_n 1) 1 := by decide +kernel
theorem own_d12_16 : own_D own_b12 16 (.iload_n 2) 1 := by decide +kernel
theorem own_d12_17 : own_D own_b12 17 (.iload 5) 2 := by decide +kernel
theorem own_d12_19 : own_D own_b12 19 .iadd 1 := by decide +kernel
theorem own_d12_20 : own_D own_b12 20 .laload 1 := by decide +kernel
theorem own_d12_21 : own_D own_b12 21 .lxor 1 := by decide +kernel
theorem own_d12_22 : own_D own_b12 22 (.ldc2_w 140) 3 := by decide +kernel
theorem own_d12_25 : own_D own_b12 25 .lmul 1 := by decide +kernel
theorem own_d12_26 : own_D own_b12 26 (.lstore_n 3) 1 := by decide +kernel
theorem own_d12_27 : own_D own_b12 27 (.lload_n 3) 1 := by decide +kernel
theorem own_d12_28 : own_D own_b12 28 (.lload_n 3) 1 := by decide +kernel
theorem own_d12_29 : own_D own_b12 29 (.bipush 29) 2 := by decide +kernel
theorem own_d12_31 : own_D own_b12 31 .lushr 1 := by decide +kernel
theorem own_d12_32 : own_D own_b12 32 .lxor 1 := by decide +kernel
theorem own_d12_33 : own_D own_b12 33 (.lstore_n 3) 1 := by decide +kernel
theorem own_d12_34 : own_D own_b12 34 (.iinc 5 1) 3 := by decide +kernel
theorem own_d12_37 : own_D own_b12 37 (.goto (-32)) 3 := by decide +kernel
theorem own_d12_40 : own_D own_b12 40 (.lload_n 3) 1 := by decide +kernel
theorem own_d12_41 : own_D own_b12 41 (.ldc2_w 142) 3 := by decide +kernel
theorem own_d12_44 : own_D own_b12 44 .lmul 1 := by decide +kernel
theorem own_d12_45 : own_D own_b12 45 (.lstore_n 3) 1 := by decide +kernel
theorem own_d12_46 : own_D own_b12 46 (.lload_n 3) 1 := by decide +kernel
theorem own_d12_47 : own_D own_b12 47 (.lload_n 3) 1 := by decide +kernel
theorem own_d12_48 : own_D own_b12 48 (.bipush 32) 2 := by decide +kernel
theorem own_d12_50 : own_D own_b12 50 .lushr 1 := by decide +kernel
theorem own_d12_51 : own_D own_b12 51 .lxor 1 := by decide +kernel
theorem own_d12_52 : own_D own_b12 52 .l2i 1 := by decide +kernel
theorem own_d12_53 : own_D own_b12 53 .ireturn 1 := by decide +kernel
def own_QhasA (Z : State) (a : Addr) (aK : Addr) (kaK : ClassId) (y0 : Int64) (h0 : Heap) (n0 : Nat) (v : Option Value) (h : Heap) (L : List Loc) : Prop := ∃ (hz : Int32), v = some (.int hz) ∧ Fr n0 L ∧ h = h0
theorem own_efhasA (m : MethodId) (a : Addr) (aK : Addr) : entryFrame m #[(.ref a), (.ref aK), (.int 0)] 6 = mkF m 0 #[rv a, rv aK, iv 0, .unset, .unset, .unset] [] := by first | (simp [entryFrame, mkF, argsToLocals, Value.category]; done) | rfl
set_option maxRecDepth 65536 in
set_option maxHeartbeats 16000000 in
theorem own_rmhasA (l : Launch) (Z : State) (a0 : Array Value) (hw : own_HW Z a0) (ws : List Jvm.Cond) (a : Addr) (aK : Addr) (kaK : ClassId) (y0 : Int64) (h0 : Heap) (n0 : Nat) (Z0 : n0 ≤ h0.size) (F_wordCount_a : Fld Z h0 a own_z0 "wordCount" "I" (.int 1)) (V_aK : Arv Z h0 aK kaK .long (1 : Int32) [(.long y0)] (.long 0)) :
    MetFree l (⟨own_z0, "hash", "([JI)I"⟩ : MethodName) (head1 (Jvm.Cond.code (⟨own_z0, "hash", "([JI)I"⟩ : MethodName) prog_160_method_15_code 6 (some .int) :: ws) ({ frames := 0, cells := 0, slots := 0, locals := 0 } : Room)) (fun aa UU => aa = #[(.ref a), (.ref aK), (.int 0)] ∧ Z.Warmed39 UU.vm ∧ UU.heap = h0) (fun _ _ _ _ _ => True) (fun _ U o U' => ∃ v L, o = .returned v ∧ own_QhasA Z a aK kaK y0 h0 n0 v U'.heap L ∧ FrameEnd U o U' L ({ frames := 0, cells := 0, slots := 0, locals := 0 } : Room).cells ({ frames := 0, cells := 0, slots := 0, locals := 0 } : Room).slots) := by
  refine MetFree.of_bodySF (plainFor_of_name own_pn2) hisR ?_
  intro p e s m args below meth c s₁ Bd hml hP hK
  obtain ⟨rfl, hZ, hh⟩ := hP
  have hx := Bd.exec
  have hlk := Bd.notSynchronized
  have hby := Bd.bytes
  have hret := Bd.returns
  have hown := findClass_of_methodNamed Bd.named
  have hnm := (name_of_methodNamed Bd.named Bd.method).1
  have X0 : Stand p l e ({ frames := 0, cells := 0, slots := 0, locals := 0 } : Room) s m #[(.ref a), (.ref aK), (.int 0)] below meth c s₁ [] 0 0 := Stand.of_body Bd
  have e0 : s₁.heap = h0 := by rw [← hh, Bd.state]; rfl
  have N0 := Fr.nil n0
  refine own_cast (own_efhasA m a aK) ?_
  show own_Go p e below s s₁ _ (own_QhasA Z a aK kaK y0 h0 n0) 0 0
  refine own_st (g' := (mkF m 8 #[rv a, rv aK, iv 0, .val (.long 0), .second, iv 0] [(.ref a), (.int 0)])) (fun tt_ kk_ => XS.lconst X0.here hx rfl (hb hby own_d12_0) (XS.lstoreN X0.here hx rfl (hb hby own_d12_1) rfl (l' := #[rv a, rv aK, iv 0, .val (.long 0), .second, .unset]) rfl (XS.iconst X0.here hx rfl (hb hby own_d12_2) (XS.istore X0.here hx rfl (hb hby own_d12_3) rfl (l' := #[rv a, rv aK, iv 0, .val (.long 0), .second, iv 0]) rfl (XS.iload X0.here hx rfl (hb hby own_d12_5) rfl (XS.aloadN X0.here hx rfl (hb hby own_d12_7) rfl rfl kk_)))))) ?_
  refine own_gG X0 hx hZ hown (own_w hw 49 rfl) e0 F_wordCount_a rfl rfl (hb hby own_d12_8) (fun {T66} X66 e66 => ?_)
  refine own_st (g' := (mkF m 20 #[rv a, rv aK, iv 0, .val (.long 0), .second, iv 0] [(.int 0), (.ref aK), (.long 0)])) (fun tt_ kk_ => XS.icmpNo X66.here hx rfl (hb hby own_d12_11) rfl (tlt (by decide : (0 : Int32) < (1 : Int32))).2.1 (XS.lloadN X66.here hx rfl (hb hby own_d12_14) rfl (XS.aloadN X66.here hx rfl (hb hby own_d12_15) rfl rfl (XS.iloadN X66.here hx rfl (hb hby own_d12_16) rfl (XS.iload X66.here hx rfl (hb hby own_d12_17) rfl (XS.iadd X66.here hx rfl (hb hby own_d12_19) rfl kk_)))))) ?_
  refine own_st (g' := (mkF m 37 #[rv a, rv aK, iv 0, .val (.long ((((0 : Int64) ^^^ y0) * (-7046029254386353131 : Int64)) ^^^ (((((0 : Int64) ^^^ y0) * (-7046029254386353131 : Int64)).toUInt64 >>> ((29 : Int32) &&& 0x3f).toInt64.toUInt64).toInt64))), .second, iv 1] [])) (fun tt_ kk_ => own_lvJ (g := (mkF m 20 #[rv a, rv aK, iv 0, .val (.long 0), .second, iv 0] [(.int 0), (.ref aK), (.long 0)])) X66 hx hZ e66 V_aK (by decide) rfl rfl rfl (hb hby own_d12_20) tt_ (XS.lxor X66.here hx rfl (hb hby own_d12_21) rfl (X66.ldc2Long hx hown (mvT hZ (own_w hw 82 rfl)) (g := (mkF m 22 #[rv a, rv aK, iv 0, .val (.long 0), .second, iv 0] [(.long ((0 : Int64) ^^^ y0))])) rfl (hb hby own_d12_22) _ (XS.lmul X66.here hx rfl (hb hby own_d12_25) rfl (XS.lstoreN X66.here hx rfl (hb hby own_d12_26) rfl (l' := #[rv a, rv aK, iv 0, .val (.long (((0 : Int64) ^^^ y0) * (-7046029254386353131 : Int64))), .second, iv 0]) rfl (XS.lloadN X66.here hx rfl (hb hby own_d12_27) rfl (XS.lloadN X66.here hx rfl (hb hby own_d12_28) rfl (XS.bipush X66.here hx rfl (hb hby own_d12_29) (XS.lushr X66.here hx rfl (hb hby own_d12_31) rfl (XS.lxor X66.here hx rfl (hb hby own_d12_32) rfl (XS.lstoreN X66.here hx rfl (hb hby own_d12_33) rfl (l' := #[rv a, rv aK, iv 0, .val (.long ((((0 : Int64) ^^^ y0) * (-7046029254386353131 : Int64)) ^^^ (((((0 : Int64) ^^^ y0) * (-7046029254386353131 : Int64)).toUInt64 >>> ((29 : Int32) &&& 0x3f).toInt64.toUInt64).toInt64))), .second, iv 0]) rfl (XS.iinc X66.here hx rfl (hb hby own_d12_34) rfl (l' := #[rv a, rv aK, iv 0, .val (.long ((((0 : Int64) ^^^ y0) * (-7046029254386353131 : Int64)) ^^^ (((((0 : Int64) ^^^ y0) * (-7046029254386353131 : Int64)).toUInt64 >>> ((29 : Int32) &&& 0x3f).toInt64.toUInt64).toInt64))), .second, iv 1]) rfl kk_)))))))))))) ?_
  refine own_st (g' := (mkF m 8 #[rv a, rv aK, iv 0, .val (.long ((((0 : Int64) ^^^ y0) * (-7046029254386353131 : Int64)) ^^^ (((((0 : Int64) ^^^ y0) * (-7046029254386353131 : Int64)).toUInt64 >>> ((29 : Int32) &&& 0x3f).toInt64.toUInt64).toInt64))), .second, iv 1] [(.ref a), (.int 1)])) (fun tt_ kk_ => XS.goto X66.here hx rfl (pc0 := 37) (pc' := 5) rfl (hb hby own_d12_37) (by decide) (by decide) (XS.iload X66.here hx rfl (hb hby own_d12_5) rfl (XS.aloadN X66.here hx rfl (hb hby own_d12_7) rfl rfl kk_))) ?_
  refine own_gG X66 hx hZ hown (own_w hw 49 rfl) e66 F_wordCount_a rfl rfl (hb hby own_d12_8) (fun {T67} X67 e67 => ?_)
  refine own_st (g' := (mkF m 53 #[rv a, rv aK, iv 0, .val (.long (((((0 : Int64) ^^^ y0) * (-7046029254386353131 : Int64)) ^^^ (((((0 : Int64) ^^^ y0) * (-7046029254386353131 : Int64)).toUInt64 >>> ((29 : Int32) &&& 0x3f).toInt64.toUInt64).toInt64)) * (-4658895280553007687 : Int64))), .second, iv 1] [(.int (((((((0 : Int64) ^^^ y0) * (-7046029254386353131 : Int64)) ^^^ (((((0 : Int64) ^^^ y0) * (-7046029254386353131 : Int64)).toUInt64 >>> ((29 : Int32) &&& 0x3f).toInt64.toUInt64).toInt64)) * (-4658895280553007687 : Int64)) ^^^ (((((((0 : Int64) ^^^ y0) * (-7046029254386353131 : Int64)) ^^^ (((((0 : Int64) ^^^ y0) * (-7046029254386353131 : Int64)).toUInt64 >>> ((29 : Int32) &&& 0x3f).toInt64.toUInt64).toInt64)) * (-4658895280553007687 : Int64)).toUInt64 >>> ((32 : Int32) &&& 0x3f).toInt64.toUInt64).toInt64)).toInt32))])) (fun tt_ kk_ => XS.icmpYes X67.here hx rfl (pc0 := 11) (pc' := 40) rfl (hb hby own_d12_11) rfl (flt (by decide : ¬ ((1 : Int32) < (1 : Int32)))).2.1 (by decide) (by decide) (XS.lloadN X67.here hx rfl (hb hby own_d12_40) rfl (X67.ldc2Long hx hown (mvT hZ (own_w hw 83 rfl)) (g := (mkF m 41 #[rv a, rv aK, iv 0, .val (.long ((((0 : Int64) ^^^ y0) * (-7046029254386353131 : Int64)) ^^^ (((((0 : Int64) ^^^ y0) * (-7046029254386353131 : Int64)).toUInt64 >>> ((29 : Int32) &&& 0x3f).toInt64.toUInt64).toInt64))), .second, iv 1] [(.long ((((0 : Int64) ^^^ y0) * (-7046029254386353131 : Int64)) ^^^ (((((0 : Int64) ^^^ y0) * (-7046029254386353131 : Int64)).toUInt64 >>> ((29 : Int32) &&& 0x3f).toInt64.toUInt64).toInt64)))])) rfl (hb hby own_d12_41) _ (XS.lmul X67.here hx rfl (hb hby own_d12_44) rfl (XS.lstoreN X67.here hx rfl (hb hby own_d12_45) rfl (l' := #[rv a, rv aK, iv 0, .val (.long (((((0 : Int64) ^^^ y0) * (-7046029254386353131 : Int64)) ^^^ (((((0 : Int64) ^^^ y0) * (-7046029254386353131 : Int64)).toUInt64 >>> ((29 : Int32) &&& 0x3f).toInt64.toUInt64).toInt64)) * (-4658895280553007687 : Int64))), .second, iv 1]) rfl (XS.lloadN X67.here hx rfl (hb hby own_d12_46) rfl (XS.lloadN X67.here hx rfl (hb hby own_d12_47) rfl (XS.bipush X67.here hx rfl (hb hby own_d12_48) (XS.lushr X67.here hx rfl (hb hby own_d12_50) rfl (XS.lxor X67.here hx rfl (hb hby own_d12_51) rfl (XS.l2i X67.here hx rfl (hb hby own_d12_52) rfl kk_))))))))))) ?_
  exact own_retI X67 hx hlk hret (hb hby own_d12_53) (by decide) (by decide) (by rw [e67]; exact ⟨_, rfl, N0, rfl⟩)
theorem own_d17_0 : own_D own_b17 0 (.iload_n 1) 1 := by decide +kernel
theorem own_d17_1 : own_D own_b17 1 (.aload_n 0) 1 := by decide +kernel
theorem own_d17_2 : own_D own_b17 2 (.getfield 54) 3 := by decide +kernel
theorem own_d17_5 : own_D own_b17 5 .imul 1 := by decide +kernel
theorem own_d17_6 : own_D own_b17 6 (.istore_n 2) 1 := by decide +kernel
theorem own_d17_7 : own_D own_b17 7 (.iconst 1) 1 := by decide +kernel
theorem own_d17_8 : own_D own_b17 8 (.istore_n 3) 1 := by decide +kernel
theorem own_d17_9 : own_D own_b17 9 (.iconst 0) 1 := by decide +kernel
theorem own_d17_10 : own_D own_b17 10 (.istore 4) 2 := by decide +kernel
theorem own_d17_12 : own_D own_b17 12 (.iload 4) 2 := by decide +kernel
theorem own_d17_14 : own_D own_b17 14 (.aload_n 0) 1 := by decide +kernel
theorem own_d17_15 : own_D own_b17 15 (.getfield 54) 3 := by decide +kernel
theorem own_d17_18 : own_D own_b17 18 (.if_icmp .ge 39) 3 := by decide +kernel
theorem own_d17_21 : own_D own_b17 21 (.iload_n 3) 1 := by decide +kernel
theorem own_d17_22 : own_D own_b17 22 (.ifCond .eq 35) 3 := by decide +kernel
theorem own_d17_25 : own_D own_b17 25 (.aload_n 0) 1 := by decide +kernel
theorem own_d17_26 : own_D own_b17 26 (.getfield 70) 3 := by decide +kernel
theorem own_d17_29 : own_D own_b17 29 (.iload_n 2) 1 := by decide +kernel
theorem own_d17_30 : own_D own_b17 30 (.iload 4) 2 := by decide +kernel
theorem own_d17_32 : own_D own_b17 32 .iadd 1 := by decide +kernel
theorem own_d17_33 : own_D own_b17 33 .laload 1 := by decide +kernel
theorem own_d17_34 : own_D own_b17 34 (.aload_n 0) 1 := by decide +kernel
theorem own_d17_35 : own_D own_b17 35 (.getfield 80) 3 := by decide +kernel
theorem own_d17_38 : own_D own_b17 38 (.iload 4) 2 := by decide +kernel
theorem own_d17_40 : own_D own_b17 40 .laload 1 := by decide +kernel
theorem own_d17_41 : own_D own_b17 41 .lcmp 1 := by decide +kernel
theorem own_d17_42 : own_D own_b17 42 (.ifCond .ne 7) 3 := by decide +kernel
theorem own_d17_45 : own_D own_b17 45 (.iconst 1) 1 := by decide +kernel
theorem own_d17_46 : own_D own_b17 46 (.goto 4) 3 := by decide +kernel
theorem own_d17_49 : own_D own_b17 49 (.iconst 0) 1 := by decide +kernel
theorem own_d17_50 : own_D own_b17 50 (.istore_n 3) 1 := by decide +kernel
theorem own_d17_51 : own_D own_b17 51 (.iinc 4 1) 3 := by decide +kernel
theorem own_d17_54 : own_D own_b17 54 (.goto (-42)) 3 := by decide +kernel
theorem own_d17_57 : own_D own_b17 57 (.iload_n 3) 1 := by decide +kernel
theorem own_d17_58 : own_D own_b17 58 .ireturn 1 := by decide +kernel
def own_QmatA (Z : State) (a : Addr) (aP : Addr) (aK : Addr) (kaP : ClassId) (q0 : Int64) (q1 : Int64) (kaK : ClassId) (y0 : Int64) (h0 : Heap) (n0 : Nat) (v : Option Value) (h : Heap) (L : List Loc) : Prop := ∃ (rz : Int32), v = some (.int rz) ∧ Fr n0 L ∧ h = h0 ∧ (rz = (0 : Int32) ∨ (rz = (1 : Int32) ∧ q0 = y0))
theorem own_efmatA (m : MethodId) (a : Addr) : entryFrame m #[(.ref a), (.int 0)] 5 = mkF m 0 #[rv a, iv 0, .unset, .unset, .unset] [] := by first | (simp [entryFrame, mkF, argsToLocals, Value.category]; done) | rfl
set_option maxRecDepth 65536 in
set_option maxHeartbeats 16000000 in
theorem own_rmmatA (l : Launch) (Z : State) (a0 : Array Value) (hw : own_HW Z a0) (ws : List Jvm.Cond) (a : Addr) (aP : Addr) (aK : Addr) (kaP : ClassId) (q0 : Int64) (q1 : Int64) (kaK : ClassId) (y0 : Int64) (h0 : Heap) (n0 : Nat) (Z0 : n0 ≤ h0.size) (F_packed_a : Fld Z h0 a own_z0 "packed" "[J" (.ref aP)) (F_key_a : Fld Z h0 a own_z0 "key" "[J" (.ref aK)) (F_wordCount_a : Fld Z h0 a own_z0 "wordCount" "I" (.int 1)) (V_aP : Arv Z h0 aP kaP .long (1024 : Int32) [(.long q0), (.long q1)] (.long 0)) (V_aK : Arv Z h0 aK kaK .long (1 : Int32) [(.long y0)] (.long 0)) :
    MetFree l (⟨own_z0, "matches", "(I)Z"⟩ : MethodName) (head1 (Jvm.Cond.code (⟨own_z0, "matches", "(I)Z"⟩ : MethodName) prog_160_method_11_code 5 (some .boolean) :: ws) ({ frames := 0, cells := 0, slots := 0, locals := 0 } : Room)) (fun aa UU => aa = #[(.ref a), (.int 0)] ∧ Z.Warmed39 UU.vm ∧ UU.heap = h0) (fun _ _ _ _ _ => True) (fun _ U o U' => ∃ v L, o = .returned v ∧ own_QmatA Z a aP aK kaP q0 q1 kaK y0 h0 n0 v U'.heap L ∧ FrameEnd U o U' L ({ frames := 0, cells := 0, slots := 0, locals := 0 } : Room).cells ({ frames := 0, cells := 0, slots := 0, locals := 0 } : Room).slots) := by
  refine MetFree.of_bodySF (plainFor_of_name own_pn2) hisR ?_
  intro p e s m args below meth c s₁ Bd hml hP hK
  obtain ⟨rfl, hZ, hh⟩ := hP
  have hx := Bd.exec
  have hlk := Bd.notSynchronized
  have hby := Bd.bytes
  have hret := Bd.returns
  have hown := findClass_of_methodNamed Bd.named
  have hnm := (name_of_methodNamed Bd.named Bd.method).1
  have X0 : Stand p l e ({ frames := 0, cells := 0, slots := 0, locals := 0 } : Room) s m #[(.ref a), (.int 0)] below meth c s₁ [] 0 0 := Stand.of_body Bd
  have e0 : s₁.heap = h0 := by rw [← hh, Bd.state]; rfl
  have N0 := Fr.nil n0
  refine own_cast (own_efmatA m a) ?_
  show own_Go p e below s s₁ _ (own_QmatA Z a aP aK kaP q0 q1 kaK y0 h0 n0) 0 0
  refine own_st (g' := (mkF m 2 #[rv a, iv 0, .unset, .unset, .unset] [(.ref a), (.int 0)])) (fun tt_ kk_ => XS.iloadN X0.here hx rfl (hb hby own_d17_0) rfl (XS.aloadN X0.here hx rfl (hb hby own_d17_1) rfl rfl kk_)) ?_
  refine own_gG X0 hx hZ hown (own_w hw 49 rfl) e0 F_wordCount_a rfl rfl (hb hby own_d17_2) (fun {T68} X68 e68 => ?_)
  refine own_st (g' := (mkF m 15 #[rv a, iv 0, iv 0, iv 1, iv 0] [(.ref a), (.int 0)])) (fun tt_ kk_ => XS.imul X68.here hx rfl (hb hby own_d17_5) rfl (XS.istoreN X68.here hx rfl (hb hby own_d17_6) rfl (l' := #[rv a, iv 0, iv 0, .unset, .unset]) rfl (XS.iconst X68.here hx rfl (hb hby own_d17_7) (XS.istoreN X68.here hx rfl (hb hby own_d17_8) rfl (l' := #[rv a, iv 0, iv 0, iv 1, .unset]) rfl (XS.iconst X68.here hx rfl (hb hby own_d17_9) (XS.istore X68.here hx rfl (hb hby own_d17_10) rfl (l' := #[rv a, iv 0, iv 0, iv 1, iv 0]) rfl (XS.iload X68.here hx rfl (hb hby own_d17_12) rfl (XS.aloadN X68.here hx rfl (hb hby own_d17_14) rfl rfl kk_)))))))) ?_
  refine own_gG X68 hx hZ hown (own_w hw 49 rfl) e68 F_wordCount_a rfl rfl (hb hby own_d17_15) (fun {T69} X69 e69 => ?_)
  refine own_st (g' := (mkF m 26 #[rv a, iv 0, iv 0, iv 1, iv 0] [(.ref a)])) (fun tt_ kk_ => XS.icmpNo X69.here hx rfl (hb hby own_d17_18) rfl (tlt (by decide : (0 : Int32) < (1 : Int32))).2.1 (XS.iloadN X69.here hx rfl (hb hby own_d17_21) rfl (XS.ifNo X69.here hx rfl (hb hby own_d17_22) rfl ((if0 _ _).trans (feq (by decide : ¬ ((1 : Int32) = (0 : Int32)))).1) (XS.aloadN X69.here hx rfl (hb hby own_d17_25) rfl rfl kk_)))) ?_
  refine own_gG X69 hx hZ hown (own_w hw 56 rfl) e69 F_packed_a rfl rfl (hb hby own_d17_26) (fun {T70} X70 e70 => ?_)
  refine own_st (g' := (mkF m 33 #[rv a, iv 0, iv 0, iv 1, iv 0] [(.int 0), (.ref aP)])) (fun tt_ kk_ => XS.iloadN X70.here hx rfl (hb hby own_d17_29) rfl (XS.iload X70.here hx rfl (hb hby own_d17_30) rfl (XS.iadd X70.here hx rfl (hb hby own_d17_32) rfl kk_))) ?_
  refine own_st (g' := (mkF m 35 #[rv a, iv 0, iv 0, iv 1, iv 0] [(.ref a), (.long q0)])) (fun tt_ kk_ => own_lvJ (g := (mkF m 33 #[rv a, iv 0, iv 0, iv 1, iv 0] [(.int 0), (.ref aP)])) X70 hx hZ e70 V_aP (by decide) rfl rfl rfl (hb hby own_d17_33) tt_ (XS.aloadN X70.here hx rfl (hb hby own_d17_34) rfl rfl kk_)) ?_
  refine own_gG X70 hx hZ hown (own_w hw 63 rfl) e70 F_key_a rfl rfl (hb hby own_d17_35) (fun {T71} X71 e71 => ?_)
  refine own_st (g' := (mkF m 40 #[rv a, iv 0, iv 0, iv 1, iv 0] [(.int 0), (.ref aK), (.long q0)])) (fun tt_ kk_ => XS.iload X71.here hx rfl (hb hby own_d17_38) rfl kk_) ?_
  refine own_st (g' := (mkF m 42 #[rv a, iv 0, iv 0, iv 1, iv 0] [(.int (lcmpW q0 y0))])) (fun tt_ kk_ => own_lvJ (g := (mkF m 40 #[rv a, iv 0, iv 0, iv 1, iv 0] [(.int 0), (.ref aK), (.long q0)])) X71 hx hZ e71 V_aK (by decide) rfl rfl rfl (hb hby own_d17_40) tt_ (XS.lcmp X71.here hx rfl (hb hby own_d17_41) rfl kk_)) ?_
  by_cases hc42 : (lcmpW q0 y0) = (0 : Int32)
  · skip
    refine own_st (g' := (mkF m 15 #[rv a, iv 0, iv 0, iv 1, iv 1] [(.ref a), (.int 1)])) (fun tt_ kk_ => XS.ifNo X71.here hx rfl (hb hby own_d17_42) rfl ((if0 _ _).trans (teq hc42).2) (XS.iconst X71.here hx rfl (hb hby own_d17_45) (XS.goto X71.here hx rfl (pc0 := 46) (pc' := 50) rfl (hb hby own_d17_46) (by decide) (by decide) (XS.istoreN X71.here hx rfl (hb hby own_d17_50) rfl (l' := #[rv a, iv 0, iv 0, iv 1, iv 0]) rfl (XS.iinc X71.here hx rfl (hb hby own_d17_51) rfl (l' := #[rv a, iv 0, iv 0, iv 1, iv 1]) rfl (XS.goto X71.here hx rfl (pc0 := 54) (pc' := 12) rfl (hb hby own_d17_54) (by decide) (by decide) (XS.iload X71.here hx rfl (hb hby own_d17_12) rfl (XS.aloadN X71.here hx rfl (hb hby own_d17_14) rfl rfl kk_)))))))) ?_
    refine own_gG X71 hx hZ hown (own_w hw 49 rfl) e71 F_wordCount_a rfl rfl (hb hby own_d17_15) (fun {T72} X72 e72 => ?_)
    refine own_st (g' := (mkF m 58 #[rv a, iv 0, iv 0, iv 1, iv 1] [(.int 1)])) (fun tt_ kk_ => XS.icmpYes X72.here hx rfl (pc0 := 18) (pc' := 57) rfl (hb hby own_d17_18) rfl (flt (by decide : ¬ ((1 : Int32) < (1 : Int32)))).2.1 (by decide) (by decide) (XS.iloadN X72.here hx rfl (hb hby own_d17_57) rfl kk_)) ?_
    exact own_retN X72 hx hlk (t := .boolean) (Or.inl rfl) hret (hb hby own_d17_58) (by decide) (by decide) (by rw [e72]; exact ⟨(1 : Int32), rfl, N0, rfl, (Or.inr ⟨rfl, (lw_eq _ _).mp hc42⟩)⟩)
  refine own_st (g' := (mkF m 15 #[rv a, iv 0, iv 0, iv 0, iv 1] [(.ref a), (.int 1)])) (fun tt_ kk_ => XS.ifYes X71.here hx rfl (pc0 := 42) (pc' := 49) rfl (hb hby own_d17_42) rfl ((if0 _ _).trans (feq hc42).2) (by decide) (by decide) (XS.iconst X71.here hx rfl (hb hby own_d17_49) (XS.istoreN X71.here hx rfl (hb hby own_d17_50) rfl (l' := #[rv a, iv 0, iv 0, iv 0, iv 0]) rfl (XS.iinc X71.here hx rfl (hb hby own_d17_51) rfl (l' := #[rv a, iv 0, iv 0, iv 0, iv 1]) rfl (XS.goto X71.here hx rfl (pc0 := 54) (pc' := 12) rfl (hb hby own_d17_54) (by decide) (by decide) (XS.iload X71.here hx rfl (hb hby own_d17_12) rfl (XS.aloadN X71.here hx rfl (hb hby own_d17_14) rfl rfl kk_))))))) ?_
  refine own_gG X71 hx hZ hown (own_w hw 49 rfl) e71 F_wordCount_a rfl rfl (hb hby own_d17_15) (fun {T73} X73 e73 => ?_)
  refine own_st (g' := (mkF m 58 #[rv a, iv 0, iv 0, iv 0, iv 1] [(.int 0)])) (fun tt_ kk_ => XS.icmpYes X73.here hx rfl (pc0 := 18) (pc' := 57) rfl (hb hby own_d17_18) rfl (flt (by decide : ¬ ((1 : Int32) < (1 : Int32)))).2.1 (by decide) (by decide) (XS.iloadN X73.here hx rfl (hb hby own_d17_57) rfl kk_)) ?_
  exact own_retN X73 hx hlk (t := .boolean) (Or.inl rfl) hret (hb hby own_d17_58) (by decide) (by decide) (by rw [e73]; exact ⟨(0 : Int32), rfl, N0, rfl, (Or.inl rfl)⟩)
def own_Qlk2A (Z : State) (a : Addr) (hk : Int32) (aP : Addr) (aQ : Addr) (aK : Addr) (ho : Int32) (kaP : ClassId) (q0 : Int64) (q1 : Int64) (kaK : ClassId) (y0 : Int64) (h0 : Heap) (n0 : Nat) (v : Option Value) (h : Heap) (L : List Loc) : Prop := ∃ (rl : Int32), v = some (.int rl) ∧ Fr n0 L ∧ h = h0 ∧ (rl = (-1 : Int32) ∨ (rl = (0 : Int32) ∧ q0 = y0))
theorem own_eflk2A (m : MethodId) (a : Addr) (hk : Int32) : entryFrame m #[(.ref a), (.int hk)] 6 = mkF m 0 #[rv a, iv hk, .unset, .unset, .unset, .unset] [] := by first | (simp [entryFrame, mkF, argsToLocals, Value.category]; done) | rfl
set_option maxRecDepth 65536 in
set_option maxHeartbeats 16000000 in
theorem own_rmlk2A (l : Launch) (Z : State) (a0 : Array Value) (hw : own_HW Z a0) (ws : List Jvm.Cond) (a : Addr) (hk : Int32) (aP : Addr) (aQ : Addr) (aK : Addr) (ho : Int32) (kaP : ClassId) (q0 : Int64) (q1 : Int64) (kaK : ClassId) (y0 : Int64) (h0 : Heap) (n0 : Nat) (Z0 : n0 ≤ h0.size) (E_a : Exa Z h0 a own_z0) (F_packed_a : Fld Z h0 a own_z0 "packed" "[J" (.ref aP)) (F_slots_a : Fld Z h0 a own_z0 "slots" "[I" (.ref aQ)) (F_key_a : Fld Z h0 a own_z0 "key" "[J" (.ref aK)) (F_wordCount_a : Fld Z h0 a own_z0 "wordCount" "I" (.int 1)) (P_aQ : own_AI Z h0 aQ 1024 (own_sl ho)) (V_aP : Arv Z h0 aP kaP .long (1024 : Int32) [(.long q0), (.long q1)] (.long 0)) (V_aK : Arv Z h0 aK kaK .long (1 : Int32) [(.long y0)] (.long 0)) :
    MetFree l (⟨own_z0, "lookUp", "(I)I"⟩ : MethodName) (head1 (Jvm.Cond.code (⟨own_z0, "lookUp", "(I)I"⟩ : MethodName) prog_160_method_8_code 6 (some .int) :: ws) ({ frames := 1, cells := 0, slots := 0, locals := 16 } : Room)) (fun aa UU => aa = #[(.ref a), (.int hk)] ∧ Z.Warmed39 UU.vm ∧ UU.heap = h0) (fun _ _ _ _ _ => True) (fun _ U o U' => ∃ v L, o = .returned v ∧ own_Qlk2A Z a hk aP aQ aK ho kaP q0 q1 kaK y0 h0 n0 v U'.heap L ∧ FrameEnd U o U' L ({ frames := 1, cells := 0, slots := 0, locals := 16 } : Room).cells ({ frames := 1, cells := 0, slots := 0, locals := 16 } : Room).slots) := by
  refine MetFree.of_bodySF (plainFor_of_name own_pn2) hisR ?_
  intro p e s m args below meth c s₁ Bd hml hP hK
  obtain ⟨rfl, hZ, hh⟩ := hP
  have hx := Bd.exec
  have hlk := Bd.notSynchronized
  have hby := Bd.bytes
  have hret := Bd.returns
  have hown := findClass_of_methodNamed Bd.named
  have hnm := (name_of_methodNamed Bd.named Bd.method).1
  have X0 : Stand p l e ({ frames := 1, cells := 0, slots := 0, locals := 16 } : Room) s m #[(.ref a), (.int hk)] below meth c s₁ [] 0 0 := Stand.of_body Bd
  have e0 : s₁.heap = h0 := by rw [← hh, Bd.state]; rfl
  have N0 := Fr.nil n0
  refine own_cast (own_eflk2A m a hk) ?_
  show own_Go p e below s s₁ _ (own_Qlk2A Z a hk aP aQ aK ho kaP q0 q1 kaK y0 h0 n0) 0 0
  refine own_st (g' := (mkF m 1 #[rv a, iv hk, .unset, .unset, .unset, .unset] [(.ref a)])) (fun tt_ kk_ => XS.aloadN X0.here hx rfl (hb hby own_d13_0) rfl rfl kk_) ?_
  refine own_gG X0 hx hZ hown (own_w hw 61 rfl) e0 F_slots_a rfl rfl (hb hby own_d13_1) (fun {T74} X74 e74 => ?_)
  refine own_st (g' := (mkF m 19 #[rv a, iv hk, .unset, .unset, .unset, .unset] [(.ref a)])) (fun tt_ kk_ => XS.ifnonnullYes X74.here hx rfl (pc0 := 4) (pc' := 18) rfl (hb hby own_d13_4) rfl (by decide) (by decide) (XS.aloadN X74.here hx rfl (hb hby own_d13_18) rfl rfl kk_)) ?_
  refine own_gG X74 hx hZ hown (own_w hw 61 rfl) e74 F_slots_a rfl rfl (hb hby own_d13_19) (fun {T75} X75 e75 => ?_)
  refine own_st (g' := (mkF m 38 #[rv a, iv hk, iv 1023, iv (hk &&& (1023 : Int32)), iv (-1), .unset] [])) (fun tt_ kk_ => own_lenI (g := (mkF m 22 #[rv a, iv hk, .unset, .unset, .unset, .unset] [(.ref aQ)])) X75 hx hZ e75 P_aQ (z := (1024 : Int32)) rfl rfl rfl (hb hby own_d13_22) tt_ (XS.iconst X75.here hx rfl (hb hby own_d13_23) (XS.isub X75.here hx rfl (hb hby own_d13_24) rfl (XS.istoreN X75.here hx rfl (hb hby own_d13_25) rfl (l' := #[rv a, iv hk, iv 1023, .unset, .unset, .unset]) rfl (XS.iloadN X75.here hx rfl (hb hby own_d13_26) rfl (XS.iloadN X75.here hx rfl (hb hby own_d13_27) rfl (XS.iand X75.here hx rfl (hb hby own_d13_28) rfl (XS.istoreN X75.here hx rfl (hb hby own_d13_29) rfl (l' := #[rv a, iv hk, iv 1023, iv (hk &&& (1023 : Int32)), .unset, .unset]) rfl (XS.iconst X75.here hx rfl (hb hby own_d13_30) (XS.istore X75.here hx rfl (hb hby own_d13_31) rfl (l' := #[rv a, iv hk, iv 1023, iv (hk &&& (1023 : Int32)), iv (-1), .unset]) rfl (XS.iload X75.here hx rfl (hb hby own_d13_33) rfl (XS.ifNo X75.here hx rfl (hb hby own_d13_35) rfl ((if0 _ _).trans (tlt (by decide : (-1 : Int32) < (0 : Int32))).2.1) kk_)))))))))))) ?_
  refine own_st (g' := (mkF m 39 #[rv a, iv hk, iv 1023, iv (hk &&& (1023 : Int32)), iv (-1), .unset] [(.ref a)])) (fun tt_ kk_ => XS.aloadN X75.here hx rfl (hb hby own_d13_38) rfl rfl kk_) ?_
  refine own_gG X75 hx hZ hown (own_w hw 61 rfl) e75 F_slots_a rfl rfl (hb hby own_d13_39) (fun {T76} X76 e76 => ?_)
  refine own_st (g' := (mkF m 43 #[rv a, iv hk, iv 1023, iv (hk &&& (1023 : Int32)), iv (-1), .unset] [(.int (hk &&& (1023 : Int32))), (.ref aQ)])) (fun tt_ kk_ => XS.iloadN X76.here hx rfl (hb hby own_d13_42) rfl kk_) ?_
  refine own_st (g' := (mkF m 44 #[rv a, iv hk, iv 1023, iv (hk &&& (1023 : Int32)), iv (-1), .unset] [(.int ((own_sl ho) ((hk &&& (1023 : Int32))).toNatClampNeg))])) (fun tt_ kk_ => own_ldI (g := (mkF m 43 #[rv a, iv hk, iv 1023, iv (hk &&& (1023 : Int32)), iv (-1), .unset] [(.int (hk &&& (1023 : Int32))), (.ref aQ)])) X76 hx hZ e76 P_aQ (own_ix0 _) (own_ix1 _) rfl rfl (hb hby own_d13_43) tt_ kk_) ?_
  by_cases hc44 : ((own_sl ho) ((hk &&& (1023 : Int32))).toNatClampNeg) = (0 : Int32)
  · skip
    refine own_st (g' := (mkF m 101 #[rv a, iv hk, iv 1023, iv (hk &&& (1023 : Int32)), iv (-1), .unset] [(.int (-1))])) (fun tt_ kk_ => XS.ifYes X76.here hx rfl (pc0 := 44) (pc' := 99) rfl (hb hby own_d13_44) rfl ((if0 _ _).trans (teq hc44).1) (by decide) (by decide) (XS.iload X76.here hx rfl (hb hby own_d13_99) rfl kk_)) ?_
    exact own_retI X76 hx hlk hret (hb hby own_d13_101) (by decide) (by decide) (by rw [e76]; exact ⟨(-1 : Int32), rfl, N0, rfl, (Or.inl rfl)⟩)
  refine own_st (g' := (mkF m 48 #[rv a, iv hk, iv 1023, iv (hk &&& (1023 : Int32)), iv (-1), .unset] [(.ref a)])) (fun tt_ kk_ => XS.ifNo X76.here hx rfl (hb hby own_d13_44) rfl ((if0 _ _).trans (feq hc44).1) (XS.aloadN X76.here hx rfl (hb hby own_d13_47) rfl rfl kk_)) ?_
  refine own_gG X76 hx hZ hown (own_w hw 61 rfl) e76 F_slots_a rfl rfl (hb hby own_d13_48) (fun {T77} X77 e77 => ?_)
  refine own_st (g' := (mkF m 52 #[rv a, iv hk, iv 1023, iv (hk &&& (1023 : Int32)), iv (-1), .unset] [(.int (hk &&& (1023 : Int32))), (.ref aQ)])) (fun tt_ kk_ => XS.iloadN X77.here hx rfl (hb hby own_d13_51) rfl kk_) ?_
  refine own_st (g' := (mkF m 60 #[rv a, iv hk, iv 1023, iv (hk &&& (1023 : Int32)), iv (-1), iv ((((own_sl ho) ((hk &&& (1023 : Int32))).toNatClampNeg) &&& (1023 : Int32)) - (1 : Int32))] [(.ref a)])) (fun tt_ kk_ => own_ldI (g := (mkF m 52 #[rv a, iv hk, iv 1023, iv (hk &&& (1023 : Int32)), iv (-1), .unset] [(.int (hk &&& (1023 : Int32))), (.ref aQ)])) X77 hx hZ e77 P_aQ (own_ix0 _) (own_ix1 _) rfl rfl (hb hby own_d13_52) tt_ (XS.iloadN X77.here hx rfl (hb hby own_d13_53) rfl (XS.iand X77.here hx rfl (hb hby own_d13_54) rfl (XS.iconst X77.here hx rfl (hb hby own_d13_55) (XS.isub X77.here hx rfl (hb hby own_d13_56) rfl (XS.istore X77.here hx rfl (hb hby own_d13_57) rfl (l' := #[rv a, iv hk, iv 1023, iv (hk &&& (1023 : Int32)), iv (-1), iv ((((own_sl ho) ((hk &&& (1023 : Int32))).toNatClampNeg) &&& (1023 : Int32)) - (1 : Int32))]) rfl (XS.aloadN X77.here hx rfl (hb hby own_d13_59) rfl rfl kk_))))))) ?_
  rw [show ((((own_sl ho) ((hk &&& (1023 : Int32))).toNatClampNeg) &&& (1023 : Int32)) - (1 : Int32)) = (0 : Int32) from own_sl1 hc44]
  refine own_gG X77 hx hZ hown (own_w hw 61 rfl) e77 F_slots_a rfl rfl (hb hby own_d13_60) (fun {T78} X78 e78 => ?_)
  refine own_st (g' := (mkF m 64 #[rv a, iv hk, iv 1023, iv (hk &&& (1023 : Int32)), iv (-1), iv 0] [(.int (hk &&& (1023 : Int32))), (.ref aQ)])) (fun tt_ kk_ => XS.iloadN X78.here hx rfl (hb hby own_d13_63) rfl kk_) ?_
  refine own_st (g' := (mkF m 74 #[rv a, iv hk, iv 1023, iv (hk &&& (1023 : Int32)), iv (-1), iv 0] [(.int (hk &&& (-1024 : Int32))), (.int (((own_sl ho) ((hk &&& (1023 : Int32))).toNatClampNeg) &&& (-1024 : Int32)))])) (fun tt_ kk_ => own_ldI (g := (mkF m 64 #[rv a, iv hk, iv 1023, iv (hk &&& (1023 : Int32)), iv (-1), iv 0] [(.int (hk &&& (1023 : Int32))), (.ref aQ)])) X78 hx hZ e78 P_aQ (own_ix0 _) (own_ix1 _) rfl rfl (hb hby own_d13_64) tt_ (XS.iloadN X78.here hx rfl (hb hby own_d13_65) rfl (XS.iconst X78.here hx rfl (hb hby own_d13_66) (XS.ixor X78.here hx rfl (hb hby own_d13_67) rfl (XS.iand X78.here hx rfl (hb hby own_d13_68) rfl (XS.iloadN X78.here hx rfl (hb hby own_d13_69) rfl (XS.iloadN X78.here hx rfl (hb hby own_d13_70) rfl (XS.iconst X78.here hx rfl (hb hby own_d13_71) (XS.ixor X78.here hx rfl (hb hby own_d13_72) rfl (XS.iand X78.here hx rfl (hb hby own_d13_73) rfl kk_)))))))))) ?_
  by_cases hc74 : (((own_sl ho) ((hk &&& (1023 : Int32))).toNatClampNeg) &&& (-1024 : Int32)) = (hk &&& (-1024 : Int32))
  · skip
    refine own_st (g' := (mkF m 80 #[rv a, iv hk, iv 1023, iv (hk &&& (1023 : Int32)), iv (-1), iv 0] [(.int 0), (.ref a)])) (fun tt_ kk_ => XS.icmpNo X78.here hx rfl (hb hby own_d13_74) rfl (teq hc74).2 (XS.aloadN X78.here hx rfl (hb hby own_d13_77) rfl rfl (XS.iload X78.here hx rfl (hb hby own_d13_78) rfl kk_))) ?_
    obtain ⟨cq79, q79, q79'⟩ := E_a.cell
    obtain ⟨_, _, ⟨T79, L79, k79, n79⟩, -, X79, ⟨Lc79, hQ79, l79, y79, z79⟩, st79⟩ := X78.privateBack hx (y := (⟨own_z0, "matches", "(I)Z"⟩ : MethodName)) hown (mvT hZ (own_w hw 107 rfl)) (mvT hZ (own_w hw 108 rfl)) (own_sel (mvT hZ (own_w hw 108 rfl)) (mvP hZ (own_w hw 109 rfl)) (mvT hZ (own_w hw 12 rfl)) (by decide)) (Cond.privateMethod_at (mvP hZ (own_w hw 109 rfl) (args := #[]))) (mvT hZ (own_w hw 110 rfl)) (by decide) (backOf (W := 0) (own_rmmatA l Z a0 hw [] a aP aK kaP q0 q1 kaK y0 h0 n0 Z0 F_packed_a F_key_a F_wordCount_a V_aP V_aK) hZ (own_w hw 110 rfl) (own_w hw 13 rfl) (by decide) (by decide)) (g := (mkF m 80 #[rv a, iv hk, iv 1023, iv (hk &&& (1023 : Int32)), iv (-1), iv 0] [(.int 0), (.ref a)])) rfl (by rw [hml]; rfl) (Steps.refl _) (a := a) (by rw [e78]; exact q79) q79' (argsL := [(.int 0)]) (rest := []) (lenOf own_pd1 rfl) rfl (by show 2 * 0 + _ ≤ _; exact Nat.le_of_eq rfl) (hb hby own_d13_80) (fun _ _ => ⟨rfl, e78, (by decide : 0 + 0 ≤ _), (by decide : 0 + 0 ≤ _)⟩)
    dsimp only [Pt.U, Pt.locs, Pt.cells, Pt.slots] at X79 l79 y79 z79 st79 hQ79
    rw [l79, y79, z79] at X79
    obtain ⟨rz_79, rfl, N79q, e79, f79_0⟩ := hQ79
    have N79 := Fr.app N0 N79q
    refine own_st (fun t k => st79.trans k) ?_
    rcases f79_0 with rfl | ⟨rfl, em0⟩
    · skip
      refine own_st (g' := (mkF m 39 #[rv a, iv hk, iv 1023, iv (((hk &&& (1023 : Int32)) + (1 : Int32)) &&& (1023 : Int32)), iv (-1), iv 0] [(.ref a)])) (fun tt_ kk_ => XS.ifYes X79.here hx rfl (pc0 := 83) (pc' := 90) rfl (hb hby own_d13_83) rfl ((if0 _ _).trans (teq (by decide : (0 : Int32) = (0 : Int32))).1) (by decide) (by decide) (XS.iloadN X79.here hx rfl (hb hby own_d13_90) rfl (XS.iconst X79.here hx rfl (hb hby own_d13_91) (XS.iadd X79.here hx rfl (hb hby own_d13_92) rfl (XS.iloadN X79.here hx rfl (hb hby own_d13_93) rfl (XS.iand X79.here hx rfl (hb hby own_d13_94) rfl (XS.istoreN X79.here hx rfl (hb hby own_d13_95) rfl (l' := #[rv a, iv hk, iv 1023, iv (((hk &&& (1023 : Int32)) + (1 : Int32)) &&& (1023 : Int32)), iv (-1), iv 0]) rfl (XS.goto X79.here hx rfl (pc0 := 96) (pc' := 33) rfl (hb hby own_d13_96) (by decide) (by decide) (XS.iload X79.here hx rfl (hb hby own_d13_33) rfl (XS.ifNo X79.here hx rfl (hb hby own_d13_35) rfl ((if0 _ _).trans (tlt (by decide : (-1 : Int32) < (0 : Int32))).2.1) (XS.aloadN X79.here hx rfl (hb hby own_d13_38) rfl rfl kk_))))))))))) ?_
      refine own_gG X79 hx hZ hown (own_w hw 61 rfl) e79 F_slots_a rfl rfl (hb hby own_d13_39) (fun {T80} X80 e80 => ?_)
      refine own_st (g' := (mkF m 43 #[rv a, iv hk, iv 1023, iv (((hk &&& (1023 : Int32)) + (1 : Int32)) &&& (1023 : Int32)), iv (-1), iv 0] [(.int (((hk &&& (1023 : Int32)) + (1 : Int32)) &&& (1023 : Int32))), (.ref aQ)])) (fun tt_ kk_ => XS.iloadN X80.here hx rfl (hb hby own_d13_42) rfl kk_) ?_
      refine own_st (g' := (mkF m 44 #[rv a, iv hk, iv 1023, iv (((hk &&& (1023 : Int32)) + (1 : Int32)) &&& (1023 : Int32)), iv (-1), iv 0] [(.int ((own_sl ho) ((((hk &&& (1023 : Int32)) + (1 : Int32)) &&& (1023 : Int32))).toNatClampNeg))])) (fun tt_ kk_ => own_ldI (g := (mkF m 43 #[rv a, iv hk, iv 1023, iv (((hk &&& (1023 : Int32)) + (1 : Int32)) &&& (1023 : Int32)), iv (-1), iv 0] [(.int (((hk &&& (1023 : Int32)) + (1 : Int32)) &&& (1023 : Int32))), (.ref aQ)])) X80 hx hZ e80 P_aQ (own_ix0 _) (own_ix1 _) rfl rfl (hb hby own_d13_43) tt_ kk_) ?_
      refine own_st (g' := (mkF m 101 #[rv a, iv hk, iv 1023, iv (((hk &&& (1023 : Int32)) + (1 : Int32)) &&& (1023 : Int32)), iv (-1), iv 0] [(.int (-1))])) (fun tt_ kk_ => XS.ifYes X80.here hx rfl (pc0 := 44) (pc' := 99) rfl (hb hby own_d13_44) rfl ((if0 _ _).trans (teq (own_sl2 hc44)).1) (by decide) (by decide) (XS.iload X80.here hx rfl (hb hby own_d13_99) rfl kk_)) ?_
      exact own_retI X80 hx hlk hret (hb hby own_d13_101) (by decide) (by decide) (by rw [e80]; exact ⟨(-1 : Int32), rfl, N79, rfl, (Or.inl rfl)⟩)
    · skip
      refine own_st (g' := (mkF m 99 #[rv a, iv hk, iv 1023, iv (((hk &&& (1023 : Int32)) + (1 : Int32)) &&& (1023 : Int32)), iv 0, iv 0] [])) (fun tt_ kk_ => XS.ifNo X79.here hx rfl (hb hby own_d13_83) rfl ((if0 _ _).trans (feq (by decide : ¬ ((1 : Int32) = (0 : Int32)))).1) (XS.iload X79.here hx rfl (hb hby own_d13_86) rfl (XS.istore X79.here hx rfl (hb hby own_d13_88) rfl (l' := #[rv a, iv hk, iv 1023, iv (hk &&& (1023 : Int32)), iv 0, iv 0]) rfl (XS.iloadN X79.here hx rfl (hb hby own_d13_90) rfl (XS.iconst X79.here hx rfl (hb hby own_d13_91) (XS.iadd X79.here hx rfl (hb hby own_d13_92) rfl (XS.iloadN X79.here hx rfl (hb hby own_d13_93) rfl (XS.iand X79.here hx rfl (hb hby own_d13_94) rfl (XS.istoreN X79.here hx rfl (hb hby own_d13_95) rfl (l' := #[rv a, iv hk, iv 1023, iv (((hk &&& (1023 : Int32)) + (1 : Int32)) &&& (1023 : Int32)), iv 0, iv 0]) rfl (XS.goto X79.here hx rfl (pc0 := 96) (pc' := 33) rfl (hb hby own_d13_96) (by decide) (by decide) (XS.iload X79.here hx rfl (hb hby own_d13_33) rfl (XS.ifYes X79.here hx rfl (pc0 := 35) (pc' := 99) rfl (hb hby own_d13_35) rfl ((if0 _ _).trans (flt (by decide : ¬ ((0 : Int32) < (0 : Int32)))).2.1) (by decide) (by decide) kk_)))))))))))) ?_
      refine own_st (g' := (mkF m 101 #[rv a, iv hk, iv 1023, iv (((hk &&& (1023 : Int32)) + (1 : Int32)) &&& (1023 : Int32)), iv 0, iv 0] [(.int 0)])) (fun tt_ kk_ => XS.iload X79.here hx rfl (hb hby own_d13_99) rfl kk_) ?_
      exact own_retI X79 hx hlk hret (hb hby own_d13_101) (by decide) (by decide) (by rw [e79]; exact ⟨(0 : Int32), rfl, N79, rfl, (Or.inr ⟨rfl, em0⟩)⟩)
  refine own_st (g' := (mkF m 39 #[rv a, iv hk, iv 1023, iv (((hk &&& (1023 : Int32)) + (1 : Int32)) &&& (1023 : Int32)), iv (-1), iv 0] [(.ref a)])) (fun tt_ kk_ => XS.icmpYes X78.here hx rfl (pc0 := 74) (pc' := 90) rfl (hb hby own_d13_74) rfl (feq hc74).2 (by decide) (by decide) (XS.iloadN X78.here hx rfl (hb hby own_d13_90) rfl (XS.iconst X78.here hx rfl (hb hby own_d13_91) (XS.iadd X78.here hx rfl (hb hby own_d13_92) rfl (XS.iloadN X78.here hx rfl (hb hby own_d13_93) rfl (XS.iand X78.here hx rfl (hb hby own_d13_94) rfl (XS.istoreN X78.here hx rfl (hb hby own_d13_95) rfl (l' := #[rv a, iv hk, iv 1023, iv (((hk &&& (1023 : Int32)) + (1 : Int32)) &&& (1023 : Int32)), iv (-1), iv 0]) rfl (XS.goto X78.here hx rfl (pc0 := 96) (pc' := 33) rfl (hb hby own_d13_96) (by decide) (by decide) (XS.iload X78.here hx rfl (hb hby own_d13_33) rfl (XS.ifNo X78.here hx rfl (hb hby own_d13_35) rfl ((if0 _ _).trans (tlt (by decide : (-1 : Int32) < (0 : Int32))).2.1) (XS.aloadN X78.here hx rfl (hb hby own_d13_38) rfl rfl kk_))))))))))) ?_
  refine own_gG X78 hx hZ hown (own_w hw 61 rfl) e78 F_slots_a rfl rfl (hb hby own_d13_39) (fun {T81} X81 e81 => ?_)
  refine own_st (g' := (mkF m 43 #[rv a, iv hk, iv 1023, iv (((hk &&& (1023 : Int32)) + (1 : Int32)) &&& (1023 : Int32)), iv (-1), iv 0] [(.int (((hk &&& (1023 : Int32)) + (1 : Int32)) &&& (1023 : Int32))), (.ref aQ)])) (fun tt_ kk_ => XS.iloadN X81.here hx rfl (hb hby own_d13_42) rfl kk_) ?_
  refine own_st (g' := (mkF m 44 #[rv a, iv hk, iv 1023, iv (((hk &&& (1023 : Int32)) + (1 : Int32)) &&& (1023 : Int32)), iv (-1), iv 0] [(.int ((own_sl ho) ((((hk &&& (1023 : Int32)) + (1 : Int32)) &&& (1023 : Int32))).toNatClampNeg))])) (fun tt_ kk_ => own_ldI (g := (mkF m 43 #[rv a, iv hk, iv 1023, iv (((hk &&& (1023 : Int32)) + (1 : Int32)) &&& (1023 : Int32)), iv (-1), iv 0] [(.int (((hk &&& (1023 : Int32)) + (1 : Int32)) &&& (1023 : Int32))), (.ref aQ)])) X81 hx hZ e81 P_aQ (own_ix0 _) (own_ix1 _) rfl rfl (hb hby own_d13_43) tt_ kk_) ?_
  refine own_st (g' := (mkF m 101 #[rv a, iv hk, iv 1023, iv (((hk &&& (1023 : Int32)) + (1 : Int32)) &&& (1023 : Int32)), iv (-1), iv 0] [(.int (-1))])) (fun tt_ kk_ => XS.ifYes X81.here hx rfl (pc0 := 44) (pc' := 99) rfl (hb hby own_d13_44) rfl ((if0 _ _).trans (teq (own_sl2 hc44)).1) (by decide) (by decide) (XS.iload X81.here hx rfl (hb hby own_d13_99) rfl kk_)) ?_
  exact own_retI X81 hx hlk hret (hb hby own_d13_101) (by decide) (by decide) (by rw [e81]; exact ⟨(-1 : Int32), rfl, N0, rfl, (Or.inl rfl)⟩)
theorem own_d14_0 : own_D own_b14 0 (.aload_n 0) 1 := by decide +kernel
theorem own_d14_1 : own_D own_b14 1 (.getfield 84) 3 := by decide +kernel
theorem own_d14_4 : own_D own_b14 4 (.ldc 120) 2 := by decide +kernel
theorem own_d14_6 : own_D own_b14 6 (.if_icmp .ne 13) 3 := by decide +kernel
theorem own_d14_19 : own_D own_b14 19 (.aload_n 0) 1 := by decide +kernel
theorem own_d14_20 : own_D own_b14 20 (.getfield 84) 3 := by decide +kernel
theorem own_d14_23 : own_D own_b14 23 (.iconst 1) 1 := by decide +kernel
theorem own_d14_24 : own_D own_b14 24 .iadd 1 := by decide +kernel
theorem own_d14_25 : own_D own_b14 25 .i2l 1 := by decide +kernel
theorem own_d14_26 : own_D own_b14 26 (.aload_n 0) 1 := by decide +kernel
theorem own_d14_27 : own_D own_b14 27 (.getfield 54) 3 := by decide +kernel
theorem own_d14_30 : own_D own_b14 30 .i2l 1 := by decide +kernel
theorem own_d14_31 : own_D own_b14 31 .lmul 1 := by decide +kernel
theorem own_d14_32 : own_D own_b14 32 (.lstore_n 2) 1 := by decide +kernel
theorem own_d14_33 : own_D own_b14 33 (.lload_n 2) 1 := by decide +kernel
theorem own_d14_34 : own_D own_b14 34 (.aload_n 0) 1 := by decide +kernel
theorem own_d14_35 : own_D own_b14 35 (.getfield 70) 3 := by decide +kernel
theorem own_d14_38 : own_D own_b14 38 .arraylength 1 := by decide +kernel
theorem own_d14_39 : own_D own_b14 39 .i2l 1 := by decide +kernel
theorem own_d14_40 : own_D own_b14 40 .lcmp 1 := by decide +kernel
theorem own_d14_41 : own_D own_b14 41 (.ifCond .le 35) 3 := by decide +kernel
theorem own_d14_76 : own_D own_b14 76 (.aload_n 0) 1 := by decide +kernel
theorem own_d14_77 : own_D own_b14 77 (.getfield 80) 3 := by decide +kernel
theorem own_d14_80 : own_D own_b14 80 (.iconst 0) 1 := by decide +kernel
theorem own_d14_81 : own_D own_b14 81 (.aload_n 0) 1 := by decide +kernel
theorem own_d14_82 : own_D own_b14 82 (.getfield 70) 3 := by decide +kernel
theorem own_d14_85 : own_D own_b14 85 (.aload_n 0) 1 := by decide +kernel
theorem own_d14_86 : own_D own_b14 86 (.getfield 84) 3 := by decide +kernel
theorem own_d14_89 : own_D own_b14 89 (.aload_n 0) 1 := by decide +kernel
theorem own_d14_90 : own_D own_b14 90 (.getfield 54) 3 := by decide +kernel
theorem own_d14_93 : own_D own_b14 93 .imul 1 := by decide +kernel
theorem own_d14_94 : own_D own_b14 94 (.aload_n 0) 1 := by decide +kernel
theorem own_d14_95 : own_D own_b14 95 (.getfield 54) 3 := by decide +kernel
theorem own_d14_98 : own_D own_b14 98 (.invokestatic 130) 3 := by decide +kernel
theorem own_d14_101 : own_D own_b14 101 (.aload_n 0) 1 := by decide +kernel
theorem own_d14_102 : own_D own_b14 102 (.getfield 84) 3 := by decide +kernel
theorem own_d14_105 : own_D own_b14 105 (.istore 4) 2 := by decide +kernel
theorem own_d14_107 : own_D own_b14 107 (.aload_n 0) 1 := by decide +kernel
theorem own_d14_108 : own_D own_b14 108 .dup 1 := by decide +kernel
theorem own_d14_109 : own_D own_b14 109 (.getfield 84) 3 := by decide +kernel
theorem own_d14_112 : own_D own_b14 112 (.iconst 1) 1 := by decide +kernel
theorem own_d14_113 : own_D own_b14 113 .iadd 1 := by decide +kernel
theorem own_d14_114 : own_D own_b14 114 (.putfield 84) 3 := by decide +kernel
theorem own_d14_117 : own_D own_b14 117 (.aload_n 0) 1 := by decide +kernel
theorem own_d14_118 : own_D own_b14 118 (.getfield 84) 3 := by decide +kernel
theorem own_d14_121 : own_D own_b14 121 (.aload_n 0) 1 := by decide +kernel
theorem own_d14_122 : own_D own_b14 122 (.getfield 77) 3 := by decide +kernel
theorem own_d14_125 : own_D own_b14 125 .arraylength 1 := by decide +kernel
theorem own_d14_126 : own_D own_b14 126 (.iconst 4) 1 := by decide +kernel
theorem own_d14_127 : own_D own_b14 127 .idiv 1 := by decide +kernel
theorem own_d14_128 : own_D own_b14 128 (.iconst 3) 1 := by decide +kernel
theorem own_d14_129 : own_D own_b14 129 .imul 1 := by decide +kernel
theorem own_d14_130 : own_D own_b14 130 (.if_icmp .le 17) 3 := by decide +kernel
theorem own_d14_147 : own_D own_b14 147 (.iload 4) 2 := by decide +kernel
theorem own_d14_149 : own_D own_b14 149 (.iload_n 1) 1 := by decide +kernel
theorem own_d14_150 : own_D own_b14 150 (.aload_n 0) 1 := by decide +kernel
theorem own_d14_151 : own_D own_b14 151 (.getfield 77) 3 := by decide +kernel
theorem own_d14_154 : own_D own_b14 154 (.invokestatic 136) 3 := by decide +kernel
theorem own_d14_157 : own_D own_b14 157 (.iload 4) 2 := by decide +kernel
theorem own_d14_159 : own_D own_b14 159 .ireturn 1 := by decide +kernel
theorem own_pd3 : parseMethodDescriptor "(JJ)J" = some ⟨[.long, .long], some .long⟩ := by decide +kernel
theorem own_pd4 : parseMethodDescriptor "(Ljava/lang/Object;ILjava/lang/Object;II)V" = some ⟨[(.object "java/lang/Object"), .int, (.object "java/lang/Object"), .int, .int], none⟩ := by decide +kernel
theorem own_pd5 : parseMethodDescriptor "(II[I)V" = some ⟨[.int, .int, (.array .int)], none⟩ := by decide +kernel
def own_QappA1 (Z : State) (a : Addr) (hk : Int32) (aL : Addr) (aS : Addr) (aM : Addr) (aW : Addr) (aH : Addr) (aP : Addr) (aQ : Addr) (aK : Addr) (kaP : ClassId) (q0 : Int64) (q1 : Int64) (kaK : ClassId) (y0 : Int64) (h0 : Heap) (n0 : Nat) (v : Option Value) (h : Heap) (L : List Loc) : Prop := v = some (.int 0) ∧ Fr n0 L ∧ Keep h0 h [a, aP, aQ] ∧ Fld Z h a own_z0 "lows" "[I" (.ref aL) ∧ Fld Z h a own_z0 "spans" "[J" (.ref aS) ∧ Fld Z h a own_z0 "masks" "[J" (.ref aM) ∧ Fld Z h a own_z0 "words" "[I" (.ref aW) ∧ Fld Z h a own_z0 "shifts" "[I" (.ref aH) ∧ Fld Z h a own_z0 "packed" "[J" (.ref aP) ∧ Fld Z h a own_z0 "slots" "[I" (.ref aQ) ∧ Fld Z h a own_z0 "key" "[J" (.ref aK) ∧ Fld Z h a own_z0 "wordCount" "I" (.int 1) ∧ Fld Z h a own_z0 "size" "I" (.int 1) ∧ Arv Z h aP kaP .long (1024 : Int32) [(.long y0), (.long q1)] (.long 0) ∧ own_AI Z h aQ 1024 (own_sl hk)
theorem own_efappA1 (m : MethodId) (a : Addr) (hk : Int32) : entryFrame m #[(.ref a), (.int hk)] 5 = mkF m 0 #[rv a, iv hk, .unset, .unset, .unset] [] := by first | (simp [entryFrame, mkF, argsToLocals, Value.category]; done) | rfl
set_option maxRecDepth 65536 in
set_option maxHeartbeats 16000000 in
theorem own_rmappA1 (l : Launch) (Z : State) (a0 : Array Value) (hw : own_HW Z a0) (ws : List Jvm.Cond) (a : Addr) (hk : Int32) (aL : Addr) (aS : Addr) (aM : Addr) (aW : Addr) (aH : Addr) (aP : Addr) (aQ : Addr) (aK : Addr) (kaP : ClassId) (q0 : Int64) (q1 : Int64) (kaK : ClassId) (y0 : Int64) (h0 : Heap) (n0 : Nat) (Z0 : n0 ≤ h0.size) (E_a : Exa Z h0 a own_z0) (F_lows_a : Fld Z h0 a own_z0 "lows" "[I" (.ref aL)) (F_spans_a : Fld Z h0 a own_z0 "spans" "[J" (.ref aS)) (F_masks_a : Fld Z h0 a own_z0 "masks" "[J" (.ref aM)) (F_words_a : Fld Z h0 a own_z0 "words" "[I" (.ref aW)) (F_shifts_a : Fld Z h0 a own_z0 "shifts" "[I" (.ref aH)) (F_packed_a : Fld Z h0 a own_z0 "packed" "[J" (.ref aP)) (F_slots_a : Fld Z h0 a own_z0 "slots" "[I" (.ref aQ)) (F_key_a : Fld Z h0 a own_z0 "key" "[J" (.ref aK)) (F_wordCount_a : Fld Z h0 a own_z0 "wordCount" "I" (.int 1)) (F_size_a : Fld Z h0 a own_z0 "size" "I" (.int 0)) (P_aQ : own_AI Z h0 aQ 1024 (fun _ => 0)) (V_aP : Arv Z h0 aP kaP .long (1024 : Int32) [(.long q0), (.long q1)] (.long 0)) (V_aK : Arv Z h0 aK kaK .long (1 : Int32) [(.long y0)] (.long 0)) (ne_a_aP : a ≠ aP) (ne_a_aQ : a ≠ aQ) (ne_aK_aP : aK ≠ aP) (ne_aK_aQ : aK ≠ aQ) (ne_aK_a : aK ≠ a) (ne_aP_aQ : aP ≠ aQ) (g_a : n0 ≤ a) (g_aP : n0 ≤ aP) (g_aQ : n0 ≤ aQ) :
    MetFree l (⟨own_z0, "append", "(I)I"⟩ : MethodName) (head1 (Jvm.Cond.code (⟨own_z0, "append", "(I)I"⟩ : MethodName) prog_160_method_12_code 5 (some .int) :: ws) ({ frames := 1, cells := 0, slots := 0, locals := 18 } : Room)) (fun aa UU => aa = #[(.ref a), (.int hk)] ∧ Z.Warmed39 UU.vm ∧ UU.heap = h0) (fun _ _ _ _ _ => True) (fun _ U o U' => ∃ v L, o = .returned v ∧ own_QappA1 Z a hk aL aS aM aW aH aP aQ aK kaP q0 q1 kaK y0 h0 n0 v U'.heap L ∧ FrameEnd U o U' L ({ frames := 1, cells := 0, slots := 0, locals := 18 } : Room).cells ({ frames := 1, cells := 0, slots := 0, locals := 18 } : Room).slots) := by
  refine MetFree.of_bodySF (plainFor_of_name own_pn2) hisR ?_
  intro p e s m args below meth c s₁ Bd hml hP hK
  obtain ⟨rfl, hZ, hh⟩ := hP
  have hx := Bd.exec
  have hlk := Bd.notSynchronized
  have hby := Bd.bytes
  have hret := Bd.returns
  have hown := findClass_of_methodNamed Bd.named
  have hnm := (name_of_methodNamed Bd.named Bd.method).1
  have X0 : Stand p l e ({ frames := 1, cells := 0, slots := 0, locals := 18 } : Room) s m #[(.ref a), (.int hk)] below meth c s₁ [] 0 0 := Stand.of_body Bd
  have e0 : s₁.heap = h0 := by rw [← hh, Bd.state]; rfl
  have N0 := Fr.nil n0
  refine own_cast (own_efappA1 m a hk) ?_
  show own_Go p e below s s₁ _ (own_QappA1 Z a hk aL aS aM aW aH aP aQ aK kaP q0 q1 kaK y0 h0 n0) 0 0
  have K0 : Keep h0 h0 [a, aP, aQ] := Keep.refl _ _
  refine own_st (g' := (mkF m 1 #[rv a, iv hk, .unset, .unset, .unset] [(.ref a)])) (fun tt_ kk_ => XS.aloadN X0.here hx rfl (hb hby own_d14_0) rfl rfl kk_) ?_
  refine own_gG X0 hx hZ hown (own_w hw 92 rfl) e0 F_size_a rfl rfl (hb hby own_d14_1) (fun {T82} X82 e82 => ?_)
  refine own_st (g' := (mkF m 20 #[rv a, iv hk, .unset, .unset, .unset] [(.ref a)])) (fun tt_ kk_ => X82.ldcInt hx hown (mvT hZ (own_w hw 94 rfl)) (g := (mkF m 4 #[rv a, iv hk, .unset, .unset, .unset] [(.int 0)])) rfl (hb hby own_d14_4) _ (XS.icmpYes X82.here hx rfl (pc0 := 6) (pc' := 19) rfl (hb hby own_d14_6) rfl (feq (by decide : ¬ ((0 : Int32) = (2147483646 : Int32)))).2 (by decide) (by decide) (XS.aloadN X82.here hx rfl (hb hby own_d14_19) rfl rfl kk_))) ?_
  refine own_gG X82 hx hZ hown (own_w hw 92 rfl) e82 F_size_a rfl rfl (hb hby own_d14_20) (fun {T83} X83 e83 => ?_)
  refine own_st (g' := (mkF m 27 #[rv a, iv hk, .unset, .unset, .unset] [(.ref a), (.long ((1 : Int32).toInt64))])) (fun tt_ kk_ => XS.iconst X83.here hx rfl (hb hby own_d14_23) (XS.iadd X83.here hx rfl (hb hby own_d14_24) rfl (XS.i2l X83.here hx rfl (hb hby own_d14_25) rfl (XS.aloadN X83.here hx rfl (hb hby own_d14_26) rfl rfl kk_)))) ?_
  refine own_gG X83 hx hZ hown (own_w hw 49 rfl) e83 F_wordCount_a rfl rfl (hb hby own_d14_27) (fun {T84} X84 e84 => ?_)
  refine own_st (g' := (mkF m 35 #[rv a, iv hk, .val (.long (((1 : Int32).toInt64) * ((1 : Int32).toInt64))), .second, .unset] [(.ref a), (.long (((1 : Int32).toInt64) * ((1 : Int32).toInt64)))])) (fun tt_ kk_ => XS.i2l X84.here hx rfl (hb hby own_d14_30) rfl (XS.lmul X84.here hx rfl (hb hby own_d14_31) rfl (XS.lstoreN X84.here hx rfl (hb hby own_d14_32) rfl (l' := #[rv a, iv hk, .val (.long (((1 : Int32).toInt64) * ((1 : Int32).toInt64))), .second, .unset]) rfl (XS.lloadN X84.here hx rfl (hb hby own_d14_33) rfl (XS.aloadN X84.here hx rfl (hb hby own_d14_34) rfl rfl kk_))))) ?_
  refine own_gG X84 hx hZ hown (own_w hw 56 rfl) e84 F_packed_a rfl rfl (hb hby own_d14_35) (fun {T85} X85 e85 => ?_)
  refine own_st (g' := (mkF m 41 #[rv a, iv hk, .val (.long (((1 : Int32).toInt64) * ((1 : Int32).toInt64))), .second, .unset] [(.int (lcmpW (((1 : Int32).toInt64) * ((1 : Int32).toInt64)) ((1024 : Int32).toInt64)))])) (fun tt_ kk_ => own_lnV (g := (mkF m 38 #[rv a, iv hk, .val (.long (((1 : Int32).toInt64) * ((1 : Int32).toInt64))), .second, .unset] [(.ref aP), (.long (((1 : Int32).toInt64) * ((1 : Int32).toInt64)))])) X85 hx hZ e85 V_aP rfl rfl (hb hby own_d14_38) tt_ (XS.i2l X85.here hx rfl (hb hby own_d14_39) rfl (XS.lcmp X85.here hx rfl (hb hby own_d14_40) rfl kk_))) ?_
  refine own_st (g' := (mkF m 77 #[rv a, iv hk, .val (.long (((1 : Int32).toInt64) * ((1 : Int32).toInt64))), .second, .unset] [(.ref a)])) (fun tt_ kk_ => XS.ifYes X85.here hx rfl (pc0 := 41) (pc' := 76) rfl (hb hby own_d14_41) rfl ((if0 _ _).trans (flt (by decide +kernel : ¬ ((0 : Int32) < (lcmpW (((1 : Int32).toInt64) * ((1 : Int32).toInt64)) ((1024 : Int32).toInt64))))).2.2.2) (by decide) (by decide) (XS.aloadN X85.here hx rfl (hb hby own_d14_76) rfl rfl kk_)) ?_
  refine own_gG X85 hx hZ hown (own_w hw 63 rfl) e85 F_key_a rfl rfl (hb hby own_d14_77) (fun {T86} X86 e86 => ?_)
  refine own_st (g' := (mkF m 82 #[rv a, iv hk, .val (.long (((1 : Int32).toInt64) * ((1 : Int32).toInt64))), .second, .unset] [(.ref a), (.int 0), (.ref aK)])) (fun tt_ kk_ => XS.iconst X86.here hx rfl (hb hby own_d14_80) (XS.aloadN X86.here hx rfl (hb hby own_d14_81) rfl rfl kk_)) ?_
  refine own_gG X86 hx hZ hown (own_w hw 56 rfl) e86 F_packed_a rfl rfl (hb hby own_d14_82) (fun {T87} X87 e87 => ?_)
  refine own_st (g' := (mkF m 86 #[rv a, iv hk, .val (.long (((1 : Int32).toInt64) * ((1 : Int32).toInt64))), .second, .unset] [(.ref a), (.ref aP), (.int 0), (.ref aK)])) (fun tt_ kk_ => XS.aloadN X87.here hx rfl (hb hby own_d14_85) rfl rfl kk_) ?_
  refine own_gG X87 hx hZ hown (own_w hw 92 rfl) e87 F_size_a rfl rfl (hb hby own_d14_86) (fun {T88} X88 e88 => ?_)
  refine own_st (g' := (mkF m 90 #[rv a, iv hk, .val (.long (((1 : Int32).toInt64) * ((1 : Int32).toInt64))), .second, .unset] [(.ref a), (.int 0), (.ref aP), (.int 0), (.ref aK)])) (fun tt_ kk_ => XS.aloadN X88.here hx rfl (hb hby own_d14_89) rfl rfl kk_) ?_
  refine own_gG X88 hx hZ hown (own_w hw 49 rfl) e88 F_wordCount_a rfl rfl (hb hby own_d14_90) (fun {T89} X89 e89 => ?_)
  refine own_st (g' := (mkF m 95 #[rv a, iv hk, .val (.long (((1 : Int32).toInt64) * ((1 : Int32).toInt64))), .second, .unset] [(.ref a), (.int 0), (.ref aP), (.int 0), (.ref aK)])) (fun tt_ kk_ => XS.imul X89.here hx rfl (hb hby own_d14_93) rfl (XS.aloadN X89.here hx rfl (hb hby own_d14_94) rfl rfl kk_)) ?_
  refine own_gG X89 hx hZ hown (own_w hw 49 rfl) e89 F_wordCount_a rfl rfl (hb hby own_d14_95) (fun {T90} X90 e90 => ?_)
  obtain ⟨T91, h91, L91, X91, e91, N91, K91q, V91q, st91⟩ := cpA X90 hx hZ hown (own_w hw 95 rfl) (own_w hw 98 rfl) (own_w hw 96 rfl) (own_w hw 97 rfl) e90 V_aK V_aP (us := [(.long y0)]) (Or.inl ⟨rfl, rfl⟩) (by decide) (by decide) (by decide) (by decide) (by decide) rfl (Nat.le_of_ble_eq_true rfl) N0 g_aP (g := (mkF m 98 #[rv a, iv hk, .val (.long (((1 : Int32).toInt64) * ((1 : Int32).toInt64))), .second, .unset] [(.int 1), (.int 0), (.ref aP), (.int 0), (.ref aK)])) rfl (by rw [hml]; rfl) rfl (hb hby own_d14_98) (by decide) (W := 0) (by show 2 * 0 + _ ≤ _; exact Nat.le_of_eq rfl) (by decide)
  have Z91 : n0 ≤ h91.size := Nat.le_trans Z0 K91q.1
  have K91 : Keep h0 h91 [a, aP, aQ] := K0.trans K91q (allS (P := fun x => x ∈ [a, aP, aQ] ∨ h0.size ≤ x) (Or.inl (List.mem_of_getElem? (i := 1) rfl)) all0)
  have V91 : Arv Z h91 aP kaP .long (1024 : Int32) [(.long y0), (.long q1)] (.long 0) := V91q
  refine own_st st91 ?_
  refine own_st (g' := (mkF m 102 #[rv a, iv hk, .val (.long (((1 : Int32).toInt64) * ((1 : Int32).toInt64))), .second, .unset] [(.ref a)])) (fun tt_ kk_ => XS.aloadN X91.here hx rfl (hb hby own_d14_101) rfl rfl kk_) ?_
  have F93 := (F_size_a.keep K91q (ninS ne_a_aP nin0))
  refine own_gG X91 hx hZ hown (own_w hw 92 rfl) e91 F93 rfl rfl (hb hby own_d14_102) (fun {T92} X92 e92 => ?_)
  refine own_st (g' := (mkF m 109 #[rv a, iv hk, .val (.long (((1 : Int32).toInt64) * ((1 : Int32).toInt64))), .second, iv 0] [(.ref a), (.ref a)])) (fun tt_ kk_ => XS.istore X92.here hx rfl (hb hby own_d14_105) rfl (l' := #[rv a, iv hk, .val (.long (((1 : Int32).toInt64) * ((1 : Int32).toInt64))), .second, iv 0]) rfl (XS.aloadN X92.here hx rfl (hb hby own_d14_107) rfl rfl (XS.dup X92.here hx rfl (hb hby own_d14_108) rfl rfl kk_))) ?_
  refine own_gG X92 hx hZ hown (own_w hw 92 rfl) e92 F93 rfl rfl (hb hby own_d14_109) (fun {T94} X94 e94 => ?_)
  refine own_st (g' := (mkF m 114 #[rv a, iv hk, .val (.long (((1 : Int32).toInt64) * ((1 : Int32).toInt64))), .second, iv 0] [(.int 1), (.ref a)])) (fun tt_ kk_ => XS.iconst X94.here hx rfl (hb hby own_d14_112) (XS.iadd X94.here hx rfl (hb hby own_d14_113) rfl kk_)) ?_
  have F96 := (E_a.keep K91q)
  obtain ⟨T95, h95, X95, e95, W95, st95⟩ := putF X94 hx hZ hown (host := "") (Or.inl (own_w hw 92 rfl)) Via.refl e94 F93 F96 (Or.inl (own_w hw 93 rfl)) (own_w hw 12 rfl) (ty := .int) (by decide) rfl rfl (g := (mkF m 114 #[rv a, iv hk, .val (.long (((1 : Int32).toInt64) * ((1 : Int32).toInt64))), .second, iv 0] [(.int 1), (.ref a)])) rfl rfl (hb hby own_d14_114)
  have N95 := Fr.snoc X95 N91 g_a
  have Z95 : n0 ≤ h95.size := Nat.le_trans Z91 (Keep.of_wr W95).1
  have K95 : Keep h0 h95 [a, aP, aQ] := K91.wr W95 (Or.inl (List.mem_of_getElem? (i := 0) rfl))
  have F95 : Fld Z h95 a own_z0 "size" "I" (.int 1) := F93.same W95
  refine own_st st95 ?_
  refine own_st (g' := (mkF m 118 #[rv a, iv hk, .val (.long (((1 : Int32).toInt64) * ((1 : Int32).toInt64))), .second, iv 0] [(.ref a)])) (fun tt_ kk_ => XS.aloadN X95.here hx rfl (hb hby own_d14_117) rfl rfl kk_) ?_
  refine own_gG X95 hx hZ hown (own_w hw 92 rfl) e95 F95 rfl rfl (hb hby own_d14_118) (fun {T97} X97 e97 => ?_)
  refine own_st (g' := (mkF m 122 #[rv a, iv hk, .val (.long (((1 : Int32).toInt64) * ((1 : Int32).toInt64))), .second, iv 0] [(.ref a), (.int 1)])) (fun tt_ kk_ => XS.aloadN X97.here hx rfl (hb hby own_d14_121) rfl rfl kk_) ?_
  have F99 := ((F_slots_a.keep K91q (ninS ne_a_aP nin0)).other W95 (Or.inr (own_sn0 hw)))
  refine own_gG X97 hx hZ hown (own_w hw 61 rfl) e97 F99 rfl rfl (hb hby own_d14_122) (fun {T98} X98 e98 => ?_)
  have F100 := ((P_aQ.keep K91q (ninS (Ne.symm ne_aP_aQ) nin0)).other W95 (Ne.symm ne_a_aQ))
  refine own_st (g' := (mkF m 130 #[rv a, iv hk, .val (.long (((1 : Int32).toInt64) * ((1 : Int32).toInt64))), .second, iv 0] [(.int (((1024 : Int32) / (4 : Int32)) * (3 : Int32))), (.int 1)])) (fun tt_ kk_ => own_lenI (g := (mkF m 125 #[rv a, iv hk, .val (.long (((1 : Int32).toInt64) * ((1 : Int32).toInt64))), .second, iv 0] [(.ref aQ), (.int 1)])) X98 hx hZ e98 F100 (z := (1024 : Int32)) rfl rfl rfl (hb hby own_d14_125) tt_ (XS.iconst X98.here hx rfl (hb hby own_d14_126) (XS.idiv X98.here hx rfl (hb hby own_d14_127) rfl (by decide) (XS.iconst X98.here hx rfl (hb hby own_d14_128) (XS.imul X98.here hx rfl (hb hby own_d14_129) rfl kk_))))) ?_
  refine own_st (g' := (mkF m 151 #[rv a, iv hk, .val (.long (((1 : Int32).toInt64) * ((1 : Int32).toInt64))), .second, iv 0] [(.ref a), (.int hk), (.int 0)])) (fun tt_ kk_ => XS.icmpYes X98.here hx rfl (pc0 := 130) (pc' := 147) rfl (hb hby own_d14_130) rfl (flt (by decide +kernel : ¬ ((((1024 : Int32) / (4 : Int32)) * (3 : Int32)) < (1 : Int32)))).2.2.2 (by decide) (by decide) (XS.iload X98.here hx rfl (hb hby own_d14_147) rfl (XS.iloadN X98.here hx rfl (hb hby own_d14_149) rfl (XS.aloadN X98.here hx rfl (hb hby own_d14_150) rfl rfl kk_)))) ?_
  refine own_gG X98 hx hZ hown (own_w hw 61 rfl) e98 F99 rfl rfl (hb hby own_d14_151) (fun {T101} X101 e101 => ?_)
  obtain ⟨_, _, ⟨T102, L102, k102, n102⟩, -, X102, ⟨Lc102, hQ102, l102, y102, z102⟩, st102⟩ := Jvm.LawKit.callS X101 hx (y := (⟨own_z0, "place", "(II[I)V"⟩ : MethodName)) hown (mvT hZ (own_w hw 99 rfl)) (mvT hZ (own_w hw 100 rfl)) (mvT hZ (own_w hw 13 rfl)) (mvT hZ (own_w hw 101 rfl)) (by decide) (backOf (W := 0) (own_rmpl1 l Z a0 hw [] hk aQ h95 n0 Z95 F100 g_aQ) hZ (own_w hw 101 rfl) (own_w hw 13 rfl) (by decide) (by decide)) (g := (mkF m 154 #[rv a, iv hk, .val (.long (((1 : Int32).toInt64) * ((1 : Int32).toInt64))), .second, iv 0] [(.ref aQ), (.int hk), (.int 0)])) rfl (by rw [hml]; rfl) (argsL := [(.int 0), (.int hk), (.ref aQ)]) (rest := []) (lenOf own_pd5 rfl) rfl (by show 2 * 0 + _ ≤ _; exact Nat.le_of_eq rfl) (hb hby own_d14_154) (fun _ _ => ⟨rfl, e101, (by decide : 0 + 0 ≤ _), (by decide : 0 + 0 ≤ _)⟩)
  dsimp only [Pt.U, Pt.locs, Pt.cells, Pt.slots] at X102 l102 y102 z102 st102 hQ102
  rw [l102, y102, z102] at X102
  obtain ⟨rfl, N102q, K102q, f102_0⟩ := hQ102
  obtain ⟨h102, e102⟩ : ∃ z, T102.heap = z := ⟨_, rfl⟩
  rw [e102] at K102q f102_0
  have Z102 : n0 ≤ h102.size := Nat.le_trans Z95 K102q.1
  have K102 : Keep h0 h102 [a, aP, aQ] := K95.trans K102q (allS (P := fun x => x ∈ [a, aP, aQ] ∨ h0.size ≤ x) (Or.inl (List.mem_of_getElem? (i := 2) rfl)) all0)
  have N102 := Fr.app N95 N102q
  refine own_st st102 ?_
  refine own_st (g' := (mkF m 159 #[rv a, iv hk, .val (.long (((1 : Int32).toInt64) * ((1 : Int32).toInt64))), .second, iv 0] [(.int 0)])) (fun tt_ kk_ => XS.iload X102.here hx rfl (hb hby own_d14_157) rfl kk_) ?_
  have F103 := (((F_lows_a.keep K91q (ninS ne_a_aP nin0)).other W95 (Or.inr (own_sn1 hw))).keep K102q (ninS ne_a_aQ nin0))
  have F104 := (((F_spans_a.keep K91q (ninS ne_a_aP nin0)).other W95 (Or.inr (own_sn2 hw))).keep K102q (ninS ne_a_aQ nin0))
  have F105 := (((F_masks_a.keep K91q (ninS ne_a_aP nin0)).other W95 (Or.inr (own_sn3 hw))).keep K102q (ninS ne_a_aQ nin0))
  have F106 := (((F_words_a.keep K91q (ninS ne_a_aP nin0)).other W95 (Or.inr (own_sn4 hw))).keep K102q (ninS ne_a_aQ nin0))
  have F107 := (((F_shifts_a.keep K91q (ninS ne_a_aP nin0)).other W95 (Or.inr (own_sn5 hw))).keep K102q (ninS ne_a_aQ nin0))
  have F108 := (((F_packed_a.keep K91q (ninS ne_a_aP nin0)).other W95 (Or.inr (own_sn6 hw))).keep K102q (ninS ne_a_aQ nin0))
  have F109 := (F99.keep K102q (ninS ne_a_aQ nin0))
  have F110 := (((F_key_a.keep K91q (ninS ne_a_aP nin0)).other W95 (Or.inr (own_sn7 hw))).keep K102q (ninS ne_a_aQ nin0))
  have F111 := (((F_wordCount_a.keep K91q (ninS ne_a_aP nin0)).other W95 (Or.inr (own_sn8 hw))).keep K102q (ninS ne_a_aQ nin0))
  have F112 := (F95.keep K102q (ninS ne_a_aQ nin0))
  have F113 := ((V91.other W95 (Ne.symm ne_a_aP)).keep K102q (ninS ne_aP_aQ nin0))
  exact own_retI X102 hx hlk hret (hb hby own_d14_159) (by decide) (by decide) (by rw [e102]; exact ⟨rfl, N102, K102, F103, F104, F105, F106, F107, F108, F109, F110, F111, F112, F113, f102_0⟩)
def own_QappA2 (Z : State) (a : Addr) (hk : Int32) (aL : Addr) (aS : Addr) (aM : Addr) (aW : Addr) (aH : Addr) (aP : Addr) (aQ : Addr) (aK : Addr) (ho : Int32) (kaP : ClassId) (q0 : Int64) (q1 : Int64) (kaK : ClassId) (y0 : Int64) (h0 : Heap) (n0 : Nat) (v : Option Value) (h : Heap) (L : List Loc) : Prop := v = some (.int 1) ∧ Fr n0 L ∧ Keep h0 h [a, aP, aQ] ∧ Fld Z h a own_z0 "lows" "[I" (.ref aL) ∧ Fld Z h a own_z0 "spans" "[J" (.ref aS) ∧ Fld Z h a own_z0 "masks" "[J" (.ref aM) ∧ Fld Z h a own_z0 "words" "[I" (.ref aW) ∧ Fld Z h a own_z0 "shifts" "[I" (.ref aH) ∧ Fld Z h a own_z0 "packed" "[J" (.ref aP) ∧ Fld Z h a own_z0 "slots" "[I" (.ref aQ) ∧ Fld Z h a own_z0 "key" "[J" (.ref aK) ∧ Fld Z h a own_z0 "wordCount" "I" (.int 1) ∧ Fld Z h a own_z0 "size" "I" (.int 2) ∧ Arv Z h aP kaP .long (1024 : Int32) [(.long q0), (.long y0)] (.long 0)
theorem own_efappA2 (m : MethodId) (a : Addr) (hk : Int32) : entryFrame m #[(.ref a), (.int hk)] 5 = mkF m 0 #[rv a, iv hk, .unset, .unset, .unset] [] := by first | (simp [entryFrame, mkF, argsToLocals, Value.category]; done) | rfl
set_option maxRecDepth 65536 in
set_option maxHeartbeats 16000000 in
theorem own_rmappA2 (l : Launch) (Z : State) (a0 : Array Value) (hw : own_HW Z a0) (ws : List Jvm.Cond) (a : Addr) (hk : Int32) (aL : Addr) (aS : Addr) (aM : Addr) (aW : Addr) (aH : Addr) (aP : Addr) (aQ : Addr) (aK : Addr) (ho : Int32) (kaP : ClassId) (q0 : Int64) (q1 : Int64) (kaK : ClassId) (y0 : Int64) (h0 : Heap) (n0 : Nat) (Z0 : n0 ≤ h0.size) (E_a : Exa Z h0 a own_z0) (F_lows_a : Fld Z h0 a own_z0 "lows" "[I" (.ref aL)) (F_spans_a : Fld Z h0 a own_z0 "spans" "[J" (.ref aS)) (F_masks_a : Fld Z h0 a own_z0 "masks" "[J" (.ref aM)) (F_words_a : Fld Z h0 a own_z0 "words" "[I" (.ref aW)) (F_shifts_a : Fld Z h0 a own_z0 "shifts" "[I" (.ref aH)) (F_packed_a : Fld Z h0 a own_z0 "packed" "[J" (.ref aP)) (F_slots_a : Fld Z h0 a own_z0 "slots" "[I" (.ref aQ)) (F_key_a : Fld Z h0 a own_z0 "key" "[J" (.ref aK)) (F_wordCount_a : Fld Z h0 a own_z0 "wordCount" "I" (.int 1)) (F_size_a : Fld Z h0 a own_z0 "size" "I" (.int 1)) (P_aQ : own_AI Z h0 aQ 1024 (own_sl ho)) (V_aP : Arv Z h0 aP kaP .long (1024 : Int32) [(.long q0), (.long q1)] (.long 0)) (V_aK : Arv Z h0 aK kaK .long (1 : Int32) [(.long y0)] (.long 0)) (ne_a_aP : a ≠ aP) (ne_a_aQ : a ≠ aQ) (ne_aK_aP : aK ≠ aP) (ne_aK_aQ : aK ≠ aQ) (ne_aK_a : aK ≠ a) (ne_aP_aQ : aP ≠ aQ) (g_a : n0 ≤ a) (g_aP : n0 ≤ aP) (g_aQ : n0 ≤ aQ) :
    MetFree l (⟨own_z0, "append", "(I)I"⟩ : MethodName) (head1 (Jvm.Cond.code (⟨own_z0, "append", "(I)I"⟩ : MethodName) prog_160_method_12_code 5 (some .int) :: ws) ({ frames := 1, cells := 0, slots := 0, locals := 18 } : Room)) (fun aa UU => aa = #[(.ref a), (.int hk)] ∧ Z.Warmed39 UU.vm ∧ UU.heap = h0) (fun _ _ _ _ _ => True) (fun _ U o U' => ∃ v L, o = .returned v ∧ own_QappA2 Z a hk aL aS aM aW aH aP aQ aK ho kaP q0 q1 kaK y0 h0 n0 v U'.heap L ∧ FrameEnd U o U' L ({ frames := 1, cells := 0, slots := 0, locals := 18 } : Room).cells ({ frames := 1, cells := 0, slots := 0, locals := 18 } : Room).slots) := by
  refine MetFree.of_bodySF (plainFor_of_name own_pn2) hisR ?_
  intro p e s m args below meth c s₁ Bd hml hP hK
  obtain ⟨rfl, hZ, hh⟩ := hP
  have hx := Bd.exec
  have hlk := Bd.notSynchronized
  have hby := Bd.bytes
  have hret := Bd.returns
  have hown := findClass_of_methodNamed Bd.named
  have hnm := (name_of_methodNamed Bd.named Bd.method).1
  have X0 : Stand p l e ({ frames := 1, cells := 0, slots := 0, locals := 18 } : Room) s m #[(.ref a), (.int hk)] below meth c s₁ [] 0 0 := Stand.of_body Bd
  have e0 : s₁.heap = h0 := by rw [← hh, Bd.state]; rfl
  have N0 := Fr.nil n0
  refine own_cast (own_efappA2 m a hk) ?_
  show own_Go p e below s s₁ _ (own_QappA2 Z a hk aL aS aM aW aH aP aQ aK ho kaP q0 q1 kaK y0 h0 n0) 0 0
  have K0 : Keep h0 h0 [a, aP, aQ] := Keep.refl _ _
  refine own_st (g' := (mkF m 1 #[rv a, iv hk, .unset, .unset, .unset] [(.ref a)])) (fun tt_ kk_ => XS.aloadN X0.here hx rfl (hb hby own_d14_0) rfl rfl kk_) ?_
  refine own_gG X0 hx hZ hown (own_w hw 92 rfl) e0 F_size_a rfl rfl (hb hby own_d14_1) (fun {T114} X114 e114 => ?_)
  refine own_st (g' := (mkF m 20 #[rv a, iv hk, .unset, .unset, .unset] [(.ref a)])) (fun tt_ kk_ => X114.ldcInt hx hown (mvT hZ (own_w hw 94 rfl)) (g := (mkF m 4 #[rv a, iv hk, .unset, .unset, .unset] [(.int 1)])) rfl (hb hby own_d14_4) _ (XS.icmpYes X114.here hx rfl (pc0 := 6) (pc' := 19) rfl (hb hby own_d14_6) rfl (feq (by decide : ¬ ((1 : Int32) = (2147483646 : Int32)))).2 (by decide) (by decide) (XS.aloadN X114.here hx rfl (hb hby own_d14_19) rfl rfl kk_))) ?_
  refine own_gG X114 hx hZ hown (own_w hw 92 rfl) e114 F_size_a rfl rfl (hb hby own_d14_20) (fun {T115} X115 e115 => ?_)
  refine own_st (g' := (mkF m 27 #[rv a, iv hk, .unset, .unset, .unset] [(.ref a), (.long ((2 : Int32).toInt64))])) (fun tt_ kk_ => XS.iconst X115.here hx rfl (hb hby own_d14_23) (XS.iadd X115.here hx rfl (hb hby own_d14_24) rfl (XS.i2l X115.here hx rfl (hb hby own_d14_25) rfl (XS.aloadN X115.here hx rfl (hb hby own_d14_26) rfl rfl kk_)))) ?_
  refine own_gG X115 hx hZ hown (own_w hw 49 rfl) e115 F_wordCount_a rfl rfl (hb hby own_d14_27) (fun {T116} X116 e116 => ?_)
  refine own_st (g' := (mkF m 35 #[rv a, iv hk, .val (.long (((2 : Int32).toInt64) * ((1 : Int32).toInt64))), .second, .unset] [(.ref a), (.long (((2 : Int32).toInt64) * ((1 : Int32).toInt64)))])) (fun tt_ kk_ => XS.i2l X116.here hx rfl (hb hby own_d14_30) rfl (XS.lmul X116.here hx rfl (hb hby own_d14_31) rfl (XS.lstoreN X116.here hx rfl (hb hby own_d14_32) rfl (l' := #[rv a, iv hk, .val (.long (((2 : Int32).toInt64) * ((1 : Int32).toInt64))), .second, .unset]) rfl (XS.lloadN X116.here hx rfl (hb hby own_d14_33) rfl (XS.aloadN X116.here hx rfl (hb hby own_d14_34) rfl rfl kk_))))) ?_
  refine own_gG X116 hx hZ hown (own_w hw 56 rfl) e116 F_packed_a rfl rfl (hb hby own_d14_35) (fun {T117} X117 e117 => ?_)
  refine own_st (g' := (mkF m 41 #[rv a, iv hk, .val (.long (((2 : Int32).toInt64) * ((1 : Int32).toInt64))), .second, .unset] [(.int (lcmpW (((2 : Int32).toInt64) * ((1 : Int32).toInt64)) ((1024 : Int32).toInt64)))])) (fun tt_ kk_ => own_lnV (g := (mkF m 38 #[rv a, iv hk, .val (.long (((2 : Int32).toInt64) * ((1 : Int32).toInt64))), .second, .unset] [(.ref aP), (.long (((2 : Int32).toInt64) * ((1 : Int32).toInt64)))])) X117 hx hZ e117 V_aP rfl rfl (hb hby own_d14_38) tt_ (XS.i2l X117.here hx rfl (hb hby own_d14_39) rfl (XS.lcmp X117.here hx rfl (hb hby own_d14_40) rfl kk_))) ?_
  refine own_st (g' := (mkF m 77 #[rv a, iv hk, .val (.long (((2 : Int32).toInt64) * ((1 : Int32).toInt64))), .second, .unset] [(.ref a)])) (fun tt_ kk_ => XS.ifYes X117.here hx rfl (pc0 := 41) (pc' := 76) rfl (hb hby own_d14_41) rfl ((if0 _ _).trans (flt (by decide +kernel : ¬ ((0 : Int32) < (lcmpW (((2 : Int32).toInt64) * ((1 : Int32).toInt64)) ((1024 : Int32).toInt64))))).2.2.2) (by decide) (by decide) (XS.aloadN X117.here hx rfl (hb hby own_d14_76) rfl rfl kk_)) ?_
  refine own_gG X117 hx hZ hown (own_w hw 63 rfl) e117 F_key_a rfl rfl (hb hby own_d14_77) (fun {T118} X118 e118 => ?_)
  refine own_st (g' := (mkF m 82 #[rv a, iv hk, .val (.long (((2 : Int32).toInt64) * ((1 : Int32).toInt64))), .second, .unset] [(.ref a), (.int 0), (.ref aK)])) (fun tt_ kk_ => XS.iconst X118.here hx rfl (hb hby own_d14_80) (XS.aloadN X118.here hx rfl (hb hby own_d14_81) rfl rfl kk_)) ?_
  refine own_gG X118 hx hZ hown (own_w hw 56 rfl) e118 F_packed_a rfl rfl (hb hby own_d14_82) (fun {T119} X119 e119 => ?_)
  refine own_st (g' := (mkF m 86 #[rv a, iv hk, .val (.long (((2 : Int32).toInt64) * ((1 : Int32).toInt64))), .second, .unset] [(.ref a), (.ref aP), (.int 0), (.ref aK)])) (fun tt_ kk_ => XS.aloadN X119.here hx rfl (hb hby own_d14_85) rfl rfl kk_) ?_
  refine own_gG X119 hx hZ hown (own_w hw 92 rfl) e119 F_size_a rfl rfl (hb hby own_d14_86) (fun {T120} X120 e120 => ?_)
  refine own_st (g' := (mkF m 90 #[rv a, iv hk, .val (.long (((2 : Int32).toInt64) * ((1 : Int32).toInt64))), .second, .unset] [(.ref a), (.int 1), (.ref aP), (.int 0), (.ref aK)])) (fun tt_ kk_ => XS.aloadN X120.here hx rfl (hb hby own_d14_89) rfl rfl kk_) ?_
  refine own_gG X120 hx hZ hown (own_w hw 49 rfl) e120 F_wordCount_a rfl rfl (hb hby own_d14_90) (fun {T121} X121 e121 => ?_)
  refine own_st (g' := (mkF m 95 #[rv a, iv hk, .val (.long (((2 : Int32).toInt64) * ((1 : Int32).toInt64))), .second, .unset] [(.ref a), (.int 1), (.ref aP), (.int 0), (.ref aK)])) (fun tt_ kk_ => XS.imul X121.here hx rfl (hb hby own_d14_93) rfl (XS.aloadN X121.here hx rfl (hb hby own_d14_94) rfl rfl kk_)) ?_
  refine own_gG X121 hx hZ hown (own_w hw 49 rfl) e121 F_wordCount_a rfl rfl (hb hby own_d14_95) (fun {T122} X122 e122 => ?_)
  obtain ⟨T123, h123, L123, X123, e123, N123, K123q, V123q, st123⟩ := cpA X122 hx hZ hown (own_w hw 95 rfl) (own_w hw 98 rfl) (own_w hw 96 rfl) (own_w hw 97 rfl) e122 V_aK V_aP (us := [(.long y0)]) (Or.inl ⟨rfl, rfl⟩) (by decide) (by decide) (by decide) (by decide) (by decide) rfl (Nat.le_of_ble_eq_true rfl) N0 g_aP (g := (mkF m 98 #[rv a, iv hk, .val (.long (((2 : Int32).toInt64) * ((1 : Int32).toInt64))), .second, .unset] [(.int 1), (.int 1), (.ref aP), (.int 0), (.ref aK)])) rfl (by rw [hml]; rfl) rfl (hb hby own_d14_98) (by decide) (W := 0) (by show 2 * 0 + _ ≤ _; exact Nat.le_of_eq rfl) (by decide)
  have Z123 : n0 ≤ h123.size := Nat.le_trans Z0 K123q.1
  have K123 : Keep h0 h123 [a, aP, aQ] := K0.trans K123q (allS (P := fun x => x ∈ [a, aP, aQ] ∨ h0.size ≤ x) (Or.inl (List.mem_of_getElem? (i := 1) rfl)) all0)
  have V123 : Arv Z h123 aP kaP .long (1024 : Int32) [(.long q0), (.long y0)] (.long 0) := V123q
  refine own_st st123 ?_
  refine own_st (g' := (mkF m 102 #[rv a, iv hk, .val (.long (((2 : Int32).toInt64) * ((1 : Int32).toInt64))), .second, .unset] [(.ref a)])) (fun tt_ kk_ => XS.aloadN X123.here hx rfl (hb hby own_d14_101) rfl rfl kk_) ?_
  have F125 := (F_size_a.keep K123q (ninS ne_a_aP nin0))
  refine own_gG X123 hx hZ hown (own_w hw 92 rfl) e123 F125 rfl rfl (hb hby own_d14_102) (fun {T124} X124 e124 => ?_)
  refine own_st (g' := (mkF m 109 #[rv a, iv hk, .val (.long (((2 : Int32).toInt64) * ((1 : Int32).toInt64))), .second, iv 1] [(.ref a), (.ref a)])) (fun tt_ kk_ => XS.istore X124.here hx rfl (hb hby own_d14_105) rfl (l' := #[rv a, iv hk, .val (.long (((2 : Int32).toInt64) * ((1 : Int32).toInt64))), .second, iv 1]) rfl (XS.aloadN X124.here hx rfl (hb hby own_d14_107) rfl rfl (XS.dup X124.here hx rfl (hb hby own_d14_108) rfl rfl kk_))) ?_
  refine own_gG X124 hx hZ hown (own_w hw 92 rfl) e124 F125 rfl rfl (hb hby own_d14_109) (fun {T126} X126 e126 => ?_)
  refine own_st (g' := (mkF m 114 #[rv a, iv hk, .val (.long (((2 : Int32).toInt64) * ((1 : Int32).toInt64))), .second, iv 1] [(.int 2), (.ref a)])) (fun tt_ kk_ => XS.iconst X126.here hx rfl (hb hby own_d14_112) (XS.iadd X126.here hx rfl (hb hby own_d14_113) rfl kk_)) ?_
  have F128 := (E_a.keep K123q)
  obtain ⟨T127, h127, X127, e127, W127, st127⟩ := putF X126 hx hZ hown (host := "") (Or.inl (own_w hw 92 rfl)) Via.refl e126 F125 F128 (Or.inl (own_w hw 93 rfl)) (own_w hw 12 rfl) (ty := .int) (by decide) rfl rfl (g := (mkF m 114 #[rv a, iv hk, .val (.long (((2 : Int32).toInt64) * ((1 : Int32).toInt64))), .second, iv 1] [(.int 2), (.ref a)])) rfl rfl (hb hby own_d14_114)
  have N127 := Fr.snoc X127 N123 g_a
  have Z127 : n0 ≤ h127.size := Nat.le_trans Z123 (Keep.of_wr W127).1
  have K127 : Keep h0 h127 [a, aP, aQ] := K123.wr W127 (Or.inl (List.mem_of_getElem? (i := 0) rfl))
  have F127 : Fld Z h127 a own_z0 "size" "I" (.int 2) := F125.same W127
  refine own_st st127 ?_
  refine own_st (g' := (mkF m 118 #[rv a, iv hk, .val (.long (((2 : Int32).toInt64) * ((1 : Int32).toInt64))), .second, iv 1] [(.ref a)])) (fun tt_ kk_ => XS.aloadN X127.here hx rfl (hb hby own_d14_117) rfl rfl kk_) ?_
  refine own_gG X127 hx hZ hown (own_w hw 92 rfl) e127 F127 rfl rfl (hb hby own_d14_118) (fun {T129} X129 e129 => ?_)
  refine own_st (g' := (mkF m 122 #[rv a, iv hk, .val (.long (((2 : Int32).toInt64) * ((1 : Int32).toInt64))), .second, iv 1] [(.ref a), (.int 2)])) (fun tt_ kk_ => XS.aloadN X129.here hx rfl (hb hby own_d14_121) rfl rfl kk_) ?_
  have F131 := ((F_slots_a.keep K123q (ninS ne_a_aP nin0)).other W127 (Or.inr (own_sn0 hw)))
  refine own_gG X129 hx hZ hown (own_w hw 61 rfl) e129 F131 rfl rfl (hb hby own_d14_122) (fun {T130} X130 e130 => ?_)
  have F132 := ((P_aQ.keep K123q (ninS (Ne.symm ne_aP_aQ) nin0)).other W127 (Ne.symm ne_a_aQ))
  refine own_st (g' := (mkF m 130 #[rv a, iv hk, .val (.long (((2 : Int32).toInt64) * ((1 : Int32).toInt64))), .second, iv 1] [(.int (((1024 : Int32) / (4 : Int32)) * (3 : Int32))), (.int 2)])) (fun tt_ kk_ => own_lenI (g := (mkF m 125 #[rv a, iv hk, .val (.long (((2 : Int32).toInt64) * ((1 : Int32).toInt64))), .second, iv 1] [(.ref aQ), (.int 2)])) X130 hx hZ e130 F132 (z := (1024 : Int32)) rfl rfl rfl (hb hby own_d14_125) tt_ (XS.iconst X130.here hx rfl (hb hby own_d14_126) (XS.idiv X130.here hx rfl (hb hby own_d14_127) rfl (by decide) (XS.iconst X130.here hx rfl (hb hby own_d14_128) (XS.imul X130.here hx rfl (hb hby own_d14_129) rfl kk_))))) ?_
  refine own_st (g' := (mkF m 151 #[rv a, iv hk, .val (.long (((2 : Int32).toInt64) * ((1 : Int32).toInt64))), .second, iv 1] [(.ref a), (.int hk), (.int 1)])) (fun tt_ kk_ => XS.icmpYes X130.here hx rfl (pc0 := 130) (pc' := 147) rfl (hb hby own_d14_130) rfl (flt (by decide +kernel : ¬ ((((1024 : Int32) / (4 : Int32)) * (3 : Int32)) < (2 : Int32)))).2.2.2 (by decide) (by decide) (XS.iload X130.here hx rfl (hb hby own_d14_147) rfl (XS.iloadN X130.here hx rfl (hb hby own_d14_149) rfl (XS.aloadN X130.here hx rfl (hb hby own_d14_150) rfl rfl kk_)))) ?_
  refine own_gG X130 hx hZ hown (own_w hw 61 rfl) e130 F131 rfl rfl (hb hby own_d14_151) (fun {T133} X133 e133 => ?_)
  obtain ⟨_, _, ⟨T134, L134, k134, n134⟩, -, X134, ⟨Lc134, hQ134, l134, y134, z134⟩, st134⟩ := Jvm.LawKit.callS X133 hx (y := (⟨own_z0, "place", "(II[I)V"⟩ : MethodName)) hown (mvT hZ (own_w hw 99 rfl)) (mvT hZ (own_w hw 100 rfl)) (mvT hZ (own_w hw 13 rfl)) (mvT hZ (own_w hw 101 rfl)) (by decide) (backOf (W := 0) (own_rmpl2 l Z a0 hw [] hk aQ ho h127 n0 Z127 F132 g_aQ) hZ (own_w hw 101 rfl) (own_w hw 13 rfl) (by decide) (by decide)) (g := (mkF m 154 #[rv a, iv hk, .val (.long (((2 : Int32).toInt64) * ((1 : Int32).toInt64))), .second, iv 1] [(.ref aQ), (.int hk), (.int 1)])) rfl (by rw [hml]; rfl) (argsL := [(.int 1), (.int hk), (.ref aQ)]) (rest := []) (lenOf own_pd5 rfl) rfl (by show 2 * 0 + _ ≤ _; exact Nat.le_of_eq rfl) (hb hby own_d14_154) (fun _ _ => ⟨rfl, e133, (by decide : 0 + 0 ≤ _), (by decide : 0 + 0 ≤ _)⟩)
  dsimp only [Pt.U, Pt.locs, Pt.cells, Pt.slots] at X134 l134 y134 z134 st134 hQ134
  rw [l134, y134, z134] at X134
  obtain ⟨rfl, N134q, K134q⟩ := hQ134
  obtain ⟨h134, e134⟩ : ∃ z, T134.heap = z := ⟨_, rfl⟩
  rw [e134] at K134q
  have Z134 : n0 ≤ h134.size := Nat.le_trans Z127 K134q.1
  have K134 : Keep h0 h134 [a, aP, aQ] := K127.trans K134q (allS (P := fun x => x ∈ [a, aP, aQ] ∨ h0.size ≤ x) (Or.inl (List.mem_of_getElem? (i := 2) rfl)) all0)
  have N134 := Fr.app N127 N134q
  refine own_st st134 ?_
  refine own_st (g' := (mkF m 159 #[rv a, iv hk, .val (.long (((2 : Int32).toInt64) * ((1 : Int32).toInt64))), .second, iv 1] [(.int 1)])) (fun tt_ kk_ => XS.iload X134.here hx rfl (hb hby own_d14_157) rfl kk_) ?_
  have F135 := (((F_lows_a.keep K123q (ninS ne_a_aP nin0)).other W127 (Or.inr (own_sn1 hw))).keep K134q (ninS ne_a_aQ nin0))
  have F136 := (((F_spans_a.keep K123q (ninS ne_a_aP nin0)).other W127 (Or.inr (own_sn2 hw))).keep K134q (ninS ne_a_aQ nin0))
  have F137 := (((F_masks_a.keep K123q (ninS ne_a_aP nin0)).other W127 (Or.inr (own_sn3 hw))).keep K134q (ninS ne_a_aQ nin0))
  have F138 := (((F_words_a.keep K123q (ninS ne_a_aP nin0)).other W127 (Or.inr (own_sn4 hw))).keep K134q (ninS ne_a_aQ nin0))
  have F139 := (((F_shifts_a.keep K123q (ninS ne_a_aP nin0)).other W127 (Or.inr (own_sn5 hw))).keep K134q (ninS ne_a_aQ nin0))
  have F140 := (((F_packed_a.keep K123q (ninS ne_a_aP nin0)).other W127 (Or.inr (own_sn6 hw))).keep K134q (ninS ne_a_aQ nin0))
  have F141 := (F131.keep K134q (ninS ne_a_aQ nin0))
  have F142 := (((F_key_a.keep K123q (ninS ne_a_aP nin0)).other W127 (Or.inr (own_sn7 hw))).keep K134q (ninS ne_a_aQ nin0))
  have F143 := (((F_wordCount_a.keep K123q (ninS ne_a_aP nin0)).other W127 (Or.inr (own_sn8 hw))).keep K134q (ninS ne_a_aQ nin0))
  have F144 := (F127.keep K134q (ninS ne_a_aQ nin0))
  have F145 := ((V123.other W127 (Ne.symm ne_a_aP)).keep K134q (ninS ne_aP_aQ nin0))
  exact own_retI X134 hx hlk hret (hb hby own_d14_159) (by decide) (by decide) (by rw [e134]; exact ⟨rfl, N134, K134, F135, F136, F137, F138, F139, F140, F141, F142, F143, F144, F145⟩)
theorem own_d9_0 : own_D own_b9 0 (.aload_n 0) 1 := by decide +kernel
theorem own_d9_1 : own_D own_b9 1 (.aload_n 1) 1 := by decide +kernel
theorem own_d9_2 : own_D own_b9 2 (.invokevirtual 93) 3 := by decide +kernel
theorem own_d9_5 : own_D own_b9 5 (.aload_n 0) 1 := by decide +kernel
theorem own_d9_6 : own_D own_b9 6 (.aload_n 0) 1 := by decide +kernel
theorem own_d9_7 : own_D own_b9 7 (.getfield 80) 3 := by decide +kernel
theorem own_d9_10 : own_D own_b9 10 (.iconst 0) 1 := by decide +kernel
theorem own_d9_11 : own_D own_b9 11 (.invokevirtual 97) 3 := by decide +kernel
theorem own_d9_14 : own_D own_b9 14 (.istore_n 2) 1 := by decide +kernel
theorem own_d9_15 : own_D own_b9 15 (.aload_n 0) 1 := by decide +kernel
theorem own_d9_16 : own_D own_b9 16 (.iload_n 2) 1 := by decide +kernel
theorem own_d9_17 : own_D own_b9 17 (.invokevirtual 101) 3 := by decide +kernel
theorem own_d9_20 : own_D own_b9 20 (.istore_n 3) 1 := by decide +kernel
theorem own_d9_21 : own_D own_b9 21 (.iload_n 3) 1 := by decide +kernel
theorem own_d9_22 : own_D own_b9 22 (.ifCond .ge 9) 3 := by decide +kernel
theorem own_d9_25 : own_D own_b9 25 (.aload_n 0) 1 := by decide +kernel
theorem own_d9_26 : own_D own_b9 26 (.iload_n 2) 1 := by decide +kernel
theorem own_d9_27 : own_D own_b9 27 (.invokevirtual 104) 3 := by decide +kernel
theorem own_d9_30 : own_D own_b9 30 (.istore_n 3) 1 := by decide +kernel
theorem own_d9_31 : own_D own_b9 31 (.iload_n 3) 1 := by decide +kernel
theorem own_d9_32 : own_D own_b9 32 .ireturn 1 := by decide +kernel
theorem own_pd6 : parseMethodDescriptor "([I)V" = some ⟨[(.array .int)], none⟩ := by decide +kernel
theorem own_pd7 : parseMethodDescriptor "([JI)I" = some ⟨[(.array .long), .int], some .int⟩ := by decide +kernel
def own_QaddA1 (Z : State) (a : Addr) (st : Addr) (aL : Addr) (aS : Addr) (aM : Addr) (aW : Addr) (aH : Addr) (aP : Addr) (aQ : Addr) (aK : Addr) (kaL : ClassId) (l0 : Int32) (l1 : Int32) (l2 : Int32) (kaS : ClassId) (sp0 : Int64) (sp1 : Int64) (sp2 : Int64) (kaW : ClassId) (kaH : ClassId) (s0 : Int32) (s1 : Int32) (s2 : Int32) (kst : ClassId) (v0 : Int32) (v1 : Int32) (v2 : Int32) (kaK : ClassId) (y0 : Int64) (kaP : ClassId) (q0 : Int64) (q1 : Int64) (h0 : Heap) (n0 : Nat) (v : Option Value) (h : Heap) (L : List Loc) : Prop := ∃ (hz : Int32), v = some (.int 0) ∧ Fr n0 L ∧ Keep h0 h [a, aK, aP, aQ] ∧ Fld Z h a own_z0 "lows" "[I" (.ref aL) ∧ Fld Z h a own_z0 "spans" "[J" (.ref aS) ∧ Fld Z h a own_z0 "masks" "[J" (.ref aM) ∧ Fld Z h a own_z0 "words" "[I" (.ref aW) ∧ Fld Z h a own_z0 "shifts" "[I" (.ref aH) ∧ Fld Z h a own_z0 "packed" "[J" (.ref aP) ∧ Fld Z h a own_z0 "slots" "[I" (.ref aQ) ∧ Fld Z h a own_z0 "key" "[J" (.ref aK) ∧ Fld Z h a own_z0 "wordCount" "I" (.int 1) ∧ Fld Z h a own_z0 "size" "I" (.int 1) ∧ Arv Z h aK kaK .long (1 : Int32) [(.long (own_kA v0 v1 v2 l0 l1 l2 s0 s1 s2))] (.long 0) ∧ Arv Z h aP kaP .long (1024 : Int32) [(.long (own_kA v0 v1 v2 l0 l1 l2 s0 s1 s2)), (.long q1)] (.long 0) ∧ own_AI Z h aQ 1024 (own_sl hz)
theorem own_efaddA1 (m : MethodId) (a : Addr) (st : Addr) : entryFrame m #[(.ref a), (.ref st)] 4 = mkF m 0 #[rv a, rv st, .unset, .unset] [] := by first | (simp [entryFrame, mkF, argsToLocals, Value.category]; done) | rfl
set_option maxRecDepth 65536 in
set_option maxHeartbeats 16000000 in
theorem own_rmaddA1 (l : Launch) (Z : State) (a0 : Array Value) (hw : own_HW Z a0) (ws : List Jvm.Cond) (a : Addr) (st : Addr) (aL : Addr) (aS : Addr) (aM : Addr) (aW : Addr) (aH : Addr) (aP : Addr) (aQ : Addr) (aK : Addr) (kaL : ClassId) (l0 : Int32) (l1 : Int32) (l2 : Int32) (kaS : ClassId) (sp0 : Int64) (sp1 : Int64) (sp2 : Int64) (kaW : ClassId) (kaH : ClassId) (s0 : Int32) (s1 : Int32) (s2 : Int32) (kst : ClassId) (v0 : Int32) (v1 : Int32) (v2 : Int32) (kaK : ClassId) (y0 : Int64) (kaP : ClassId) (q0 : Int64) (q1 : Int64) (h0 : Heap) (n0 : Nat) (Z0 : n0 ≤ h0.size) (E_a : Exa Z h0 a own_z0) (F_lows_a : Fld Z h0 a own_z0 "lows" "[I" (.ref aL)) (F_spans_a : Fld Z h0 a own_z0 "spans" "[J" (.ref aS)) (F_masks_a : Fld Z h0 a own_z0 "masks" "[J" (.ref aM)) (F_words_a : Fld Z h0 a own_z0 "words" "[I" (.ref aW)) (F_shifts_a : Fld Z h0 a own_z0 "shifts" "[I" (.ref aH)) (F_packed_a : Fld Z h0 a own_z0 "packed" "[J" (.ref aP)) (F_slots_a : Fld Z h0 a own_z0 "slots" "[I" (.ref aQ)) (F_key_a : Fld Z h0 a own_z0 "key" "[J" (.ref aK)) (F_wordCount_a : Fld Z h0 a own_z0 "wordCount" "I" (.int 1)) (F_size_a : Fld Z h0 a own_z0 "size" "I" (.int 0)) (V_aL : Arv Z h0 aL kaL .int (3 : Int32) [(.int l0), (.int l1), (.int l2)] (.int 0)) (V_aS : Arv Z h0 aS kaS .long (3 : Int32) [(.long sp0), (.long sp1), (.long sp2)] (.long 0)) (V_aW : Arv Z h0 aW kaW .int (3 : Int32) [(.int 0), (.int 0), (.int 0)] (.int 0)) (V_aH : Arv Z h0 aH kaH .int (3 : Int32) [(.int s0), (.int s1), (.int s2)] (.int 0)) (V_st : Arv Z h0 st kst .int (3 : Int32) [(.int v0), (.int v1), (.int v2)] (.int 0)) (V_aK : Arv Z h0 aK kaK .long (1 : Int32) [(.long y0)] (.long 0)) (V_aP : Arv Z h0 aP kaP .long (1024 : Int32) [(.long q0), (.long q1)] (.long 0)) (P_aQ : own_AI Z h0 aQ 1024 (fun _ => 0)) (hA0 : ¬ ((lcmpW ((v0.toInt64) - (l0.toInt64)) (0 : Int64)) < (0 : Int32))) (hB0 : (lcmpW ((v0.toInt64) - (l0.toInt64)) sp0) < (0 : Int32)) (hA1 : ¬ ((lcmpW ((v1.toInt64) - (l1.toInt64)) (0 : Int64)) < (0 : Int32))) (hB1 : (lcmpW ((v1.toInt64) - (l1.toInt64)) sp1) < (0 : Int32)) (hA2 : ¬ ((lcmpW ((v2.toInt64) - (l2.toInt64)) (0 : Int64)) < (0 : Int32))) (hB2 : (lcmpW ((v2.toInt64) - (l2.toInt64)) sp2) < (0 : Int32)) (ne_a_aK : a ≠ aK) (ne_a_aP : a ≠ aP) (ne_a_aQ : a ≠ aQ) (ne_aL_aK : aL ≠ aK) (ne_aS_aK : aS ≠ aK) (ne_aW_aK : aW ≠ aK) (ne_aH_aK : aH ≠ aK) (ne_st_aK : st ≠ aK) (ne_aP_aK : aP ≠ aK) (ne_aQ_aK : aQ ≠ aK) (ne_aP_aQ : aP ≠ aQ) (g_a : n0 ≤ a) (g_aK : n0 ≤ aK) (g_aP : n0 ≤ aP) (g_aQ : n0 ≤ aQ) :
    MetFree l (⟨own_z0, "add", "([I)I"⟩ : MethodName) (head1 (Jvm.Cond.code (⟨own_z0, "add", "([I)I"⟩ : MethodName) prog_160_method_6_code 4 (some .int) :: ws) ({ frames := 2, cells := 0, slots := 0, locals := 34 } : Room)) (fun aa UU => aa = #[(.ref a), (.ref st)] ∧ Z.Warmed39 UU.vm ∧ UU.heap = h0) (fun _ _ _ _ _ => True) (fun _ U o U' => ∃ v L, o = .returned v ∧ own_QaddA1 Z a st aL aS aM aW aH aP aQ aK kaL l0 l1 l2 kaS sp0 sp1 sp2 kaW kaH s0 s1 s2 kst v0 v1 v2 kaK y0 kaP q0 q1 h0 n0 v U'.heap L ∧ FrameEnd U o U' L ({ frames := 2, cells := 0, slots := 0, locals := 34 } : Room).cells ({ frames := 2, cells := 0, slots := 0, locals := 34 } : Room).slots) := by
  refine MetFree.of_bodySF (plainFor_of_name own_pn2) hisR ?_
  intro p e s m args below meth c s₁ Bd hml hP hK
  obtain ⟨rfl, hZ, hh⟩ := hP
  have hx := Bd.exec
  have hlk := Bd.notSynchronized
  have hby := Bd.bytes
  have hret := Bd.returns
  have hown := findClass_of_methodNamed Bd.named
  have hnm := (name_of_methodNamed Bd.named Bd.method).1
  have X0 : Stand p l e ({ frames := 2, cells := 0, slots := 0, locals := 34 } : Room) s m #[(.ref a), (.ref st)] below meth c s₁ [] 0 0 := Stand.of_body Bd
  have e0 : s₁.heap = h0 := by rw [← hh, Bd.state]; rfl
  have N0 := Fr.nil n0
  refine own_cast (own_efaddA1 m a st) ?_
  show own_Go p e below s s₁ _ (own_QaddA1 Z a st aL aS aM aW aH aP aQ aK kaL l0 l1 l2 kaS sp0 sp1 sp2 kaW kaH s0 s1 s2 kst v0 v1 v2 kaK y0 kaP q0 q1 h0 n0) 0 0
  have K0 : Keep h0 h0 [a, aK, aP, aQ] := Keep.refl _ _
  refine own_st (g' := (mkF m 2 #[rv a, rv st, .unset, .unset] [(.ref st), (.ref a)])) (fun tt_ kk_ => XS.aloadN X0.here hx rfl (hb hby own_d9_0) rfl rfl (XS.aloadN X0.here hx rfl (hb hby own_d9_1) rfl rfl kk_)) ?_
  obtain ⟨cq146, q146, q146'⟩ := E_a.cell
  obtain ⟨_, _, ⟨T146, L146, k146, n146⟩, -, X146, ⟨Lc146, hQ146, l146, y146, z146⟩, st146⟩ := X0.privateBack hx (y := (⟨own_z0, "pack", "([I)V"⟩ : MethodName)) hown (mvT hZ (own_w hw 70 rfl)) (mvT hZ (own_w hw 71 rfl)) (own_sel (mvT hZ (own_w hw 71 rfl)) (mvP hZ (own_w hw 72 rfl)) (mvT hZ (own_w hw 12 rfl)) (by decide)) (Cond.privateMethod_at (mvP hZ (own_w hw 72 rfl) (args := #[]))) (mvT hZ (own_w hw 73 rfl)) (by decide) (backOf (W := 0) (own_rmpakA l Z a0 hw [] a st aL aS aW aH aK kaL l0 l1 l2 kaS sp0 sp1 sp2 kaW kaH s0 s1 s2 kst v0 v1 v2 kaK y0 h0 n0 Z0 E_a F_lows_a F_spans_a F_words_a F_shifts_a F_key_a V_aL V_aS V_aW V_aH V_st V_aK hA0 hB0 hA1 hB1 hA2 hB2 ne_a_aK ne_aL_aK ne_aS_aK ne_aW_aK ne_aH_aK ne_st_aK g_aK) hZ (own_w hw 73 rfl) (own_w hw 13 rfl) (by decide) (by decide)) (g := (mkF m 2 #[rv a, rv st, .unset, .unset] [(.ref st), (.ref a)])) rfl (by rw [hml]; rfl) (Steps.refl _) (a := a) (by rw [e0]; exact q146) q146' (argsL := [(.ref st)]) (rest := []) (lenOf own_pd6 rfl) rfl (by show 2 * 0 + _ ≤ _; exact Nat.le_of_eq rfl) (hb hby own_d9_2) (fun _ _ => ⟨rfl, e0, (by decide : 0 + 0 ≤ _), (by decide : 0 + 0 ≤ _)⟩)
  dsimp only [Pt.U, Pt.locs, Pt.cells, Pt.slots] at X146 l146 y146 z146 st146 hQ146
  rw [l146, y146, z146] at X146
  obtain ⟨rfl, N146q, K146q, f146_0⟩ := hQ146
  obtain ⟨h146, e146⟩ : ∃ z, T146.heap = z := ⟨_, rfl⟩
  rw [e146] at K146q f146_0
  have Z146 : n0 ≤ h146.size := Nat.le_trans Z0 K146q.1
  have K146 : Keep h0 h146 [a, aK, aP, aQ] := K0.trans K146q (allS (P := fun x => x ∈ [a, aK, aP, aQ] ∨ h0.size ≤ x) (Or.inl (List.mem_of_getElem? (i := 1) rfl)) all0)
  have N146 := Fr.app N0 N146q
  refine own_st (fun t k => st146.trans k) ?_
  refine own_st (g' := (mkF m 7 #[rv a, rv st, .unset, .unset] [(.ref a), (.ref a)])) (fun tt_ kk_ => XS.aloadN X146.here hx rfl (hb hby own_d9_5) rfl rfl (XS.aloadN X146.here hx rfl (hb hby own_d9_6) rfl rfl kk_)) ?_
  have F148 := (F_key_a.keep K146q (ninS ne_a_aK nin0))
  refine own_gG X146 hx hZ hown (own_w hw 63 rfl) e146 F148 rfl rfl (hb hby own_d9_7) (fun {T147} X147 e147 => ?_)
  refine own_st (g' := (mkF m 11 #[rv a, rv st, .unset, .unset] [(.int 0), (.ref aK), (.ref a)])) (fun tt_ kk_ => XS.iconst X147.here hx rfl (hb hby own_d9_10) kk_) ?_
  have F149 := (E_a.keep K146q)
  have F150 := (F_wordCount_a.keep K146q (ninS ne_a_aK nin0))
  obtain ⟨cq151, q151, q151'⟩ := F149.cell
  obtain ⟨_, _, ⟨T151, L151, k151, n151⟩, -, X151, ⟨Lc151, hQ151, l151, y151, z151⟩, st151⟩ := X147.privateBack hx (y := (⟨own_z0, "hash", "([JI)I"⟩ : MethodName)) hown (mvT hZ (own_w hw 78 rfl)) (mvT hZ (own_w hw 79 rfl)) (own_sel (mvT hZ (own_w hw 79 rfl)) (mvP hZ (own_w hw 80 rfl)) (mvT hZ (own_w hw 12 rfl)) (by decide)) (Cond.privateMethod_at (mvP hZ (own_w hw 80 rfl) (args := #[]))) (mvT hZ (own_w hw 81 rfl)) (by decide) (backOf (W := 0) (own_rmhasA l Z a0 hw [] a aK kaK (own_kA v0 v1 v2 l0 l1 l2 s0 s1 s2) h146 n0 Z146 F150 f146_0) hZ (own_w hw 81 rfl) (own_w hw 13 rfl) (by decide) (by decide)) (g := (mkF m 11 #[rv a, rv st, .unset, .unset] [(.int 0), (.ref aK), (.ref a)])) rfl (by rw [hml]; rfl) (Steps.refl _) (a := a) (by rw [e147]; exact q151) q151' (argsL := [(.ref aK), (.int 0)]) (rest := []) (lenOf own_pd7 rfl) rfl (by show 2 * 0 + _ ≤ _; exact Nat.le_of_eq rfl) (hb hby own_d9_11) (fun _ _ => ⟨rfl, e147, (by decide : 0 + 0 ≤ _), (by decide : 0 + 0 ≤ _)⟩)
  dsimp only [Pt.U, Pt.locs, Pt.cells, Pt.slots] at X151 l151 y151 z151 st151 hQ151
  rw [l151, y151, z151] at X151
  obtain ⟨hz_151, rfl, N151q, e151⟩ := hQ151
  have N151 := Fr.app N146 N151q
  refine own_st (fun t k => st151.trans k) ?_
  refine own_st (g' := (mkF m 17 #[rv a, rv st, iv hz_151, .unset] [(.int hz_151), (.ref a)])) (fun tt_ kk_ => XS.istoreN X151.here hx rfl (hb hby own_d9_14) rfl (l' := #[rv a, rv st, iv hz_151, .unset]) rfl (XS.aloadN X151.here hx rfl (hb hby own_d9_15) rfl rfl (XS.iloadN X151.here hx rfl (hb hby own_d9_16) rfl kk_))) ?_
  have F152 := (F_slots_a.keep K146q (ninS ne_a_aK nin0))
  have F153 := (P_aQ.keep K146q (ninS ne_aQ_aK nin0))
  obtain ⟨cq154, q154, q154'⟩ := F149.cell
  obtain ⟨_, _, ⟨T154, L154, k154, n154⟩, -, X154, ⟨Lc154, hQ154, l154, y154, z154⟩, st154⟩ := X151.privateBack hx (y := (⟨own_z0, "lookUp", "(I)I"⟩ : MethodName)) hown (mvT hZ (own_w hw 84 rfl)) (mvT hZ (own_w hw 85 rfl)) (own_sel (mvT hZ (own_w hw 85 rfl)) (mvP hZ (own_w hw 86 rfl)) (mvT hZ (own_w hw 12 rfl)) (by decide)) (Cond.privateMethod_at (mvP hZ (own_w hw 86 rfl) (args := #[]))) (mvT hZ (own_w hw 87 rfl)) (by decide) (backOf (W := 0) (own_rmlk1 l Z a0 hw [] a hz_151 aQ h146 n0 Z146 F152 F153) hZ (own_w hw 87 rfl) (own_w hw 13 rfl) (by decide) (by decide)) (g := (mkF m 17 #[rv a, rv st, iv hz_151, .unset] [(.int hz_151), (.ref a)])) rfl (by rw [hml]; rfl) (Steps.refl _) (a := a) (by rw [e151]; exact q154) q154' (argsL := [(.int hz_151)]) (rest := []) (lenOf own_pd0 rfl) rfl (by show 2 * 0 + _ ≤ _; exact Nat.le_of_eq rfl) (hb hby own_d9_17) (fun _ _ => ⟨rfl, e151, (by decide : 0 + 0 ≤ _), (by decide : 0 + 0 ≤ _)⟩)
  dsimp only [Pt.U, Pt.locs, Pt.cells, Pt.slots] at X154 l154 y154 z154 st154 hQ154
  rw [l154, y154, z154] at X154
  obtain ⟨rfl, N154q, e154⟩ := hQ154
  have N154 := Fr.app N151 N154q
  refine own_st (fun t k => st154.trans k) ?_
  refine own_st (g' := (mkF m 27 #[rv a, rv st, iv hz_151, iv (-1)] [(.int hz_151), (.ref a)])) (fun tt_ kk_ => XS.istoreN X154.here hx rfl (hb hby own_d9_20) rfl (l' := #[rv a, rv st, iv hz_151, iv (-1)]) rfl (XS.iloadN X154.here hx rfl (hb hby own_d9_21) rfl (XS.ifNo X154.here hx rfl (hb hby own_d9_22) rfl ((if0 _ _).trans (tlt (by decide : (-1 : Int32) < (0 : Int32))).2.1) (XS.aloadN X154.here hx rfl (hb hby own_d9_25) rfl rfl (XS.iloadN X154.here hx rfl (hb hby own_d9_26) rfl kk_))))) ?_
  have F155 := (F_lows_a.keep K146q (ninS ne_a_aK nin0))
  have F156 := (F_spans_a.keep K146q (ninS ne_a_aK nin0))
  have F157 := (F_masks_a.keep K146q (ninS ne_a_aK nin0))
  have F158 := (F_words_a.keep K146q (ninS ne_a_aK nin0))
  have F159 := (F_shifts_a.keep K146q (ninS ne_a_aK nin0))
  have F160 := (F_packed_a.keep K146q (ninS ne_a_aK nin0))
  have F161 := (F_size_a.keep K146q (ninS ne_a_aK nin0))
  have F162 := (V_aP.keep K146q (ninS ne_aP_aK nin0))
  obtain ⟨cq163, q163, q163'⟩ := F149.cell
  obtain ⟨_, _, ⟨T163, L163, k163, n163⟩, -, X163, ⟨Lc163, hQ163, l163, y163, z163⟩, st163⟩ := X154.privateBack hx (y := (⟨own_z0, "append", "(I)I"⟩ : MethodName)) hown (mvT hZ (own_w hw 88 rfl)) (mvT hZ (own_w hw 89 rfl)) (own_sel (mvT hZ (own_w hw 89 rfl)) (mvP hZ (own_w hw 90 rfl)) (mvT hZ (own_w hw 12 rfl)) (by decide)) (Cond.privateMethod_at (mvP hZ (own_w hw 90 rfl) (args := #[]))) (mvT hZ (own_w hw 91 rfl)) (by decide) (backOf (W := 0) (own_rmappA1 l Z a0 hw [] a hz_151 aL aS aM aW aH aP aQ aK kaP q0 q1 kaK (own_kA v0 v1 v2 l0 l1 l2 s0 s1 s2) h146 n0 Z146 F149 F155 F156 F157 F158 F159 F160 F152 F148 F150 F161 F153 F162 f146_0 ne_a_aP ne_a_aQ (Ne.symm ne_aP_aK) (Ne.symm ne_aQ_aK) (Ne.symm ne_a_aK) ne_aP_aQ g_a g_aP g_aQ) hZ (own_w hw 91 rfl) (own_w hw 13 rfl) (by decide) (by decide)) (g := (mkF m 27 #[rv a, rv st, iv hz_151, iv (-1)] [(.int hz_151), (.ref a)])) rfl (by rw [hml]; rfl) (Steps.refl _) (a := a) (by rw [e154]; exact q163) q163' (argsL := [(.int hz_151)]) (rest := []) (lenOf own_pd0 rfl) rfl (by show 2 * 0 + _ ≤ _; exact Nat.le_of_eq rfl) (hb hby own_d9_27) (fun _ _ => ⟨rfl, e154, (by decide : 0 + 0 ≤ _), (by decide : 0 + 0 ≤ _)⟩)
  dsimp only [Pt.U, Pt.locs, Pt.cells, Pt.slots] at X163 l163 y163 z163 st163 hQ163
  rw [l163, y163, z163] at X163
  obtain ⟨rfl, N163q, K163q, f163_0, f163_1, f163_2, f163_3, f163_4, f163_5, f163_6, f163_7, f163_8, f163_9, f163_10, f163_11⟩ := hQ163
  obtain ⟨h163, e163⟩ : ∃ z, T163.heap = z := ⟨_, rfl⟩
  rw [e163] at K163q f163_0 f163_1 f163_2 f163_3 f163_4 f163_5 f163_6 f163_7 f163_8 f163_9 f163_10 f163_11
  have Z163 : n0 ≤ h163.size := Nat.le_trans Z146 K163q.1
  have K163 : Keep h0 h163 [a, aK, aP, aQ] := K146.trans K163q (allS (P := fun x => x ∈ [a, aK, aP, aQ] ∨ h0.size ≤ x) (Or.inl (List.mem_of_getElem? (i := 0) rfl)) (allS (P := fun x => x ∈ [a, aK, aP, aQ] ∨ h0.size ≤ x) (Or.inl (List.mem_of_getElem? (i := 2) rfl)) (allS (P := fun x => x ∈ [a, aK, aP, aQ] ∨ h0.size ≤ x) (Or.inl (List.mem_of_getElem? (i := 3) rfl)) all0)))
  have N163 := Fr.app N154 N163q
  refine own_st (fun t k => st163.trans k) ?_
  refine own_st (g' := (mkF m 32 #[rv a, rv st, iv hz_151, iv 0] [(.int 0)])) (fun tt_ kk_ => XS.istoreN X163.here hx rfl (hb hby own_d9_30) rfl (l' := #[rv a, rv st, iv hz_151, iv 0]) rfl (XS.iloadN X163.here hx rfl (hb hby own_d9_31) rfl kk_)) ?_
  have F164 := (f146_0.keep K163q (ninS (Ne.symm ne_a_aK) (ninS (Ne.symm ne_aP_aK) (ninS (Ne.symm ne_aQ_aK) nin0))))
  exact own_retI X163 hx hlk hret (hb hby own_d9_32) (by decide) (by decide) (by rw [e163]; exact ⟨hz_151, rfl, N163, K163, f163_0, f163_1, f163_2, f163_3, f163_4, f163_5, f163_6, f163_7, f163_8, f163_9, F164, f163_10, f163_11⟩)
def own_QaddA2 (Z : State) (a : Addr) (st : Addr) (aL : Addr) (aS : Addr) (aM : Addr) (aW : Addr) (aH : Addr) (aP : Addr) (aQ : Addr) (aK : Addr) (kaL : ClassId) (l0 : Int32) (l1 : Int32) (l2 : Int32) (kaS : ClassId) (sp0 : Int64) (sp1 : Int64) (sp2 : Int64) (kaW : ClassId) (kaH : ClassId) (s0 : Int32) (s1 : Int32) (s2 : Int32) (kst : ClassId) (v0 : Int32) (v1 : Int32) (v2 : Int32) (kaK : ClassId) (y0 : Int64) (kaP : ClassId) (q0 : Int64) (q1 : Int64) (ho : Int32) (h0 : Heap) (n0 : Nat) (v : Option Value) (h : Heap) (L : List Loc) : Prop := ∃ (rl : Int32) (u0 : Int64), v = some (.int rl) ∧ Fr n0 L ∧ Keep h0 h [a, aK, aP, aQ] ∧ Fld Z h a own_z0 "lows" "[I" (.ref aL) ∧ Fld Z h a own_z0 "masks" "[J" (.ref aM) ∧ Fld Z h a own_z0 "words" "[I" (.ref aW) ∧ Fld Z h a own_z0 "shifts" "[I" (.ref aH) ∧ Fld Z h a own_z0 "packed" "[J" (.ref aP) ∧ Fld Z h a own_z0 "wordCount" "I" (.int 1) ∧ Arv Z h aP kaP .long (1024 : Int32) [(.long q0), (.long u0)] (.long 0) ∧ ((rl = (1 : Int32) ∧ u0 = (own_kA v0 v1 v2 l0 l1 l2 s0 s1 s2)) ∨ (rl = (0 : Int32) ∧ q0 = (own_kA v0 v1 v2 l0 l1 l2 s0 s1 s2)))
theorem own_efaddA2 (m : MethodId) (a : Addr) (st : Addr) : entryFrame m #[(.ref a), (.ref st)] 4 = mkF m 0 #[rv a, rv st, .unset, .unset] [] := by first | (simp [entryFrame, mkF, argsToLocals, Value.category]; done) | rfl
set_option maxRecDepth 65536 in
set_option maxHeartbeats 16000000 in
theorem own_rmaddA2 (l : Launch) (Z : State) (a0 : Array Value) (hw : own_HW Z a0) (ws : List Jvm.Cond) (a : Addr) (st : Addr) (aL : Addr) (aS : Addr) (aM : Addr) (aW : Addr) (aH : Addr) (aP : Addr) (aQ : Addr) (aK : Addr) (kaL : ClassId) (l0 : Int32) (l1 : Int32) (l2 : Int32) (kaS : ClassId) (sp0 : Int64) (sp1 : Int64) (sp2 : Int64) (kaW : ClassId) (kaH : ClassId) (s0 : Int32) (s1 : Int32) (s2 : Int32) (kst : ClassId) (v0 : Int32) (v1 : Int32) (v2 : Int32) (kaK : ClassId) (y0 : Int64) (kaP : ClassId) (q0 : Int64) (q1 : Int64) (ho : Int32) (h0 : Heap) (n0 : Nat) (Z0 : n0 ≤ h0.size) (E_a : Exa Z h0 a own_z0) (F_lows_a : Fld Z h0 a own_z0 "lows" "[I" (.ref aL)) (F_spans_a : Fld Z h0 a own_z0 "spans" "[J" (.ref aS)) (F_masks_a : Fld Z h0 a own_z0 "masks" "[J" (.ref aM)) (F_words_a : Fld Z h0 a own_z0 "words" "[I" (.ref aW)) (F_shifts_a : Fld Z h0 a own_z0 "shifts" "[I" (.ref aH)) (F_packed_a : Fld Z h0 a own_z0 "packed" "[J" (.ref aP)) (F_slots_a : Fld Z h0 a own_z0 "slots" "[I" (.ref aQ)) (F_key_a : Fld Z h0 a own_z0 "key" "[J" (.ref aK)) (F_wordCount_a : Fld Z h0 a own_z0 "wordCount" "I" (.int 1)) (F_size_a : Fld Z h0 a own_z0 "size" "I" (.int 1)) (V_aL : Arv Z h0 aL kaL .int (3 : Int32) [(.int l0), (.int l1), (.int l2)] (.int 0)) (V_aS : Arv Z h0 aS kaS .long (3 : Int32) [(.long sp0), (.long sp1), (.long sp2)] (.long 0)) (V_aW : Arv Z h0 aW kaW .int (3 : Int32) [(.int 0), (.int 0), (.int 0)] (.int 0)) (V_aH : Arv Z h0 aH kaH .int (3 : Int32) [(.int s0), (.int s1), (.int s2)] (.int 0)) (V_st : Arv Z h0 st kst .int (3 : Int32) [(.int v0), (.int v1), (.int v2)] (.int 0)) (V_aK : Arv Z h0 aK kaK .long (1 : Int32) [(.long y0)] (.long 0)) (V_aP : Arv Z h0 aP kaP .long (1024 : Int32) [(.long q0), (.long q1)] (.long 0)) (P_aQ : own_AI Z h0 aQ 1024 (own_sl ho)) (hA0 : ¬ ((lcmpW ((v0.toInt64) - (l0.toInt64)) (0 : Int64)) < (0 : Int32))) (hB0 : (lcmpW ((v0.toInt64) - (l0.toInt64)) sp0) < (0 : Int32)) (hA1 : ¬ ((lcmpW ((v1.toInt64) - (l1.toInt64)) (0 : Int64)) < (0 : Int32))) (hB1 : (lcmpW ((v1.toInt64) - (l1.toInt64)) sp1) < (0 : Int32)) (hA2 : ¬ ((lcmpW ((v2.toInt64) - (l2.toInt64)) (0 : Int64)) < (0 : Int32))) (hB2 : (lcmpW ((v2.toInt64) - (l2.toInt64)) sp2) < (0 : Int32)) (ne_a_aK : a ≠ aK) (ne_a_aP : a ≠ aP) (ne_a_aQ : a ≠ aQ) (ne_aL_aK : aL ≠ aK) (ne_aS_aK : aS ≠ aK) (ne_aW_aK : aW ≠ aK) (ne_aH_aK : aH ≠ aK) (ne_st_aK : st ≠ aK) (ne_aP_aK : aP ≠ aK) (ne_aQ_aK : aQ ≠ aK) (ne_aP_aQ : aP ≠ aQ) (g_a : n0 ≤ a) (g_aK : n0 ≤ aK) (g_aP : n0 ≤ aP) (g_aQ : n0 ≤ aQ) :
    MetFree l (⟨own_z0, "add", "([I)I"⟩ : MethodName) (head1 (Jvm.Cond.code (⟨own_z0, "add", "([I)I"⟩ : MethodName) prog_160_method_6_code 4 (some .int) :: ws) ({ frames := 2, cells := 0, slots := 0, locals := 34 } : Room)) (fun aa UU => aa = #[(.ref a), (.ref st)] ∧ Z.Warmed39 UU.vm ∧ UU.heap = h0) (fun _ _ _ _ _ => True) (fun _ U o U' => ∃ v L, o = .returned v ∧ own_QaddA2 Z a st aL aS aM aW aH aP aQ aK kaL l0 l1 l2 kaS sp0 sp1 sp2 kaW kaH s0 s1 s2 kst v0 v1 v2 kaK y0 kaP q0 q1 ho h0 n0 v U'.heap L ∧ FrameEnd U o U' L ({ frames := 2, cells := 0, slots := 0, locals := 34 } : Room).cells ({ frames := 2, cells := 0, slots := 0, locals := 34 } : Room).slots) := by
  refine MetFree.of_bodySF (plainFor_of_name own_pn2) hisR ?_
  intro p e s m args below meth c s₁ Bd hml hP hK
  obtain ⟨rfl, hZ, hh⟩ := hP
  have hx := Bd.exec
  have hlk := Bd.notSynchronized
  have hby := Bd.bytes
  have hret := Bd.returns
  have hown := findClass_of_methodNamed Bd.named
  have hnm := (name_of_methodNamed Bd.named Bd.method).1
  have X0 : Stand p l e ({ frames := 2, cells := 0, slots := 0, locals := 34 } : Room) s m #[(.ref a), (.ref st)] below meth c s₁ [] 0 0 := Stand.of_body Bd
  have e0 : s₁.heap = h0 := by rw [← hh, Bd.state]; rfl
  have N0 := Fr.nil n0
  refine own_cast (own_efaddA2 m a st) ?_
  show own_Go p e below s s₁ _ (own_QaddA2 Z a st aL aS aM aW aH aP aQ aK kaL l0 l1 l2 kaS sp0 sp1 sp2 kaW kaH s0 s1 s2 kst v0 v1 v2 kaK y0 kaP q0 q1 ho h0 n0) 0 0
  have K0 : Keep h0 h0 [a, aK, aP, aQ] := Keep.refl _ _
  refine own_st (g' := (mkF m 2 #[rv a, rv st, .unset, .unset] [(.ref st), (.ref a)])) (fun tt_ kk_ => XS.aloadN X0.here hx rfl (hb hby own_d9_0) rfl rfl (XS.aloadN X0.here hx rfl (hb hby own_d9_1) rfl rfl kk_)) ?_
  obtain ⟨cq165, q165, q165'⟩ := E_a.cell
  obtain ⟨_, _, ⟨T165, L165, k165, n165⟩, -, X165, ⟨Lc165, hQ165, l165, y165, z165⟩, st165⟩ := X0.privateBack hx (y := (⟨own_z0, "pack", "([I)V"⟩ : MethodName)) hown (mvT hZ (own_w hw 70 rfl)) (mvT hZ (own_w hw 71 rfl)) (own_sel (mvT hZ (own_w hw 71 rfl)) (mvP hZ (own_w hw 72 rfl)) (mvT hZ (own_w hw 12 rfl)) (by decide)) (Cond.privateMethod_at (mvP hZ (own_w hw 72 rfl) (args := #[]))) (mvT hZ (own_w hw 73 rfl)) (by decide) (backOf (W := 0) (own_rmpakA l Z a0 hw [] a st aL aS aW aH aK kaL l0 l1 l2 kaS sp0 sp1 sp2 kaW kaH s0 s1 s2 kst v0 v1 v2 kaK y0 h0 n0 Z0 E_a F_lows_a F_spans_a F_words_a F_shifts_a F_key_a V_aL V_aS V_aW V_aH V_st V_aK hA0 hB0 hA1 hB1 hA2 hB2 ne_a_aK ne_aL_aK ne_aS_aK ne_aW_aK ne_aH_aK ne_st_aK g_aK) hZ (own_w hw 73 rfl) (own_w hw 13 rfl) (by decide) (by decide)) (g := (mkF m 2 #[rv a, rv st, .unset, .unset] [(.ref st), (.ref a)])) rfl (by rw [hml]; rfl) (Steps.refl _) (a := a) (by rw [e0]; exact q165) q165' (argsL := [(.ref st)]) (rest := []) (lenOf own_pd6 rfl) rfl (by show 2 * 0 + _ ≤ _; exact Nat.le_of_eq rfl) (hb hby own_d9_2) (fun _ _ => ⟨rfl, e0, (by decide : 0 + 0 ≤ _), (by decide : 0 + 0 ≤ _)⟩)
  dsimp only [Pt.U, Pt.locs, Pt.cells, Pt.slots] at X165 l165 y165 z165 st165 hQ165
  rw [l165, y165, z165] at X165
  obtain ⟨rfl, N165q, K165q, f165_0⟩ := hQ165
  obtain ⟨h165, e165⟩ : ∃ z, T165.heap = z := ⟨_, rfl⟩
  rw [e165] at K165q f165_0
  have Z165 : n0 ≤ h165.size := Nat.le_trans Z0 K165q.1
  have K165 : Keep h0 h165 [a, aK, aP, aQ] := K0.trans K165q (allS (P := fun x => x ∈ [a, aK, aP, aQ] ∨ h0.size ≤ x) (Or.inl (List.mem_of_getElem? (i := 1) rfl)) all0)
  have N165 := Fr.app N0 N165q
  refine own_st (fun t k => st165.trans k) ?_
  refine own_st (g' := (mkF m 7 #[rv a, rv st, .unset, .unset] [(.ref a), (.ref a)])) (fun tt_ kk_ => XS.aloadN X165.here hx rfl (hb hby own_d9_5) rfl rfl (XS.aloadN X165.here hx rfl (hb hby own_d9_6) rfl rfl kk_)) ?_
  have F167 := (F_key_a.keep K165q (ninS ne_a_aK nin0))
  refine own_gG X165 hx hZ hown (own_w hw 63 rfl) e165 F167 rfl rfl (hb hby own_d9_7) (fun {T166} X166 e166 => ?_)
  refine own_st (g' := (mkF m 11 #[rv a, rv st, .unset, .unset] [(.int 0), (.ref aK), (.ref a)])) (fun tt_ kk_ => XS.iconst X166.here hx rfl (hb hby own_d9_10) kk_) ?_
  have F168 := (E_a.keep K165q)
  have F169 := (F_wordCount_a.keep K165q (ninS ne_a_aK nin0))
  obtain ⟨cq170, q170, q170'⟩ := F168.cell
  obtain ⟨_, _, ⟨T170, L170, k170, n170⟩, -, X170, ⟨Lc170, hQ170, l170, y170, z170⟩, st170⟩ := X166.privateBack hx (y := (⟨own_z0, "hash", "([JI)I"⟩ : MethodName)) hown (mvT hZ (own_w hw 78 rfl)) (mvT hZ (own_w hw 79 rfl)) (own_sel (mvT hZ (own_w hw 79 rfl)) (mvP hZ (own_w hw 80 rfl)) (mvT hZ (own_w hw 12 rfl)) (by decide)) (Cond.privateMethod_at (mvP hZ (own_w hw 80 rfl) (args := #[]))) (mvT hZ (own_w hw 81 rfl)) (by decide) (backOf (W := 0) (own_rmhasA l Z a0 hw [] a aK kaK (own_kA v0 v1 v2 l0 l1 l2 s0 s1 s2) h165 n0 Z165 F169 f165_0) hZ (own_w hw 81 rfl) (own_w hw 13 rfl) (by decide) (by decide)) (g := (mkF m 11 #[rv a, rv st, .unset, .unset] [(.int 0), (.ref aK), (.ref a)])) rfl (by rw [hml]; rfl) (Steps.refl _) (a := a) (by rw [e166]; exact q170) q170' (argsL := [(.ref aK), (.int 0)]) (rest := []) (lenOf own_pd7 rfl) rfl (by show 2 * 0 + _ ≤ _; exact Nat.le_of_eq rfl) (hb hby own_d9_11) (fun _ _ => ⟨rfl, e166, (by decide : 0 + 0 ≤ _), (by decide : 0 + 0 ≤ _)⟩)
  dsimp only [Pt.U, Pt.locs, Pt.cells, Pt.slots] at X170 l170 y170 z170 st170 hQ170
  rw [l170, y170, z170] at X170
  obtain ⟨hz_170, rfl, N170q, e170⟩ := hQ170
  have N170 := Fr.app N165 N170q
  refine own_st (fun t k => st170.trans k) ?_
  refine own_st (g' := (mkF m 17 #[rv a, rv st, iv hz_170, .unset] [(.int hz_170), (.ref a)])) (fun tt_ kk_ => XS.istoreN X170.here hx rfl (hb hby own_d9_14) rfl (l' := #[rv a, rv st, iv hz_170, .unset]) rfl (XS.aloadN X170.here hx rfl (hb hby own_d9_15) rfl rfl (XS.iloadN X170.here hx rfl (hb hby own_d9_16) rfl kk_))) ?_
  have F171 := (F_packed_a.keep K165q (ninS ne_a_aK nin0))
  have F172 := (F_slots_a.keep K165q (ninS ne_a_aK nin0))
  have F173 := (P_aQ.keep K165q (ninS ne_aQ_aK nin0))
  have F174 := (V_aP.keep K165q (ninS ne_aP_aK nin0))
  obtain ⟨cq175, q175, q175'⟩ := F168.cell
  obtain ⟨_, _, ⟨T175, L175, k175, n175⟩, -, X175, ⟨Lc175, hQ175, l175, y175, z175⟩, st175⟩ := X170.privateBack hx (y := (⟨own_z0, "lookUp", "(I)I"⟩ : MethodName)) hown (mvT hZ (own_w hw 84 rfl)) (mvT hZ (own_w hw 85 rfl)) (own_sel (mvT hZ (own_w hw 85 rfl)) (mvP hZ (own_w hw 86 rfl)) (mvT hZ (own_w hw 12 rfl)) (by decide)) (Cond.privateMethod_at (mvP hZ (own_w hw 86 rfl) (args := #[]))) (mvT hZ (own_w hw 87 rfl)) (by decide) (backOf (W := 0) (own_rmlk2A l Z a0 hw [] a hz_170 aP aQ aK ho kaP q0 q1 kaK (own_kA v0 v1 v2 l0 l1 l2 s0 s1 s2) h165 n0 Z165 F168 F171 F172 F167 F169 F173 F174 f165_0) hZ (own_w hw 87 rfl) (own_w hw 13 rfl) (by decide) (by decide)) (g := (mkF m 17 #[rv a, rv st, iv hz_170, .unset] [(.int hz_170), (.ref a)])) rfl (by rw [hml]; rfl) (Steps.refl _) (a := a) (by rw [e170]; exact q175) q175' (argsL := [(.int hz_170)]) (rest := []) (lenOf own_pd0 rfl) rfl (by show 2 * 0 + _ ≤ _; exact Nat.le_of_eq rfl) (hb hby own_d9_17) (fun _ _ => ⟨rfl, e170, (by decide : 0 + 0 ≤ _), (by decide : 0 + 0 ≤ _)⟩)
  dsimp only [Pt.U, Pt.locs, Pt.cells, Pt.slots] at X175 l175 y175 z175 st175 hQ175
  rw [l175, y175, z175] at X175
  obtain ⟨rl_175, rfl, N175q, e175, f175_0⟩ := hQ175
  have N175 := Fr.app N170 N175q
  refine own_st (fun t k => st175.trans k) ?_
  rcases f175_0 with rfl | ⟨rfl, ek0⟩
  · skip
    refine own_st (g' := (mkF m 27 #[rv a, rv st, iv hz_170, iv (-1)] [(.int hz_170), (.ref a)])) (fun tt_ kk_ => XS.istoreN X175.here hx rfl (hb hby own_d9_20) rfl (l' := #[rv a, rv st, iv hz_170, iv (-1)]) rfl (XS.iloadN X175.here hx rfl (hb hby own_d9_21) rfl (XS.ifNo X175.here hx rfl (hb hby own_d9_22) rfl ((if0 _ _).trans (tlt (by decide : (-1 : Int32) < (0 : Int32))).2.1) (XS.aloadN X175.here hx rfl (hb hby own_d9_25) rfl rfl (XS.iloadN X175.here hx rfl (hb hby own_d9_26) rfl kk_))))) ?_
    have F176 := (F_lows_a.keep K165q (ninS ne_a_aK nin0))
    have F177 := (F_spans_a.keep K165q (ninS ne_a_aK nin0))
    have F178 := (F_masks_a.keep K165q (ninS ne_a_aK nin0))
    have F179 := (F_words_a.keep K165q (ninS ne_a_aK nin0))
    have F180 := (F_shifts_a.keep K165q (ninS ne_a_aK nin0))
    have F181 := (F_size_a.keep K165q (ninS ne_a_aK nin0))
    obtain ⟨cq182, q182, q182'⟩ := F168.cell
    obtain ⟨_, _, ⟨T182, L182, k182, n182⟩, -, X182, ⟨Lc182, hQ182, l182, y182, z182⟩, st182⟩ := X175.privateBack hx (y := (⟨own_z0, "append", "(I)I"⟩ : MethodName)) hown (mvT hZ (own_w hw 88 rfl)) (mvT hZ (own_w hw 89 rfl)) (own_sel (mvT hZ (own_w hw 89 rfl)) (mvP hZ (own_w hw 90 rfl)) (mvT hZ (own_w hw 12 rfl)) (by decide)) (Cond.privateMethod_at (mvP hZ (own_w hw 90 rfl) (args := #[]))) (mvT hZ (own_w hw 91 rfl)) (by decide) (backOf (W := 0) (own_rmappA2 l Z a0 hw [] a hz_170 aL aS aM aW aH aP aQ aK ho kaP q0 q1 kaK (own_kA v0 v1 v2 l0 l1 l2 s0 s1 s2) h165 n0 Z165 F168 F176 F177 F178 F179 F180 F171 F172 F167 F169 F181 F173 F174 f165_0 ne_a_aP ne_a_aQ (Ne.symm ne_aP_aK) (Ne.symm ne_aQ_aK) (Ne.symm ne_a_aK) ne_aP_aQ g_a g_aP g_aQ) hZ (own_w hw 91 rfl) (own_w hw 13 rfl) (by decide) (by decide)) (g := (mkF m 27 #[rv a, rv st, iv hz_170, iv (-1)] [(.int hz_170), (.ref a)])) rfl (by rw [hml]; rfl) (Steps.refl _) (a := a) (by rw [e175]; exact q182) q182' (argsL := [(.int hz_170)]) (rest := []) (lenOf own_pd0 rfl) rfl (by show 2 * 0 + _ ≤ _; exact Nat.le_of_eq rfl) (hb hby own_d9_27) (fun _ _ => ⟨rfl, e175, (by decide : 0 + 0 ≤ _), (by decide : 0 + 0 ≤ _)⟩)
    dsimp only [Pt.U, Pt.locs, Pt.cells, Pt.slots] at X182 l182 y182 z182 st182 hQ182
    rw [l182, y182, z182] at X182
    obtain ⟨rfl, N182q, K182q, f182_0, f182_1, f182_2, f182_3, f182_4, f182_5, f182_6, f182_7, f182_8, f182_9, f182_10⟩ := hQ182
    obtain ⟨h182, e182⟩ : ∃ z, T182.heap = z := ⟨_, rfl⟩
    rw [e182] at K182q f182_0 f182_1 f182_2 f182_3 f182_4 f182_5 f182_6 f182_7 f182_8 f182_9 f182_10
    have Z182 : n0 ≤ h182.size := Nat.le_trans Z165 K182q.1
    have K182 : Keep h0 h182 [a, aK, aP, aQ] := K165.trans K182q (allS (P := fun x => x ∈ [a, aK, aP, aQ] ∨ h0.size ≤ x) (Or.inl (List.mem_of_getElem? (i := 0) rfl)) (allS (P := fun x => x ∈ [a, aK, aP, aQ] ∨ h0.size ≤ x) (Or.inl (List.mem_of_getElem? (i := 2) rfl)) (allS (P := fun x => x ∈ [a, aK, aP, aQ] ∨ h0.size ≤ x) (Or.inl (List.mem_of_getElem? (i := 3) rfl)) all0)))
    have N182 := Fr.app N175 N182q
    refine own_st (fun t k => st182.trans k) ?_
    refine own_st (g' := (mkF m 32 #[rv a, rv st, iv hz_170, iv 1] [(.int 1)])) (fun tt_ kk_ => XS.istoreN X182.here hx rfl (hb hby own_d9_30) rfl (l' := #[rv a, rv st, iv hz_170, iv 1]) rfl (XS.iloadN X182.here hx rfl (hb hby own_d9_31) rfl kk_)) ?_
    exact own_retI X182 hx hlk hret (hb hby own_d9_32) (by decide) (by decide) (by rw [e182]; exact ⟨(1 : Int32), _, rfl, N182, K182, f182_0, f182_2, f182_3, f182_4, f182_5, f182_8, f182_10, (Or.inl ⟨rfl, rfl⟩)⟩)
  · skip
    refine own_st (g' := (mkF m 32 #[rv a, rv st, iv hz_170, iv 0] [(.int 0)])) (fun tt_ kk_ => XS.istoreN X175.here hx rfl (hb hby own_d9_20) rfl (l' := #[rv a, rv st, iv hz_170, iv 0]) rfl (XS.iloadN X175.here hx rfl (hb hby own_d9_21) rfl (XS.ifYes X175.here hx rfl (pc0 := 22) (pc' := 31) rfl (hb hby own_d9_22) rfl ((if0 _ _).trans (flt (by decide : ¬ ((0 : Int32) < (0 : Int32)))).2.1) (by decide) (by decide) (XS.iloadN X175.here hx rfl (hb hby own_d9_31) rfl kk_)))) ?_
    have F183 := (F_lows_a.keep K165q (ninS ne_a_aK nin0))
    have F184 := (F_masks_a.keep K165q (ninS ne_a_aK nin0))
    have F185 := (F_words_a.keep K165q (ninS ne_a_aK nin0))
    have F186 := (F_shifts_a.keep K165q (ninS ne_a_aK nin0))
    exact own_retI X175 hx hlk hret (hb hby own_d9_32) (by decide) (by decide) (by rw [e175]; exact ⟨(0 : Int32), _, rfl, N175, K165, F183, F184, F185, F186, F171, F169, F174, (Or.inr ⟨rfl, ek0⟩)⟩)
theorem own_d16_0 : own_D own_b16 0 (.iload_n 1) 1 := by decide +kernel
theorem own_d16_1 : own_D own_b16 1 (.aload_n 0) 1 := by decide +kernel
theorem own_d16_2 : own_D own_b16 2 (.getfield 54) 3 := by decide +kernel
theorem own_d16_5 : own_D own_b16 5 .imul 1 := by decide +kernel
theorem own_d16_6 : own_D own_b16 6 (.istore_n 3) 1 := by decide +kernel
theorem own_d16_7 : own_D own_b16 7 (.iconst 0) 1 := by decide +kernel
theorem own_d16_8 : own_D own_b16 8 (.istore 4) 2 := by decide +kernel
theorem own_d16_10 : own_D own_b16 10 (.iload 4) 2 := by decide +kernel
theorem own_d16_12 : own_D own_b16 12 (.aload_n 0) 1 := by decide +kernel
theorem own_d16_13 : own_D own_b16 13 (.getfield 29) 3 := by decide +kernel
theorem own_d16_16 : own_D own_b16 16 .arraylength 1 := by decide +kernel
theorem own_d16_17 : own_D own_b16 17 (.if_icmp .ge 57) 3 := by decide +kernel
theorem own_d16_20 : own_D own_b16 20 (.aload_n 0) 1 := by decide +kernel
theorem own_d16_21 : own_D own_b16 21 (.getfield 70) 3 := by decide +kernel
theorem own_d16_24 : own_D own_b16 24 (.iload_n 3) 1 := by decide +kernel
theorem own_d16_25 : own_D own_b16 25 (.aload_n 0) 1 := by decide +kernel
theorem own_d16_26 : own_D own_b16 26 (.getfield 39) 3 := by decide +kernel
theorem own_d16_29 : own_D own_b16 29 (.iload 4) 2 := by decide +kernel
theorem own_d16_31 : own_D own_b16 31 .iaload 1 := by decide +kernel
theorem own_d16_32 : own_D own_b16 32 .iadd 1 := by decide +kernel
theorem own_d16_33 : own_D own_b16 33 .laload 1 := by decide +kernel
theorem own_d16_34 : own_D own_b16 34 (.lstore 5) 2 := by decide +kernel
theorem own_d16_36 : own_D own_b16 36 (.aload_n 2) 1 := by decide +kernel
theorem own_d16_37 : own_D own_b16 37 (.iload 4) 2 := by decide +kernel
theorem own_d16_39 : own_D own_b16 39 (.aload_n 0) 1 := by decide +kernel
theorem own_d16_40 : own_D own_b16 40 (.getfield 29) 3 := by decide +kernel
theorem own_d16_43 : own_D own_b16 43 (.iload 4) 2 := by decide +kernel
theorem own_d16_45 : own_D own_b16 45 .iaload 1 := by decide +kernel
theorem own_d16_46 : own_D own_b16 46 .i2l 1 := by decide +kernel
theorem own_d16_47 : own_D own_b16 47 (.lload 5) 2 := by decide +kernel
theorem own_d16_49 : own_D own_b16 49 (.aload_n 0) 1 := by decide +kernel
theorem own_d16_50 : own_D own_b16 50 (.getfield 42) 3 := by decide +kernel
theorem own_d16_53 : own_D own_b16 53 (.iload 4) 2 := by decide +kernel
theorem own_d16_55 : own_D own_b16 55 .iaload 1 := by decide +kernel
theorem own_d16_56 : own_D own_b16 56 .lushr 1 := by decide +kernel
theorem own_d16_57 : own_D own_b16 57 (.aload_n 0) 1 := by decide +kernel
theorem own_d16_58 : own_D own_b16 58 (.getfield 36) 3 := by decide +kernel
theorem own_d16_61 : own_D own_b16 61 (.iload 4) 2 := by decide +kernel
theorem own_d16_63 : own_D own_b16 63 .laload 1 := by decide +kernel
theorem own_d16_64 : own_D own_b16 64 .land 1 := by decide +kernel
theorem own_d16_65 : own_D own_b16 65 .ladd 1 := by decide +kernel
theorem own_d16_66 : own_D own_b16 66 .l2i 1 := by decide +kernel
theorem own_d16_67 : own_D own_b16 67 .iastore 1 := by decide +kernel
theorem own_d16_68 : own_D own_b16 68 (.iinc 4 1) 3 := by decide +kernel
theorem own_d16_71 : own_D own_b16 71 (.goto (-61)) 3 := by decide +kernel
theorem own_d16_74 : own_D own_b16 74 .return_ 1 := by decide +kernel
def own_QgetA0 (Z : State) (a : Addr) (ot : Addr) (aL : Addr) (aM : Addr) (aW : Addr) (aH : Addr) (aP : Addr) (kaL : ClassId) (l0 : Int32) (l1 : Int32) (l2 : Int32) (kaM : ClassId) (m0 : Int64) (m1 : Int64) (m2 : Int64) (kaW : ClassId) (kaH : ClassId) (s0 : Int32) (s1 : Int32) (s2 : Int32) (kot : ClassId) (o0 : Int32) (o1 : Int32) (o2 : Int32) (kaP : ClassId) (q0 : Int64) (q1 : Int64) (h0 : Heap) (n0 : Nat) (v : Option Value) (h : Heap) (L : List Loc) : Prop := v = none ∧ Fr n0 L ∧ Keep h0 h [ot] ∧ Arv Z h ot kot .int (3 : Int32) [(.int (own_gv l0 q0 s0 m0)), (.int (own_gv l1 q0 s1 m1)), (.int (own_gv l2 q0 s2 m2))] (.int 0)
theorem own_efgetA0 (m : MethodId) (a : Addr) (ot : Addr) : entryFrame m #[(.ref a), (.int 0), (.ref ot)] 7 = mkF m 0 #[rv a, iv 0, rv ot, .unset, .unset, .unset, .unset] [] := by first | (simp [entryFrame, mkF, argsToLocals, Value.category]; done) | rfl
set_option maxRecDepth 65536 in
set_option maxHeartbeats 16000000 in
theorem own_rmgetA0 (l : Launch) (Z : State) (a0 : Array Value) (hw : own_HW Z a0) (ws : List Jvm.Cond) (a : Addr) (ot : Addr) (aL : Addr) (aM : Addr) (aW : Addr) (aH : Addr) (aP : Addr) (kaL : ClassId) (l0 : Int32) (l1 : Int32) (l2 : Int32) (kaM : ClassId) (m0 : Int64) (m1 : Int64) (m2 : Int64) (kaW : ClassId) (kaH : ClassId) (s0 : Int32) (s1 : Int32) (s2 : Int32) (kot : ClassId) (o0 : Int32) (o1 : Int32) (o2 : Int32) (kaP : ClassId) (q0 : Int64) (q1 : Int64) (h0 : Heap) (n0 : Nat) (Z0 : n0 ≤ h0.size) (E_a : Exa Z h0 a own_z0) (F_lows_a : Fld Z h0 a own_z0 "lows" "[I" (.ref aL)) (F_masks_a : Fld Z h0 a own_z0 "masks" "[J" (.ref aM)) (F_words_a : Fld Z h0 a own_z0 "words" "[I" (.ref aW)) (F_shifts_a : Fld Z h0 a own_z0 "shifts" "[I" (.ref aH)) (F_packed_a : Fld Z h0 a own_z0 "packed" "[J" (.ref aP)) (F_wordCount_a : Fld Z h0 a own_z0 "wordCount" "I" (.int 1)) (V_aL : Arv Z h0 aL kaL .int (3 : Int32) [(.int l0), (.int l1), (.int l2)] (.int 0)) (V_aM : Arv Z h0 aM kaM .long (3 : Int32) [(.long m0), (.long m1), (.long m2)] (.long 0)) (V_aW : Arv Z h0 aW kaW .int (3 : Int32) [(.int 0), (.int 0), (.int 0)] (.int 0)) (V_aH : Arv Z h0 aH kaH .int (3 : Int32) [(.int s0), (.int s1), (.int s2)] (.int 0)) (V_ot : Arv Z h0 ot kot .int (3 : Int32) [(.int o0), (.int o1), (.int o2)] (.int 0)) (V_aP : Arv Z h0 aP kaP .long (1024 : Int32) [(.long q0), (.long q1)] (.long 0)) (ne_a_ot : a ≠ ot) (ne_aL_ot : aL ≠ ot) (ne_aM_ot : aM ≠ ot) (ne_aW_ot : aW ≠ ot) (ne_aH_ot : aH ≠ ot) (ne_aP_ot : aP ≠ ot) (g_ot : n0 ≤ ot) :
    MetFree l (⟨own_z0, "get", "(I[I)V"⟩ : MethodName) (head1 (Jvm.Cond.code (⟨own_z0, "get", "(I[I)V"⟩ : MethodName) prog_160_method_9_code 7 none :: ws) ({ frames := 0, cells := 0, slots := 0, locals := 0 } : Room)) (fun aa UU => aa = #[(.ref a), (.int 0), (.ref ot)] ∧ Z.Warmed39 UU.vm ∧ UU.heap = h0) (fun _ _ _ _ _ => True) (fun _ U o U' => ∃ v L, o = .returned v ∧ own_QgetA0 Z a ot aL aM aW aH aP kaL l0 l1 l2 kaM m0 m1 m2 kaW kaH s0 s1 s2 kot o0 o1 o2 kaP q0 q1 h0 n0 v U'.heap L ∧ FrameEnd U o U' L ({ frames := 0, cells := 0, slots := 0, locals := 0 } : Room).cells ({ frames := 0, cells := 0, slots := 0, locals := 0 } : Room).slots) := by
  refine MetFree.of_bodySF (plainFor_of_name own_pn2) hisR ?_
  intro p e s m args below meth c s₁ Bd hml hP hK
  obtain ⟨rfl, hZ, hh⟩ := hP
  have hx := Bd.exec
  have hlk := Bd.notSynchronized
  have hby := Bd.bytes
  have hret := Bd.returns
  have hown := findClass_of_methodNamed Bd.named
  have hnm := (name_of_methodNamed Bd.named Bd.method).1
  have X0 : Stand p l e ({ frames := 0, cells := 0, slots := 0, locals := 0 } : Room) s m #[(.ref a), (.int 0), (.ref ot)] below meth c s₁ [] 0 0 := Stand.of_body Bd
  have e0 : s₁.heap = h0 := by rw [← hh, Bd.state]; rfl
  have N0 := Fr.nil n0
  refine own_cast (own_efgetA0 m a ot) ?_
  show own_Go p e below s s₁ _ (own_QgetA0 Z a ot aL aM aW aH aP kaL l0 l1 l2 kaM m0 m1 m2 kaW kaH s0 s1 s2 kot o0 o1 o2 kaP q0 q1 h0 n0) 0 0
  have K0 : Keep h0 h0 [ot] := Keep.refl _ _
  refine own_st (g' := (mkF m 2 #[rv a, iv 0, rv ot, .unset, .unset, .unset, .unset] [(.ref a), (.int 0)])) (fun tt_ kk_ => XS.iloadN X0.here hx rfl (hb hby own_d16_0) rfl (XS.aloadN X0.here hx rfl (hb hby own_d16_1) rfl rfl kk_)) ?_
  refine own_gG X0 hx hZ hown (own_w hw 49 rfl) e0 F_wordCount_a rfl rfl (hb hby own_d16_2) (fun {T187} X187 e187 => ?_)
  refine own_st (g' := (mkF m 13 #[rv a, iv 0, rv ot, iv 0, iv 0, .unset, .unset] [(.ref a), (.int 0)])) (fun tt_ kk_ => XS.imul X187.here hx rfl (hb hby own_d16_5) rfl (XS.istoreN X187.here hx rfl (hb hby own_d16_6) rfl (l' := #[rv a, iv 0, rv ot, iv 0, .unset, .unset, .unset]) rfl (XS.iconst X187.here hx rfl (hb hby own_d16_7) (XS.istore X187.here hx rfl (hb hby own_d16_8) rfl (l' := #[rv a, iv 0, rv ot, iv 0, iv 0, .unset, .unset]) rfl (XS.iload X187.here hx rfl (hb hby own_d16_10) rfl (XS.aloadN X187.here hx rfl (hb hby own_d16_12) rfl rfl kk_)))))) ?_
  refine own_gG X187 hx hZ hown (own_w hw 29 rfl) e187 F_lows_a rfl rfl (hb hby own_d16_13) (fun {T188} X188 e188 => ?_)
  refine own_st (g' := (mkF m 21 #[rv a, iv 0, rv ot, iv 0, iv 0, .unset, .unset] [(.ref a)])) (fun tt_ kk_ => own_lnV (g := (mkF m 16 #[rv a, iv 0, rv ot, iv 0, iv 0, .unset, .unset] [(.ref aL), (.int 0)])) X188 hx hZ e188 V_aL rfl rfl (hb hby own_d16_16) tt_ (XS.icmpNo X188.here hx rfl (hb hby own_d16_17) rfl (tlt (by decide : (0 : Int32) < (3 : Int32))).2.1 (XS.aloadN X188.here hx rfl (hb hby own_d16_20) rfl rfl kk_))) ?_
  refine own_gG X188 hx hZ hown (own_w hw 56 rfl) e188 F_packed_a rfl rfl (hb hby own_d16_21) (fun {T189} X189 e189 => ?_)
  refine own_st (g' := (mkF m 26 #[rv a, iv 0, rv ot, iv 0, iv 0, .unset, .unset] [(.ref a), (.int 0), (.ref aP)])) (fun tt_ kk_ => XS.iloadN X189.here hx rfl (hb hby own_d16_24) rfl (XS.aloadN X189.here hx rfl (hb hby own_d16_25) rfl rfl kk_)) ?_
  refine own_gG X189 hx hZ hown (own_w hw 36 rfl) e189 F_words_a rfl rfl (hb hby own_d16_26) (fun {T190} X190 e190 => ?_)
  refine own_st (g' := (mkF m 31 #[rv a, iv 0, rv ot, iv 0, iv 0, .unset, .unset] [(.int 0), (.ref aW), (.int 0), (.ref aP)])) (fun tt_ kk_ => XS.iload X190.here hx rfl (hb hby own_d16_29) rfl kk_) ?_
  refine own_st (g' := (mkF m 33 #[rv a, iv 0, rv ot, iv 0, iv 0, .unset, .unset] [(.int 0), (.ref aP)])) (fun tt_ kk_ => own_lvI (g := (mkF m 31 #[rv a, iv 0, rv ot, iv 0, iv 0, .unset, .unset] [(.int 0), (.ref aW), (.int 0), (.ref aP)])) X190 hx hZ e190 V_aW (by decide) rfl rfl rfl (hb hby own_d16_31) tt_ (XS.iadd X190.here hx rfl (hb hby own_d16_32) rfl kk_)) ?_
  refine own_st (g' := (mkF m 40 #[rv a, iv 0, rv ot, iv 0, iv 0, .val (.long q0), .second] [(.ref a), (.int 0), (.ref ot)])) (fun tt_ kk_ => own_lvJ (g := (mkF m 33 #[rv a, iv 0, rv ot, iv 0, iv 0, .unset, .unset] [(.int 0), (.ref aP)])) X190 hx hZ e190 V_aP (by decide) rfl rfl rfl (hb hby own_d16_33) tt_ (XS.lstore X190.here hx rfl (hb hby own_d16_34) rfl (l' := #[rv a, iv 0, rv ot, iv 0, iv 0, .val (.long q0), .second]) rfl (XS.aloadN X190.here hx rfl (hb hby own_d16_36) rfl rfl (XS.iload X190.here hx rfl (hb hby own_d16_37) rfl (XS.aloadN X190.here hx rfl (hb hby own_d16_39) rfl rfl kk_))))) ?_
  refine own_gG X190 hx hZ hown (own_w hw 29 rfl) e190 F_lows_a rfl rfl (hb hby own_d16_40) (fun {T191} X191 e191 => ?_)
  refine own_st (g' := (mkF m 45 #[rv a, iv 0, rv ot, iv 0, iv 0, .val (.long q0), .second] [(.int 0), (.ref aL), (.int 0), (.ref ot)])) (fun tt_ kk_ => XS.iload X191.here hx rfl (hb hby own_d16_43) rfl kk_) ?_
  refine own_st (g' := (mkF m 50 #[rv a, iv 0, rv ot, iv 0, iv 0, .val (.long q0), .second] [(.ref a), (.long q0), (.long (l0.toInt64)), (.int 0), (.ref ot)])) (fun tt_ kk_ => own_lvI (g := (mkF m 45 #[rv a, iv 0, rv ot, iv 0, iv 0, .val (.long q0), .second] [(.int 0), (.ref aL), (.int 0), (.ref ot)])) X191 hx hZ e191 V_aL (by decide) rfl rfl rfl (hb hby own_d16_45) tt_ (XS.i2l X191.here hx rfl (hb hby own_d16_46) rfl (XS.lload X191.here hx rfl (hb hby own_d16_47) rfl (XS.aloadN X191.here hx rfl (hb hby own_d16_49) rfl rfl kk_)))) ?_
  refine own_gG X191 hx hZ hown (own_w hw 38 rfl) e191 F_shifts_a rfl rfl (hb hby own_d16_50) (fun {T192} X192 e192 => ?_)
  refine own_st (g' := (mkF m 55 #[rv a, iv 0, rv ot, iv 0, iv 0, .val (.long q0), .second] [(.int 0), (.ref aH), (.long q0), (.long (l0.toInt64)), (.int 0), (.ref ot)])) (fun tt_ kk_ => XS.iload X192.here hx rfl (hb hby own_d16_53) rfl kk_) ?_
  refine own_st (g' := (mkF m 58 #[rv a, iv 0, rv ot, iv 0, iv 0, .val (.long q0), .second] [(.ref a), (.long ((q0.toUInt64 >>> (s0 &&& 0x3f).toInt64.toUInt64).toInt64)), (.long (l0.toInt64)), (.int 0), (.ref ot)])) (fun tt_ kk_ => own_lvI (g := (mkF m 55 #[rv a, iv 0, rv ot, iv 0, iv 0, .val (.long q0), .second] [(.int 0), (.ref aH), (.long q0), (.long (l0.toInt64)), (.int 0), (.ref ot)])) X192 hx hZ e192 V_aH (by decide) rfl rfl rfl (hb hby own_d16_55) tt_ (XS.lushr X192.here hx rfl (hb hby own_d16_56) rfl (XS.aloadN X192.here hx rfl (hb hby own_d16_57) rfl rfl kk_))) ?_
  refine own_gG X192 hx hZ hown (own_w hw 34 rfl) e192 F_masks_a rfl rfl (hb hby own_d16_58) (fun {T193} X193 e193 => ?_)
  refine own_st (g' := (mkF m 63 #[rv a, iv 0, rv ot, iv 0, iv 0, .val (.long q0), .second] [(.int 0), (.ref aM), (.long ((q0.toUInt64 >>> (s0 &&& 0x3f).toInt64.toUInt64).toInt64)), (.long (l0.toInt64)), (.int 0), (.ref ot)])) (fun tt_ kk_ => XS.iload X193.here hx rfl (hb hby own_d16_61) rfl kk_) ?_
  refine own_st (g' := (mkF m 67 #[rv a, iv 0, rv ot, iv 0, iv 0, .val (.long q0), .second] [(.int (((l0.toInt64) + (((q0.toUInt64 >>> (s0 &&& 0x3f).toInt64.toUInt64).toInt64) &&& m0)).toInt32)), (.int 0), (.ref ot)])) (fun tt_ kk_ => own_lvJ (g := (mkF m 63 #[rv a, iv 0, rv ot, iv 0, iv 0, .val (.long q0), .second] [(.int 0), (.ref aM), (.long ((q0.toUInt64 >>> (s0 &&& 0x3f).toInt64.toUInt64).toInt64)), (.long (l0.toInt64)), (.int 0), (.ref ot)])) X193 hx hZ e193 V_aM (by decide) rfl rfl rfl (hb hby own_d16_63) tt_ (XS.land X193.here hx rfl (hb hby own_d16_64) rfl (XS.ladd X193.here hx rfl (hb hby own_d16_65) rfl (XS.l2i X193.here hx rfl (hb hby own_d16_66) rfl kk_)))) ?_
  obtain ⟨T194, h194, X194, e194, W194, V194q, st194⟩ := own_svI X193 hx hZ e193 V_ot (j := (0 : Int32)) (by decide) 0 rfl (Nat.le_of_ble_eq_true rfl) (g := (mkF m 67 #[rv a, iv 0, rv ot, iv 0, iv 0, .val (.long q0), .second] [(.int (((l0.toInt64) + (((q0.toUInt64 >>> (s0 &&& 0x3f).toInt64.toUInt64).toInt64) &&& m0)).toInt32)), (.int 0), (.ref ot)])) rfl rfl (hb hby own_d16_67)
  have N194 := Fr.snoc X194 N0 g_ot
  have Z194 : n0 ≤ h194.size := Nat.le_trans Z0 (Keep.of_wr W194).1
  have K194 : Keep h0 h194 [ot] := K0.wr W194 (Or.inl (List.mem_of_getElem? (i := 0) rfl))
  have V194 : Arv Z h194 ot kot .int (3 : Int32) [(.int (((l0.toInt64) + (((q0.toUInt64 >>> (s0 &&& 0x3f).toInt64.toUInt64).toInt64) &&& m0)).toInt32)), (.int o1), (.int o2)] (.int 0) := V194q
  refine own_st st194 ?_
  refine own_st (g' := (mkF m 13 #[rv a, iv 0, rv ot, iv 0, iv 1, .val (.long q0), .second] [(.ref a), (.int 1)])) (fun tt_ kk_ => XS.iinc X194.here hx rfl (hb hby own_d16_68) rfl (l' := #[rv a, iv 0, rv ot, iv 0, iv 1, .val (.long q0), .second]) rfl (XS.goto X194.here hx rfl (pc0 := 71) (pc' := 10) rfl (hb hby own_d16_71) (by decide) (by decide) (XS.iload X194.here hx rfl (hb hby own_d16_10) rfl (XS.aloadN X194.here hx rfl (hb hby own_d16_12) rfl rfl kk_)))) ?_
  have F196 := (F_lows_a.other W194 (Or.inl ne_a_ot))
  refine own_gG X194 hx hZ hown (own_w hw 29 rfl) e194 F196 rfl rfl (hb hby own_d16_13) (fun {T195} X195 e195 => ?_)
  have F197 := (V_aL.other W194 ne_aL_ot)
  refine own_st (g' := (mkF m 21 #[rv a, iv 0, rv ot, iv 0, iv 1, .val (.long q0), .second] [(.ref a)])) (fun tt_ kk_ => own_lnV (g := (mkF m 16 #[rv a, iv 0, rv ot, iv 0, iv 1, .val (.long q0), .second] [(.ref aL), (.int 1)])) X195 hx hZ e195 F197 rfl rfl (hb hby own_d16_16) tt_ (XS.icmpNo X195.here hx rfl (hb hby own_d16_17) rfl (tlt (by decide : (1 : Int32) < (3 : Int32))).2.1 (XS.aloadN X195.here hx rfl (hb hby own_d16_20) rfl rfl kk_))) ?_
  have F199 := (F_packed_a.other W194 (Or.inl ne_a_ot))
  refine own_gG X195 hx hZ hown (own_w hw 56 rfl) e195 F199 rfl rfl (hb hby own_d16_21) (fun {T198} X198 e198 => ?_)
  refine own_st (g' := (mkF m 26 #[rv a, iv 0, rv ot, iv 0, iv 1, .val (.long q0), .second] [(.ref a), (.int 0), (.ref aP)])) (fun tt_ kk_ => XS.iloadN X198.here hx rfl (hb hby own_d16_24) rfl (XS.aloadN X198.here hx rfl (hb hby own_d16_25) rfl rfl kk_)) ?_
  have F201 := (F_words_a.other W194 (Or.inl ne_a_ot))
  refine own_gG X198 hx hZ hown (own_w hw 36 rfl) e198 F201 rfl rfl (hb hby own_d16_26) (fun {T200} X200 e200 => ?_)
  refine own_st (g' := (mkF m 31 #[rv a, iv 0, rv ot, iv 0, iv 1, .val (.long q0), .second] [(.int 1), (.ref aW), (.int 0), (.ref aP)])) (fun tt_ kk_ => XS.iload X200.here hx rfl (hb hby own_d16_29) rfl kk_) ?_
  have F202 := (V_aW.other W194 ne_aW_ot)
  refine own_st (g' := (mkF m 33 #[rv a, iv 0, rv ot, iv 0, iv 1, .val (.long q0), .second] [(.int 0), (.ref aP)])) (fun tt_ kk_ => own_lvI (g := (mkF m 31 #[rv a, iv 0, rv ot, iv 0, iv 1, .val (.long q0), .second] [(.int 1), (.ref aW), (.int 0), (.ref aP)])) X200 hx hZ e200 F202 (by decide) rfl rfl rfl (hb hby own_d16_31) tt_ (XS.iadd X200.here hx rfl (hb hby own_d16_32) rfl kk_)) ?_
  have F203 := (V_aP.other W194 ne_aP_ot)
  refine own_st (g' := (mkF m 40 #[rv a, iv 0, rv ot, iv 0, iv 1, .val (.long q0), .second] [(.ref a), (.int 1), (.ref ot)])) (fun tt_ kk_ => own_lvJ (g := (mkF m 33 #[rv a, iv 0, rv ot, iv 0, iv 1, .val (.long q0), .second] [(.int 0), (.ref aP)])) X200 hx hZ e200 F203 (by decide) rfl rfl rfl (hb hby own_d16_33) tt_ (XS.lstore X200.here hx rfl (hb hby own_d16_34) rfl (l' := #[rv a, iv 0, rv ot, iv 0, iv 1, .val (.long q0), .second]) rfl (XS.aloadN X200.here hx rfl (hb hby own_d16_36) rfl rfl (XS.iload X200.here hx rfl (hb hby own_d16_37) rfl (XS.aloadN X200.here hx rfl (hb hby own_d16_39) rfl rfl kk_))))) ?_
  refine own_gG X200 hx hZ hown (own_w hw 29 rfl) e200 F196 rfl rfl (hb hby own_d16_40) (fun {T204} X204 e204 => ?_)
  refine own_st (g' := (mkF m 45 #[rv a, iv 0, rv ot, iv 0, iv 1, .val (.long q0), .second] [(.int 1), (.ref aL), (.int 1), (.ref ot)])) (fun tt_ kk_ => XS.iload X204.here hx rfl (hb hby own_d16_43) rfl kk_) ?_
  refine own_st (g' := (mkF m 50 #[rv a, iv 0, rv ot, iv 0, iv 1, .val (.long q0), .second] [(.ref a), (.long q0), (.long (l1.toInt64)), (.int 1), (.ref ot)])) (fun tt_ kk_ => own_lvI (g := (mkF m 45 #[rv a, iv 0, rv ot, iv 0, iv 1, .val (.long q0), .second] [(.int 1), (.ref aL), (.int 1), (.ref ot)])) X204 hx hZ e204 F197 (by decide) rfl rfl rfl (hb hby own_d16_45) tt_ (XS.i2l X204.here hx rfl (hb hby own_d16_46) rfl (XS.lload X204.here hx rfl (hb hby own_d16_47) rfl (XS.aloadN X204.here hx rfl (hb hby own_d16_49) rfl rfl kk_)))) ?_
  have F206 := (F_shifts_a.other W194 (Or.inl ne_a_ot))
  refine own_gG X204 hx hZ hown (own_w hw 38 rfl) e204 F206 rfl rfl (hb hby own_d16_50) (fun {T205} X205 e205 => ?_)
  refine own_st (g' := (mkF m 55 #[rv a, iv 0, rv ot, iv 0, iv 1, .val (.long q0), .second] [(.int 1), (.ref aH), (.long q0), (.long (l1.toInt64)), (.int 1), (.ref ot)])) (fun tt_ kk_ => XS.iload X205.here hx rfl (hb hby own_d16_53) rfl kk_) ?_
  have F207 := (V_aH.other W194 ne_aH_ot)
  refine own_st (g' := (mkF m 58 #[rv a, iv 0, rv ot, iv 0, iv 1, .val (.long q0), .second] [(.ref a), (.long ((q0.toUInt64 >>> (s1 &&& 0x3f).toInt64.toUInt64).toInt64)), (.long (l1.toInt64)), (.int 1), (.ref ot)])) (fun tt_ kk_ => own_lvI (g := (mkF m 55 #[rv a, iv 0, rv ot, iv 0, iv 1, .val (.long q0), .second] [(.int 1), (.ref aH), (.long q0), (.long (l1.toInt64)), (.int 1), (.ref ot)])) X205 hx hZ e205 F207 (by decide) rfl rfl rfl (hb hby own_d16_55) tt_ (XS.lushr X205.here hx rfl (hb hby own_d16_56) rfl (XS.aloadN X205.here hx rfl (hb hby own_d16_57) rfl rfl kk_))) ?_
  have F209 := (F_masks_a.other W194 (Or.inl ne_a_ot))
  refine own_gG X205 hx hZ hown (own_w hw 34 rfl) e205 F209 rfl rfl (hb hby own_d16_58) (fun {T208} X208 e208 => ?_)
  refine own_st (g' := (mkF m 63 #[rv a, iv 0, rv ot, iv 0, iv 1, .val (.long q0), .second] [(.int 1), (.ref aM), (.long ((q0.toUInt64 >>> (s1 &&& 0x3f).toInt64.toUInt64).toInt64)), (.long (l1.toInt64)), (.int 1), (.ref ot)])) (fun tt_ kk_ => XS.iload X208.here hx rfl (hb hby own_d16_61) rfl kk_) ?_
  have F210 := (V_aM.other W194 ne_aM_ot)
  refine own_st (g' := (mkF m 67 #[rv a, iv 0, rv ot, iv 0, iv 1, .val (.long q0), .second] [(.int (((l1.toInt64) + (((q0.toUInt64 >>> (s1 &&& 0x3f).toInt64.toUInt64).toInt64) &&& m1)).toInt32)), (.int 1), (.ref ot)])) (fun tt_ kk_ => own_lvJ (g := (mkF m 63 #[rv a, iv 0, rv ot, iv 0, iv 1, .val (.long q0), .second] [(.int 1), (.ref aM), (.long ((q0.toUInt64 >>> (s1 &&& 0x3f).toInt64.toUInt64).toInt64)), (.long (l1.toInt64)), (.int 1), (.ref ot)])) X208 hx hZ e208 F210 (by decide) rfl rfl rfl (hb hby own_d16_63) tt_ (XS.land X208.here hx rfl (hb hby own_d16_64) rfl (XS.ladd X208.here hx rfl (hb hby own_d16_65) rfl (XS.l2i X208.here hx rfl (hb hby own_d16_66) rfl kk_)))) ?_
  obtain ⟨T211, h211, X211, e211, W211, V211q, st211⟩ := own_svI X208 hx hZ e208 V194 (j := (1 : Int32)) (by decide) 1 rfl (Nat.le_of_ble_eq_true rfl) (g := (mkF m 67 #[rv a, iv 0, rv ot, iv 0, iv 1, .val (.long q0), .second] [(.int (((l1.toInt64) + (((q0.toUInt64 >>> (s1 &&& 0x3f).toInt64.toUInt64).toInt64) &&& m1)).toInt32)), (.int 1), (.ref ot)])) rfl rfl (hb hby own_d16_67)
  have N211 := Fr.snoc X211 N194 g_ot
  have Z211 : n0 ≤ h211.size := Nat.le_trans Z194 (Keep.of_wr W211).1
  have K211 : Keep h0 h211 [ot] := K194.wr W211 (Or.inl (List.mem_of_getElem? (i := 0) rfl))
  have V211 : Arv Z h211 ot kot .int (3 : Int32) [(.int (((l0.toInt64) + (((q0.toUInt64 >>> (s0 &&& 0x3f).toInt64.toUInt64).toInt64) &&& m0)).toInt32)), (.int (((l1.toInt64) + (((q0.toUInt64 >>> (s1 &&& 0x3f).toInt64.toUInt64).toInt64) &&& m1)).toInt32)), (.int o2)] (.int 0) := V211q
  refine own_st st211 ?_
  refine own_st (g' := (mkF m 13 #[rv a, iv 0, rv ot, iv 0, iv 2, .val (.long q0), .second] [(.ref a), (.int 2)])) (fun tt_ kk_ => XS.iinc X211.here hx rfl (hb hby own_d16_68) rfl (l' := #[rv a, iv 0, rv ot, iv 0, iv 2, .val (.long q0), .second]) rfl (XS.goto X211.here hx rfl (pc0 := 71) (pc' := 10) rfl (hb hby own_d16_71) (by decide) (by decide) (XS.iload X211.here hx rfl (hb hby own_d16_10) rfl (XS.aloadN X211.here hx rfl (hb hby own_d16_12) rfl rfl kk_)))) ?_
  have F213 := (F196.other W211 (Or.inl ne_a_ot))
  refine own_gG X211 hx hZ hown (own_w hw 29 rfl) e211 F213 rfl rfl (hb hby own_d16_13) (fun {T212} X212 e212 => ?_)
  have F214 := (F197.other W211 ne_aL_ot)
  refine own_st (g' := (mkF m 21 #[rv a, iv 0, rv ot, iv 0, iv 2, .val (.long q0), .second] [(.ref a)])) (fun tt_ kk_ => own_lnV (g := (mkF m 16 #[rv a, iv 0, rv ot, iv 0, iv 2, .val (.long q0), .second] [(.ref aL), (.int 2)])) X212 hx hZ e212 F214 rfl rfl (hb hby own_d16_16) tt_ (XS.icmpNo X212.here hx rfl (hb hby own_d16_17) rfl (tlt (by decide : (2 : Int32) < (3 : Int32))).2.1 (XS.aloadN X212.here hx rfl (hb hby own_d16_20) rfl rfl kk_))) ?_
  have F216 := (F199.other W211 (Or.inl ne_a_ot))
  refine own_gG X212 hx hZ hown (own_w hw 56 rfl) e212 F216 rfl rfl (hb hby own_d16_21) (fun {T215} X215 e215 => ?_)
  refine own_st (g' := (mkF m 26 #[rv a, iv 0, rv ot, iv 0, iv 2, .val (.long q0), .second] [(.ref a), (.int 0), (.ref aP)])) (fun tt_ kk_ => XS.iloadN X215.here hx rfl (hb hby own_d16_24) rfl (XS.aloadN X215.here hx rfl (hb hby own_d16_25) rfl rfl kk_)) ?_
  have F218 := (F201.other W211 (Or.inl ne_a_ot))
  refine own_gG X215 hx hZ hown (own_w hw 36 rfl) e215 F218 rfl rfl (hb hby own_d16_26) (fun {T217} X217 e217 => ?_)
  refine own_st (g' := (mkF m 31 #[rv a, iv 0, rv ot, iv 0, iv 2, .val (.long q0), .second] [(.int 2), (.ref aW), (.int 0), (.ref aP)])) (fun tt_ kk_ => XS.iload X217.here hx rfl (hb hby own_d16_29) rfl kk_) ?_
  have F219 := (F202.other W211 ne_aW_ot)
  refine own_st (g' := (mkF m 33 #[rv a, iv 0, rv ot, iv 0, iv 2, .val (.long q0), .second] [(.int 0), (.ref aP)])) (fun tt_ kk_ => own_lvI (g := (mkF m 31 #[rv a, iv 0, rv ot, iv 0, iv 2, .val (.long q0), .second] [(.int 2), (.ref aW), (.int 0), (.ref aP)])) X217 hx hZ e217 F219 (by decide) rfl rfl rfl (hb hby own_d16_31) tt_ (XS.iadd X217.here hx rfl (hb hby own_d16_32) rfl kk_)) ?_
  have F220 := (F203.other W211 ne_aP_ot)
  refine own_st (g' := (mkF m 40 #[rv a, iv 0, rv ot, iv 0, iv 2, .val (.long q0), .second] [(.ref a), (.int 2), (.ref ot)])) (fun tt_ kk_ => own_lvJ (g := (mkF m 33 #[rv a, iv 0, rv ot, iv 0, iv 2, .val (.long q0), .second] [(.int 0), (.ref aP)])) X217 hx hZ e217 F220 (by decide) rfl rfl rfl (hb hby own_d16_33) tt_ (XS.lstore X217.here hx rfl (hb hby own_d16_34) rfl (l' := #[rv a, iv 0, rv ot, iv 0, iv 2, .val (.long q0), .second]) rfl (XS.aloadN X217.here hx rfl (hb hby own_d16_36) rfl rfl (XS.iload X217.here hx rfl (hb hby own_d16_37) rfl (XS.aloadN X217.here hx rfl (hb hby own_d16_39) rfl rfl kk_))))) ?_
  refine own_gG X217 hx hZ hown (own_w hw 29 rfl) e217 F213 rfl rfl (hb hby own_d16_40) (fun {T221} X221 e221 => ?_)
  refine own_st (g' := (mkF m 45 #[rv a, iv 0, rv ot, iv 0, iv 2, .val (.long q0), .second] [(.int 2), (.ref aL), (.int 2), (.ref ot)])) (fun tt_ kk_ => XS.iload X221.here hx rfl (hb hby own_d16_43) rfl kk_) ?_
  refine own_st (g' := (mkF m 50 #[rv a, iv 0, rv ot, iv 0, iv 2, .val (.long q0), .second] [(.ref a), (.long q0), (.long (l2.toInt64)), (.int 2), (.ref ot)])) (fun tt_ kk_ => own_lvI (g := (mkF m 45 #[rv a, iv 0, rv ot, iv 0, iv 2, .val (.long q0), .second] [(.int 2), (.ref aL), (.int 2), (.ref ot)])) X221 hx hZ e221 F214 (by decide) rfl rfl rfl (hb hby own_d16_45) tt_ (XS.i2l X221.here hx rfl (hb hby own_d16_46) rfl (XS.lload X221.here hx rfl (hb hby own_d16_47) rfl (XS.aloadN X221.here hx rfl (hb hby own_d16_49) rfl rfl kk_)))) ?_
  have F223 := (F206.other W211 (Or.inl ne_a_ot))
  refine own_gG X221 hx hZ hown (own_w hw 38 rfl) e221 F223 rfl rfl (hb hby own_d16_50) (fun {T222} X222 e222 => ?_)
  refine own_st (g' := (mkF m 55 #[rv a, iv 0, rv ot, iv 0, iv 2, .val (.long q0), .second] [(.int 2), (.ref aH), (.long q0), (.long (l2.toInt64)), (.int 2), (.ref ot)])) (fun tt_ kk_ => XS.iload X222.here hx rfl (hb hby own_d16_53) rfl kk_) ?_
  have F224 := (F207.other W211 ne_aH_ot)
  refine own_st (g' := (mkF m 58 #[rv a, iv 0, rv ot, iv 0, iv 2, .val (.long q0), .second] [(.ref a), (.long ((q0.toUInt64 >>> (s2 &&& 0x3f).toInt64.toUInt64).toInt64)), (.long (l2.toInt64)), (.int 2), (.ref ot)])) (fun tt_ kk_ => own_lvI (g := (mkF m 55 #[rv a, iv 0, rv ot, iv 0, iv 2, .val (.long q0), .second] [(.int 2), (.ref aH), (.long q0), (.long (l2.toInt64)), (.int 2), (.ref ot)])) X222 hx hZ e222 F224 (by decide) rfl rfl rfl (hb hby own_d16_55) tt_ (XS.lushr X222.here hx rfl (hb hby own_d16_56) rfl (XS.aloadN X222.here hx rfl (hb hby own_d16_57) rfl rfl kk_))) ?_
  have F226 := (F209.other W211 (Or.inl ne_a_ot))
  refine own_gG X222 hx hZ hown (own_w hw 34 rfl) e222 F226 rfl rfl (hb hby own_d16_58) (fun {T225} X225 e225 => ?_)
  refine own_st (g' := (mkF m 63 #[rv a, iv 0, rv ot, iv 0, iv 2, .val (.long q0), .second] [(.int 2), (.ref aM), (.long ((q0.toUInt64 >>> (s2 &&& 0x3f).toInt64.toUInt64).toInt64)), (.long (l2.toInt64)), (.int 2), (.ref ot)])) (fun tt_ kk_ => XS.iload X225.here hx rfl (hb hby own_d16_61) rfl kk_) ?_
  have F227 := (F210.other W211 ne_aM_ot)
  refine own_st (g' := (mkF m 67 #[rv a, iv 0, rv ot, iv 0, iv 2, .val (.long q0), .second] [(.int (((l2.toInt64) + (((q0.toUInt64 >>> (s2 &&& 0x3f).toInt64.toUInt64).toInt64) &&& m2)).toInt32)), (.int 2), (.ref ot)])) (fun tt_ kk_ => own_lvJ (g := (mkF m 63 #[rv a, iv 0, rv ot, iv 0, iv 2, .val (.long q0), .second] [(.int 2), (.ref aM), (.long ((q0.toUInt64 >>> (s2 &&& 0x3f).toInt64.toUInt64).toInt64)), (.long (l2.toInt64)), (.int 2), (.ref ot)])) X225 hx hZ e225 F227 (by decide) rfl rfl rfl (hb hby own_d16_63) tt_ (XS.land X225.here hx rfl (hb hby own_d16_64) rfl (XS.ladd X225.here hx rfl (hb hby own_d16_65) rfl (XS.l2i X225.here hx rfl (hb hby own_d16_66) rfl kk_)))) ?_
  obtain ⟨T228, h228, X228, e228, W228, V228q, st228⟩ := own_svI X225 hx hZ e225 V211 (j := (2 : Int32)) (by decide) 2 rfl (Nat.le_of_ble_eq_true rfl) (g := (mkF m 67 #[rv a, iv 0, rv ot, iv 0, iv 2, .val (.long q0), .second] [(.int (((l2.toInt64) + (((q0.toUInt64 >>> (s2 &&& 0x3f).toInt64.toUInt64).toInt64) &&& m2)).toInt32)), (.int 2), (.ref ot)])) rfl rfl (hb hby own_d16_67)
  have N228 := Fr.snoc X228 N211 g_ot
  have Z228 : n0 ≤ h228.size := Nat.le_trans Z211 (Keep.of_wr W228).1
  have K228 : Keep h0 h228 [ot] := K211.wr W228 (Or.inl (List.mem_of_getElem? (i := 0) rfl))
  have V228 : Arv Z h228 ot kot .int (3 : Int32) [(.int (((l0.toInt64) + (((q0.toUInt64 >>> (s0 &&& 0x3f).toInt64.toUInt64).toInt64) &&& m0)).toInt32)), (.int (((l1.toInt64) + (((q0.toUInt64 >>> (s1 &&& 0x3f).toInt64.toUInt64).toInt64) &&& m1)).toInt32)), (.int (((l2.toInt64) + (((q0.toUInt64 >>> (s2 &&& 0x3f).toInt64.toUInt64).toInt64) &&& m2)).toInt32))] (.int 0) := V228q
  refine own_st st228 ?_
  refine own_st (g' := (mkF m 13 #[rv a, iv 0, rv ot, iv 0, iv 3, .val (.long q0), .second] [(.ref a), (.int 3)])) (fun tt_ kk_ => XS.iinc X228.here hx rfl (hb hby own_d16_68) rfl (l' := #[rv a, iv 0, rv ot, iv 0, iv 3, .val (.long q0), .second]) rfl (XS.goto X228.here hx rfl (pc0 := 71) (pc' := 10) rfl (hb hby own_d16_71) (by decide) (by decide) (XS.iload X228.here hx rfl (hb hby own_d16_10) rfl (XS.aloadN X228.here hx rfl (hb hby own_d16_12) rfl rfl kk_)))) ?_
  have F230 := (F213.other W228 (Or.inl ne_a_ot))
  refine own_gG X228 hx hZ hown (own_w hw 29 rfl) e228 F230 rfl rfl (hb hby own_d16_13) (fun {T229} X229 e229 => ?_)
  have F231 := (F214.other W228 ne_aL_ot)
  refine own_st (g' := (mkF m 74 #[rv a, iv 0, rv ot, iv 0, iv 3, .val (.long q0), .second] [])) (fun tt_ kk_ => own_lnV (g := (mkF m 16 #[rv a, iv 0, rv ot, iv 0, iv 3, .val (.long q0), .second] [(.ref aL), (.int 3)])) X229 hx hZ e229 F231 rfl rfl (hb hby own_d16_16) tt_ (XS.icmpYes X229.here hx rfl (pc0 := 17) (pc' := 74) rfl (hb hby own_d16_17) rfl (flt (by decide : ¬ ((3 : Int32) < (3 : Int32)))).2.1 (by decide) (by decide) kk_)) ?_
  exact own_retV X229 hx hlk hret (hb hby own_d16_74) (by decide) (by decide) (by rw [e229]; exact ⟨rfl, N228, K228, V228⟩)
def own_QgetA1 (Z : State) (a : Addr) (ot : Addr) (aL : Addr) (aM : Addr) (aW : Addr) (aH : Addr) (aP : Addr) (kaL : ClassId) (l0 : Int32) (l1 : Int32) (l2 : Int32) (kaM : ClassId) (m0 : Int64) (m1 : Int64) (m2 : Int64) (kaW : ClassId) (kaH : ClassId) (s0 : Int32) (s1 : Int32) (s2 : Int32) (kot : ClassId) (o0 : Int32) (o1 : Int32) (o2 : Int32) (kaP : ClassId) (q0 : Int64) (q1 : Int64) (h0 : Heap) (n0 : Nat) (v : Option Value) (h : Heap) (L : List Loc) : Prop := v = none ∧ Fr n0 L ∧ Keep h0 h [ot] ∧ Arv Z h ot kot .int (3 : Int32) [(.int (own_gv l0 q1 s0 m0)), (.int (own_gv l1 q1 s1 m1)), (.int (own_gv l2 q1 s2 m2))] (.int 0)
theorem own_efgetA1 (m : MethodId) (a : Addr) (ot : Addr) : entryFrame m #[(.ref a), (.int 1), (.ref ot)] 7 = mkF m 0 #[rv a, iv 1, rv ot, .unset, .unset, .unset, .unset] [] := by first | (simp [entryFrame, mkF, argsToLocals, Value.category]; done) | rfl
set_option maxRecDepth 65536 in
set_option maxHeartbeats 16000000 in
theorem own_rmgetA1 (l : Launch) (Z : State) (a0 : Array Value) (hw : own_HW Z a0) (ws : List Jvm.Cond) (a : Addr) (ot : Addr) (aL : Addr) (aM : Addr) (aW : Addr) (aH : Addr) (aP : Addr) (kaL : ClassId) (l0 : Int32) (l1 : Int32) (l2 : Int32) (kaM : ClassId) (m0 : Int64) (m1 : Int64) (m2 : Int64) (kaW : ClassId) (kaH : ClassId) (s0 : Int32) (s1 : Int32) (s2 : Int32) (kot : ClassId) (o0 : Int32) (o1 : Int32) (o2 : Int32) (kaP : ClassId) (q0 : Int64) (q1 : Int64) (h0 : Heap) (n0 : Nat) (Z0 : n0 ≤ h0.size) (E_a : Exa Z h0 a own_z0) (F_lows_a : Fld Z h0 a own_z0 "lows" "[I" (.ref aL)) (F_masks_a : Fld Z h0 a own_z0 "masks" "[J" (.ref aM)) (F_words_a : Fld Z h0 a own_z0 "words" "[I" (.ref aW)) (F_shifts_a : Fld Z h0 a own_z0 "shifts" "[I" (.ref aH)) (F_packed_a : Fld Z h0 a own_z0 "packed" "[J" (.ref aP)) (F_wordCount_a : Fld Z h0 a own_z0 "wordCount" "I" (.int 1)) (V_aL : Arv Z h0 aL kaL .int (3 : Int32) [(.int l0), (.int l1), (.int l2)] (.int 0)) (V_aM : Arv Z h0 aM kaM .long (3 : Int32) [(.long m0), (.long m1), (.long m2)] (.long 0)) (V_aW : Arv Z h0 aW kaW .int (3 : Int32) [(.int 0), (.int 0), (.int 0)] (.int 0)) (V_aH : Arv Z h0 aH kaH .int (3 : Int32) [(.int s0), (.int s1), (.int s2)] (.int 0)) (V_ot : Arv Z h0 ot kot .int (3 : Int32) [(.int o0), (.int o1), (.int o2)] (.int 0)) (V_aP : Arv Z h0 aP kaP .long (1024 : Int32) [(.long q0), (.long q1)] (.long 0)) (ne_a_ot : a ≠ ot) (ne_aL_ot : aL ≠ ot) (ne_aM_ot : aM ≠ ot) (ne_aW_ot : aW ≠ ot) (ne_aH_ot : aH ≠ ot) (ne_aP_ot : aP ≠ ot) (g_ot : n0 ≤ ot) :
    MetFree l (⟨own_z0, "get", "(I[I)V"⟩ : MethodName) (head1 (Jvm.Cond.code (⟨own_z0, "get", "(I[I)V"⟩ : MethodName) prog_160_method_9_code 7 none :: ws) ({ frames := 0, cells := 0, slots := 0, locals := 0 } : Room)) (fun aa UU => aa = #[(.ref a), (.int 1), (.ref ot)] ∧ Z.Warmed39 UU.vm ∧ UU.heap = h0) (fun _ _ _ _ _ => True) (fun _ U o U' => ∃ v L, o = .returned v ∧ own_QgetA1 Z a ot aL aM aW aH aP kaL l0 l1 l2 kaM m0 m1 m2 kaW kaH s0 s1 s2 kot o0 o1 o2 kaP q0 q1 h0 n0 v U'.heap L ∧ FrameEnd U o U' L ({ frames := 0, cells := 0, slots := 0, locals := 0 } : Room).cells ({ frames := 0, cells := 0, slots := 0, locals := 0 } : Room).slots) := by
  refine MetFree.of_bodySF (plainFor_of_name own_pn2) hisR ?_
  intro p e s m args below meth c s₁ Bd hml hP hK
  obtain ⟨rfl, hZ, hh⟩ := hP
  have hx := Bd.exec
  have hlk := Bd.notSynchronized
  have hby := Bd.bytes
  have hret := Bd.returns
  have hown := findClass_of_methodNamed Bd.named
  have hnm := (name_of_methodNamed Bd.named Bd.method).1
  have X0 : Stand p l e ({ frames := 0, cells := 0, slots := 0, locals := 0 } : Room) s m #[(.ref a), (.int 1), (.ref ot)] below meth c s₁ [] 0 0 := Stand.of_body Bd
  have e0 : s₁.heap = h0 := by rw [← hh, Bd.state]; rfl
  have N0 := Fr.nil n0
  refine own_cast (own_efgetA1 m a ot) ?_
  show own_Go p e below s s₁ _ (own_QgetA1 Z a ot aL aM aW aH aP kaL l0 l1 l2 kaM m0 m1 m2 kaW kaH s0 s1 s2 kot o0 o1 o2 kaP q0 q1 h0 n0) 0 0
  have K0 : Keep h0 h0 [ot] := Keep.refl _ _
  refine own_st (g' := (mkF m 2 #[rv a, iv 1, rv ot, .unset, .unset, .unset, .unset] [(.ref a), (.int 1)])) (fun tt_ kk_ => XS.iloadN X0.here hx rfl (hb hby own_d16_0) rfl (XS.aloadN X0.here hx rfl (hb hby own_d16_1) rfl rfl kk_)) ?_
  refine own_gG X0 hx hZ hown (own_w hw 49 rfl) e0 F_wordCount_a rfl rfl (hb hby own_d16_2) (fun {T232} X232 e232 => ?_)
  refine own_st (g' := (mkF m 13 #[rv a, iv 1, rv ot, iv 1, iv 0, .unset, .unset] [(.ref a), (.int 0)])) (fun tt_ kk_ => XS.imul X232.here hx rfl (hb hby own_d16_5) rfl (XS.istoreN X232.here hx rfl (hb hby own_d16_6) rfl (l' := #[rv a, iv 1, rv ot, iv 1, .unset, .unset, .unset]) rfl (XS.iconst X232.here hx rfl (hb hby own_d16_7) (XS.istore X232.here hx rfl (hb hby own_d16_8) rfl (l' := #[rv a, iv 1, rv ot, iv 1, iv 0, .unset, .unset]) rfl (XS.iload X232.here hx rfl (hb hby own_d16_10) rfl (XS.aloadN X232.here hx rfl (hb hby own_d16_12) rfl rfl kk_)))))) ?_
  refine own_gG X232 hx hZ hown (own_w hw 29 rfl) e232 F_lows_a rfl rfl (hb hby own_d16_13) (fun {T233} X233 e233 => ?_)
  refine own_st (g' := (mkF m 21 #[rv a, iv 1, rv ot, iv 1, iv 0, .unset, .unset] [(.ref a)])) (fun tt_ kk_ => own_lnV (g := (mkF m 16 #[rv a, iv 1, rv ot, iv 1, iv 0, .unset, .unset] [(.ref aL), (.int 0)])) X233 hx hZ e233 V_aL rfl rfl (hb hby own_d16_16) tt_ (XS.icmpNo X233.here hx rfl (hb hby own_d16_17) rfl (tlt (by decide : (0 : Int32) < (3 : Int32))).2.1 (XS.aloadN X233.here hx rfl (hb hby own_d16_20) rfl rfl kk_))) ?_
  refine own_gG X233 hx hZ hown (own_w hw 56 rfl) e233 F_packed_a rfl rfl (hb hby own_d16_21) (fun {T234} X234 e234 => ?_)
  refine own_st (g' := (mkF m 26 #[rv a, iv 1, rv ot, iv 1, iv 0, .unset, .unset] [(.ref a), (.int 1), (.ref aP)])) (fun tt_ kk_ => XS.iloadN X234.here hx rfl (hb hby own_d16_24) rfl (XS.aloadN X234.here hx rfl (hb hby own_d16_25) rfl rfl kk_)) ?_
  refine own_gG X234 hx hZ hown (own_w hw 36 rfl) e234 F_words_a rfl rfl (hb hby own_d16_26) (fun {T235} X235 e235 => ?_)
  refine own_st (g' := (mkF m 31 #[rv a, iv 1, rv ot, iv 1, iv 0, .unset, .unset] [(.int 0), (.ref aW), (.int 1), (.ref aP)])) (fun tt_ kk_ => XS.iload X235.here hx rfl (hb hby own_d16_29) rfl kk_) ?_
  refine own_st (g' := (mkF m 33 #[rv a, iv 1, rv ot, iv 1, iv 0, .unset, .unset] [(.int 1), (.ref aP)])) (fun tt_ kk_ => own_lvI (g := (mkF m 31 #[rv a, iv 1, rv ot, iv 1, iv 0, .unset, .unset] [(.int 0), (.ref aW), (.int 1), (.ref aP)])) X235 hx hZ e235 V_aW (by decide) rfl rfl rfl (hb hby own_d16_31) tt_ (XS.iadd X235.here hx rfl (hb hby own_d16_32) rfl kk_)) ?_
  refine own_st (g' := (mkF m 40 #[rv a, iv 1, rv ot, iv 1, iv 0, .val (.long q1), .second] [(.ref a), (.int 0), (.ref ot)])) (fun tt_ kk_ => own_lvJ (g := (mkF m 33 #[rv a, iv 1, rv ot, iv 1, iv 0, .unset, .unset] [(.int 1), (.ref aP)])) X235 hx hZ e235 V_aP (by decide) rfl rfl rfl (hb hby own_d16_33) tt_ (XS.lstore X235.here hx rfl (hb hby own_d16_34) rfl (l' := #[rv a, iv 1, rv ot, iv 1, iv 0, .val (.long q1), .second]) rfl (XS.aloadN X235.here hx rfl (hb hby own_d16_36) rfl rfl (XS.iload X235.here hx rfl (hb hby own_d16_37) rfl (XS.aloadN X235.here hx rfl (hb hby own_d16_39) rfl rfl kk_))))) ?_
  refine own_gG X235 hx hZ hown (own_w hw 29 rfl) e235 F_lows_a rfl rfl (hb hby own_d16_40) (fun {T236} X236 e236 => ?_)
  refine own_st (g' := (mkF m 45 #[rv a, iv 1, rv ot, iv 1, iv 0, .val (.long q1), .second] [(.int 0), (.ref aL), (.int 0), (.ref ot)])) (fun tt_ kk_ => XS.iload X236.here hx rfl (hb hby own_d16_43) rfl kk_) ?_
  refine own_st (g' := (mkF m 50 #[rv a, iv 1, rv ot, iv 1, iv 0, .val (.long q1), .second] [(.ref a), (.long q1), (.long (l0.toInt64)), (.int 0), (.ref ot)])) (fun tt_ kk_ => own_lvI (g := (mkF m 45 #[rv a, iv 1, rv ot, iv 1, iv 0, .val (.long q1), .second] [(.int 0), (.ref aL), (.int 0), (.ref ot)])) X236 hx hZ e236 V_aL (by decide) rfl rfl rfl (hb hby own_d16_45) tt_ (XS.i2l X236.here hx rfl (hb hby own_d16_46) rfl (XS.lload X236.here hx rfl (hb hby own_d16_47) rfl (XS.aloadN X236.here hx rfl (hb hby own_d16_49) rfl rfl kk_)))) ?_
  refine own_gG X236 hx hZ hown (own_w hw 38 rfl) e236 F_shifts_a rfl rfl (hb hby own_d16_50) (fun {T237} X237 e237 => ?_)
  refine own_st (g' := (mkF m 55 #[rv a, iv 1, rv ot, iv 1, iv 0, .val (.long q1), .second] [(.int 0), (.ref aH), (.long q1), (.long (l0.toInt64)), (.int 0), (.ref ot)])) (fun tt_ kk_ => XS.iload X237.here hx rfl (hb hby own_d16_53) rfl kk_) ?_
  refine own_st (g' := (mkF m 58 #[rv a, iv 1, rv ot, iv 1, iv 0, .val (.long q1), .second] [(.ref a), (.long ((q1.toUInt64 >>> (s0 &&& 0x3f).toInt64.toUInt64).toInt64)), (.long (l0.toInt64)), (.int 0), (.ref ot)])) (fun tt_ kk_ => own_lvI (g := (mkF m 55 #[rv a, iv 1, rv ot, iv 1, iv 0, .val (.long q1), .second] [(.int 0), (.ref aH), (.long q1), (.long (l0.toInt64)), (.int 0), (.ref ot)])) X237 hx hZ e237 V_aH (by decide) rfl rfl rfl (hb hby own_d16_55) tt_ (XS.lushr X237.here hx rfl (hb hby own_d16_56) rfl (XS.aloadN X237.here hx rfl (hb hby own_d16_57) rfl rfl kk_))) ?_
  refine own_gG X237 hx hZ hown (own_w hw 34 rfl) e237 F_masks_a rfl rfl (hb hby own_d16_58) (fun {T238} X238 e238 => ?_)
  refine own_st (g' := (mkF m 63 #[rv a, iv 1, rv ot, iv 1, iv 0, .val (.long q1), .second] [(.int 0), (.ref aM), (.long ((q1.toUInt64 >>> (s0 &&& 0x3f).toInt64.toUInt64).toInt64)), (.long (l0.toInt64)), (.int 0), (.ref ot)])) (fun tt_ kk_ => XS.iload X238.here hx rfl (hb hby own_d16_61) rfl kk_) ?_
  refine own_st (g' := (mkF m 67 #[rv a, iv 1, rv ot, iv 1, iv 0, .val (.long q1), .second] [(.int (((l0.toInt64) + (((q1.toUInt64 >>> (s0 &&& 0x3f).toInt64.toUInt64).toInt64) &&& m0)).toInt32)), (.int 0), (.ref ot)])) (fun tt_ kk_ => own_lvJ (g := (mkF m 63 #[rv a, iv 1, rv ot, iv 1, iv 0, .val (.long q1), .second] [(.int 0), (.ref aM), (.long ((q1.toUInt64 >>> (s0 &&& 0x3f).toInt64.toUInt64).toInt64)), (.long (l0.toInt64)), (.int 0), (.ref ot)])) X238 hx hZ e238 V_aM (by decide) rfl rfl rfl (hb hby own_d16_63) tt_ (XS.land X238.here hx rfl (hb hby own_d16_64) rfl (XS.ladd X238.here hx rfl (hb hby own_d16_65) rfl (XS.l2i X238.here hx rfl (hb hby own_d16_66) rfl kk_)))) ?_
  obtain ⟨T239, h239, X239, e239, W239, V239q, st239⟩ := own_svI X238 hx hZ e238 V_ot (j := (0 : Int32)) (by decide) 0 rfl (Nat.le_of_ble_eq_true rfl) (g := (mkF m 67 #[rv a, iv 1, rv ot, iv 1, iv 0, .val (.long q1), .second] [(.int (((l0.toInt64) + (((q1.toUInt64 >>> (s0 &&& 0x3f).toInt64.toUInt64).toInt64) &&& m0)).toInt32)), (.int 0), (.ref ot)])) rfl rfl (hb hby own_d16_67)
  have N239 := Fr.snoc X239 N0 g_ot
  have Z239 : n0 ≤ h239.size := Nat.le_trans Z0 (Keep.of_wr W239).1
  have K239 : Keep h0 h239 [ot] := K0.wr W239 (Or.inl (List.mem_of_getElem? (i := 0) rfl))
  have V239 : Arv Z h239 ot kot .int (3 : Int32) [(.int (((l0.toInt64) + (((q1.toUInt64 >>> (s0 &&& 0x3f).toInt64.toUInt64).toInt64) &&& m0)).toInt32)), (.int o1), (.int o2)] (.int 0) := V239q
  refine own_st st239 ?_
  refine own_st (g' := (mkF m 13 #[rv a, iv 1, rv ot, iv 1, iv 1, .val (.long q1), .second] [(.ref a), (.int 1)])) (fun tt_ kk_ => XS.iinc X239.here hx rfl (hb hby own_d16_68) rfl (l' := #[rv a, iv 1, rv ot, iv 1, iv 1, .val (.long q1), .second]) rfl (XS.goto X239.here hx rfl (pc0 := 71) (pc' := 10) rfl (hb hby own_d16_71) (by decide) (by decide) (XS.iload X239.here hx rfl (hb hby own_d16_10) rfl (XS.aloadN X239.here hx rfl (hb hby own_d16_12) rfl rfl kk_)))) ?_
  have F241 := (F_lows_a.other W239 (Or.inl ne_a_ot))
  refine own_gG X239 hx hZ hown (own_w hw 29 rfl) e239 F241 rfl rfl (hb hby own_d16_13) (fun {T240} X240 e240 => ?_)
  have F242 := (V_aL.other W239 ne_aL_ot)
  refine own_st (g' := (mkF m 21 #[rv a, iv 1, rv ot, iv 1, iv 1, .val (.long q1), .second] [(.ref a)])) (fun tt_ kk_ => own_lnV (g := (mkF m 16 #[rv a, iv 1, rv ot, iv 1, iv 1, .val (.long q1), .second] [(.ref aL), (.int 1)])) X240 hx hZ e240 F242 rfl rfl (hb hby own_d16_16) tt_ (XS.icmpNo X240.here hx rfl (hb hby own_d16_17) rfl (tlt (by decide : (1 : Int32) < (3 : Int32))).2.1 (XS.aloadN X240.here hx rfl (hb hby own_d16_20) rfl rfl kk_))) ?_
  have F244 := (F_packed_a.other W239 (Or.inl ne_a_ot))
  refine own_gG X240 hx hZ hown (own_w hw 56 rfl) e240 F244 rfl rfl (hb hby own_d16_21) (fun {T243} X243 e243 => ?_)
  refine own_st (g' := (mkF m 26 #[rv a, iv 1, rv ot, iv 1, iv 1, .val (.long q1), .second] [(.ref a), (.int 1), (.ref aP)])) (fun tt_ kk_ => XS.iloadN X243.here hx rfl (hb hby own_d16_24) rfl (XS.aloadN X243.here hx rfl (hb hby own_d16_25) rfl rfl kk_)) ?_
  have F246 := (F_words_a.other W239 (Or.inl ne_a_ot))
  refine own_gG X243 hx hZ hown (own_w hw 36 rfl) e243 F246 rfl rfl (hb hby own_d16_26) (fun {T245} X245 e245 => ?_)
  refine own_st (g' := (mkF m 31 #[rv a, iv 1, rv ot, iv 1, iv 1, .val (.long q1), .second] [(.int 1), (.ref aW), (.int 1), (.ref aP)])) (fun tt_ kk_ => XS.iload X245.here hx rfl (hb hby own_d16_29) rfl kk_) ?_
  have F247 := (V_aW.other W239 ne_aW_ot)
  refine own_st (g' := (mkF m 33 #[rv a, iv 1, rv ot, iv 1, iv 1, .val (.long q1), .second] [(.int 1), (.ref aP)])) (fun tt_ kk_ => own_lvI (g := (mkF m 31 #[rv a, iv 1, rv ot, iv 1, iv 1, .val (.long q1), .second] [(.int 1), (.ref aW), (.int 1), (.ref aP)])) X245 hx hZ e245 F247 (by decide) rfl rfl rfl (hb hby own_d16_31) tt_ (XS.iadd X245.here hx rfl (hb hby own_d16_32) rfl kk_)) ?_
  have F248 := (V_aP.other W239 ne_aP_ot)
  refine own_st (g' := (mkF m 40 #[rv a, iv 1, rv ot, iv 1, iv 1, .val (.long q1), .second] [(.ref a), (.int 1), (.ref ot)])) (fun tt_ kk_ => own_lvJ (g := (mkF m 33 #[rv a, iv 1, rv ot, iv 1, iv 1, .val (.long q1), .second] [(.int 1), (.ref aP)])) X245 hx hZ e245 F248 (by decide) rfl rfl rfl (hb hby own_d16_33) tt_ (XS.lstore X245.here hx rfl (hb hby own_d16_34) rfl (l' := #[rv a, iv 1, rv ot, iv 1, iv 1, .val (.long q1), .second]) rfl (XS.aloadN X245.here hx rfl (hb hby own_d16_36) rfl rfl (XS.iload X245.here hx rfl (hb hby own_d16_37) rfl (XS.aloadN X245.here hx rfl (hb hby own_d16_39) rfl rfl kk_))))) ?_
  refine own_gG X245 hx hZ hown (own_w hw 29 rfl) e245 F241 rfl rfl (hb hby own_d16_40) (fun {T249} X249 e249 => ?_)
  refine own_st (g' := (mkF m 45 #[rv a, iv 1, rv ot, iv 1, iv 1, .val (.long q1), .second] [(.int 1), (.ref aL), (.int 1), (.ref ot)])) (fun tt_ kk_ => XS.iload X249.here hx rfl (hb hby own_d16_43) rfl kk_) ?_
  refine own_st (g' := (mkF m 50 #[rv a, iv 1, rv ot, iv 1, iv 1, .val (.long q1), .second] [(.ref a), (.long q1), (.long (l1.toInt64)), (.int 1), (.ref ot)])) (fun tt_ kk_ => own_lvI (g := (mkF m 45 #[rv a, iv 1, rv ot, iv 1, iv 1, .val (.long q1), .second] [(.int 1), (.ref aL), (.int 1), (.ref ot)])) X249 hx hZ e249 F242 (by decide) rfl rfl rfl (hb hby own_d16_45) tt_ (XS.i2l X249.here hx rfl (hb hby own_d16_46) rfl (XS.lload X249.here hx rfl (hb hby own_d16_47) rfl (XS.aloadN X249.here hx rfl (hb hby own_d16_49) rfl rfl kk_)))) ?_
  have F251 := (F_shifts_a.other W239 (Or.inl ne_a_ot))
  refine own_gG X249 hx hZ hown (own_w hw 38 rfl) e249 F251 rfl rfl (hb hby own_d16_50) (fun {T250} X250 e250 => ?_)
  refine own_st (g' := (mkF m 55 #[rv a, iv 1, rv ot, iv 1, iv 1, .val (.long q1), .second] [(.int 1), (.ref aH), (.long q1), (.long (l1.toInt64)), (.int 1), (.ref ot)])) (fun tt_ kk_ => XS.iload X250.here hx rfl (hb hby own_d16_53) rfl kk_) ?_
  have F252 := (V_aH.other W239 ne_aH_ot)
  refine own_st (g' := (mkF m 58 #[rv a, iv 1, rv ot, iv 1, iv 1, .val (.long q1), .second] [(.ref a), (.long ((q1.toUInt64 >>> (s1 &&& 0x3f).toInt64.toUInt64).toInt64)), (.long (l1.toInt64)), (.int 1), (.ref ot)])) (fun tt_ kk_ => own_lvI (g := (mkF m 55 #[rv a, iv 1, rv ot, iv 1, iv 1, .val (.long q1), .second] [(.int 1), (.ref aH), (.long q1), (.long (l1.toInt64)), (.int 1), (.ref ot)])) X250 hx hZ e250 F252 (by decide) rfl rfl rfl (hb hby own_d16_55) tt_ (XS.lushr X250.here hx rfl (hb hby own_d16_56) rfl (XS.aloadN X250.here hx rfl (hb hby own_d16_57) rfl rfl kk_))) ?_
  have F254 := (F_masks_a.other W239 (Or.inl ne_a_ot))
  refine own_gG X250 hx hZ hown (own_w hw 34 rfl) e250 F254 rfl rfl (hb hby own_d16_58) (fun {T253} X253 e253 => ?_)
  refine own_st (g' := (mkF m 63 #[rv a, iv 1, rv ot, iv 1, iv 1, .val (.long q1), .second] [(.int 1), (.ref aM), (.long ((q1.toUInt64 >>> (s1 &&& 0x3f).toInt64.toUInt64).toInt64)), (.long (l1.toInt64)), (.int 1), (.ref ot)])) (fun tt_ kk_ => XS.iload X253.here hx rfl (hb hby own_d16_61) rfl kk_) ?_
  have F255 := (V_aM.other W239 ne_aM_ot)
  refine own_st (g' := (mkF m 67 #[rv a, iv 1, rv ot, iv 1, iv 1, .val (.long q1), .second] [(.int (((l1.toInt64) + (((q1.toUInt64 >>> (s1 &&& 0x3f).toInt64.toUInt64).toInt64) &&& m1)).toInt32)), (.int 1), (.ref ot)])) (fun tt_ kk_ => own_lvJ (g := (mkF m 63 #[rv a, iv 1, rv ot, iv 1, iv 1, .val (.long q1), .second] [(.int 1), (.ref aM), (.long ((q1.toUInt64 >>> (s1 &&& 0x3f).toInt64.toUInt64).toInt64)), (.long (l1.toInt64)), (.int 1), (.ref ot)])) X253 hx hZ e253 F255 (by decide) rfl rfl rfl (hb hby own_d16_63) tt_ (XS.land X253.here hx rfl (hb hby own_d16_64) rfl (XS.ladd X253.here hx rfl (hb hby own_d16_65) rfl (XS.l2i X253.here hx rfl (hb hby own_d16_66) rfl kk_)))) ?_
  obtain ⟨T256, h256, X256, e256, W256, V256q, st256⟩ := own_svI X253 hx hZ e253 V239 (j := (1 : Int32)) (by decide) 1 rfl (Nat.le_of_ble_eq_true rfl) (g := (mkF m 67 #[rv a, iv 1, rv ot, iv 1, iv 1, .val (.long q1), .second] [(.int (((l1.toInt64) + (((q1.toUInt64 >>> (s1 &&& 0x3f).toInt64.toUInt64).toInt64) &&& m1)).toInt32)), (.int 1), (.ref ot)])) rfl rfl (hb hby own_d16_67)
  have N256 := Fr.snoc X256 N239 g_ot
  have Z256 : n0 ≤ h256.size := Nat.le_trans Z239 (Keep.of_wr W256).1
  have K256 : Keep h0 h256 [ot] := K239.wr W256 (Or.inl (List.mem_of_getElem? (i := 0) rfl))
  have V256 : Arv Z h256 ot kot .int (3 : Int32) [(.int (((l0.toInt64) + (((q1.toUInt64 >>> (s0 &&& 0x3f).toInt64.toUInt64).toInt64) &&& m0)).toInt32)), (.int (((l1.toInt64) + (((q1.toUInt64 >>> (s1 &&& 0x3f).toInt64.toUInt64).toInt64) &&& m1)).toInt32)), (.int o2)] (.int 0) := V256q
  refine own_st st256 ?_
  refine own_st (g' := (mkF m 13 #[rv a, iv 1, rv ot, iv 1, iv 2, .val (.long q1), .second] [(.ref a), (.int 2)])) (fun tt_ kk_ => XS.iinc X256.here hx rfl (hb hby own_d16_68) rfl (l' := #[rv a, iv 1, rv ot, iv 1, iv 2, .val (.long q1), .second]) rfl (XS.goto X256.here hx rfl (pc0 := 71) (pc' := 10) rfl (hb hby own_d16_71) (by decide) (by decide) (XS.iload X256.here hx rfl (hb hby own_d16_10) rfl (XS.aloadN X256.here hx rfl (hb hby own_d16_12) rfl rfl kk_)))) ?_
  have F258 := (F241.other W256 (Or.inl ne_a_ot))
  refine own_gG X256 hx hZ hown (own_w hw 29 rfl) e256 F258 rfl rfl (hb hby own_d16_13) (fun {T257} X257 e257 => ?_)
  have F259 := (F242.other W256 ne_aL_ot)
  refine own_st (g' := (mkF m 21 #[rv a, iv 1, rv ot, iv 1, iv 2, .val (.long q1), .second] [(.ref a)])) (fun tt_ kk_ => own_lnV (g := (mkF m 16 #[rv a, iv 1, rv ot, iv 1, iv 2, .val (.long q1), .second] [(.ref aL), (.int 2)])) X257 hx hZ e257 F259 rfl rfl (hb hby own_d16_16) tt_ (XS.icmpNo X257.here hx rfl (hb hby own_d16_17) rfl (tlt (by decide : (2 : Int32) < (3 : Int32))).2.1 (XS.aloadN X257.here hx rfl (hb hby own_d16_20) rfl rfl kk_))) ?_
  have F261 := (F244.other W256 (Or.inl ne_a_ot))
  refine own_gG X257 hx hZ hown (own_w hw 56 rfl) e257 F261 rfl rfl (hb hby own_d16_21) (fun {T260} X260 e260 => ?_)
  refine own_st (g' := (mkF m 26 #[rv a, iv 1, rv ot, iv 1, iv 2, .val (.long q1), .second] [(.ref a), (.int 1), (.ref aP)])) (fun tt_ kk_ => XS.iloadN X260.here hx rfl (hb hby own_d16_24) rfl (XS.aloadN X260.here hx rfl (hb hby own_d16_25) rfl rfl kk_)) ?_
  have F263 := (F246.other W256 (Or.inl ne_a_ot))
  refine own_gG X260 hx hZ hown (own_w hw 36 rfl) e260 F263 rfl rfl (hb hby own_d16_26) (fun {T262} X262 e262 => ?_)
  refine own_st (g' := (mkF m 31 #[rv a, iv 1, rv ot, iv 1, iv 2, .val (.long q1), .second] [(.int 2), (.ref aW), (.int 1), (.ref aP)])) (fun tt_ kk_ => XS.iload X262.here hx rfl (hb hby own_d16_29) rfl kk_) ?_
  have F264 := (F247.other W256 ne_aW_ot)
  refine own_st (g' := (mkF m 33 #[rv a, iv 1, rv ot, iv 1, iv 2, .val (.long q1), .second] [(.int 1), (.ref aP)])) (fun tt_ kk_ => own_lvI (g := (mkF m 31 #[rv a, iv 1, rv ot, iv 1, iv 2, .val (.long q1), .second] [(.int 2), (.ref aW), (.int 1), (.ref aP)])) X262 hx hZ e262 F264 (by decide) rfl rfl rfl (hb hby own_d16_31) tt_ (XS.iadd X262.here hx rfl (hb hby own_d16_32) rfl kk_)) ?_
  have F265 := (F248.other W256 ne_aP_ot)
  refine own_st (g' := (mkF m 40 #[rv a, iv 1, rv ot, iv 1, iv 2, .val (.long q1), .second] [(.ref a), (.int 2), (.ref ot)])) (fun tt_ kk_ => own_lvJ (g := (mkF m 33 #[rv a, iv 1, rv ot, iv 1, iv 2, .val (.long q1), .second] [(.int 1), (.ref aP)])) X262 hx hZ e262 F265 (by decide) rfl rfl rfl (hb hby own_d16_33) tt_ (XS.lstore X262.here hx rfl (hb hby own_d16_34) rfl (l' := #[rv a, iv 1, rv ot, iv 1, iv 2, .val (.long q1), .second]) rfl (XS.aloadN X262.here hx rfl (hb hby own_d16_36) rfl rfl (XS.iload X262.here hx rfl (hb hby own_d16_37) rfl (XS.aloadN X262.here hx rfl (hb hby own_d16_39) rfl rfl kk_))))) ?_
  refine own_gG X262 hx hZ hown (own_w hw 29 rfl) e262 F258 rfl rfl (hb hby own_d16_40) (fun {T266} X266 e266 => ?_)
  refine own_st (g' := (mkF m 45 #[rv a, iv 1, rv ot, iv 1, iv 2, .val (.long q1), .second] [(.int 2), (.ref aL), (.int 2), (.ref ot)])) (fun tt_ kk_ => XS.iload X266.here hx rfl (hb hby own_d16_43) rfl kk_) ?_
  refine own_st (g' := (mkF m 50 #[rv a, iv 1, rv ot, iv 1, iv 2, .val (.long q1), .second] [(.ref a), (.long q1), (.long (l2.toInt64)), (.int 2), (.ref ot)])) (fun tt_ kk_ => own_lvI (g := (mkF m 45 #[rv a, iv 1, rv ot, iv 1, iv 2, .val (.long q1), .second] [(.int 2), (.ref aL), (.int 2), (.ref ot)])) X266 hx hZ e266 F259 (by decide) rfl rfl rfl (hb hby own_d16_45) tt_ (XS.i2l X266.here hx rfl (hb hby own_d16_46) rfl (XS.lload X266.here hx rfl (hb hby own_d16_47) rfl (XS.aloadN X266.here hx rfl (hb hby own_d16_49) rfl rfl kk_)))) ?_
  have F268 := (F251.other W256 (Or.inl ne_a_ot))
  refine own_gG X266 hx hZ hown (own_w hw 38 rfl) e266 F268 rfl rfl (hb hby own_d16_50) (fun {T267} X267 e267 => ?_)
  refine own_st (g' := (mkF m 55 #[rv a, iv 1, rv ot, iv 1, iv 2, .val (.long q1), .second] [(.int 2), (.ref aH), (.long q1), (.long (l2.toInt64)), (.int 2), (.ref ot)])) (fun tt_ kk_ => XS.iload X267.here hx rfl (hb hby own_d16_53) rfl kk_) ?_
  have F269 := (F252.other W256 ne_aH_ot)
  refine own_st (g' := (mkF m 58 #[rv a, iv 1, rv ot, iv 1, iv 2, .val (.long q1), .second] [(.ref a), (.long ((q1.toUInt64 >>> (s2 &&& 0x3f).toInt64.toUInt64).toInt64)), (.long (l2.toInt64)), (.int 2), (.ref ot)])) (fun tt_ kk_ => own_lvI (g := (mkF m 55 #[rv a, iv 1, rv ot, iv 1, iv 2, .val (.long q1), .second] [(.int 2), (.ref aH), (.long q1), (.long (l2.toInt64)), (.int 2), (.ref ot)])) X267 hx hZ e267 F269 (by decide) rfl rfl rfl (hb hby own_d16_55) tt_ (XS.lushr X267.here hx rfl (hb hby own_d16_56) rfl (XS.aloadN X267.here hx rfl (hb hby own_d16_57) rfl rfl kk_))) ?_
  have F271 := (F254.other W256 (Or.inl ne_a_ot))
  refine own_gG X267 hx hZ hown (own_w hw 34 rfl) e267 F271 rfl rfl (hb hby own_d16_58) (fun {T270} X270 e270 => ?_)
  refine own_st (g' := (mkF m 63 #[rv a, iv 1, rv ot, iv 1, iv 2, .val (.long q1), .second] [(.int 2), (.ref aM), (.long ((q1.toUInt64 >>> (s2 &&& 0x3f).toInt64.toUInt64).toInt64)), (.long (l2.toInt64)), (.int 2), (.ref ot)])) (fun tt_ kk_ => XS.iload X270.here hx rfl (hb hby own_d16_61) rfl kk_) ?_
  have F272 := (F255.other W256 ne_aM_ot)
  refine own_st (g' := (mkF m 67 #[rv a, iv 1, rv ot, iv 1, iv 2, .val (.long q1), .second] [(.int (((l2.toInt64) + (((q1.toUInt64 >>> (s2 &&& 0x3f).toInt64.toUInt64).toInt64) &&& m2)).toInt32)), (.int 2), (.ref ot)])) (fun tt_ kk_ => own_lvJ (g := (mkF m 63 #[rv a, iv 1, rv ot, iv 1, iv 2, .val (.long q1), .second] [(.int 2), (.ref aM), (.long ((q1.toUInt64 >>> (s2 &&& 0x3f).toInt64.toUInt64).toInt64)), (.long (l2.toInt64)), (.int 2), (.ref ot)])) X270 hx hZ e270 F272 (by decide) rfl rfl rfl (hb hby own_d16_63) tt_ (XS.land X270.here hx rfl (hb hby own_d16_64) rfl (XS.ladd X270.here hx rfl (hb hby own_d16_65) rfl (XS.l2i X270.here hx rfl (hb hby own_d16_66) rfl kk_)))) ?_
  obtain ⟨T273, h273, X273, e273, W273, V273q, st273⟩ := own_svI X270 hx hZ e270 V256 (j := (2 : Int32)) (by decide) 2 rfl (Nat.le_of_ble_eq_true rfl) (g := (mkF m 67 #[rv a, iv 1, rv ot, iv 1, iv 2, .val (.long q1), .second] [(.int (((l2.toInt64) + (((q1.toUInt64 >>> (s2 &&& 0x3f).toInt64.toUInt64).toInt64) &&& m2)).toInt32)), (.int 2), (.ref ot)])) rfl rfl (hb hby own_d16_67)
  have N273 := Fr.snoc X273 N256 g_ot
  have Z273 : n0 ≤ h273.size := Nat.le_trans Z256 (Keep.of_wr W273).1
  have K273 : Keep h0 h273 [ot] := K256.wr W273 (Or.inl (List.mem_of_getElem? (i := 0) rfl))
  have V273 : Arv Z h273 ot kot .int (3 : Int32) [(.int (((l0.toInt64) + (((q1.toUInt64 >>> (s0 &&& 0x3f).toInt64.toUInt64).toInt64) &&& m0)).toInt32)), (.int (((l1.toInt64) + (((q1.toUInt64 >>> (s1 &&& 0x3f).toInt64.toUInt64).toInt64) &&& m1)).toInt32)), (.int (((l2.toInt64) + (((q1.toUInt64 >>> (s2 &&& 0x3f).toInt64.toUInt64).toInt64) &&& m2)).toInt32))] (.int 0) := V273q
  refine own_st st273 ?_
  refine own_st (g' := (mkF m 13 #[rv a, iv 1, rv ot, iv 1, iv 3, .val (.long q1), .second] [(.ref a), (.int 3)])) (fun tt_ kk_ => XS.iinc X273.here hx rfl (hb hby own_d16_68) rfl (l' := #[rv a, iv 1, rv ot, iv 1, iv 3, .val (.long q1), .second]) rfl (XS.goto X273.here hx rfl (pc0 := 71) (pc' := 10) rfl (hb hby own_d16_71) (by decide) (by decide) (XS.iload X273.here hx rfl (hb hby own_d16_10) rfl (XS.aloadN X273.here hx rfl (hb hby own_d16_12) rfl rfl kk_)))) ?_
  have F275 := (F258.other W273 (Or.inl ne_a_ot))
  refine own_gG X273 hx hZ hown (own_w hw 29 rfl) e273 F275 rfl rfl (hb hby own_d16_13) (fun {T274} X274 e274 => ?_)
  have F276 := (F259.other W273 ne_aL_ot)
  refine own_st (g' := (mkF m 74 #[rv a, iv 1, rv ot, iv 1, iv 3, .val (.long q1), .second] [])) (fun tt_ kk_ => own_lnV (g := (mkF m 16 #[rv a, iv 1, rv ot, iv 1, iv 3, .val (.long q1), .second] [(.ref aL), (.int 3)])) X274 hx hZ e274 F276 rfl rfl (hb hby own_d16_16) tt_ (XS.icmpYes X274.here hx rfl (pc0 := 17) (pc' := 74) rfl (hb hby own_d16_17) rfl (flt (by decide : ¬ ((3 : Int32) < (3 : Int32)))).2.1 (by decide) (by decide) kk_)) ?_
  exact own_retV X274 hx hlk hret (hb hby own_d16_74) (by decide) (by decide) (by rw [e274]; exact ⟨rfl, N273, K273, V273⟩)
def own_QfilB (Z : State) (aK : Addr) (kaK : ClassId) (y0 : Int64) (y1 : Int64) (h0 : Heap) (n0 : Nat) (v : Option Value) (h : Heap) (L : List Loc) : Prop := v = none ∧ Fr n0 L ∧ Keep h0 h [aK] ∧ Arv Z h aK kaK .long (2 : Int32) [(.long 0), (.long 0)] (.long 0)
theorem own_effilB (m : MethodId) (aK : Addr) : entryFrame m #[(.ref aK), (.long 0)] 5 = mkF m 0 #[rv aK, .val (.long 0), .second, .unset, .unset] [] := by first | (simp [entryFrame, mkF, argsToLocals, Value.category]; done) | rfl
set_option maxRecDepth 65536 in
set_option maxHeartbeats 16000000 in
theorem own_rmfilB (l : Launch) (Z : State) (a0 : Array Value) (hw : own_HW Z a0) (ws : List Jvm.Cond) (aK : Addr) (kaK : ClassId) (y0 : Int64) (y1 : Int64) (h0 : Heap) (n0 : Nat) (Z0 : n0 ≤ h0.size) (V_aK : Arv Z h0 aK kaK .long (2 : Int32) [(.long y0), (.long y1)] (.long 0)) (g_aK : n0 ≤ aK) :
    MetFree l (⟨"java/util/Arrays", "fill", "([JJ)V"⟩ : MethodName) (head1 (Jvm.Cond.code (⟨"java/util/Arrays", "fill", "([JJ)V"⟩ : MethodName) jdk_65_method_101_code 5 none :: ws) ({ frames := 0, cells := 0, slots := 0, locals := 0 } : Room)) (fun aa UU => aa = #[(.ref aK), (.long 0)] ∧ Z.Warmed39 UU.vm ∧ UU.heap = h0) (fun _ _ _ _ _ => True) (fun _ U o U' => ∃ v L, o = .returned v ∧ own_QfilB Z aK kaK y0 y1 h0 n0 v U'.heap L ∧ FrameEnd U o U' L ({ frames := 0, cells := 0, slots := 0, locals := 0 } : Room).cells ({ frames := 0, cells := 0, slots := 0, locals := 0 } : Room).slots) := by
  refine MetFree.of_bodySF (plainFor_of_name own_pn3) hisR ?_
  intro p e s m args below meth c s₁ Bd hml hP hK
  obtain ⟨rfl, hZ, hh⟩ := hP
  have hx := Bd.exec
  have hlk := Bd.notSynchronized
  have hby := Bd.bytes
  have hret := Bd.returns
  have hown := findClass_of_methodNamed Bd.named
  have hnm := (name_of_methodNamed Bd.named Bd.method).1
  have X0 : Stand p l e ({ frames := 0, cells := 0, slots := 0, locals := 0 } : Room) s m #[(.ref aK), (.long 0)] below meth c s₁ [] 0 0 := Stand.of_body Bd
  have e0 : s₁.heap = h0 := by rw [← hh, Bd.state]; rfl
  have N0 := Fr.nil n0
  refine own_cast (own_effilB m aK) ?_
  show own_Go p e below s s₁ _ (own_QfilB Z aK kaK y0 y1 h0 n0) 0 0
  have K0 : Keep h0 h0 [aK] := Keep.refl _ _
  refine own_st (g' := (mkF m 3 #[rv aK, .val (.long 0), .second, iv 0, .unset] [(.ref aK)])) (fun tt_ kk_ => XS.iconst X0.here hx rfl (hb hby own_d11_0) (XS.istoreN X0.here hx rfl (hb hby own_d11_1) rfl (l' := #[rv aK, .val (.long 0), .second, iv 0, .unset]) rfl (XS.aloadN X0.here hx rfl (hb hby own_d11_2) rfl rfl kk_))) ?_
  refine own_st (g' := (mkF m 15 #[rv aK, .val (.long 0), .second, iv 0, iv 2] [(.long 0), (.int 0), (.ref aK)])) (fun tt_ kk_ => own_lnV (g := (mkF m 3 #[rv aK, .val (.long 0), .second, iv 0, .unset] [(.ref aK)])) X0 hx hZ e0 V_aK rfl rfl (hb hby own_d11_3) tt_ (XS.istore X0.here hx rfl (hb hby own_d11_4) rfl (l' := #[rv aK, .val (.long 0), .second, iv 0, iv 2]) rfl (XS.iloadN X0.here hx rfl (hb hby own_d11_6) rfl (XS.iload X0.here hx rfl (hb hby own_d11_7) rfl (XS.icmpNo X0.here hx rfl (hb hby own_d11_9) rfl (tlt (by decide : (0 : Int32) < (2 : Int32))).2.1 (XS.aloadN X0.here hx rfl (hb hby own_d11_12) rfl rfl (XS.iloadN X0.here hx rfl (hb hby own_d11_13) rfl (XS.lloadN X0.here hx rfl (hb hby own_d11_14) rfl kk_)))))))) ?_
  obtain ⟨T277, h277, X277, e277, W277, V277q, st277⟩ := own_svJ X0 hx hZ e0 V_aK (j := (0 : Int32)) (by decide) 0 rfl (Nat.le_of_ble_eq_true rfl) (g := (mkF m 15 #[rv aK, .val (.long 0), .second, iv 0, iv 2] [(.long 0), (.int 0), (.ref aK)])) rfl rfl (hb hby own_d11_15)
  have N277 := Fr.snoc X277 N0 g_aK
  have Z277 : n0 ≤ h277.size := Nat.le_trans Z0 (Keep.of_wr W277).1
  have K277 : Keep h0 h277 [aK] := K0.wr W277 (Or.inl (List.mem_of_getElem? (i := 0) rfl))
  have V277 : Arv Z h277 aK kaK .long (2 : Int32) [(.long 0), (.long y1)] (.long 0) := V277q
  refine own_st st277 ?_
  refine own_st (g' := (mkF m 15 #[rv aK, .val (.long 0), .second, iv 1, iv 2] [(.long 0), (.int 1), (.ref aK)])) (fun tt_ kk_ => XS.iinc X277.here hx rfl (hb hby own_d11_16) rfl (l' := #[rv aK, .val (.long 0), .second, iv 1, iv 2]) rfl (XS.goto X277.here hx rfl (pc0 := 19) (pc' := 6) rfl (hb hby own_d11_19) (by decide) (by decide) (XS.iloadN X277.here hx rfl (hb hby own_d11_6) rfl (XS.iload X277.here hx rfl (hb hby own_d11_7) rfl (XS.icmpNo X277.here hx rfl (hb hby own_d11_9) rfl (tlt (by decide : (1 : Int32) < (2 : Int32))).2.1 (XS.aloadN X277.here hx rfl (hb hby own_d11_12) rfl rfl (XS.iloadN X277.here hx rfl (hb hby own_d11_13) rfl (XS.lloadN X277.here hx rfl (hb hby own_d11_14) rfl kk_)))))))) ?_
  obtain ⟨T278, h278, X278, e278, W278, V278q, st278⟩ := own_svJ X277 hx hZ e277 V277 (j := (1 : Int32)) (by decide) 1 rfl (Nat.le_of_ble_eq_true rfl) (g := (mkF m 15 #[rv aK, .val (.long 0), .second, iv 1, iv 2] [(.long 0), (.int 1), (.ref aK)])) rfl rfl (hb hby own_d11_15)
  have N278 := Fr.snoc X278 N277 g_aK
  have Z278 : n0 ≤ h278.size := Nat.le_trans Z277 (Keep.of_wr W278).1
  have K278 : Keep h0 h278 [aK] := K277.wr W278 (Or.inl (List.mem_of_getElem? (i := 0) rfl))
  have V278 : Arv Z h278 aK kaK .long (2 : Int32) [(.long 0), (.long 0)] (.long 0) := V278q
  refine own_st st278 ?_
  refine own_st (g' := (mkF m 22 #[rv aK, .val (.long 0), .second, iv 2, iv 2] [])) (fun tt_ kk_ => XS.iinc X278.here hx rfl (hb hby own_d11_16) rfl (l' := #[rv aK, .val (.long 0), .second, iv 2, iv 2]) rfl (XS.goto X278.here hx rfl (pc0 := 19) (pc' := 6) rfl (hb hby own_d11_19) (by decide) (by decide) (XS.iloadN X278.here hx rfl (hb hby own_d11_6) rfl (XS.iload X278.here hx rfl (hb hby own_d11_7) rfl (XS.icmpYes X278.here hx rfl (pc0 := 9) (pc' := 22) rfl (hb hby own_d11_9) rfl (flt (by decide : ¬ ((2 : Int32) < (2 : Int32)))).2.1 (by decide) (by decide) kk_))))) ?_
  exact own_retV X278 hx hlk hret (hb hby own_d11_22) (by decide) (by decide) (by rw [e278]; exact ⟨rfl, N278, K278, V278⟩)
def own_QpakB (Z : State) (a : Addr) (st : Addr) (aL : Addr) (aS : Addr) (aW : Addr) (aH : Addr) (aK : Addr) (kaL : ClassId) (l0 : Int32) (l1 : Int32) (l2 : Int32) (kaS : ClassId) (sp0 : Int64) (sp1 : Int64) (sp2 : Int64) (kaW : ClassId) (kaH : ClassId) (s0 : Int32) (s1 : Int32) (s2 : Int32) (kst : ClassId) (v0 : Int32) (v1 : Int32) (v2 : Int32) (kaK : ClassId) (y0 : Int64) (y1 : Int64) (h0 : Heap) (n0 : Nat) (v : Option Value) (h : Heap) (L : List Loc) : Prop := v = none ∧ Fr n0 L ∧ Keep h0 h [aK] ∧ Arv Z h aK kaK .long (2 : Int32) [(.long (own_kB v0 v1 l0 l1 s0 s1)), (.long (own_kC v2 l2 s2))] (.long 0)
theorem own_efpakB (m : MethodId) (a : Addr) (st : Addr) : entryFrame m #[(.ref a), (.ref st)] 5 = mkF m 0 #[rv a, rv st, .unset, .unset, .unset] [] := by first | (simp [entryFrame, mkF, argsToLocals, Value.category]; done) | rfl
set_option maxRecDepth 65536 in
set_option maxHeartbeats 16000000 in
theorem own_rmpakB (l : Launch) (Z : State) (a0 : Array Value) (hw : own_HW Z a0) (ws : List Jvm.Cond) (a : Addr) (st : Addr) (aL : Addr) (aS : Addr) (aW : Addr) (aH : Addr) (aK : Addr) (kaL : ClassId) (l0 : Int32) (l1 : Int32) (l2 : Int32) (kaS : ClassId) (sp0 : Int64) (sp1 : Int64) (sp2 : Int64) (kaW : ClassId) (kaH : ClassId) (s0 : Int32) (s1 : Int32) (s2 : Int32) (kst : ClassId) (v0 : Int32) (v1 : Int32) (v2 : Int32) (kaK : ClassId) (y0 : Int64) (y1 : Int64) (h0 : Heap) (n0 : Nat) (Z0 : n0 ≤ h0.size) (E_a : Exa Z h0 a own_z0) (F_lows_a : Fld Z h0 a own_z0 "lows" "[I" (.ref aL)) (F_spans_a : Fld Z h0 a own_z0 "spans" "[J" (.ref aS)) (F_words_a : Fld Z h0 a own_z0 "words" "[I" (.ref aW)) (F_shifts_a : Fld Z h0 a own_z0 "shifts" "[I" (.ref aH)) (F_key_a : Fld Z h0 a own_z0 "key" "[J" (.ref aK)) (V_aL : Arv Z h0 aL kaL .int (3 : Int32) [(.int l0), (.int l1), (.int l2)] (.int 0)) (V_aS : Arv Z h0 aS kaS .long (3 : Int32) [(.long sp0), (.long sp1), (.long sp2)] (.long 0)) (V_aW : Arv Z h0 aW kaW .int (3 : Int32) [(.int 0), (.int 0), (.int 1)] (.int 0)) (V_aH : Arv Z h0 aH kaH .int (3 : Int32) [(.int s0), (.int s1), (.int s2)] (.int 0)) (V_st : Arv Z h0 st kst .int (3 : Int32) [(.int v0), (.int v1), (.int v2)] (.int 0)) (V_aK : Arv Z h0 aK kaK .long (2 : Int32) [(.long y0), (.long y1)] (.long 0)) (hA0 : ¬ ((lcmpW ((v0.toInt64) - (l0.toInt64)) (0 : Int64)) < (0 : Int32))) (hB0 : (lcmpW ((v0.toInt64) - (l0.toInt64)) sp0) < (0 : Int32)) (hA1 : ¬ ((lcmpW ((v1.toInt64) - (l1.toInt64)) (0 : Int64)) < (0 : Int32))) (hB1 : (lcmpW ((v1.toInt64) - (l1.toInt64)) sp1) < (0 : Int32)) (hA2 : ¬ ((lcmpW ((v2.toInt64) - (l2.toInt64)) (0 : Int64)) < (0 : Int32))) (hB2 : (lcmpW ((v2.toInt64) - (l2.toInt64)) sp2) < (0 : Int32)) (ne_a_aK : a ≠ aK) (ne_aL_aK : aL ≠ aK) (ne_aS_aK : aS ≠ aK) (ne_aW_aK : aW ≠ aK) (ne_aH_aK : aH ≠ aK) (ne_st_aK : st ≠ aK) (g_aK : n0 ≤ aK) :
    MetFree l (⟨own_z0, "pack", "([I)V"⟩ : MethodName) (head1 (Jvm.Cond.code (⟨own_z0, "pack", "([I)V"⟩ : MethodName) prog_160_method_10_code 5 none :: ws) ({ frames := 1, cells := 0, slots := 0, locals := 16 } : Room)) (fun aa UU => aa = #[(.ref a), (.ref st)] ∧ Z.Warmed39 UU.vm ∧ UU.heap = h0) (fun _ _ _ _ _ => True) (fun _ U o U' => ∃ v L, o = .returned v ∧ own_QpakB Z a st aL aS aW aH aK kaL l0 l1 l2 kaS sp0 sp1 sp2 kaW kaH s0 s1 s2 kst v0 v1 v2 kaK y0 y1 h0 n0 v U'.heap L ∧ FrameEnd U o U' L ({ frames := 1, cells := 0, slots := 0, locals := 16 } : Room).cells ({ frames := 1, cells := 0, slots := 0, locals := 16 } : Room).slots) := by
  refine MetFree.of_bodySF (plainFor_of_name own_pn2) hisR ?_
  intro p e s m args below meth c s₁ Bd hml hP hK
  obtain ⟨rfl, hZ, hh⟩ := hP
  have hx := Bd.exec
  have hlk := Bd.notSynchronized
  have hby := Bd.bytes
  have hret := Bd.returns
  have hown := findClass_of_methodNamed Bd.named
  have hnm := (name_of_methodNamed Bd.named Bd.method).1
  have X0 : Stand p l e ({ frames := 1, cells := 0, slots := 0, locals := 16 } : Room) s m #[(.ref a), (.ref st)] below meth c s₁ [] 0 0 := Stand.of_body Bd
  have e0 : s₁.heap = h0 := by rw [← hh, Bd.state]; rfl
  have N0 := Fr.nil n0
  refine own_cast (own_efpakB m a st) ?_
  show own_Go p e below s s₁ _ (own_QpakB Z a st aL aS aW aH aK kaL l0 l1 l2 kaS sp0 sp1 sp2 kaW kaH s0 s1 s2 kst v0 v1 v2 kaK y0 y1 h0 n0) 0 0
  have K0 : Keep h0 h0 [aK] := Keep.refl _ _
  refine own_st (g' := (mkF m 1 #[rv a, rv st, .unset, .unset, .unset] [(.ref a)])) (fun tt_ kk_ => XS.aloadN X0.here hx rfl (hb hby own_d10_0) rfl rfl kk_) ?_
  refine own_gG X0 hx hZ hown (own_w hw 63 rfl) e0 F_key_a rfl rfl (hb hby own_d10_1) (fun {T279} X279 e279 => ?_)
  refine own_st (g' := (mkF m 5 #[rv a, rv st, .unset, .unset, .unset] [(.long 0), (.ref aK)])) (fun tt_ kk_ => XS.lconst X279.here hx rfl (hb hby own_d10_4) kk_) ?_
  obtain ⟨_, _, ⟨T280, L280, k280, n280⟩, -, X280, ⟨Lc280, hQ280, l280, y280, z280⟩, st280⟩ := Jvm.LawKit.callS X279 hx (y := (⟨"java/util/Arrays", "fill", "([JJ)V"⟩ : MethodName)) hown (mvT hZ (own_w hw 74 rfl)) (mvT hZ (own_w hw 75 rfl)) (mvT hZ (own_w hw 76 rfl)) (mvT hZ (own_w hw 77 rfl)) (by decide) (backOf (W := 0) (own_rmfilB l Z a0 hw [] aK kaK y0 y1 h0 n0 Z0 V_aK g_aK) hZ (own_w hw 77 rfl) (own_w hw 76 rfl) (by decide) (by decide)) (g := (mkF m 5 #[rv a, rv st, .unset, .unset, .unset] [(.long 0), (.ref aK)])) rfl (by rw [hml]; rfl) (argsL := [(.ref aK), (.long 0)]) (rest := []) (lenOf own_pd2 rfl) rfl (by show 2 * 0 + _ ≤ _; exact Nat.le_of_eq rfl) (hb hby own_d10_5) (fun _ _ => ⟨rfl, e279, (by decide : 0 + 0 ≤ _), (by decide : 0 + 0 ≤ _)⟩)
  dsimp only [Pt.U, Pt.locs, Pt.cells, Pt.slots] at X280 l280 y280 z280 st280 hQ280
  rw [l280, y280, z280] at X280
  obtain ⟨rfl, N280q, K280q, f280_0⟩ := hQ280
  obtain ⟨h280, e280⟩ : ∃ z, T280.heap = z := ⟨_, rfl⟩
  rw [e280] at K280q f280_0
  have Z280 : n0 ≤ h280.size := Nat.le_trans Z0 K280q.1
  have K280 : Keep h0 h280 [aK] := K0.trans K280q (allS (P := fun x => x ∈ [aK] ∨ h0.size ≤ x) (Or.inl (List.mem_of_getElem? (i := 0) rfl)) all0)
  have N280 := Fr.app N0 N280q
  refine own_st st280 ?_
  refine own_st (g' := (mkF m 12 #[rv a, rv st, iv 0, .unset, .unset] [(.ref a), (.int 0)])) (fun tt_ kk_ => XS.iconst X280.here hx rfl (hb hby own_d10_8) (XS.istoreN X280.here hx rfl (hb hby own_d10_9) rfl (l' := #[rv a, rv st, iv 0, .unset, .unset]) rfl (XS.iloadN X280.here hx rfl (hb hby own_d10_10) rfl (XS.aloadN X280.here hx rfl (hb hby own_d10_11) rfl rfl kk_)))) ?_
  have F282 := (F_lows_a.keep K280q (ninS ne_a_aK nin0))
  refine own_gG X280 hx hZ hown (own_w hw 29 rfl) e280 F282 rfl rfl (hb hby own_d10_12) (fun {T281} X281 e281 => ?_)
  have F283 := (V_aL.keep K280q (ninS ne_aL_aK nin0))
  refine own_st (g' := (mkF m 21 #[rv a, rv st, iv 0, .unset, .unset] [(.int 0), (.ref st)])) (fun tt_ kk_ => own_lnV (g := (mkF m 15 #[rv a, rv st, iv 0, .unset, .unset] [(.ref aL), (.int 0)])) X281 hx hZ e281 F283 rfl rfl (hb hby own_d10_15) tt_ (XS.icmpNo X281.here hx rfl (hb hby own_d10_16) rfl (tlt (by decide : (0 : Int32) < (3 : Int32))).2.1 (XS.aloadN X281.here hx rfl (hb hby own_d10_19) rfl rfl (XS.iloadN X281.here hx rfl (hb hby own_d10_20) rfl kk_)))) ?_
  have F284 := (V_st.keep K280q (ninS ne_st_aK nin0))
  refine own_st (g' := (mkF m 24 #[rv a, rv st, iv 0, .unset, .unset] [(.ref a), (.long (v0.toInt64))])) (fun tt_ kk_ => own_lvI (g := (mkF m 21 #[rv a, rv st, iv 0, .unset, .unset] [(.int 0), (.ref st)])) X281 hx hZ e281 F284 (by decide) rfl rfl rfl (hb hby own_d10_21) tt_ (XS.i2l X281.here hx rfl (hb hby own_d10_22) rfl (XS.aloadN X281.here hx rfl (hb hby own_d10_23) rfl rfl kk_))) ?_
  refine own_gG X281 hx hZ hown (own_w hw 29 rfl) e281 F282 rfl rfl (hb hby own_d10_24) (fun {T285} X285 e285 => ?_)
  refine own_st (g' := (mkF m 28 #[rv a, rv st, iv 0, .unset, .unset] [(.int 0), (.ref aL), (.long (v0.toInt64))])) (fun tt_ kk_ => XS.iloadN X285.here hx rfl (hb hby own_d10_27) rfl kk_) ?_
  refine own_st (g' := (mkF m 35 #[rv a, rv st, iv 0, .val (.long ((v0.toInt64) - (l0.toInt64))), .second] [(.int (lcmpW ((v0.toInt64) - (l0.toInt64)) (0 : Int64)))])) (fun tt_ kk_ => own_lvI (g := (mkF m 28 #[rv a, rv st, iv 0, .unset, .unset] [(.int 0), (.ref aL), (.long (v0.toInt64))])) X285 hx hZ e285 F283 (by decide) rfl rfl rfl (hb hby own_d10_28) tt_ (XS.i2l X285.here hx rfl (hb hby own_d10_29) rfl (XS.lsub X285.here hx rfl (hb hby own_d10_30) rfl (XS.lstoreN X285.here hx rfl (hb hby own_d10_31) rfl (l' := #[rv a, rv st, iv 0, .val (.long ((v0.toInt64) - (l0.toInt64))), .second]) rfl (XS.lloadN X285.here hx rfl (hb hby own_d10_32) rfl (XS.lconst X285.here hx rfl (hb hby own_d10_33) (XS.lcmp X285.here hx rfl (hb hby own_d10_34) rfl kk_))))))) ?_
  refine own_st (g' := (mkF m 40 #[rv a, rv st, iv 0, .val (.long ((v0.toInt64) - (l0.toInt64))), .second] [(.ref a), (.long ((v0.toInt64) - (l0.toInt64)))])) (fun tt_ kk_ => XS.ifNo X285.here hx rfl (hb hby own_d10_35) rfl ((if0 _ _).trans (flt hA0).1) (XS.lloadN X285.here hx rfl (hb hby own_d10_38) rfl (XS.aloadN X285.here hx rfl (hb hby own_d10_39) rfl rfl kk_))) ?_
  have F287 := (F_spans_a.keep K280q (ninS ne_a_aK nin0))
  refine own_gG X285 hx hZ hown (own_w hw 32 rfl) e285 F287 rfl rfl (hb hby own_d10_40) (fun {T286} X286 e286 => ?_)
  refine own_st (g' := (mkF m 44 #[rv a, rv st, iv 0, .val (.long ((v0.toInt64) - (l0.toInt64))), .second] [(.int 0), (.ref aS), (.long ((v0.toInt64) - (l0.toInt64)))])) (fun tt_ kk_ => XS.iloadN X286.here hx rfl (hb hby own_d10_43) rfl kk_) ?_
  have F288 := (V_aS.keep K280q (ninS ne_aS_aK nin0))
  refine own_st (g' := (mkF m 46 #[rv a, rv st, iv 0, .val (.long ((v0.toInt64) - (l0.toInt64))), .second] [(.int (lcmpW ((v0.toInt64) - (l0.toInt64)) sp0))])) (fun tt_ kk_ => own_lvJ (g := (mkF m 44 #[rv a, rv st, iv 0, .val (.long ((v0.toInt64) - (l0.toInt64))), .second] [(.int 0), (.ref aS), (.long ((v0.toInt64) - (l0.toInt64)))])) X286 hx hZ e286 F288 (by decide) rfl rfl rfl (hb hby own_d10_44) tt_ (XS.lcmp X286.here hx rfl (hb hby own_d10_45) rfl kk_)) ?_
  refine own_st (g' := (mkF m 67 #[rv a, rv st, iv 0, .val (.long ((v0.toInt64) - (l0.toInt64))), .second] [(.ref a)])) (fun tt_ kk_ => XS.ifYes X286.here hx rfl (pc0 := 46) (pc' := 66) rfl (hb hby own_d10_46) rfl ((if0 _ _).trans (tlt hB0).1) (by decide) (by decide) (XS.aloadN X286.here hx rfl (hb hby own_d10_66) rfl rfl kk_)) ?_
  have F290 := (F_key_a.keep K280q (ninS ne_a_aK nin0))
  refine own_gG X286 hx hZ hown (own_w hw 63 rfl) e286 F290 rfl rfl (hb hby own_d10_67) (fun {T289} X289 e289 => ?_)
  refine own_st (g' := (mkF m 71 #[rv a, rv st, iv 0, .val (.long ((v0.toInt64) - (l0.toInt64))), .second] [(.ref a), (.ref aK)])) (fun tt_ kk_ => XS.aloadN X289.here hx rfl (hb hby own_d10_70) rfl rfl kk_) ?_
  have F292 := (F_words_a.keep K280q (ninS ne_a_aK nin0))
  refine own_gG X289 hx hZ hown (own_w hw 36 rfl) e289 F292 rfl rfl (hb hby own_d10_71) (fun {T291} X291 e291 => ?_)
  refine own_st (g' := (mkF m 75 #[rv a, rv st, iv 0, .val (.long ((v0.toInt64) - (l0.toInt64))), .second] [(.int 0), (.ref aW), (.ref aK)])) (fun tt_ kk_ => XS.iloadN X291.here hx rfl (hb hby own_d10_74) rfl kk_) ?_
  have F293 := (V_aW.keep K280q (ninS ne_aW_aK nin0))
  refine own_st (g' := (mkF m 77 #[rv a, rv st, iv 0, .val (.long ((v0.toInt64) - (l0.toInt64))), .second] [(.int 0), (.ref aK), (.int 0), (.ref aK)])) (fun tt_ kk_ => own_lvI (g := (mkF m 75 #[rv a, rv st, iv 0, .val (.long ((v0.toInt64) - (l0.toInt64))), .second] [(.int 0), (.ref aW), (.ref aK)])) X291 hx hZ e291 F293 (by decide) rfl rfl rfl (hb hby own_d10_75) tt_ (XT.dup2 X291.here hx rfl (hb hby own_d10_76) rfl rfl rfl kk_)) ?_
  refine own_st (g' := (mkF m 80 #[rv a, rv st, iv 0, .val (.long ((v0.toInt64) - (l0.toInt64))), .second] [(.ref a), (.long ((v0.toInt64) - (l0.toInt64))), (.long 0), (.int 0), (.ref aK)])) (fun tt_ kk_ => own_lvJ (g := (mkF m 77 #[rv a, rv st, iv 0, .val (.long ((v0.toInt64) - (l0.toInt64))), .second] [(.int 0), (.ref aK), (.int 0), (.ref aK)])) X291 hx hZ e291 f280_0 (by decide) rfl rfl rfl (hb hby own_d10_77) tt_ (XS.lloadN X291.here hx rfl (hb hby own_d10_78) rfl (XS.aloadN X291.here hx rfl (hb hby own_d10_79) rfl rfl kk_))) ?_
  have F295 := (F_shifts_a.keep K280q (ninS ne_a_aK nin0))
  refine own_gG X291 hx hZ hown (own_w hw 38 rfl) e291 F295 rfl rfl (hb hby own_d10_80) (fun {T294} X294 e294 => ?_)
  refine own_st (g' := (mkF m 84 #[rv a, rv st, iv 0, .val (.long ((v0.toInt64) - (l0.toInt64))), .second] [(.int 0), (.ref aH), (.long ((v0.toInt64) - (l0.toInt64))), (.long 0), (.int 0), (.ref aK)])) (fun tt_ kk_ => XS.iloadN X294.here hx rfl (hb hby own_d10_83) rfl kk_) ?_
  have F296 := (V_aH.keep K280q (ninS ne_aH_aK nin0))
  refine own_st (g' := (mkF m 87 #[rv a, rv st, iv 0, .val (.long ((v0.toInt64) - (l0.toInt64))), .second] [(.long ((0 : Int64) ||| (((v0.toInt64) - (l0.toInt64)) <<< (s0 &&& 0x3f).toInt64))), (.int 0), (.ref aK)])) (fun tt_ kk_ => own_lvI (g := (mkF m 84 #[rv a, rv st, iv 0, .val (.long ((v0.toInt64) - (l0.toInt64))), .second] [(.int 0), (.ref aH), (.long ((v0.toInt64) - (l0.toInt64))), (.long 0), (.int 0), (.ref aK)])) X294 hx hZ e294 F296 (by decide) rfl rfl rfl (hb hby own_d10_84) tt_ (XS.lshl X294.here hx rfl (hb hby own_d10_85) rfl (XS.lor X294.here hx rfl (hb hby own_d10_86) rfl kk_))) ?_
  obtain ⟨T297, h297, X297, e297, W297, V297q, st297⟩ := own_svJ X294 hx hZ e294 f280_0 (j := (0 : Int32)) (by decide) 0 rfl (Nat.le_of_ble_eq_true rfl) (g := (mkF m 87 #[rv a, rv st, iv 0, .val (.long ((v0.toInt64) - (l0.toInt64))), .second] [(.long ((0 : Int64) ||| (((v0.toInt64) - (l0.toInt64)) <<< (s0 &&& 0x3f).toInt64))), (.int 0), (.ref aK)])) rfl rfl (hb hby own_d10_87)
  have N297 := Fr.snoc X297 N280 g_aK
  have Z297 : n0 ≤ h297.size := Nat.le_trans Z280 (Keep.of_wr W297).1
  have K297 : Keep h0 h297 [aK] := K280.wr W297 (Or.inl (List.mem_of_getElem? (i := 0) rfl))
  have V297 : Arv Z h297 aK kaK .long (2 : Int32) [(.long ((0 : Int64) ||| (((v0.toInt64) - (l0.toInt64)) <<< (s0 &&& 0x3f).toInt64))), (.long 0)] (.long 0) := V297q
  refine own_st st297 ?_
  refine own_st (g' := (mkF m 12 #[rv a, rv st, iv 1, .val (.long ((v0.toInt64) - (l0.toInt64))), .second] [(.ref a), (.int 1)])) (fun tt_ kk_ => XS.iinc X297.here hx rfl (hb hby own_d10_88) rfl (l' := #[rv a, rv st, iv 1, .val (.long ((v0.toInt64) - (l0.toInt64))), .second]) rfl (XS.goto X297.here hx rfl (pc0 := 91) (pc' := 10) rfl (hb hby own_d10_91) (by decide) (by decide) (XS.iloadN X297.here hx rfl (hb hby own_d10_10) rfl (XS.aloadN X297.here hx rfl (hb hby own_d10_11) rfl rfl kk_)))) ?_
  have F299 := (F282.other W297 (Or.inl ne_a_aK))
  refine own_gG X297 hx hZ hown (own_w hw 29 rfl) e297 F299 rfl rfl (hb hby own_d10_12) (fun {T298} X298 e298 => ?_)
  have F300 := (F283.other W297 ne_aL_aK)
  refine own_st (g' := (mkF m 21 #[rv a, rv st, iv 1, .val (.long ((v0.toInt64) - (l0.toInt64))), .second] [(.int 1), (.ref st)])) (fun tt_ kk_ => own_lnV (g := (mkF m 15 #[rv a, rv st, iv 1, .val (.long ((v0.toInt64) - (l0.toInt64))), .second] [(.ref aL), (.int 1)])) X298 hx hZ e298 F300 rfl rfl (hb hby own_d10_15) tt_ (XS.icmpNo X298.here hx rfl (hb hby own_d10_16) rfl (tlt (by decide : (1 : Int32) < (3 : Int32))).2.1 (XS.aloadN X298.here hx rfl (hb hby own_d10_19) rfl rfl (XS.iloadN X298.here hx rfl (hb hby own_d10_20) rfl kk_)))) ?_
  have F301 := (F284.other W297 ne_st_aK)
  refine own_st (g' := (mkF m 24 #[rv a, rv st, iv 1, .val (.long ((v0.toInt64) - (l0.toInt64))), .second] [(.ref a), (.long (v1.toInt64))])) (fun tt_ kk_ => own_lvI (g := (mkF m 21 #[rv a, rv st, iv 1, .val (.long ((v0.toInt64) - (l0.toInt64))), .second] [(.int 1), (.ref st)])) X298 hx hZ e298 F301 (by decide) rfl rfl rfl (hb hby own_d10_21) tt_ (XS.i2l X298.here hx rfl (hb hby own_d10_22) rfl (XS.aloadN X298.here hx rfl (hb hby own_d10_23) rfl rfl kk_))) ?_
  refine own_gG X298 hx hZ hown (own_w hw 29 rfl) e298 F299 rfl rfl (hb hby own_d10_24) (fun {T302} X302 e302 => ?_)
  refine own_st (g' := (mkF m 28 #[rv a, rv st, iv 1, .val (.long ((v0.toInt64) - (l0.toInt64))), .second] [(.int 1), (.ref aL), (.long (v1.toInt64))])) (fun tt_ kk_ => XS.iloadN X302.here hx rfl (hb hby own_d10_27) rfl kk_) ?_
  refine own_st (g' := (mkF m 35 #[rv a, rv st, iv 1, .val (.long ((v1.toInt64) - (l1.toInt64))), .second] [(.int (lcmpW ((v1.toInt64) - (l1.toInt64)) (0 : Int64)))])) (fun tt_ kk_ => own_lvI (g := (mkF m 28 #[rv a, rv st, iv 1, .val (.long ((v0.toInt64) - (l0.toInt64))), .second] [(.int 1), (.ref aL), (.long (v1.toInt64))])) X302 hx hZ e302 F300 (by decide) rfl rfl rfl (hb hby own_d10_28) tt_ (XS.i2l X302.here hx rfl (hb hby own_d10_29) rfl (XS.lsub X302.here hx rfl (hb hby own_d10_30) rfl (XS.lstoreN X302.here hx rfl (hb hby own_d10_31) rfl (l' := #[rv a, rv st, iv 1, .val (.long ((v1.toInt64) - (l1.toInt64))), .second]) rfl (XS.lloadN X302.here hx rfl (hb hby own_d10_32) rfl (XS.lconst X302.here hx rfl (hb hby own_d10_33) (XS.lcmp X302.here hx rfl (hb hby own_d10_34) rfl kk_))))))) ?_
  refine own_st (g' := (mkF m 40 #[rv a, rv st, iv 1, .val (.long ((v1.toInt64) - (l1.toInt64))), .second] [(.ref a), (.long ((v1.toInt64) - (l1.toInt64)))])) (fun tt_ kk_ => XS.ifNo X302.here hx rfl (hb hby own_d10_35) rfl ((if0 _ _).trans (flt hA1).1) (XS.lloadN X302.here hx rfl (hb hby own_d10_38) rfl (XS.aloadN X302.here hx rfl (hb hby own_d10_39) rfl rfl kk_))) ?_
  have F304 := (F287.other W297 (Or.inl ne_a_aK))
  refine own_gG X302 hx hZ hown (own_w hw 32 rfl) e302 F304 rfl rfl (hb hby own_d10_40) (fun {T303} X303 e303 => ?_)
  refine own_st (g' := (mkF m 44 #[rv a, rv st, iv 1, .val (.long ((v1.toInt64) - (l1.toInt64))), .second] [(.int 1), (.ref aS), (.long ((v1.toInt64) - (l1.toInt64)))])) (fun tt_ kk_ => XS.iloadN X303.here hx rfl (hb hby own_d10_43) rfl kk_) ?_
  have F305 := (F288.other W297 ne_aS_aK)
  refine own_st (g' := (mkF m 46 #[rv a, rv st, iv 1, .val (.long ((v1.toInt64) - (l1.toInt64))), .second] [(.int (lcmpW ((v1.toInt64) - (l1.toInt64)) sp1))])) (fun tt_ kk_ => own_lvJ (g := (mkF m 44 #[rv a, rv st, iv 1, .val (.long ((v1.toInt64) - (l1.toInt64))), .second] [(.int 1), (.ref aS), (.long ((v1.toInt64) - (l1.toInt64)))])) X303 hx hZ e303 F305 (by decide) rfl rfl rfl (hb hby own_d10_44) tt_ (XS.lcmp X303.here hx rfl (hb hby own_d10_45) rfl kk_)) ?_
  refine own_st (g' := (mkF m 67 #[rv a, rv st, iv 1, .val (.long ((v1.toInt64) - (l1.toInt64))), .second] [(.ref a)])) (fun tt_ kk_ => XS.ifYes X303.here hx rfl (pc0 := 46) (pc' := 66) rfl (hb hby own_d10_46) rfl ((if0 _ _).trans (tlt hB1).1) (by decide) (by decide) (XS.aloadN X303.here hx rfl (hb hby own_d10_66) rfl rfl kk_)) ?_
  have F307 := (F290.other W297 (Or.inl ne_a_aK))
  refine own_gG X303 hx hZ hown (own_w hw 63 rfl) e303 F307 rfl rfl (hb hby own_d10_67) (fun {T306} X306 e306 => ?_)
  refine own_st (g' := (mkF m 71 #[rv a, rv st, iv 1, .val (.long ((v1.toInt64) - (l1.toInt64))), .second] [(.ref a), (.ref aK)])) (fun tt_ kk_ => XS.aloadN X306.here hx rfl (hb hby own_d10_70) rfl rfl kk_) ?_
  have F309 := (F292.other W297 (Or.inl ne_a_aK))
  refine own_gG X306 hx hZ hown (own_w hw 36 rfl) e306 F309 rfl rfl (hb hby own_d10_71) (fun {T308} X308 e308 => ?_)
  refine own_st (g' := (mkF m 75 #[rv a, rv st, iv 1, .val (.long ((v1.toInt64) - (l1.toInt64))), .second] [(.int 1), (.ref aW), (.ref aK)])) (fun tt_ kk_ => XS.iloadN X308.here hx rfl (hb hby own_d10_74) rfl kk_) ?_
  have F310 := (F293.other W297 ne_aW_aK)
  refine own_st (g' := (mkF m 77 #[rv a, rv st, iv 1, .val (.long ((v1.toInt64) - (l1.toInt64))), .second] [(.int 0), (.ref aK), (.int 0), (.ref aK)])) (fun tt_ kk_ => own_lvI (g := (mkF m 75 #[rv a, rv st, iv 1, .val (.long ((v1.toInt64) - (l1.toInt64))), .second] [(.int 1), (.ref aW), (.ref aK)])) X308 hx hZ e308 F310 (by decide) rfl rfl rfl (hb hby own_d10_75) tt_ (XT.dup2 X308.here hx rfl (hb hby own_d10_76) rfl rfl rfl kk_)) ?_
  refine own_st (g' := (mkF m 80 #[rv a, rv st, iv 1, .val (.long ((v1.toInt64) - (l1.toInt64))), .second] [(.ref a), (.long ((v1.toInt64) - (l1.toInt64))), (.long ((0 : Int64) ||| (((v0.toInt64) - (l0.toInt64)) <<< (s0 &&& 0x3f).toInt64))), (.int 0), (.ref aK)])) (fun tt_ kk_ => own_lvJ (g := (mkF m 77 #[rv a, rv st, iv 1, .val (.long ((v1.toInt64) - (l1.toInt64))), .second] [(.int 0), (.ref aK), (.int 0), (.ref aK)])) X308 hx hZ e308 V297 (by decide) rfl rfl rfl (hb hby own_d10_77) tt_ (XS.lloadN X308.here hx rfl (hb hby own_d10_78) rfl (XS.aloadN X308.here hx rfl (hb hby own_d10_79) rfl rfl kk_))) ?_
  have F312 := (F295.other W297 (Or.inl ne_a_aK))
  refine own_gG X308 hx hZ hown (own_w hw 38 rfl) e308 F312 rfl rfl (hb hby own_d10_80) (fun {T311} X311 e311 => ?_)
  refine own_st (g' := (mkF m 84 #[rv a, rv st, iv 1, .val (.long ((v1.toInt64) - (l1.toInt64))), .second] [(.int 1), (.ref aH), (.long ((v1.toInt64) - (l1.toInt64))), (.long ((0 : Int64) ||| (((v0.toInt64) - (l0.toInt64)) <<< (s0 &&& 0x3f).toInt64))), (.int 0), (.ref aK)])) (fun tt_ kk_ => XS.iloadN X311.here hx rfl (hb hby own_d10_83) rfl kk_) ?_
  have F313 := (F296.other W297 ne_aH_aK)
  refine own_st (g' := (mkF m 87 #[rv a, rv st, iv 1, .val (.long ((v1.toInt64) - (l1.toInt64))), .second] [(.long (((0 : Int64) ||| (((v0.toInt64) - (l0.toInt64)) <<< (s0 &&& 0x3f).toInt64)) ||| (((v1.toInt64) - (l1.toInt64)) <<< (s1 &&& 0x3f).toInt64))), (.int 0), (.ref aK)])) (fun tt_ kk_ => own_lvI (g := (mkF m 84 #[rv a, rv st, iv 1, .val (.long ((v1.toInt64) - (l1.toInt64))), .second] [(.int 1), (.ref aH), (.long ((v1.toInt64) - (l1.toInt64))), (.long ((0 : Int64) ||| (((v0.toInt64) - (l0.toInt64)) <<< (s0 &&& 0x3f).toInt64))), (.int 0), (.ref aK)])) X311 hx hZ e311 F313 (by decide) rfl rfl rfl (hb hby own_d10_84) tt_ (XS.lshl X311.here hx rfl (hb hby own_d10_85) rfl (XS.lor X311.here hx rfl (hb hby own_d10_86) rfl kk_))) ?_
  obtain ⟨T314, h314, X314, e314, W314, V314q, st314⟩ := own_svJ X311 hx hZ e311 V297 (j := (0 : Int32)) (by decide) 0 rfl (Nat.le_of_ble_eq_true rfl) (g := (mkF m 87 #[rv a, rv st, iv 1, .val (.long ((v1.toInt64) - (l1.toInt64))), .second] [(.long (((0 : Int64) ||| (((v0.toInt64) - (l0.toInt64)) <<< (s0 &&& 0x3f).toInt64)) ||| (((v1.toInt64) - (l1.toInt64)) <<< (s1 &&& 0x3f).toInt64))), (.int 0), (.ref aK)])) rfl rfl (hb hby own_d10_87)
  have N314 := Fr.snoc X314 N297 g_aK
  have Z314 : n0 ≤ h314.size := Nat.le_trans Z297 (Keep.of_wr W314).1
  have K314 : Keep h0 h314 [aK] := K297.wr W314 (Or.inl (List.mem_of_getElem? (i := 0) rfl))
  have V314 : Arv Z h314 aK kaK .long (2 : Int32) [(.long (((0 : Int64) ||| (((v0.toInt64) - (l0.toInt64)) <<< (s0 &&& 0x3f).toInt64)) ||| (((v1.toInt64) - (l1.toInt64)) <<< (s1 &&& 0x3f).toInt64))), (.long 0)] (.long 0) := V314q
  refine own_st st314 ?_
  refine own_st (g' := (mkF m 12 #[rv a, rv st, iv 2, .val (.long ((v1.toInt64) - (l1.toInt64))), .second] [(.ref a), (.int 2)])) (fun tt_ kk_ => XS.iinc X314.here hx rfl (hb hby own_d10_88) rfl (l' := #[rv a, rv st, iv 2, .val (.long ((v1.toInt64) - (l1.toInt64))), .second]) rfl (XS.goto X314.here hx rfl (pc0 := 91) (pc' := 10) rfl (hb hby own_d10_91) (by decide) (by decide) (XS.iloadN X314.here hx rfl (hb hby own_d10_10) rfl (XS.aloadN X314.here hx rfl (hb hby own_d10_11) rfl rfl kk_)))) ?_
  have F316 := (F299.other W314 (Or.inl ne_a_aK))
  refine own_gG X314 hx hZ hown (own_w hw 29 rfl) e314 F316 rfl rfl (hb hby own_d10_12) (fun {T315} X315 e315 => ?_)
  have F317 := (F300.other W314 ne_aL_aK)
  refine own_st (g' := (mkF m 21 #[rv a, rv st, iv 2, .val (.long ((v1.toInt64) - (l1.toInt64))), .second] [(.int 2), (.ref st)])) (fun tt_ kk_ => own_lnV (g := (mkF m 15 #[rv a, rv st, iv 2, .val (.long ((v1.toInt64) - (l1.toInt64))), .second] [(.ref aL), (.int 2)])) X315 hx hZ e315 F317 rfl rfl (hb hby own_d10_15) tt_ (XS.icmpNo X315.here hx rfl (hb hby own_d10_16) rfl (tlt (by decide : (2 : Int32) < (3 : Int32))).2.1 (XS.aloadN X315.here hx rfl (hb hby own_d10_19) rfl rfl (XS.iloadN X315.here hx rfl (hb hby own_d10_20) rfl kk_)))) ?_
  have F318 := (F301.other W314 ne_st_aK)
  refine own_st (g' := (mkF m 24 #[rv a, rv st, iv 2, .val (.long ((v1.toInt64) - (l1.toInt64))), .second] [(.ref a), (.long (v2.toInt64))])) (fun tt_ kk_ => own_lvI (g := (mkF m 21 #[rv a, rv st, iv 2, .val (.long ((v1.toInt64) - (l1.toInt64))), .second] [(.int 2), (.ref st)])) X315 hx hZ e315 F318 (by decide) rfl rfl rfl (hb hby own_d10_21) tt_ (XS.i2l X315.here hx rfl (hb hby own_d10_22) rfl (XS.aloadN X315.here hx rfl (hb hby own_d10_23) rfl rfl kk_))) ?_
  refine own_gG X315 hx hZ hown (own_w hw 29 rfl) e315 F316 rfl rfl (hb hby own_d10_24) (fun {T319} X319 e319 => ?_)
  refine own_st (g' := (mkF m 28 #[rv a, rv st, iv 2, .val (.long ((v1.toInt64) - (l1.toInt64))), .second] [(.int 2), (.ref aL), (.long (v2.toInt64))])) (fun tt_ kk_ => XS.iloadN X319.here hx rfl (hb hby own_d10_27) rfl kk_) ?_
  refine own_st (g' := (mkF m 35 #[rv a, rv st, iv 2, .val (.long ((v2.toInt64) - (l2.toInt64))), .second] [(.int (lcmpW ((v2.toInt64) - (l2.toInt64)) (0 : Int64)))])) (fun tt_ kk_ => own_lvI (g := (mkF m 28 #[rv a, rv st, iv 2, .val (.long ((v1.toInt64) - (l1.toInt64))), .second] [(.int 2), (.ref aL), (.long (v2.toInt64))])) X319 hx hZ e319 F317 (by decide) rfl rfl rfl (hb hby own_d10_28) tt_ (XS.i2l X319.here hx rfl (hb hby own_d10_29) rfl (XS.lsub X319.here hx rfl (hb hby own_d10_30) rfl (XS.lstoreN X319.here hx rfl (hb hby own_d10_31) rfl (l' := #[rv a, rv st, iv 2, .val (.long ((v2.toInt64) - (l2.toInt64))), .second]) rfl (XS.lloadN X319.here hx rfl (hb hby own_d10_32) rfl (XS.lconst X319.here hx rfl (hb hby own_d10_33) (XS.lcmp X319.here hx rfl (hb hby own_d10_34) rfl kk_))))))) ?_
  refine own_st (g' := (mkF m 40 #[rv a, rv st, iv 2, .val (.long ((v2.toInt64) - (l2.toInt64))), .second] [(.ref a), (.long ((v2.toInt64) - (l2.toInt64)))])) (fun tt_ kk_ => XS.ifNo X319.here hx rfl (hb hby own_d10_35) rfl ((if0 _ _).trans (flt hA2).1) (XS.lloadN X319.here hx rfl (hb hby own_d10_38) rfl (XS.aloadN X319.here hx rfl (hb hby own_d10_39) rfl rfl kk_))) ?_
  have F321 := (F304.other W314 (Or.inl ne_a_aK))
  refine own_gG X319 hx hZ hown (own_w hw 32 rfl) e319 F321 rfl rfl (hb hby own_d10_40) (fun {T320} X320 e320 => ?_)
  refine own_st (g' := (mkF m 44 #[rv a, rv st, iv 2, .val (.long ((v2.toInt64) - (l2.toInt64))), .second] [(.int 2), (.ref aS), (.long ((v2.toInt64) - (l2.toInt64)))])) (fun tt_ kk_ => XS.iloadN X320.here hx rfl (hb hby own_d10_43) rfl kk_) ?_
  have F322 := (F305.other W314 ne_aS_aK)
  refine own_st (g' := (mkF m 46 #[rv a, rv st, iv 2, .val (.long ((v2.toInt64) - (l2.toInt64))), .second] [(.int (lcmpW ((v2.toInt64) - (l2.toInt64)) sp2))])) (fun tt_ kk_ => own_lvJ (g := (mkF m 44 #[rv a, rv st, iv 2, .val (.long ((v2.toInt64) - (l2.toInt64))), .second] [(.int 2), (.ref aS), (.long ((v2.toInt64) - (l2.toInt64)))])) X320 hx hZ e320 F322 (by decide) rfl rfl rfl (hb hby own_d10_44) tt_ (XS.lcmp X320.here hx rfl (hb hby own_d10_45) rfl kk_)) ?_
  refine own_st (g' := (mkF m 67 #[rv a, rv st, iv 2, .val (.long ((v2.toInt64) - (l2.toInt64))), .second] [(.ref a)])) (fun tt_ kk_ => XS.ifYes X320.here hx rfl (pc0 := 46) (pc' := 66) rfl (hb hby own_d10_46) rfl ((if0 _ _).trans (tlt hB2).1) (by decide) (by decide) (XS.aloadN X320.here hx rfl (hb hby own_d10_66) rfl rfl kk_)) ?_
  have F324 := (F307.other W314 (Or.inl ne_a_aK))
  refine own_gG X320 hx hZ hown (own_w hw 63 rfl) e320 F324 rfl rfl (hb hby own_d10_67) (fun {T323} X323 e323 => ?_)
  refine own_st (g' := (mkF m 71 #[rv a, rv st, iv 2, .val (.long ((v2.toInt64) - (l2.toInt64))), .second] [(.ref a), (.ref aK)])) (fun tt_ kk_ => XS.aloadN X323.here hx rfl (hb hby own_d10_70) rfl rfl kk_) ?_
  have F326 := (F309.other W314 (Or.inl ne_a_aK))
  refine own_gG X323 hx hZ hown (own_w hw 36 rfl) e323 F326 rfl rfl (hb hby own_d10_71) (fun {T325} X325 e325 => ?_)
  refine own_st (g' := (mkF m 75 #[rv a, rv st, iv 2, .val (.long ((v2.toInt64) - (l2.toInt64))), .second] [(.int 2), (.ref aW), (.ref aK)])) (fun tt_ kk_ => XS.iloadN X325.here hx rfl (hb hby own_d10_74) rfl kk_) ?_
  have F327 := (F310.other W314 ne_aW_aK)
  refine own_st (g' := (mkF m 77 #[rv a, rv st, iv 2, .val (.long ((v2.toInt64) - (l2.toInt64))), .second] [(.int 1), (.ref aK), (.int 1), (.ref aK)])) (fun tt_ kk_ => own_lvI (g := (mkF m 75 #[rv a, rv st, iv 2, .val (.long ((v2.toInt64) - (l2.toInt64))), .second] [(.int 2), (.ref aW), (.ref aK)])) X325 hx hZ e325 F327 (by decide) rfl rfl rfl (hb hby own_d10_75) tt_ (XT.dup2 X325.here hx rfl (hb hby own_d10_76) rfl rfl rfl kk_)) ?_
  refine own_st (g' := (mkF m 80 #[rv a, rv st, iv 2, .val (.long ((v2.toInt64) - (l2.toInt64))), .second] [(.ref a), (.long ((v2.toInt64) - (l2.toInt64))), (.long 0), (.int 1), (.ref aK)])) (fun tt_ kk_ => own_lvJ (g := (mkF m 77 #[rv a, rv st, iv 2, .val (.long ((v2.toInt64) - (l2.toInt64))), .second] [(.int 1), (.ref aK), (.int 1), (.ref aK)])) X325 hx hZ e325 V314 (by decide) rfl rfl rfl (hb hby own_d10_77) tt_ (XS.lloadN X325.here hx rfl (hb hby own_d10_78) rfl (XS.aloadN X325.here hx rfl (hb hby own_d10_79) rfl rfl kk_))) ?_
  have F329 := (F312.other W314 (Or.inl ne_a_aK))
  refine own_gG X325 hx hZ hown (own_w hw 38 rfl) e325 F329 rfl rfl (hb hby own_d10_80) (fun {T328} X328 e328 => ?_)
  refine own_st (g' := (mkF m 84 #[rv a, rv st, iv 2, .val (.long ((v2.toInt64) - (l2.toInt64))), .second] [(.int 2), (.ref aH), (.long ((v2.toInt64) - (l2.toInt64))), (.long 0), (.int 1), (.ref aK)])) (fun tt_ kk_ => XS.iloadN X328.here hx rfl (hb hby own_d10_83) rfl kk_) ?_
  have F330 := (F313.other W314 ne_aH_aK)
  refine own_st (g' := (mkF m 87 #[rv a, rv st, iv 2, .val (.long ((v2.toInt64) - (l2.toInt64))), .second] [(.long ((0 : Int64) ||| (((v2.toInt64) - (l2.toInt64)) <<< (s2 &&& 0x3f).toInt64))), (.int 1), (.ref aK)])) (fun tt_ kk_ => own_lvI (g := (mkF m 84 #[rv a, rv st, iv 2, .val (.long ((v2.toInt64) - (l2.toInt64))), .second] [(.int 2), (.ref aH), (.long ((v2.toInt64) - (l2.toInt64))), (.long 0), (.int 1), (.ref aK)])) X328 hx hZ e328 F330 (by decide) rfl rfl rfl (hb hby own_d10_84) tt_ (XS.lshl X328.here hx rfl (hb hby own_d10_85) rfl (XS.lor X328.here hx rfl (hb hby own_d10_86) rfl kk_))) ?_
  obtain ⟨T331, h331, X331, e331, W331, V331q, st331⟩ := own_svJ X328 hx hZ e328 V314 (j := (1 : Int32)) (by decide) 1 rfl (Nat.le_of_ble_eq_true rfl) (g := (mkF m 87 #[rv a, rv st, iv 2, .val (.long ((v2.toInt64) - (l2.toInt64))), .second] [(.long ((0 : Int64) ||| (((v2.toInt64) - (l2.toInt64)) <<< (s2 &&& 0x3f).toInt64))), (.int 1), (.ref aK)])) rfl rfl (hb hby own_d10_87)
  have N331 := Fr.snoc X331 N314 g_aK
  have Z331 : n0 ≤ h331.size := Nat.le_trans Z314 (Keep.of_wr W331).1
  have K331 : Keep h0 h331 [aK] := K314.wr W331 (Or.inl (List.mem_of_getElem? (i := 0) rfl))
  have V331 : Arv Z h331 aK kaK .long (2 : Int32) [(.long (((0 : Int64) ||| (((v0.toInt64) - (l0.toInt64)) <<< (s0 &&& 0x3f).toInt64)) ||| (((v1.toInt64) - (l1.toInt64)) <<< (s1 &&& 0x3f).toInt64))), (.long ((0 : Int64) ||| (((v2.toInt64) - (l2.toInt64)) <<< (s2 &&& 0x3f).toInt64)))] (.long 0) := V331q
  refine own_st st331 ?_
  refine own_st (g' := (mkF m 12 #[rv a, rv st, iv 3, .val (.long ((v2.toInt64) - (l2.toInt64))), .second] [(.ref a), (.int 3)])) (fun tt_ kk_ => XS.iinc X331.here hx rfl (hb hby own_d10_88) rfl (l' := #[rv a, rv st, iv 3, .val (.long ((v2.toInt64) - (l2.toInt64))), .second]) rfl (XS.goto X331.here hx rfl (pc0 := 91) (pc' := 10) rfl (hb hby own_d10_91) (by decide) (by decide) (XS.iloadN X331.here hx rfl (hb hby own_d10_10) rfl (XS.aloadN X331.here hx rfl (hb hby own_d10_11) rfl rfl kk_)))) ?_
  have F333 := (F316.other W331 (Or.inl ne_a_aK))
  refine own_gG X331 hx hZ hown (own_w hw 29 rfl) e331 F333 rfl rfl (hb hby own_d10_12) (fun {T332} X332 e332 => ?_)
  have F334 := (F317.other W331 ne_aL_aK)
  refine own_st (g' := (mkF m 94 #[rv a, rv st, iv 3, .val (.long ((v2.toInt64) - (l2.toInt64))), .second] [])) (fun tt_ kk_ => own_lnV (g := (mkF m 15 #[rv a, rv st, iv 3, .val (.long ((v2.toInt64) - (l2.toInt64))), .second] [(.ref aL), (.int 3)])) X332 hx hZ e332 F334 rfl rfl (hb hby own_d10_15) tt_ (XS.icmpYes X332.here hx rfl (pc0 := 16) (pc' := 94) rfl (hb hby own_d10_16) rfl (flt (by decide : ¬ ((3 : Int32) < (3 : Int32)))).2.1 (by decide) (by decide) kk_)) ?_
  exact own_retV X332 hx hlk hret (hb hby own_d10_94) (by decide) (by decide) (by rw [e332]; exact ⟨rfl, N331, K331, V331⟩)
def own_QhasB (Z : State) (a : Addr) (aK : Addr) (kaK : ClassId) (y0 : Int64) (y1 : Int64) (h0 : Heap) (n0 : Nat) (v : Option Value) (h : Heap) (L : List Loc) : Prop := ∃ (hz : Int32), v = some (.int hz) ∧ Fr n0 L ∧ h = h0
theorem own_efhasB (m : MethodId) (a : Addr) (aK : Addr) : entryFrame m #[(.ref a), (.ref aK), (.int 0)] 6 = mkF m 0 #[rv a, rv aK, iv 0, .unset, .unset, .unset] [] := by first | (simp [entryFrame, mkF, argsToLocals, Value.category]; done) | rfl
set_option maxRecDepth 65536 in
set_option maxHeartbeats 16000000 in
theorem own_rmhasB (l : Launch) (Z : State) (a0 : Array Value) (hw : own_HW Z a0) (ws : List Jvm.Cond) (a : Addr) (aK : Addr) (kaK : ClassId) (y0 : Int64) (y1 : Int64) (h0 : Heap) (n0 : Nat) (Z0 : n0 ≤ h0.size) (F_wordCount_a : Fld Z h0 a own_z0 "wordCount" "I" (.int 2)) (V_aK : Arv Z h0 aK kaK .long (2 : Int32) [(.long y0), (.long y1)] (.long 0)) :
    MetFree l (⟨own_z0, "hash", "([JI)I"⟩ : MethodName) (head1 (Jvm.Cond.code (⟨own_z0, "hash", "([JI)I"⟩ : MethodName) prog_160_method_15_code 6 (some .int) :: ws) ({ frames := 0, cells := 0, slots := 0, locals := 0 } : Room)) (fun aa UU => aa = #[(.ref a), (.ref aK), (.int 0)] ∧ Z.Warmed39 UU.vm ∧ UU.heap = h0) (fun _ _ _ _ _ => True) (fun _ U o U' => ∃ v L, o = .returned v ∧ own_QhasB Z a aK kaK y0 y1 h0 n0 v U'.heap L ∧ FrameEnd U o U' L ({ frames := 0, cells := 0, slots := 0, locals := 0 } : Room).cells ({ frames := 0, cells := 0, slots := 0, locals := 0 } : Room).slots) := by
  refine MetFree.of_bodySF (plainFor_of_name own_pn2) hisR ?_
  intro p e s m args below meth c s₁ Bd hml hP hK
  obtain ⟨rfl, hZ, hh⟩ := hP
  have hx := Bd.exec
  have hlk := Bd.notSynchronized
  have hby := Bd.bytes
  have hret := Bd.returns
  have hown := findClass_of_methodNamed Bd.named
  have hnm := (name_of_methodNamed Bd.named Bd.method).1
  have X0 : Stand p l e ({ frames := 0, cells := 0, slots := 0, locals := 0 } : Room) s m #[(.ref a), (.ref aK), (.int 0)] below meth c s₁ [] 0 0 := Stand.of_body Bd
  have e0 : s₁.heap = h0 := by rw [← hh, Bd.state]; rfl
  have N0 := Fr.nil n0
  refine own_cast (own_efhasB m a aK) ?_
  show own_Go p e below s s₁ _ (own_QhasB Z a aK kaK y0 y1 h0 n0) 0 0
  refine own_st (g' := (mkF m 8 #[rv a, rv aK, iv 0, .val (.long 0), .second, iv 0] [(.ref a), (.int 0)])) (fun tt_ kk_ => XS.lconst X0.here hx rfl (hb hby own_d12_0) (XS.lstoreN X0.here hx rfl (hb hby own_d12_1) rfl (l' := #[rv a, rv aK, iv 0, .val (.long 0), .second, .unset]) rfl (XS.iconst X0.here hx rfl (hb hby own_d12_2) (XS.istore X0.here hx rfl (hb hby own_d12_3) rfl (l' := #[rv a, rv aK, iv 0, .val (.long 0), .second, iv 0]) rfl (XS.iload X0.here hx rfl (hb hby own_d12_5) rfl (XS.aloadN X0.here hx rfl (hb hby own_d12_7) rfl rfl kk_)))))) ?_
  refine own_gG X0 hx hZ hown (own_w hw 49 rfl) e0 F_wordCount_a rfl rfl (hb hby own_d12_8) (fun {T335} X335 e335 => ?_)
  refine own_st (g' := (mkF m 20 #[rv a, rv aK, iv 0, .val (.long 0), .second, iv 0] [(.int 0), (.ref aK), (.long 0)])) (fun tt_ kk_ => XS.icmpNo X335.here hx rfl (hb hby own_d12_11) rfl (tlt (by decide : (0 : Int32) < (2 : Int32))).2.1 (XS.lloadN X335.here hx rfl (hb hby own_d12_14) rfl (XS.aloadN X335.here hx rfl (hb hby own_d12_15) rfl rfl (XS.iloadN X335.here hx rfl (hb hby own_d12_16) rfl (XS.iload X335.here hx rfl (hb hby own_d12_17) rfl (XS.iadd X335.here hx rfl (hb hby own_d12_19) rfl kk_)))))) ?_
  refine own_st (g' := (mkF m 37 #[rv a, rv aK, iv 0, .val (.long ((((0 : Int64) ^^^ y0) * (-7046029254386353131 : Int64)) ^^^ (((((0 : Int64) ^^^ y0) * (-7046029254386353131 : Int64)).toUInt64 >>> ((29 : Int32) &&& 0x3f).toInt64.toUInt64).toInt64))), .second, iv 1] [])) (fun tt_ kk_ => own_lvJ (g := (mkF m 20 #[rv a, rv aK, iv 0, .val (.long 0), .second, iv 0] [(.int 0), (.ref aK), (.long 0)])) X335 hx hZ e335 V_aK (by decide) rfl rfl rfl (hb hby own_d12_20) tt_ (XS.lxor X335.here hx rfl (hb hby own_d12_21) rfl (X335.ldc2Long hx hown (mvT hZ (own_w hw 82 rfl)) (g := (mkF m 22 #[rv a, rv aK, iv 0, .val (.long 0), .second, iv 0] [(.long ((0 : Int64) ^^^ y0))])) rfl (hb hby own_d12_22) _ (XS.lmul X335.here hx rfl (hb hby own_d12_25) rfl (XS.lstoreN X335.here hx rfl (hb hby own_d12_26) rfl (l' := #[rv a, rv aK, iv 0, .val (.long (((0 : Int64) ^^^ y0) * (-7046029254386353131 : Int64))), .second, iv 0]) rfl (XS.lloadN X335.here hx rfl (hb hby own_d12_27) rfl (XS.lloadN X335.here hx rfl (hb hby own_d12_28) rfl (XS.bipush X335.here hx rfl (hb hby own_d12_29) (XS.lushr X335.here hx rfl (hb hby own_d12_31) rfl (XS.lxor X335.here hx rfl (hb hby own_d12_32) rfl (XS.lstoreN X335.here hx rfl (hb hby own_d12_33) rfl (l' := #[rv a, rv aK, iv 0, .val (.long ((((0 : Int64) ^^^ y0) * (-7046029254386353131 : Int64)) ^^^ (((((0 : Int64) ^^^ y0) * (-7046029254386353131 : Int64)).toUInt64 >>> ((29 : Int32) &&& 0x3f).toInt64.toUInt64).toInt64))), .second, iv 0]) rfl (XS.iinc X335.here hx rfl (hb hby own_d12_34) rfl (l' := #[rv a, rv aK, iv 0, .val (.long ((((0 : Int64) ^^^ y0) * (-7046029254386353131 : Int64)) ^^^ (((((0 : Int64) ^^^ y0) * (-7046029254386353131 : Int64)).toUInt64 >>> ((29 : Int32) &&& 0x3f).toInt64.toUInt64).toInt64))), .second, iv 1]) rfl kk_)))))))))))) ?_
  refine own_st (g' := (mkF m 8 #[rv a, rv aK, iv 0, .val (.long ((((0 : Int64) ^^^ y0) * (-7046029254386353131 : Int64)) ^^^ (((((0 : Int64) ^^^ y0) * (-7046029254386353131 : Int64)).toUInt64 >>> ((29 : Int32) &&& 0x3f).toInt64.toUInt64).toInt64))), .second, iv 1] [(.ref a), (.int 1)])) (fun tt_ kk_ => XS.goto X335.here hx rfl (pc0 := 37) (pc' := 5) rfl (hb hby own_d12_37) (by decide) (by decide) (XS.iload X335.here hx rfl (hb hby own_d12_5) rfl (XS.aloadN X335.here hx rfl (hb hby own_d12_7) rfl rfl kk_))) ?_
  refine own_gG X335 hx hZ hown (own_w hw 49 rfl) e335 F_wordCount_a rfl rfl (hb hby own_d12_8) (fun {T336} X336 e336 => ?_)
  refine own_st (g' := (mkF m 20 #[rv a, rv aK, iv 0, .val (.long ((((0 : Int64) ^^^ y0) * (-7046029254386353131 : Int64)) ^^^ (((((0 : Int64) ^^^ y0) * (-7046029254386353131 : Int64)).toUInt64 >>> ((29 : Int32) &&& 0x3f).toInt64.toUInt64).toInt64))), .second, iv 1] [(.int 1), (.ref aK), (.long ((((0 : Int64) ^^^ y0) * (-7046029254386353131 : Int64)) ^^^ (((((0 : Int64) ^^^ y0) * (-7046029254386353131 : Int64)).toUInt64 >>> ((29 : Int32) &&& 0x3f).toInt64.toUInt64).toInt64)))])) (fun tt_ kk_ => XS.icmpNo X336.here hx rfl (hb hby own_d12_11) rfl (tlt (by decide : (1 : Int32) < (2 : Int32))).2.1 (XS.lloadN X336.here hx rfl (hb hby own_d12_14) rfl (XS.aloadN X336.here hx rfl (hb hby own_d12_15) rfl rfl (XS.iloadN X336.here hx rfl (hb hby own_d12_16) rfl (XS.iload X336.here hx rfl (hb hby own_d12_17) rfl (XS.iadd X336.here hx rfl (hb hby own_d12_19) rfl kk_)))))) ?_
  refine own_st (g' := (mkF m 37 #[rv a, rv aK, iv 0, .val (.long (((((((0 : Int64) ^^^ y0) * (-7046029254386353131 : Int64)) ^^^ (((((0 : Int64) ^^^ y0) * (-7046029254386353131 : Int64)).toUInt64 >>> ((29 : Int32) &&& 0x3f).toInt64.toUInt64).toInt64)) ^^^ y1) * (-7046029254386353131 : Int64)) ^^^ ((((((((0 : Int64) ^^^ y0) * (-7046029254386353131 : Int64)) ^^^ (((((0 : Int64) ^^^ y0) * (-7046029254386353131 : Int64)).toUInt64 >>> ((29 : Int32) &&& 0x3f).toInt64.toUInt64).toInt64)) ^^^ y1) * (-7046029254386353131 : Int64)).toUInt64 >>> ((29 : Int32) &&& 0x3f).toInt64.toUInt64).toInt64))), .second, iv 2] [])) (fun tt_ kk_ => own_lvJ (g := (mkF m 20 #[rv a, rv aK, iv 0, .val (.long ((((0 : Int64) ^^^ y0) * (-7046029254386353131 : Int64)) ^^^ (((((0 : Int64) ^^^ y0) * (-7046029254386353131 : Int64)).toUInt64 >>> ((29 : Int32) &&& 0x3f).toInt64.toUInt64).toInt64))), .second, iv 1] [(.int 1), (.ref aK), (.long ((((0 : Int64) ^^^ y0) * (-7046029254386353131 : Int64)) ^^^ (((((0 : Int64) ^^^ y0) * (-7046029254386353131 : Int64)).toUInt64 >>> ((29 : Int32) &&& 0x3f).toInt64.toUInt64).toInt64)))])) X336 hx hZ e336 V_aK (by decide) rfl rfl rfl (hb hby own_d12_20) tt_ (XS.lxor X336.here hx rfl (hb hby own_d12_21) rfl (X336.ldc2Long hx hown (mvT hZ (own_w hw 82 rfl)) (g := (mkF m 22 #[rv a, rv aK, iv 0, .val (.long ((((0 : Int64) ^^^ y0) * (-7046029254386353131 : Int64)) ^^^ (((((0 : Int64) ^^^ y0) * (-7046029254386353131 : Int64)).toUInt64 >>> ((29 : Int32) &&& 0x3f).toInt64.toUInt64).toInt64))), .second, iv 1] [(.long (((((0 : Int64) ^^^ y0) * (-7046029254386353131 : Int64)) ^^^ (((((0 : Int64) ^^^ y0) * (-7046029254386353131 : Int64)).toUInt64 >>> ((29 : Int32) &&& 0x3f).toInt64.toUInt64).toInt64)) ^^^ y1))])) rfl (hb hby own_d12_22) _ (XS.lmul X336.here hx rfl (hb hby own_d12_25) rfl (XS.lstoreN X336.here hx rfl (hb hby own_d12_26) rfl (l' := #[rv a, rv aK, iv 0, .val (.long ((((((0 : Int64) ^^^ y0) * (-7046029254386353131 : Int64)) ^^^ (((((0 : Int64) ^^^ y0) * (-7046029254386353131 : Int64)).toUInt64 >>> ((29 : Int32) &&& 0x3f).toInt64.toUInt64).toInt64)) ^^^ y1) * (-7046029254386353131 : Int64))), .second, iv 1]) rfl (XS.lloadN X336.here hx rfl (hb hby own_d12_27) rfl (XS.lloadN X336.here hx rfl (hb hby own_d12_28) rfl (XS.bipush X336.here hx rfl (hb hby own_d12_29) (XS.lushr X336.here hx rfl (hb hby own_d12_31) rfl (XS.lxor X336.here hx rfl (hb hby own_d12_32) rfl (XS.lstoreN X336.here hx rfl (hb hby own_d12_33) rfl (l' := #[rv a, rv aK, iv 0, .val (.long (((((((0 : Int64) ^^^ y0) * (-7046029254386353131 : Int64)) ^^^ (((((0 : Int64) ^^^ y0) * (-7046029254386353131 : Int64)).toUInt64 >>> ((29 : Int32) &&& 0x3f).toInt64.toUInt64).toInt64)) ^^^ y1) * (-7046029254386353131 : Int64)) ^^^ ((((((((0 : Int64) ^^^ y0) * (-7046029254386353131 : Int64)) ^^^ (((((0 : Int64) ^^^ y0) * (-7046029254386353131 : Int64)).toUInt64 >>> ((29 : Int32) &&& 0x3f).toInt64.toUInt64).toInt64)) ^^^ y1) * (-7046029254386353131 : Int64)).toUInt64 >>> ((29 : Int32) &&& 0x3f).toInt64.toUInt64).toInt64))), .second, iv 1]) rfl (XS.iinc X336.here hx rfl (hb hby own_d12_34) rfl (l' := #[rv a, rv aK, iv 0, .val (.long (((((((0 : Int64) ^^^ y0) * (-7046029254386353131 : Int64)) ^^^ (((((0 : Int64) ^^^ y0) * (-7046029254386353131 : Int64)).toUInt64 >>> ((29 : Int32) &&& 0x3f).toInt64.toUInt64).toInt64)) ^^^ y1) * (-7046029254386353131 : Int64)) ^^^ ((((((((0 : Int64) ^^^ y0) * (-7046029254386353131 : Int64)) ^^^ (((((0 : Int64) ^^^ y0) * (-7046029254386353131 : Int64)).toUInt64 >>> ((29 : Int32) &&& 0x3f).toInt64.toUInt64).toInt64)) ^^^ y1) * (-7046029254386353131 : Int64)).toUInt64 >>> ((29 : Int32) &&& 0x3f).toInt64.toUInt64).toInt64))), .second, iv 2]) rfl kk_)))))))))))) ?_
  refine own_st (g' := (mkF m 8 #[rv a, rv aK, iv 0, .val (.long (((((((0 : Int64) ^^^ y0) * (-7046029254386353131 : Int64)) ^^^ (((((0 : Int64) ^^^ y0) * (-7046029254386353131 : Int64)).toUInt64 >>> ((29 : Int32) &&& 0x3f).toInt64.toUInt64).toInt64)) ^^^ y1) * (-7046029254386353131 : Int64)) ^^^ ((((((((0 : Int64) ^^^ y0) * (-7046029254386353131 : Int64)) ^^^ (((((0 : Int64) ^^^ y0) * (-7046029254386353131 : Int64)).toUInt64 >>> ((29 : Int32) &&& 0x3f).toInt64.toUInt64).toInt64)) ^^^ y1) * (-7046029254386353131 : Int64)).toUInt64 >>> ((29 : Int32) &&& 0x3f).toInt64.toUInt64).toInt64))), .second, iv 2] [(.ref a), (.int 2)])) (fun tt_ kk_ => XS.goto X336.here hx rfl (pc0 := 37) (pc' := 5) rfl (hb hby own_d12_37) (by decide) (by decide) (XS.iload X336.here hx rfl (hb hby own_d12_5) rfl (XS.aloadN X336.here hx rfl (hb hby own_d12_7) rfl rfl kk_))) ?_
  refine own_gG X336 hx hZ hown (own_w hw 49 rfl) e336 F_wordCount_a rfl rfl (hb hby own_d12_8) (fun {T337} X337 e337 => ?_)
  refine own_st (g' := (mkF m 53 #[rv a, rv aK, iv 0, .val (.long ((((((((0 : Int64) ^^^ y0) * (-7046029254386353131 : Int64)) ^^^ (((((0 : Int64) ^^^ y0) * (-7046029254386353131 : Int64)).toUInt64 >>> ((29 : Int32) &&& 0x3f).toInt64.toUInt64).toInt64)) ^^^ y1) * (-7046029254386353131 : Int64)) ^^^ ((((((((0 : Int64) ^^^ y0) * (-7046029254386353131 : Int64)) ^^^ (((((0 : Int64) ^^^ y0) * (-7046029254386353131 : Int64)).toUInt64 >>> ((29 : Int32) &&& 0x3f).toInt64.toUInt64).toInt64)) ^^^ y1) * (-7046029254386353131 : Int64)).toUInt64 >>> ((29 : Int32) &&& 0x3f).toInt64.toUInt64).toInt64)) * (-4658895280553007687 : Int64))), .second, iv 2] [(.int ((((((((((0 : Int64) ^^^ y0) * (-7046029254386353131 : Int64)) ^^^ (((((0 : Int64) ^^^ y0) * (-7046029254386353131 : Int64)).toUInt64 >>> ((29 : Int32) &&& 0x3f).toInt64.toUInt64).toInt64)) ^^^ y1) * (-7046029254386353131 : Int64)) ^^^ ((((((((0 : Int64) ^^^ y0) * (-7046029254386353131 : Int64)) ^^^ (((((0 : Int64) ^^^ y0) * (-7046029254386353131 : Int64)).toUInt64 >>> ((29 : Int32) &&& 0x3f).toInt64.toUInt64).toInt64)) ^^^ y1) * (-7046029254386353131 : Int64)).toUInt64 >>> ((29 : Int32) &&& 0x3f).toInt64.toUInt64).toInt64)) * (-4658895280553007687 : Int64)) ^^^ ((((((((((0 : Int64) ^^^ y0) * (-7046029254386353131 : Int64)) ^^^ (((((0 : Int64) ^^^ y0) * (-7046029254386353131 : Int64)).toUInt64 >>> ((29 : Int32) &&& 0x3f).toInt64.toUInt64).toInt64)) ^^^ y1) * (-7046029254386353131 : Int64)) ^^^ ((((((((0 : Int64) ^^^ y0) * (-7046029254386353131 : Int64)) ^^^ (((((0 : Int64) ^^^ y0) * (-7046029254386353131 : Int64)).toUInt64 >>> ((29 : Int32) &&& 0x3f).toInt64.toUInt64).toInt64)) ^^^ y1) * (-7046029254386353131 : Int64)).toUInt64 >>> ((29 : Int32) &&& 0x3f).toInt64.toUInt64).toInt64)) * (-4658895280553007687 : Int64)).toUInt64 >>> ((32 : Int32) &&& 0x3f).toInt64.toUInt64).toInt64)).toInt32))])) (fun tt_ kk_ => XS.icmpYes X337.here hx rfl (pc0 := 11) (pc' := 40) rfl (hb hby own_d12_11) rfl (flt (by decide : ¬ ((2 : Int32) < (2 : Int32)))).2.1 (by decide) (by decide) (XS.lloadN X337.here hx rfl (hb hby own_d12_40) rfl (X337.ldc2Long hx hown (mvT hZ (own_w hw 83 rfl)) (g := (mkF m 41 #[rv a, rv aK, iv 0, .val (.long (((((((0 : Int64) ^^^ y0) * (-7046029254386353131 : Int64)) ^^^ (((((0 : Int64) ^^^ y0) * (-7046029254386353131 : Int64)).toUInt64 >>> ((29 : Int32) &&& 0x3f).toInt64.toUInt64).toInt64)) ^^^ y1) * (-7046029254386353131 : Int64)) ^^^ ((((((((0 : Int64) ^^^ y0) * (-7046029254386353131 : Int64)) ^^^ (((((0 : Int64) ^^^ y0) * (-7046029254386353131 : Int64)).toUInt64 >>> ((29 : Int32) &&& 0x3f).toInt64.toUInt64).toInt64)) ^^^ y1) * (-7046029254386353131 : Int64)).toUInt64 >>> ((29 : Int32) &&& 0x3f).toInt64.toUInt64).toInt64))), .second, iv 2] [(.long (((((((0 : Int64) ^^^ y0) * (-7046029254386353131 : Int64)) ^^^ (((((0 : Int64) ^^^ y0) * (-7046029254386353131 : Int64)).toUInt64 >>> ((29 : Int32) &&& 0x3f).toInt64.toUInt64).toInt64)) ^^^ y1) * (-7046029254386353131 : Int64)) ^^^ ((((((((0 : Int64) ^^^ y0) * (-7046029254386353131 : Int64)) ^^^ (((((0 : Int64) ^^^ y0) * (-7046029254386353131 : Int64)).toUInt64 >>> ((29 : Int32) &&& 0x3f).toInt64.toUInt64).toInt64)) ^^^ y1) * (-7046029254386353131 : Int64)).toUInt64 >>> ((29 : Int32) &&& 0x3f).toInt64.toUInt64).toInt64)))])) rfl (hb hby own_d12_41) _ (XS.lmul X337.here hx rfl (hb hby own_d12_44) rfl (XS.lstoreN X337.here hx rfl (hb hby own_d12_45) rfl (l' := #[rv a, rv aK, iv 0, .val (.long ((((((((0 : Int64) ^^^ y0) * (-7046029254386353131 : Int64)) ^^^ (((((0 : Int64) ^^^ y0) * (-7046029254386353131 : Int64)).toUInt64 >>> ((29 : Int32) &&& 0x3f).toInt64.toUInt64).toInt64)) ^^^ y1) * (-7046029254386353131 : Int64)) ^^^ ((((((((0 : Int64) ^^^ y0) * (-7046029254386353131 : Int64)) ^^^ (((((0 : Int64) ^^^ y0) * (-7046029254386353131 : Int64)).toUInt64 >>> ((29 : Int32) &&& 0x3f).toInt64.toUInt64).toInt64)) ^^^ y1) * (-7046029254386353131 : Int64)).toUInt64 >>> ((29 : Int32) &&& 0x3f).toInt64.toUInt64).toInt64)) * (-4658895280553007687 : Int64))), .second, iv 2]) rfl (XS.lloadN X337.here hx rfl (hb hby own_d12_46) rfl (XS.lloadN X337.here hx rfl (hb hby own_d12_47) rfl (XS.bipush X337.here hx rfl (hb hby own_d12_48) (XS.lushr X337.here hx rfl (hb hby own_d12_50) rfl (XS.lxor X337.here hx rfl (hb hby own_d12_51) rfl (XS.l2i X337.here hx rfl (hb hby own_d12_52) rfl kk_))))))))))) ?_
  exact own_retI X337 hx hlk hret (hb hby own_d12_53) (by decide) (by decide) (by rw [e337]; exact ⟨_, rfl, N0, rfl⟩)
def own_QmatB (Z : State) (a : Addr) (aP : Addr) (aK : Addr) (kaP : ClassId) (q0 : Int64) (q1 : Int64) (q2 : Int64) (q3 : Int64) (kaK : ClassId) (y0 : Int64) (y1 : Int64) (h0 : Heap) (n0 : Nat) (v : Option Value) (h : Heap) (L : List Loc) : Prop := ∃ (rz : Int32), v = some (.int rz) ∧ Fr n0 L ∧ h = h0 ∧ (rz = (0 : Int32) ∨ (rz = (1 : Int32) ∧ q0 = y0 ∧ q1 = y1))
theorem own_efmatB (m : MethodId) (a : Addr) : entryFrame m #[(.ref a), (.int 0)] 5 = mkF m 0 #[rv a, iv 0, .unset, .unset, .unset] [] := by first | (simp [entryFrame, mkF, argsToLocals, Value.category]; done) | rfl
set_option maxRecDepth 65536 in
set_option maxHeartbeats 16000000 in
theorem own_rmmatB (l : Launch) (Z : State) (a0 : Array Value) (hw : own_HW Z a0) (ws : List Jvm.Cond) (a : Addr) (aP : Addr) (aK : Addr) (kaP : ClassId) (q0 : Int64) (q1 : Int64) (q2 : Int64) (q3 : Int64) (kaK : ClassId) (y0 : Int64) (y1 : Int64) (h0 : Heap) (n0 : Nat) (Z0 : n0 ≤ h0.size) (F_packed_a : Fld Z h0 a own_z0 "packed" "[J" (.ref aP)) (F_key_a : Fld Z h0 a own_z0 "key" "[J" (.ref aK)) (F_wordCount_a : Fld Z h0 a own_z0 "wordCount" "I" (.int 2)) (V_aP : Arv Z h0 aP kaP .long (2048 : Int32) [(.long q0), (.long q1), (.long q2), (.long q3)] (.long 0)) (V_aK : Arv Z h0 aK kaK .long (2 : Int32) [(.long y0), (.long y1)] (.long 0)) :
    MetFree l (⟨own_z0, "matches", "(I)Z"⟩ : MethodName) (head1 (Jvm.Cond.code (⟨own_z0, "matches", "(I)Z"⟩ : MethodName) prog_160_method_11_code 5 (some .boolean) :: ws) ({ frames := 0, cells := 0, slots := 0, locals := 0 } : Room)) (fun aa UU => aa = #[(.ref a), (.int 0)] ∧ Z.Warmed39 UU.vm ∧ UU.heap = h0) (fun _ _ _ _ _ => True) (fun _ U o U' => ∃ v L, o = .returned v ∧ own_QmatB Z a aP aK kaP q0 q1 q2 q3 kaK y0 y1 h0 n0 v U'.heap L ∧ FrameEnd U o U' L ({ frames := 0, cells := 0, slots := 0, locals := 0 } : Room).cells ({ frames := 0, cells := 0, slots := 0, locals := 0 } : Room).slots) := by
  refine MetFree.of_bodySF (plainFor_of_name own_pn2) hisR ?_
  intro p e s m args below meth c s₁ Bd hml hP hK
  obtain ⟨rfl, hZ, hh⟩ := hP
  have hx := Bd.exec
  have hlk := Bd.notSynchronized
  have hby := Bd.bytes
  have hret := Bd.returns
  have hown := findClass_of_methodNamed Bd.named
  have hnm := (name_of_methodNamed Bd.named Bd.method).1
  have X0 : Stand p l e ({ frames := 0, cells := 0, slots := 0, locals := 0 } : Room) s m #[(.ref a), (.int 0)] below meth c s₁ [] 0 0 := Stand.of_body Bd
  have e0 : s₁.heap = h0 := by rw [← hh, Bd.state]; rfl
  have N0 := Fr.nil n0
  refine own_cast (own_efmatB m a) ?_
  show own_Go p e below s s₁ _ (own_QmatB Z a aP aK kaP q0 q1 q2 q3 kaK y0 y1 h0 n0) 0 0
  refine own_st (g' := (mkF m 2 #[rv a, iv 0, .unset, .unset, .unset] [(.ref a), (.int 0)])) (fun tt_ kk_ => XS.iloadN X0.here hx rfl (hb hby own_d17_0) rfl (XS.aloadN X0.here hx rfl (hb hby own_d17_1) rfl rfl kk_)) ?_
  refine own_gG X0 hx hZ hown (own_w hw 49 rfl) e0 F_wordCount_a rfl rfl (hb hby own_d17_2) (fun {T338} X338 e338 => ?_)
  refine own_st (g' := (mkF m 15 #[rv a, iv 0, iv 0, iv 1, iv 0] [(.ref a), (.int 0)])) (fun tt_ kk_ => XS.imul X338.here hx rfl (hb hby own_d17_5) rfl (XS.istoreN X338.here hx rfl (hb hby own_d17_6) rfl (l' := #[rv a, iv 0, iv 0, .unset, .unset]) rfl (XS.iconst X338.here hx rfl (hb hby own_d17_7) (XS.istoreN X338.here hx rfl (hb hby own_d17_8) rfl (l' := #[rv a, iv 0, iv 0, iv 1, .unset]) rfl (XS.iconst X338.here hx rfl (hb hby own_d17_9) (XS.istore X338.here hx rfl (hb hby own_d17_10) rfl (l' := #[rv a, iv 0, iv 0, iv 1, iv 0]) rfl (XS.iload X338.here hx rfl (hb hby own_d17_12) rfl (XS.aloadN X338.here hx rfl (hb hby own_d17_14) rfl rfl kk_)))))))) ?_
  refine own_gG X338 hx hZ hown (own_w hw 49 rfl) e338 F_wordCount_a rfl rfl (hb hby own_d17_15) (fun {T339} X339 e339 => ?_)
  refine own_st (g' := (mkF m 26 #[rv a, iv 0, iv 0, iv 1, iv 0] [(.ref a)])) (fun tt_ kk_ => XS.icmpNo X339.here hx rfl (hb hby own_d17_18) rfl (tlt (by decide : (0 : Int32) < (2 : Int32))).2.1 (XS.iloadN X339.here hx rfl (hb hby own_d17_21) rfl (XS.ifNo X339.here hx rfl (hb hby own_d17_22) rfl ((if0 _ _).trans (feq (by decide : ¬ ((1 : Int32) = (0 : Int32)))).1) (XS.aloadN X339.here hx rfl (hb hby own_d17_25) rfl rfl kk_)))) ?_
  refine own_gG X339 hx hZ hown (own_w hw 56 rfl) e339 F_packed_a rfl rfl (hb hby own_d17_26) (fun {T340} X340 e340 => ?_)
  refine own_st (g' := (mkF m 33 #[rv a, iv 0, iv 0, iv 1, iv 0] [(.int 0), (.ref aP)])) (fun tt_ kk_ => XS.iloadN X340.here hx rfl (hb hby own_d17_29) rfl (XS.iload X340.here hx rfl (hb hby own_d17_30) rfl (XS.iadd X340.here hx rfl (hb hby own_d17_32) rfl kk_))) ?_
  refine own_st (g' := (mkF m 35 #[rv a, iv 0, iv 0, iv 1, iv 0] [(.ref a), (.long q0)])) (fun tt_ kk_ => own_lvJ (g := (mkF m 33 #[rv a, iv 0, iv 0, iv 1, iv 0] [(.int 0), (.ref aP)])) X340 hx hZ e340 V_aP (by decide) rfl rfl rfl (hb hby own_d17_33) tt_ (XS.aloadN X340.here hx rfl (hb hby own_d17_34) rfl rfl kk_)) ?_
  refine own_gG X340 hx hZ hown (own_w hw 63 rfl) e340 F_key_a rfl rfl (hb hby own_d17_35) (fun {T341} X341 e341 => ?_)
  refine own_st (g' := (mkF m 40 #[rv a, iv 0, iv 0, iv 1, iv 0] [(.int 0), (.ref aK), (.long q0)])) (fun tt_ kk_ => XS.iload X341.here hx rfl (hb hby own_d17_38) rfl kk_) ?_
  refine own_st (g' := (mkF m 42 #[rv a, iv 0, iv 0, iv 1, iv 0] [(.int (lcmpW q0 y0))])) (fun tt_ kk_ => own_lvJ (g := (mkF m 40 #[rv a, iv 0, iv 0, iv 1, iv 0] [(.int 0), (.ref aK), (.long q0)])) X341 hx hZ e341 V_aK (by decide) rfl rfl rfl (hb hby own_d17_40) tt_ (XS.lcmp X341.here hx rfl (hb hby own_d17_41) rfl kk_)) ?_
  by_cases hc42 : (lcmpW q0 y0) = (0 : Int32)
  · skip
    refine own_st (g' := (mkF m 15 #[rv a, iv 0, iv 0, iv 1, iv 1] [(.ref a), (.int 1)])) (fun tt_ kk_ => XS.ifNo X341.here hx rfl (hb hby own_d17_42) rfl ((if0 _ _).trans (teq hc42).2) (XS.iconst X341.here hx rfl (hb hby own_d17_45) (XS.goto X341.here hx rfl (pc0 := 46) (pc' := 50) rfl (hb hby own_d17_46) (by decide) (by decide) (XS.istoreN X341.here hx rfl (hb hby own_d17_50) rfl (l' := #[rv a, iv 0, iv 0, iv 1, iv 0]) rfl (XS.iinc X341.here hx rfl (hb hby own_d17_51) rfl (l' := #[rv a, iv 0, iv 0, iv 1, iv 1]) rfl (XS.goto X341.here hx rfl (pc0 := 54) (pc' := 12) rfl (hb hby own_d17_54) (by decide) (by decide) (XS.iload X341.here hx rfl (hb hby own_d17_12) rfl (XS.aloadN X341.here hx rfl (hb hby own_d17_14) rfl rfl kk_)))))))) ?_
    refine own_gG X341 hx hZ hown (own_w hw 49 rfl) e341 F_wordCount_a rfl rfl (hb hby own_d17_15) (fun {T342} X342 e342 => ?_)
    refine own_st (g' := (mkF m 26 #[rv a, iv 0, iv 0, iv 1, iv 1] [(.ref a)])) (fun tt_ kk_ => XS.icmpNo X342.here hx rfl (hb hby own_d17_18) rfl (tlt (by decide : (1 : Int32) < (2 : Int32))).2.1 (XS.iloadN X342.here hx rfl (hb hby own_d17_21) rfl (XS.ifNo X342.here hx rfl (hb hby own_d17_22) rfl ((if0 _ _).trans (feq (by decide : ¬ ((1 : Int32) = (0 : Int32)))).1) (XS.aloadN X342.here hx rfl (hb hby own_d17_25) rfl rfl kk_)))) ?_
    refine own_gG X342 hx hZ hown (own_w hw 56 rfl) e342 F_packed_a rfl rfl (hb hby own_d17_26) (fun {T343} X343 e343 => ?_)
    refine own_st (g' := (mkF m 33 #[rv a, iv 0, iv 0, iv 1, iv 1] [(.int 1), (.ref aP)])) (fun tt_ kk_ => XS.iloadN X343.here hx rfl (hb hby own_d17_29) rfl (XS.iload X343.here hx rfl (hb hby own_d17_30) rfl (XS.iadd X343.here hx rfl (hb hby own_d17_32) rfl kk_))) ?_
    refine own_st (g' := (mkF m 35 #[rv a, iv 0, iv 0, iv 1, iv 1] [(.ref a), (.long q1)])) (fun tt_ kk_ => own_lvJ (g := (mkF m 33 #[rv a, iv 0, iv 0, iv 1, iv 1] [(.int 1), (.ref aP)])) X343 hx hZ e343 V_aP (by decide) rfl rfl rfl (hb hby own_d17_33) tt_ (XS.aloadN X343.here hx rfl (hb hby own_d17_34) rfl rfl kk_)) ?_
    refine own_gG X343 hx hZ hown (own_w hw 63 rfl) e343 F_key_a rfl rfl (hb hby own_d17_35) (fun {T344} X344 e344 => ?_)
    refine own_st (g' := (mkF m 40 #[rv a, iv 0, iv 0, iv 1, iv 1] [(.int 1), (.ref aK), (.long q1)])) (fun tt_ kk_ => XS.iload X344.here hx rfl (hb hby own_d17_38) rfl kk_) ?_
    refine own_st (g' := (mkF m 42 #[rv a, iv 0, iv 0, iv 1, iv 1] [(.int (lcmpW q1 y1))])) (fun tt_ kk_ => own_lvJ (g := (mkF m 40 #[rv a, iv 0, iv 0, iv 1, iv 1] [(.int 1), (.ref aK), (.long q1)])) X344 hx hZ e344 V_aK (by decide) rfl rfl rfl (hb hby own_d17_40) tt_ (XS.lcmp X344.here hx rfl (hb hby own_d17_41) rfl kk_)) ?_
    by_cases hc42_345 : (lcmpW q1 y1) = (0 : Int32)
    · skip
      refine own_st (g' := (mkF m 15 #[rv a, iv 0, iv 0, iv 1, iv 2] [(.ref a), (.int 2)])) (fun tt_ kk_ => XS.ifNo X344.here hx rfl (hb hby own_d17_42) rfl ((if0 _ _).trans (teq hc42_345).2) (XS.iconst X344.here hx rfl (hb hby own_d17_45) (XS.goto X344.here hx rfl (pc0 := 46) (pc' := 50) rfl (hb hby own_d17_46) (by decide) (by decide) (XS.istoreN X344.here hx rfl (hb hby own_d17_50) rfl (l' := #[rv a, iv 0, iv 0, iv 1, iv 1]) rfl (XS.iinc X344.here hx rfl (hb hby own_d17_51) rfl (l' := #[rv a, iv 0, iv 0, iv 1, iv 2]) rfl (XS.goto X344.here hx rfl (pc0 := 54) (pc' := 12) rfl (hb hby own_d17_54) (by decide) (by decide) (XS.iload X344.here hx rfl (hb hby own_d17_12) rfl (XS.aloadN X344.here hx rfl (hb hby own_d17_14) rfl rfl kk_)))))))) ?_
      refine own_gG X344 hx hZ hown (own_w hw 49 rfl) e344 F_wordCount_a rfl rfl (hb hby own_d17_15) (fun {T346} X346 e346 => ?_)
      refine own_st (g' := (mkF m 58 #[rv a, iv 0, iv 0, iv 1, iv 2] [(.int 1)])) (fun tt_ kk_ => XS.icmpYes X346.here hx rfl (pc0 := 18) (pc' := 57) rfl (hb hby own_d17_18) rfl (flt (by decide : ¬ ((2 : Int32) < (2 : Int32)))).2.1 (by decide) (by decide) (XS.iloadN X346.here hx rfl (hb hby own_d17_57) rfl kk_)) ?_
      exact own_retN X346 hx hlk (t := .boolean) (Or.inl rfl) hret (hb hby own_d17_58) (by decide) (by decide) (by rw [e346]; exact ⟨(1 : Int32), rfl, N0, rfl, (Or.inr ⟨rfl, (lw_eq _ _).mp hc42, (lw_eq _ _).mp hc42_345⟩)⟩)
    refine own_st (g' := (mkF m 15 #[rv a, iv 0, iv 0, iv 0, iv 2] [(.ref a), (.int 2)])) (fun tt_ kk_ => XS.ifYes X344.here hx rfl (pc0 := 42) (pc' := 49) rfl (hb hby own_d17_42) rfl ((if0 _ _).trans (feq hc42_345).2) (by decide) (by decide) (XS.iconst X344.here hx rfl (hb hby own_d17_49) (XS.istoreN X344.here hx rfl (hb hby own_d17_50) rfl (l' := #[rv a, iv 0, iv 0, iv 0, iv 1]) rfl (XS.iinc X344.here hx rfl (hb hby own_d17_51) rfl (l' := #[rv a, iv 0, iv 0, iv 0, iv 2]) rfl (XS.goto X344.here hx rfl (pc0 := 54) (pc' := 12) rfl (hb hby own_d17_54) (by decide) (by decide) (XS.iload X344.here hx rfl (hb hby own_d17_12) rfl (XS.aloadN X344.here hx rfl (hb hby own_d17_14) rfl rfl kk_))))))) ?_
    refine own_gG X344 hx hZ hown (own_w hw 49 rfl) e344 F_wordCount_a rfl rfl (hb hby own_d17_15) (fun {T347} X347 e347 => ?_)
    refine own_st (g' := (mkF m 58 #[rv a, iv 0, iv 0, iv 0, iv 2] [(.int 0)])) (fun tt_ kk_ => XS.icmpYes X347.here hx rfl (pc0 := 18) (pc' := 57) rfl (hb hby own_d17_18) rfl (flt (by decide : ¬ ((2 : Int32) < (2 : Int32)))).2.1 (by decide) (by decide) (XS.iloadN X347.here hx rfl (hb hby own_d17_57) rfl kk_)) ?_
    exact own_retN X347 hx hlk (t := .boolean) (Or.inl rfl) hret (hb hby own_d17_58) (by decide) (by decide) (by rw [e347]; exact ⟨(0 : Int32), rfl, N0, rfl, (Or.inl rfl)⟩)
  refine own_st (g' := (mkF m 15 #[rv a, iv 0, iv 0, iv 0, iv 1] [(.ref a), (.int 1)])) (fun tt_ kk_ => XS.ifYes X341.here hx rfl (pc0 := 42) (pc' := 49) rfl (hb hby own_d17_42) rfl ((if0 _ _).trans (feq hc42).2) (by decide) (by decide) (XS.iconst X341.here hx rfl (hb hby own_d17_49) (XS.istoreN X341.here hx rfl (hb hby own_d17_50) rfl (l' := #[rv a, iv 0, iv 0, iv 0, iv 0]) rfl (XS.iinc X341.here hx rfl (hb hby own_d17_51) rfl (l' := #[rv a, iv 0, iv 0, iv 0, iv 1]) rfl (XS.goto X341.here hx rfl (pc0 := 54) (pc' := 12) rfl (hb hby own_d17_54) (by decide) (by decide) (XS.iload X341.here hx rfl (hb hby own_d17_12) rfl (XS.aloadN X341.here hx rfl (hb hby own_d17_14) rfl rfl kk_))))))) ?_
  refine own_gG X341 hx hZ hown (own_w hw 49 rfl) e341 F_wordCount_a rfl rfl (hb hby own_d17_15) (fun {T348} X348 e348 => ?_)
  refine own_st (g' := (mkF m 58 #[rv a, iv 0, iv 0, iv 0, iv 1] [(.int 0)])) (fun tt_ kk_ => XS.icmpNo X348.here hx rfl (hb hby own_d17_18) rfl (tlt (by decide : (1 : Int32) < (2 : Int32))).2.1 (XS.iloadN X348.here hx rfl (hb hby own_d17_21) rfl (XS.ifYes X348.here hx rfl (pc0 := 22) (pc' := 57) rfl (hb hby own_d17_22) rfl ((if0 _ _).trans (teq (by decide : (0 : Int32) = (0 : Int32))).1) (by decide) (by decide) (XS.iloadN X348.here hx rfl (hb hby own_d17_57) rfl kk_)))) ?_
  exact own_retN X348 hx hlk (t := .boolean) (Or.inl rfl) hret (hb hby own_d17_58) (by decide) (by decide) (by rw [e348]; exact ⟨(0 : Int32), rfl, N0, rfl, (Or.inl rfl)⟩)
def own_Qlk2B (Z : State) (a : Addr) (hk : Int32) (aP : Addr) (aQ : Addr) (aK : Addr) (ho : Int32) (kaP : ClassId) (q0 : Int64) (q1 : Int64) (q2 : Int64) (q3 : Int64) (kaK : ClassId) (y0 : Int64) (y1 : Int64) (h0 : Heap) (n0 : Nat) (v : Option Value) (h : Heap) (L : List Loc) : Prop := ∃ (rl : Int32), v = some (.int rl) ∧ Fr n0 L ∧ h = h0 ∧ (rl = (-1 : Int32) ∨ (rl = (0 : Int32) ∧ q0 = y0 ∧ q1 = y1))
theorem own_eflk2B (m : MethodId) (a : Addr) (hk : Int32) : entryFrame m #[(.ref a), (.int hk)] 6 = mkF m 0 #[rv a, iv hk, .unset, .unset, .unset, .unset] [] := by first | (simp [entryFrame, mkF, argsToLocals, Value.category]; done) | rfl
set_option maxRecDepth 65536 in
set_option maxHeartbeats 16000000 in
theorem own_rmlk2B (l : Launch) (Z : State) (a0 : Array Value) (hw : own_HW Z a0) (ws : List Jvm.Cond) (a : Addr) (hk : Int32) (aP : Addr) (aQ : Addr) (aK : Addr) (ho : Int32) (kaP : ClassId) (q0 : Int64) (q1 : Int64) (q2 : Int64) (q3 : Int64) (kaK : ClassId) (y0 : Int64) (y1 : Int64) (h0 : Heap) (n0 : Nat) (Z0 : n0 ≤ h0.size) (E_a : Exa Z h0 a own_z0) (F_packed_a : Fld Z h0 a own_z0 "packed" "[J" (.ref aP)) (F_slots_a : Fld Z h0 a own_z0 "slots" "[I" (.ref aQ)) (F_key_a : Fld Z h0 a own_z0 "key" "[J" (.ref aK)) (F_wordCount_a : Fld Z h0 a own_z0 "wordCount" "I" (.int 2)) (P_aQ : own_AI Z h0 aQ 1024 (own_sl ho)) (V_aP : Arv Z h0 aP kaP .long (2048 : Int32) [(.long q0), (.long q1), (.long q2), (.long q3)] (.long 0)) (V_aK : Arv Z h0 aK kaK .long (2 : Int32) [(.long y0), (.long y1)] (.long 0)) :
    MetFree l (⟨own_z0, "lookUp", "(I)I"⟩ : MethodName) (head1 (Jvm.Cond.code (⟨own_z0, "lookUp", "(I)I"⟩ : MethodName) prog_160_method_8_code 6 (some .int) :: ws) ({ frames := 1, cells := 0, slots := 0, locals := 16 } : Room)) (fun aa UU => aa = #[(.ref a), (.int hk)] ∧ Z.Warmed39 UU.vm ∧ UU.heap = h0) (fun _ _ _ _ _ => True) (fun _ U o U' => ∃ v L, o = .returned v ∧ own_Qlk2B Z a hk aP aQ aK ho kaP q0 q1 q2 q3 kaK y0 y1 h0 n0 v U'.heap L ∧ FrameEnd U o U' L ({ frames := 1, cells := 0, slots := 0, locals := 16 } : Room).cells ({ frames := 1, cells := 0, slots := 0, locals := 16 } : Room).slots) := by
  refine MetFree.of_bodySF (plainFor_of_name own_pn2) hisR ?_
  intro p e s m args below meth c s₁ Bd hml hP hK
  obtain ⟨rfl, hZ, hh⟩ := hP
  have hx := Bd.exec
  have hlk := Bd.notSynchronized
  have hby := Bd.bytes
  have hret := Bd.returns
  have hown := findClass_of_methodNamed Bd.named
  have hnm := (name_of_methodNamed Bd.named Bd.method).1
  have X0 : Stand p l e ({ frames := 1, cells := 0, slots := 0, locals := 16 } : Room) s m #[(.ref a), (.int hk)] below meth c s₁ [] 0 0 := Stand.of_body Bd
  have e0 : s₁.heap = h0 := by rw [← hh, Bd.state]; rfl
  have N0 := Fr.nil n0
  refine own_cast (own_eflk2B m a hk) ?_
  show own_Go p e below s s₁ _ (own_Qlk2B Z a hk aP aQ aK ho kaP q0 q1 q2 q3 kaK y0 y1 h0 n0) 0 0
  refine own_st (g' := (mkF m 1 #[rv a, iv hk, .unset, .unset, .unset, .unset] [(.ref a)])) (fun tt_ kk_ => XS.aloadN X0.here hx rfl (hb hby own_d13_0) rfl rfl kk_) ?_
  refine own_gG X0 hx hZ hown (own_w hw 61 rfl) e0 F_slots_a rfl rfl (hb hby own_d13_1) (fun {T349} X349 e349 => ?_)
  refine own_st (g' := (mkF m 19 #[rv a, iv hk, .unset, .unset, .unset, .unset] [(.ref a)])) (fun tt_ kk_ => XS.ifnonnullYes X349.here hx rfl (pc0 := 4) (pc' := 18) rfl (hb hby own_d13_4) rfl (by decide) (by decide) (XS.aloadN X349.here hx rfl (hb hby own_d13_18) rfl rfl kk_)) ?_
  refine own_gG X349 hx hZ hown (own_w hw 61 rfl) e349 F_slots_a rfl rfl (hb hby own_d13_19) (fun {T350} X350 e350 => ?_)
  refine own_st (g' := (mkF m 38 #[rv a, iv hk, iv 1023, iv (hk &&& (1023 : Int32)), iv (-1), .unset] [])) (fun tt_ kk_ => own_lenI (g := (mkF m 22 #[rv a, iv hk, .unset, .unset, .unset, .unset] [(.ref aQ)])) X350 hx hZ e350 P_aQ (z := (1024 : Int32)) rfl rfl rfl (hb hby own_d13_22) tt_ (XS.iconst X350.here hx rfl (hb hby own_d13_23) (XS.isub X350.here hx rfl (hb hby own_d13_24) rfl (XS.istoreN X350.here hx rfl (hb hby own_d13_25) rfl (l' := #[rv a, iv hk, iv 1023, .unset, .unset, .unset]) rfl (XS.iloadN X350.here hx rfl (hb hby own_d13_26) rfl (XS.iloadN X350.here hx rfl (hb hby own_d13_27) rfl (XS.iand X350.here hx rfl (hb hby own_d13_28) rfl (XS.istoreN X350.here hx rfl (hb hby own_d13_29) rfl (l' := #[rv a, iv hk, iv 1023, iv (hk &&& (1023 : Int32)), .unset, .unset]) rfl (XS.iconst X350.here hx rfl (hb hby own_d13_30) (XS.istore X350.here hx rfl (hb hby own_d13_31) rfl (l' := #[rv a, iv hk, iv 1023, iv (hk &&& (1023 : Int32)), iv (-1), .unset]) rfl (XS.iload X350.here hx rfl (hb hby own_d13_33) rfl (XS.ifNo X350.here hx rfl (hb hby own_d13_35) rfl ((if0 _ _).trans (tlt (by decide : (-1 : Int32) < (0 : Int32))).2.1) kk_)))))))))))) ?_
  refine own_st (g' := (mkF m 39 #[rv a, iv hk, iv 1023, iv (hk &&& (1023 : Int32)), iv (-1), .unset] [(.ref a)])) (fun tt_ kk_ => XS.aloadN X350.here hx rfl (hb hby own_d13_38) rfl rfl kk_) ?_
  refine own_gG X350 hx hZ hown (own_w hw 61 rfl) e350 F_slots_a rfl rfl (hb hby own_d13_39) (fun {T351} X351 e351 => ?_)
  refine own_st (g' := (mkF m 43 #[rv a, iv hk, iv 1023, iv (hk &&& (1023 : Int32)), iv (-1), .unset] [(.int (hk &&& (1023 : Int32))), (.ref aQ)])) (fun tt_ kk_ => XS.iloadN X351.here hx rfl (hb hby own_d13_42) rfl kk_) ?_
  refine own_st (g' := (mkF m 44 #[rv a, iv hk, iv 1023, iv (hk &&& (1023 : Int32)), iv (-1), .unset] [(.int ((own_sl ho) ((hk &&& (1023 : Int32))).toNatClampNeg))])) (fun tt_ kk_ => own_ldI (g := (mkF m 43 #[rv a, iv hk, iv 1023, iv (hk &&& (1023 : Int32)), iv (-1), .unset] [(.int (hk &&& (1023 : Int32))), (.ref aQ)])) X351 hx hZ e351 P_aQ (own_ix0 _) (own_ix1 _) rfl rfl (hb hby own_d13_43) tt_ kk_) ?_
  by_cases hc44 : ((own_sl ho) ((hk &&& (1023 : Int32))).toNatClampNeg) = (0 : Int32)
  · skip
    refine own_st (g' := (mkF m 101 #[rv a, iv hk, iv 1023, iv (hk &&& (1023 : Int32)), iv (-1), .unset] [(.int (-1))])) (fun tt_ kk_ => XS.ifYes X351.here hx rfl (pc0 := 44) (pc' := 99) rfl (hb hby own_d13_44) rfl ((if0 _ _).trans (teq hc44).1) (by decide) (by decide) (XS.iload X351.here hx rfl (hb hby own_d13_99) rfl kk_)) ?_
    exact own_retI X351 hx hlk hret (hb hby own_d13_101) (by decide) (by decide) (by rw [e351]; exact ⟨(-1 : Int32), rfl, N0, rfl, (Or.inl rfl)⟩)
  refine own_st (g' := (mkF m 48 #[rv a, iv hk, iv 1023, iv (hk &&& (1023 : Int32)), iv (-1), .unset] [(.ref a)])) (fun tt_ kk_ => XS.ifNo X351.here hx rfl (hb hby own_d13_44) rfl ((if0 _ _).trans (feq hc44).1) (XS.aloadN X351.here hx rfl (hb hby own_d13_47) rfl rfl kk_)) ?_
  refine own_gG X351 hx hZ hown (own_w hw 61 rfl) e351 F_slots_a rfl rfl (hb hby own_d13_48) (fun {T352} X352 e352 => ?_)
  refine own_st (g' := (mkF m 52 #[rv a, iv hk, iv 1023, iv (hk &&& (1023 : Int32)), iv (-1), .unset] [(.int (hk &&& (1023 : Int32))), (.ref aQ)])) (fun tt_ kk_ => XS.iloadN X352.here hx rfl (hb hby own_d13_51) rfl kk_) ?_
  refine own_st (g' := (mkF m 60 #[rv a, iv hk, iv 1023, iv (hk &&& (1023 : Int32)), iv (-1), iv ((((own_sl ho) ((hk &&& (1023 : Int32))).toNatClampNeg) &&& (1023 : Int32)) - (1 : Int32))] [(.ref a)])) (fun tt_ kk_ => own_ldI (g := (mkF m 52 #[rv a, iv hk, iv 1023, iv (hk &&& (1023 : Int32)), iv (-1), .unset] [(.int (hk &&& (1023 : Int32))), (.ref aQ)])) X352 hx hZ e352 P_aQ (own_ix0 _) (own_ix1 _) rfl rfl (hb hby own_d13_52) tt_ (XS.iloadN X352.here hx rfl (hb hby own_d13_53) rfl (XS.iand X352.here hx rfl (hb hby own_d13_54) rfl (XS.iconst X352.here hx rfl (hb hby own_d13_55) (XS.isub X352.here hx rfl (hb hby own_d13_56) rfl (XS.istore X352.here hx rfl (hb hby own_d13_57) rfl (l' := #[rv a, iv hk, iv 1023, iv (hk &&& (1023 : Int32)), iv (-1), iv ((((own_sl ho) ((hk &&& (1023 : Int32))).toNatClampNeg) &&& (1023 : Int32)) - (1 : Int32))]) rfl (XS.aloadN X352.here hx rfl (hb hby own_d13_59) rfl rfl kk_))))))) ?_
  rw [show ((((own_sl ho) ((hk &&& (1023 : Int32))).toNatClampNeg) &&& (1023 : Int32)) - (1 : Int32)) = (0 : Int32) from own_sl1 hc44]
  refine own_gG X352 hx hZ hown (own_w hw 61 rfl) e352 F_slots_a rfl rfl (hb hby own_d13_60) (fun {T353} X353 e353 => ?_)
  refine own_st (g' := (mkF m 64 #[rv a, iv hk, iv 1023, iv (hk &&& (1023 : Int32)), iv (-1), iv 0] [(.int (hk &&& (1023 : Int32))), (.ref aQ)])) (fun tt_ kk_ => XS.iloadN X353.here hx rfl (hb hby own_d13_63) rfl kk_) ?_
  refine own_st (g' := (mkF m 74 #[rv a, iv hk, iv 1023, iv (hk &&& (1023 : Int32)), iv (-1), iv 0] [(.int (hk &&& (-1024 : Int32))), (.int (((own_sl ho) ((hk &&& (1023 : Int32))).toNatClampNeg) &&& (-1024 : Int32)))])) (fun tt_ kk_ => own_ldI (g := (mkF m 64 #[rv a, iv hk, iv 1023, iv (hk &&& (1023 : Int32)), iv (-1), iv 0] [(.int (hk &&& (1023 : Int32))), (.ref aQ)])) X353 hx hZ e353 P_aQ (own_ix0 _) (own_ix1 _) rfl rfl (hb hby own_d13_64) tt_ (XS.iloadN X353.here hx rfl (hb hby own_d13_65) rfl (XS.iconst X353.here hx rfl (hb hby own_d13_66) (XS.ixor X353.here hx rfl (hb hby own_d13_67) rfl (XS.iand X353.here hx rfl (hb hby own_d13_68) rfl (XS.iloadN X353.here hx rfl (hb hby own_d13_69) rfl (XS.iloadN X353.here hx rfl (hb hby own_d13_70) rfl (XS.iconst X353.here hx rfl (hb hby own_d13_71) (XS.ixor X353.here hx rfl (hb hby own_d13_72) rfl (XS.iand X353.here hx rfl (hb hby own_d13_73) rfl kk_)))))))))) ?_
  by_cases hc74 : (((own_sl ho) ((hk &&& (1023 : Int32))).toNatClampNeg) &&& (-1024 : Int32)) = (hk &&& (-1024 : Int32))
  · skip
    refine own_st (g' := (mkF m 80 #[rv a, iv hk, iv 1023, iv (hk &&& (1023 : Int32)), iv (-1), iv 0] [(.int 0), (.ref a)])) (fun tt_ kk_ => XS.icmpNo X353.here hx rfl (hb hby own_d13_74) rfl (teq hc74).2 (XS.aloadN X353.here hx rfl (hb hby own_d13_77) rfl rfl (XS.iload X353.here hx rfl (hb hby own_d13_78) rfl kk_))) ?_
    obtain ⟨cq354, q354, q354'⟩ := E_a.cell
    obtain ⟨_, _, ⟨T354, L354, k354, n354⟩, -, X354, ⟨Lc354, hQ354, l354, y354, z354⟩, st354⟩ := X353.privateBack hx (y := (⟨own_z0, "matches", "(I)Z"⟩ : MethodName)) hown (mvT hZ (own_w hw 107 rfl)) (mvT hZ (own_w hw 108 rfl)) (own_sel (mvT hZ (own_w hw 108 rfl)) (mvP hZ (own_w hw 109 rfl)) (mvT hZ (own_w hw 12 rfl)) (by decide)) (Cond.privateMethod_at (mvP hZ (own_w hw 109 rfl) (args := #[]))) (mvT hZ (own_w hw 110 rfl)) (by decide) (backOf (W := 0) (own_rmmatB l Z a0 hw [] a aP aK kaP q0 q1 q2 q3 kaK y0 y1 h0 n0 Z0 F_packed_a F_key_a F_wordCount_a V_aP V_aK) hZ (own_w hw 110 rfl) (own_w hw 13 rfl) (by decide) (by decide)) (g := (mkF m 80 #[rv a, iv hk, iv 1023, iv (hk &&& (1023 : Int32)), iv (-1), iv 0] [(.int 0), (.ref a)])) rfl (by rw [hml]; rfl) (Steps.refl _) (a := a) (by rw [e353]; exact q354) q354' (argsL := [(.int 0)]) (rest := []) (lenOf own_pd1 rfl) rfl (by show 2 * 0 + _ ≤ _; exact Nat.le_of_eq rfl) (hb hby own_d13_80) (fun _ _ => ⟨rfl, e353, (by decide : 0 + 0 ≤ _), (by decide : 0 + 0 ≤ _)⟩)
    dsimp only [Pt.U, Pt.locs, Pt.cells, Pt.slots] at X354 l354 y354 z354 st354 hQ354
    rw [l354, y354, z354] at X354
    obtain ⟨rz_354, rfl, N354q, e354, f354_0⟩ := hQ354
    have N354 := Fr.app N0 N354q
    refine own_st (fun t k => st354.trans k) ?_
    rcases f354_0 with rfl | ⟨rfl, em0, em1⟩
    · skip
      refine own_st (g' := (mkF m 39 #[rv a, iv hk, iv 1023, iv (((hk &&& (1023 : Int32)) + (1 : Int32)) &&& (1023 : Int32)), iv (-1), iv 0] [(.ref a)])) (fun tt_ kk_ => XS.ifYes X354.here hx rfl (pc0 := 83) (pc' := 90) rfl (hb hby own_d13_83) rfl ((if0 _ _).trans (teq (by decide : (0 : Int32) = (0 : Int32))).1) (by decide) (by decide) (XS.iloadN X354.here hx rfl (hb hby own_d13_90) rfl (XS.iconst X354.here hx rfl (hb hby own_d13_91) (XS.iadd X354.here hx rfl (hb hby own_d13_92) rfl (XS.iloadN X354.here hx rfl (hb hby own_d13_93) rfl (XS.iand X354.here hx rfl (hb hby own_d13_94) rfl (XS.istoreN X354.here hx rfl (hb hby own_d13_95) rfl (l' := #[rv a, iv hk, iv 1023, iv (((hk &&& (1023 : Int32)) + (1 : Int32)) &&& (1023 : Int32)), iv (-1), iv 0]) rfl (XS.goto X354.here hx rfl (pc0 := 96) (pc' := 33) rfl (hb hby own_d13_96) (by decide) (by decide) (XS.iload X354.here hx rfl (hb hby own_d13_33) rfl (XS.ifNo X354.here hx rfl (hb hby own_d13_35) rfl ((if0 _ _).trans (tlt (by decide : (-1 : Int32) < (0 : Int32))).2.1) (XS.aloadN X354.here hx rfl (hb hby own_d13_38) rfl rfl kk_))))))))))) ?_
      refine own_gG X354 hx hZ hown (own_w hw 61 rfl) e354 F_slots_a rfl rfl (hb hby own_d13_39) (fun {T355} X355 e355 => ?_)
      refine own_st (g' := (mkF m 43 #[rv a, iv hk, iv 1023, iv (((hk &&& (1023 : Int32)) + (1 : Int32)) &&& (1023 : Int32)), iv (-1), iv 0] [(.int (((hk &&& (1023 : Int32)) + (1 : Int32)) &&& (1023 : Int32))), (.ref aQ)])) (fun tt_ kk_ => XS.iloadN X355.here hx rfl (hb hby own_d13_42) rfl kk_) ?_
      refine own_st (g' := (mkF m 44 #[rv a, iv hk, iv 1023, iv (((hk &&& (1023 : Int32)) + (1 : Int32)) &&& (1023 : Int32)), iv (-1), iv 0] [(.int ((own_sl ho) ((((hk &&& (1023 : Int32)) + (1 : Int32)) &&& (1023 : Int32))).toNatClampNeg))])) (fun tt_ kk_ => own_ldI (g := (mkF m 43 #[rv a, iv hk, iv 1023, iv (((hk &&& (1023 : Int32)) + (1 : Int32)) &&& (1023 : Int32)), iv (-1), iv 0] [(.int (((hk &&& (1023 : Int32)) + (1 : Int32)) &&& (1023 : Int32))), (.ref aQ)])) X355 hx hZ e355 P_aQ (own_ix0 _) (own_ix1 _) rfl rfl (hb hby own_d13_43) tt_ kk_) ?_
      refine own_st (g' := (mkF m 101 #[rv a, iv hk, iv 1023, iv (((hk &&& (1023 : Int32)) + (1 : Int32)) &&& (1023 : Int32)), iv (-1), iv 0] [(.int (-1))])) (fun tt_ kk_ => XS.ifYes X355.here hx rfl (pc0 := 44) (pc' := 99) rfl (hb hby own_d13_44) rfl ((if0 _ _).trans (teq (own_sl2 hc44)).1) (by decide) (by decide) (XS.iload X355.here hx rfl (hb hby own_d13_99) rfl kk_)) ?_
      exact own_retI X355 hx hlk hret (hb hby own_d13_101) (by decide) (by decide) (by rw [e355]; exact ⟨(-1 : Int32), rfl, N354, rfl, (Or.inl rfl)⟩)
    · skip
      refine own_st (g' := (mkF m 99 #[rv a, iv hk, iv 1023, iv (((hk &&& (1023 : Int32)) + (1 : Int32)) &&& (1023 : Int32)), iv 0, iv 0] [])) (fun tt_ kk_ => XS.ifNo X354.here hx rfl (hb hby own_d13_83) rfl ((if0 _ _).trans (feq (by decide : ¬ ((1 : Int32) = (0 : Int32)))).1) (XS.iload X354.here hx rfl (hb hby own_d13_86) rfl (XS.istore X354.here hx rfl (hb hby own_d13_88) rfl (l' := #[rv a, iv hk, iv 1023, iv (hk &&& (1023 : Int32)), iv 0, iv 0]) rfl (XS.iloadN X354.here hx rfl (hb hby own_d13_90) rfl (XS.iconst X354.here hx rfl (hb hby own_d13_91) (XS.iadd X354.here hx rfl (hb hby own_d13_92) rfl (XS.iloadN X354.here hx rfl (hb hby own_d13_93) rfl (XS.iand X354.here hx rfl (hb hby own_d13_94) rfl (XS.istoreN X354.here hx rfl (hb hby own_d13_95) rfl (l' := #[rv a, iv hk, iv 1023, iv (((hk &&& (1023 : Int32)) + (1 : Int32)) &&& (1023 : Int32)), iv 0, iv 0]) rfl (XS.goto X354.here hx rfl (pc0 := 96) (pc' := 33) rfl (hb hby own_d13_96) (by decide) (by decide) (XS.iload X354.here hx rfl (hb hby own_d13_33) rfl (XS.ifYes X354.here hx rfl (pc0 := 35) (pc' := 99) rfl (hb hby own_d13_35) rfl ((if0 _ _).trans (flt (by decide : ¬ ((0 : Int32) < (0 : Int32)))).2.1) (by decide) (by decide) kk_)))))))))))) ?_
      refine own_st (g' := (mkF m 101 #[rv a, iv hk, iv 1023, iv (((hk &&& (1023 : Int32)) + (1 : Int32)) &&& (1023 : Int32)), iv 0, iv 0] [(.int 0)])) (fun tt_ kk_ => XS.iload X354.here hx rfl (hb hby own_d13_99) rfl kk_) ?_
      exact own_retI X354 hx hlk hret (hb hby own_d13_101) (by decide) (by decide) (by rw [e354]; exact ⟨(0 : Int32), rfl, N354, rfl, (Or.inr ⟨rfl, em0, em1⟩)⟩)
  refine own_st (g' := (mkF m 39 #[rv a, iv hk, iv 1023, iv (((hk &&& (1023 : Int32)) + (1 : Int32)) &&& (1023 : Int32)), iv (-1), iv 0] [(.ref a)])) (fun tt_ kk_ => XS.icmpYes X353.here hx rfl (pc0 := 74) (pc' := 90) rfl (hb hby own_d13_74) rfl (feq hc74).2 (by decide) (by decide) (XS.iloadN X353.here hx rfl (hb hby own_d13_90) rfl (XS.iconst X353.here hx rfl (hb hby own_d13_91) (XS.iadd X353.here hx rfl (hb hby own_d13_92) rfl (XS.iloadN X353.here hx rfl (hb hby own_d13_93) rfl (XS.iand X353.here hx rfl (hb hby own_d13_94) rfl (XS.istoreN X353.here hx rfl (hb hby own_d13_95) rfl (l' := #[rv a, iv hk, iv 1023, iv (((hk &&& (1023 : Int32)) + (1 : Int32)) &&& (1023 : Int32)), iv (-1), iv 0]) rfl (XS.goto X353.here hx rfl (pc0 := 96) (pc' := 33) rfl (hb hby own_d13_96) (by decide) (by decide) (XS.iload X353.here hx rfl (hb hby own_d13_33) rfl (XS.ifNo X353.here hx rfl (hb hby own_d13_35) rfl ((if0 _ _).trans (tlt (by decide : (-1 : Int32) < (0 : Int32))).2.1) (XS.aloadN X353.here hx rfl (hb hby own_d13_38) rfl rfl kk_))))))))))) ?_
  refine own_gG X353 hx hZ hown (own_w hw 61 rfl) e353 F_slots_a rfl rfl (hb hby own_d13_39) (fun {T356} X356 e356 => ?_)
  refine own_st (g' := (mkF m 43 #[rv a, iv hk, iv 1023, iv (((hk &&& (1023 : Int32)) + (1 : Int32)) &&& (1023 : Int32)), iv (-1), iv 0] [(.int (((hk &&& (1023 : Int32)) + (1 : Int32)) &&& (1023 : Int32))), (.ref aQ)])) (fun tt_ kk_ => XS.iloadN X356.here hx rfl (hb hby own_d13_42) rfl kk_) ?_
  refine own_st (g' := (mkF m 44 #[rv a, iv hk, iv 1023, iv (((hk &&& (1023 : Int32)) + (1 : Int32)) &&& (1023 : Int32)), iv (-1), iv 0] [(.int ((own_sl ho) ((((hk &&& (1023 : Int32)) + (1 : Int32)) &&& (1023 : Int32))).toNatClampNeg))])) (fun tt_ kk_ => own_ldI (g := (mkF m 43 #[rv a, iv hk, iv 1023, iv (((hk &&& (1023 : Int32)) + (1 : Int32)) &&& (1023 : Int32)), iv (-1), iv 0] [(.int (((hk &&& (1023 : Int32)) + (1 : Int32)) &&& (1023 : Int32))), (.ref aQ)])) X356 hx hZ e356 P_aQ (own_ix0 _) (own_ix1 _) rfl rfl (hb hby own_d13_43) tt_ kk_) ?_
  refine own_st (g' := (mkF m 101 #[rv a, iv hk, iv 1023, iv (((hk &&& (1023 : Int32)) + (1 : Int32)) &&& (1023 : Int32)), iv (-1), iv 0] [(.int (-1))])) (fun tt_ kk_ => XS.ifYes X356.here hx rfl (pc0 := 44) (pc' := 99) rfl (hb hby own_d13_44) rfl ((if0 _ _).trans (teq (own_sl2 hc44)).1) (by decide) (by decide) (XS.iload X356.here hx rfl (hb hby own_d13_99) rfl kk_)) ?_
  exact own_retI X356 hx hlk hret (hb hby own_d13_101) (by decide) (by decide) (by rw [e356]; exact ⟨(-1 : Int32), rfl, N0, rfl, (Or.inl rfl)⟩)
def own_QappB1 (Z : State) (a : Addr) (hk : Int32) (aL : Addr) (aS : Addr) (aM : Addr) (aW : Addr) (aH : Addr) (aP : Addr) (aQ : Addr) (aK : Addr) (kaP : ClassId) (q0 : Int64) (q1 : Int64) (q2 : Int64) (q3 : Int64) (kaK : ClassId) (y0 : Int64) (y1 : Int64) (h0 : Heap) (n0 : Nat) (v : Option Value) (h : Heap) (L : List Loc) : Prop := v = some (.int 0) ∧ Fr n0 L ∧ Keep h0 h [a, aP, aQ] ∧ Fld Z h a own_z0 "lows" "[I" (.ref aL) ∧ Fld Z h a own_z0 "spans" "[J" (.ref aS) ∧ Fld Z h a own_z0 "masks" "[J" (.ref aM) ∧ Fld Z h a own_z0 "words" "[I" (.ref aW) ∧ Fld Z h a own_z0 "shifts" "[I" (.ref aH) ∧ Fld Z h a own_z0 "packed" "[J" (.ref aP) ∧ Fld Z h a own_z0 "slots" "[I" (.ref aQ) ∧ Fld Z h a own_z0 "key" "[J" (.ref aK) ∧ Fld Z h a own_z0 "wordCount" "I" (.int 2) ∧ Fld Z h a own_z0 "size" "I" (.int 1) ∧ Arv Z h aP kaP .long (2048 : Int32) [(.long y0), (.long y1), (.long q2), (.long q3)] (.long 0) ∧ own_AI Z h aQ 1024 (own_sl hk)
theorem own_efappB1 (m : MethodId) (a : Addr) (hk : Int32) : entryFrame m #[(.ref a), (.int hk)] 5 = mkF m 0 #[rv a, iv hk, .unset, .unset, .unset] [] := by first | (simp [entryFrame, mkF, argsToLocals, Value.category]; done) | rfl
set_option maxRecDepth 65536 in
set_option maxHeartbeats 16000000 in
theorem own_rmappB1 (l : Launch) (Z : State) (a0 : Array Value) (hw : own_HW Z a0) (ws : List Jvm.Cond) (a : Addr) (hk : Int32) (aL : Addr) (aS : Addr) (aM : Addr) (aW : Addr) (aH : Addr) (aP : Addr) (aQ : Addr) (aK : Addr) (kaP : ClassId) (q0 : Int64) (q1 : Int64) (q2 : Int64) (q3 : Int64) (kaK : ClassId) (y0 : Int64) (y1 : Int64) (h0 : Heap) (n0 : Nat) (Z0 : n0 ≤ h0.size) (E_a : Exa Z h0 a own_z0) (F_lows_a : Fld Z h0 a own_z0 "lows" "[I" (.ref aL)) (F_spans_a : Fld Z h0 a own_z0 "spans" "[J" (.ref aS)) (F_masks_a : Fld Z h0 a own_z0 "masks" "[J" (.ref aM)) (F_words_a : Fld Z h0 a own_z0 "words" "[I" (.ref aW)) (F_shifts_a : Fld Z h0 a own_z0 "shifts" "[I" (.ref aH)) (F_packed_a : Fld Z h0 a own_z0 "packed" "[J" (.ref aP)) (F_slots_a : Fld Z h0 a own_z0 "slots" "[I" (.ref aQ)) (F_key_a : Fld Z h0 a own_z0 "key" "[J" (.ref aK)) (F_wordCount_a : Fld Z h0 a own_z0 "wordCount" "I" (.int 2)) (F_size_a : Fld Z h0 a own_z0 "size" "I" (.int 0)) (P_aQ : own_AI Z h0 aQ 1024 (fun _ => 0)) (V_aP : Arv Z h0 aP kaP .long (2048 : Int32) [(.long q0), (.long q1), (.long q2), (.long q3)] (.long 0)) (V_aK : Arv Z h0 aK kaK .long (2 : Int32) [(.long y0), (.long y1)] (.long 0)) (ne_a_aP : a ≠ aP) (ne_a_aQ : a ≠ aQ) (ne_aK_aP : aK ≠ aP) (ne_aK_aQ : aK ≠ aQ) (ne_aK_a : aK ≠ a) (ne_aP_aQ : aP ≠ aQ) (g_a : n0 ≤ a) (g_aP : n0 ≤ aP) (g_aQ : n0 ≤ aQ) :
    MetFree l (⟨own_z0, "append", "(I)I"⟩ : MethodName) (head1 (Jvm.Cond.code (⟨own_z0, "append", "(I)I"⟩ : MethodName) prog_160_method_12_code 5 (some .int) :: ws) ({ frames := 1, cells := 0, slots := 0, locals := 18 } : Room)) (fun aa UU => aa = #[(.ref a), (.int hk)] ∧ Z.Warmed39 UU.vm ∧ UU.heap = h0) (fun _ _ _ _ _ => True) (fun _ U o U' => ∃ v L, o = .returned v ∧ own_QappB1 Z a hk aL aS aM aW aH aP aQ aK kaP q0 q1 q2 q3 kaK y0 y1 h0 n0 v U'.heap L ∧ FrameEnd U o U' L ({ frames := 1, cells := 0, slots := 0, locals := 18 } : Room).cells ({ frames := 1, cells := 0, slots := 0, locals := 18 } : Room).slots) := by
  refine MetFree.of_bodySF (plainFor_of_name own_pn2) hisR ?_
  intro p e s m args below meth c s₁ Bd hml hP hK
  obtain ⟨rfl, hZ, hh⟩ := hP
  have hx := Bd.exec
  have hlk := Bd.notSynchronized
  have hby := Bd.bytes
  have hret := Bd.returns
  have hown := findClass_of_methodNamed Bd.named
  have hnm := (name_of_methodNamed Bd.named Bd.method).1
  have X0 : Stand p l e ({ frames := 1, cells := 0, slots := 0, locals := 18 } : Room) s m #[(.ref a), (.int hk)] below meth c s₁ [] 0 0 := Stand.of_body Bd
  have e0 : s₁.heap = h0 := by rw [← hh, Bd.state]; rfl
  have N0 := Fr.nil n0
  refine own_cast (own_efappB1 m a hk) ?_
  show own_Go p e below s s₁ _ (own_QappB1 Z a hk aL aS aM aW aH aP aQ aK kaP q0 q1 q2 q3 kaK y0 y1 h0 n0) 0 0
  have K0 : Keep h0 h0 [a, aP, aQ] := Keep.refl _ _
  refine own_st (g' := (mkF m 1 #[rv a, iv hk, .unset, .unset, .unset] [(.ref a)])) (fun tt_ kk_ => XS.aloadN X0.here hx rfl (hb hby own_d14_0) rfl rfl kk_) ?_
  refine own_gG X0 hx hZ hown (own_w hw 92 rfl) e0 F_size_a rfl rfl (hb hby own_d14_1) (fun {T357} X357 e357 => ?_)
  refine own_st (g' := (mkF m 20 #[rv a, iv hk, .unset, .unset, .unset] [(.ref a)])) (fun tt_ kk_ => X357.ldcInt hx hown (mvT hZ (own_w hw 94 rfl)) (g := (mkF m 4 #[rv a, iv hk, .unset, .unset, .unset] [(.int 0)])) rfl (hb hby own_d14_4) _ (XS.icmpYes X357.here hx rfl (pc0 := 6) (pc' := 19) rfl (hb hby own_d14_6) rfl (feq (by decide : ¬ ((0 : Int32) = (2147483646 : Int32)))).2 (by decide) (by decide) (XS.aloadN X357.here hx rfl (hb hby own_d14_19) rfl rfl kk_))) ?_
  refine own_gG X357 hx hZ hown (own_w hw 92 rfl) e357 F_size_a rfl rfl (hb hby own_d14_20) (fun {T358} X358 e358 => ?_)
  refine own_st (g' := (mkF m 27 #[rv a, iv hk, .unset, .unset, .unset] [(.ref a), (.long ((1 : Int32).toInt64))])) (fun tt_ kk_ => XS.iconst X358.here hx rfl (hb hby own_d14_23) (XS.iadd X358.here hx rfl (hb hby own_d14_24) rfl (XS.i2l X358.here hx rfl (hb hby own_d14_25) rfl (XS.aloadN X358.here hx rfl (hb hby own_d14_26) rfl rfl kk_)))) ?_
  refine own_gG X358 hx hZ hown (own_w hw 49 rfl) e358 F_wordCount_a rfl rfl (hb hby own_d14_27) (fun {T359} X359 e359 => ?_)
  refine own_st (g' := (mkF m 35 #[rv a, iv hk, .val (.long (((1 : Int32).toInt64) * ((2 : Int32).toInt64))), .second, .unset] [(.ref a), (.long (((1 : Int32).toInt64) * ((2 : Int32).toInt64)))])) (fun tt_ kk_ => XS.i2l X359.here hx rfl (hb hby own_d14_30) rfl (XS.lmul X359.here hx rfl (hb hby own_d14_31) rfl (XS.lstoreN X359.here hx rfl (hb hby own_d14_32) rfl (l' := #[rv a, iv hk, .val (.long (((1 : Int32).toInt64) * ((2 : Int32).toInt64))), .second, .unset]) rfl (XS.lloadN X359.here hx rfl (hb hby own_d14_33) rfl (XS.aloadN X359.here hx rfl (hb hby own_d14_34) rfl rfl kk_))))) ?_
  refine own_gG X359 hx hZ hown (own_w hw 56 rfl) e359 F_packed_a rfl rfl (hb hby own_d14_35) (fun {T360} X360 e360 => ?_)
  refine own_st (g' := (mkF m 41 #[rv a, iv hk, .val (.long (((1 : Int32).toInt64) * ((2 : Int32).toInt64))), .second, .unset] [(.int (lcmpW (((1 : Int32).toInt64) * ((2 : Int32).toInt64)) ((2048 : Int32).toInt64)))])) (fun tt_ kk_ => own_lnV (g := (mkF m 38 #[rv a, iv hk, .val (.long (((1 : Int32).toInt64) * ((2 : Int32).toInt64))), .second, .unset] [(.ref aP), (.long (((1 : Int32).toInt64) * ((2 : Int32).toInt64)))])) X360 hx hZ e360 V_aP rfl rfl (hb hby own_d14_38) tt_ (XS.i2l X360.here hx rfl (hb hby own_d14_39) rfl (XS.lcmp X360.here hx rfl (hb hby own_d14_40) rfl kk_))) ?_
  refine own_st (g' := (mkF m 77 #[rv a, iv hk, .val (.long (((1 : Int32).toInt64) * ((2 : Int32).toInt64))), .second, .unset] [(.ref a)])) (fun tt_ kk_ => XS.ifYes X360.here hx rfl (pc0 := 41) (pc' := 76) rfl (hb hby own_d14_41) rfl ((if0 _ _).trans (flt (by decide +kernel : ¬ ((0 : Int32) < (lcmpW (((1 : Int32).toInt64) * ((2 : Int32).toInt64)) ((2048 : Int32).toInt64))))).2.2.2) (by decide) (by decide) (XS.aloadN X360.here hx rfl (hb hby own_d14_76) rfl rfl kk_)) ?_
  refine own_gG X360 hx hZ hown (own_w hw 63 rfl) e360 F_key_a rfl rfl (hb hby own_d14_77) (fun {T361} X361 e361 => ?_)
  refine own_st (g' := (mkF m 82 #[rv a, iv hk, .val (.long (((1 : Int32).toInt64) * ((2 : Int32).toInt64))), .second, .unset] [(.ref a), (.int 0), (.ref aK)])) (fun tt_ kk_ => XS.iconst X361.here hx rfl (hb hby own_d14_80) (XS.aloadN X361.here hx rfl (hb hby own_d14_81) rfl rfl kk_)) ?_
  refine own_gG X361 hx hZ hown (own_w hw 56 rfl) e361 F_packed_a rfl rfl (hb hby own_d14_82) (fun {T362} X362 e362 => ?_)
  refine own_st (g' := (mkF m 86 #[rv a, iv hk, .val (.long (((1 : Int32).toInt64) * ((2 : Int32).toInt64))), .second, .unset] [(.ref a), (.ref aP), (.int 0), (.ref aK)])) (fun tt_ kk_ => XS.aloadN X362.here hx rfl (hb hby own_d14_85) rfl rfl kk_) ?_
  refine own_gG X362 hx hZ hown (own_w hw 92 rfl) e362 F_size_a rfl rfl (hb hby own_d14_86) (fun {T363} X363 e363 => ?_)
  refine own_st (g' := (mkF m 90 #[rv a, iv hk, .val (.long (((1 : Int32).toInt64) * ((2 : Int32).toInt64))), .second, .unset] [(.ref a), (.int 0), (.ref aP), (.int 0), (.ref aK)])) (fun tt_ kk_ => XS.aloadN X363.here hx rfl (hb hby own_d14_89) rfl rfl kk_) ?_
  refine own_gG X363 hx hZ hown (own_w hw 49 rfl) e363 F_wordCount_a rfl rfl (hb hby own_d14_90) (fun {T364} X364 e364 => ?_)
  refine own_st (g' := (mkF m 95 #[rv a, iv hk, .val (.long (((1 : Int32).toInt64) * ((2 : Int32).toInt64))), .second, .unset] [(.ref a), (.int 0), (.ref aP), (.int 0), (.ref aK)])) (fun tt_ kk_ => XS.imul X364.here hx rfl (hb hby own_d14_93) rfl (XS.aloadN X364.here hx rfl (hb hby own_d14_94) rfl rfl kk_)) ?_
  refine own_gG X364 hx hZ hown (own_w hw 49 rfl) e364 F_wordCount_a rfl rfl (hb hby own_d14_95) (fun {T365} X365 e365 => ?_)
  obtain ⟨T366, h366, L366, X366, e366, N366, K366q, V366q, st366⟩ := cpA X365 hx hZ hown (own_w hw 95 rfl) (own_w hw 98 rfl) (own_w hw 96 rfl) (own_w hw 97 rfl) e365 V_aK V_aP (us := [(.long y0), (.long y1)]) (Or.inl ⟨rfl, rfl⟩) (by decide) (by decide) (by decide) (by decide) (by decide) rfl (Nat.le_of_ble_eq_true rfl) N0 g_aP (g := (mkF m 98 #[rv a, iv hk, .val (.long (((1 : Int32).toInt64) * ((2 : Int32).toInt64))), .second, .unset] [(.int 2), (.int 0), (.ref aP), (.int 0), (.ref aK)])) rfl (by rw [hml]; rfl) rfl (hb hby own_d14_98) (by decide) (W := 0) (by show 2 * 0 + _ ≤ _; exact Nat.le_of_eq rfl) (by decide)
  have Z366 : n0 ≤ h366.size := Nat.le_trans Z0 K366q.1
  have K366 : Keep h0 h366 [a, aP, aQ] := K0.trans K366q (allS (P := fun x => x ∈ [a, aP, aQ] ∨ h0.size ≤ x) (Or.inl (List.mem_of_getElem? (i := 1) rfl)) all0)
  have V366 : Arv Z h366 aP kaP .long (2048 : Int32) [(.long y0), (.long y1), (.long q2), (.long q3)] (.long 0) := V366q
  refine own_st st366 ?_
  refine own_st (g' := (mkF m 102 #[rv a, iv hk, .val (.long (((1 : Int32).toInt64) * ((2 : Int32).toInt64))), .second, .unset] [(.ref a)])) (fun tt_ kk_ => XS.aloadN X366.here hx rfl (hb hby own_d14_101) rfl rfl kk_) ?_
  have F368 := (F_size_a.keep K366q (ninS ne_a_aP nin0))
  refine own_gG X366 hx hZ hown (own_w hw 92 rfl) e366 F368 rfl rfl (hb hby own_d14_102) (fun {T367} X367 e367 => ?_)
  refine own_st (g' := (mkF m 109 #[rv a, iv hk, .val (.long (((1 : Int32).toInt64) * ((2 : Int32).toInt64))), .second, iv 0] [(.ref a), (.ref a)])) (fun tt_ kk_ => XS.istore X367.here hx rfl (hb hby own_d14_105) rfl (l' := #[rv a, iv hk, .val (.long (((1 : Int32).toInt64) * ((2 : Int32).toInt64))), .second, iv 0]) rfl (XS.aloadN X367.here hx rfl (hb hby own_d14_107) rfl rfl (XS.dup X367.here hx rfl (hb hby own_d14_108) rfl rfl kk_))) ?_
  refine own_gG X367 hx hZ hown (own_w hw 92 rfl) e367 F368 rfl rfl (hb hby own_d14_109) (fun {T369} X369 e369 => ?_)
  refine own_st (g' := (mkF m 114 #[rv a, iv hk, .val (.long (((1 : Int32).toInt64) * ((2 : Int32).toInt64))), .second, iv 0] [(.int 1), (.ref a)])) (fun tt_ kk_ => XS.iconst X369.here hx rfl (hb hby own_d14_112) (XS.iadd X369.here hx rfl (hb hby own_d14_113) rfl kk_)) ?_
  have F371 := (E_a.keep K366q)
  obtain ⟨T370, h370, X370, e370, W370, st370⟩ := putF X369 hx hZ hown (host := "") (Or.inl (own_w hw 92 rfl)) Via.refl e369 F368 F371 (Or.inl (own_w hw 93 rfl)) (own_w hw 12 rfl) (ty := .int) (by decide) rfl rfl (g := (mkF m 114 #[rv a, iv hk, .val (.long (((1 : Int32).toInt64) * ((2 : Int32).toInt64))), .second, iv 0] [(.int 1), (.ref a)])) rfl rfl (hb hby own_d14_114)
  have N370 := Fr.snoc X370 N366 g_a
  have Z370 : n0 ≤ h370.size := Nat.le_trans Z366 (Keep.of_wr W370).1
  have K370 : Keep h0 h370 [a, aP, aQ] := K366.wr W370 (Or.inl (List.mem_of_getElem? (i := 0) rfl))
  have F370 : Fld Z h370 a own_z0 "size" "I" (.int 1) := F368.same W370
  refine own_st st370 ?_
  refine own_st (g' := (mkF m 118 #[rv a, iv hk, .val (.long (((1 : Int32).toInt64) * ((2 : Int32).toInt64))), .second, iv 0] [(.ref a)])) (fun tt_ kk_ => XS.aloadN X370.here hx rfl (hb hby own_d14_117) rfl rfl kk_) ?_
  refine own_gG X370 hx hZ hown (own_w hw 92 rfl) e370 F370 rfl rfl (hb hby own_d14_118) (fun {T372} X372 e372 => ?_)
  refine own_st (g' := (mkF m 122 #[rv a, iv hk, .val (.long (((1 : Int32).toInt64) * ((2 : Int32).toInt64))), .second, iv 0] [(.ref a), (.int 1)])) (fun tt_ kk_ => XS.aloadN X372.here hx rfl (hb hby own_d14_121) rfl rfl kk_) ?_
  have F374 := ((F_slots_a.keep K366q (ninS ne_a_aP nin0)).other W370 (Or.inr (own_sn0 hw)))
  refine own_gG X372 hx hZ hown (own_w hw 61 rfl) e372 F374 rfl rfl (hb hby own_d14_122) (fun {T373} X373 e373 => ?_)
  have F375 := ((P_aQ.keep K366q (ninS (Ne.symm ne_aP_aQ) nin0)).other W370 (Ne.symm ne_a_aQ))
  refine own_st (g' := (mkF m 130 #[rv a, iv hk, .val (.long (((1 : Int32).toInt64) * ((2 : Int32).toInt64))), .second, iv 0] [(.int (((1024 : Int32) / (4 : Int32)) * (3 : Int32))), (.int 1)])) (fun tt_ kk_ => own_lenI (g := (mkF m 125 #[rv a, iv hk, .val (.long (((1 : Int32).toInt64) * ((2 : Int32).toInt64))), .second, iv 0] [(.ref aQ), (.int 1)])) X373 hx hZ e373 F375 (z := (1024 : Int32)) rfl rfl rfl (hb hby own_d14_125) tt_ (XS.iconst X373.here hx rfl (hb hby own_d14_126) (XS.idiv X373.here hx rfl (hb hby own_d14_127) rfl (by decide) (XS.iconst X373.here hx rfl (hb hby own_d14_128) (XS.imul X373.here hx rfl (hb hby own_d14_129) rfl kk_))))) ?_
  refine own_st (g' := (mkF m 151 #[rv a, iv hk, .val (.long (((1 : Int32).toInt64) * ((2 : Int32).toInt64))), .second, iv 0] [(.ref a), (.int hk), (.int 0)])) (fun tt_ kk_ => XS.icmpYes X373.here hx rfl (pc0 := 130) (pc' := 147) rfl (hb hby own_d14_130) rfl (flt (by decide +kernel : ¬ ((((1024 : Int32) / (4 : Int32)) * (3 : Int32)) < (1 : Int32)))).2.2.2 (by decide) (by decide) (XS.iload X373.here hx rfl (hb hby own_d14_147) rfl (XS.iloadN X373.here hx rfl (hb hby own_d14_149) rfl (XS.aloadN X373.here hx rfl (hb hby own_d14_150) rfl rfl kk_)))) ?_
  refine own_gG X373 hx hZ hown (own_w hw 61 rfl) e373 F374 rfl rfl (hb hby own_d14_151) (fun {T376} X376 e376 => ?_)
  obtain ⟨_, _, ⟨T377, L377, k377, n377⟩, -, X377, ⟨Lc377, hQ377, l377, y377, z377⟩, st377⟩ := Jvm.LawKit.callS X376 hx (y := (⟨own_z0, "place", "(II[I)V"⟩ : MethodName)) hown (mvT hZ (own_w hw 99 rfl)) (mvT hZ (own_w hw 100 rfl)) (mvT hZ (own_w hw 13 rfl)) (mvT hZ (own_w hw 101 rfl)) (by decide) (backOf (W := 0) (own_rmpl1 l Z a0 hw [] hk aQ h370 n0 Z370 F375 g_aQ) hZ (own_w hw 101 rfl) (own_w hw 13 rfl) (by decide) (by decide)) (g := (mkF m 154 #[rv a, iv hk, .val (.long (((1 : Int32).toInt64) * ((2 : Int32).toInt64))), .second, iv 0] [(.ref aQ), (.int hk), (.int 0)])) rfl (by rw [hml]; rfl) (argsL := [(.int 0), (.int hk), (.ref aQ)]) (rest := []) (lenOf own_pd5 rfl) rfl (by show 2 * 0 + _ ≤ _; exact Nat.le_of_eq rfl) (hb hby own_d14_154) (fun _ _ => ⟨rfl, e376, (by decide : 0 + 0 ≤ _), (by decide : 0 + 0 ≤ _)⟩)
  dsimp only [Pt.U, Pt.locs, Pt.cells, Pt.slots] at X377 l377 y377 z377 st377 hQ377
  rw [l377, y377, z377] at X377
  obtain ⟨rfl, N377q, K377q, f377_0⟩ := hQ377
  obtain ⟨h377, e377⟩ : ∃ z, T377.heap = z := ⟨_, rfl⟩
  rw [e377] at K377q f377_0
  have Z377 : n0 ≤ h377.size := Nat.le_trans Z370 K377q.1
  have K377 : Keep h0 h377 [a, aP, aQ] := K370.trans K377q (allS (P := fun x => x ∈ [a, aP, aQ] ∨ h0.size ≤ x) (Or.inl (List.mem_of_getElem? (i := 2) rfl)) all0)
  have N377 := Fr.app N370 N377q
  refine own_st st377 ?_
  refine own_st (g' := (mkF m 159 #[rv a, iv hk, .val (.long (((1 : Int32).toInt64) * ((2 : Int32).toInt64))), .second, iv 0] [(.int 0)])) (fun tt_ kk_ => XS.iload X377.here hx rfl (hb hby own_d14_157) rfl kk_) ?_
  have F378 := (((F_lows_a.keep K366q (ninS ne_a_aP nin0)).other W370 (Or.inr (own_sn1 hw))).keep K377q (ninS ne_a_aQ nin0))
  have F379 := (((F_spans_a.keep K366q (ninS ne_a_aP nin0)).other W370 (Or.inr (own_sn2 hw))).keep K377q (ninS ne_a_aQ nin0))
  have F380 := (((F_masks_a.keep K366q (ninS ne_a_aP nin0)).other W370 (Or.inr (own_sn3 hw))).keep K377q (ninS ne_a_aQ nin0))
  have F381 := (((F_words_a.keep K366q (ninS ne_a_aP nin0)).other W370 (Or.inr (own_sn4 hw))).keep K377q (ninS ne_a_aQ nin0))
  have F382 := (((F_shifts_a.keep K366q (ninS ne_a_aP nin0)).other W370 (Or.inr (own_sn5 hw))).keep K377q (ninS ne_a_aQ nin0))
  have F383 := (((F_packed_a.keep K366q (ninS ne_a_aP nin0)).other W370 (Or.inr (own_sn6 hw))).keep K377q (ninS ne_a_aQ nin0))
  have F384 := (F374.keep K377q (ninS ne_a_aQ nin0))
  have F385 := (((F_key_a.keep K366q (ninS ne_a_aP nin0)).other W370 (Or.inr (own_sn7 hw))).keep K377q (ninS ne_a_aQ nin0))
  have F386 := (((F_wordCount_a.keep K366q (ninS ne_a_aP nin0)).other W370 (Or.inr (own_sn8 hw))).keep K377q (ninS ne_a_aQ nin0))
  have F387 := (F370.keep K377q (ninS ne_a_aQ nin0))
  have F388 := ((V366.other W370 (Ne.symm ne_a_aP)).keep K377q (ninS ne_aP_aQ nin0))
  exact own_retI X377 hx hlk hret (hb hby own_d14_159) (by decide) (by decide) (by rw [e377]; exact ⟨rfl, N377, K377, F378, F379, F380, F381, F382, F383, F384, F385, F386, F387, F388, f377_0⟩)
def own_QappB2 (Z : State) (a : Addr) (hk : Int32) (aL : Addr) (aS : Addr) (aM : Addr) (aW : Addr) (aH : Addr) (aP : Addr) (aQ : Addr) (aK : Addr) (ho : Int32) (kaP : ClassId) (q0 : Int64) (q1 : Int64) (q2 : Int64) (q3 : Int64) (kaK : ClassId) (y0 : Int64) (y1 : Int64) (h0 : Heap) (n0 : Nat) (v : Option Value) (h : Heap) (L : List Loc) : Prop := v = some (.int 1) ∧ Fr n0 L ∧ Keep h0 h [a, aP, aQ] ∧ Fld Z h a own_z0 "lows" "[I" (.ref aL) ∧ Fld Z h a own_z0 "spans" "[J" (.ref aS) ∧ Fld Z h a own_z0 "masks" "[J" (.ref aM) ∧ Fld Z h a own_z0 "words" "[I" (.ref aW) ∧ Fld Z h a own_z0 "shifts" "[I" (.ref aH) ∧ Fld Z h a own_z0 "packed" "[J" (.ref aP) ∧ Fld Z h a own_z0 "slots" "[I" (.ref aQ) ∧ Fld Z h a own_z0 "key" "[J" (.ref aK) ∧ Fld Z h a own_z0 "wordCount" "I" (.int 2) ∧ Fld Z h a own_z0 "size" "I" (.int 2) ∧ Arv Z h aP kaP .long (2048 : Int32) [(.long q0), (.long q1), (.long y0), (.long y1)] (.long 0)
theorem own_efappB2 (m : MethodId) (a : Addr) (hk : Int32) : entryFrame m #[(.ref a), (.int hk)] 5 = mkF m 0 #[rv a, iv hk, .unset, .unset, .unset] [] := by first | (simp [entryFrame, mkF, argsToLocals, Value.category]; done) | rfl
set_option maxRecDepth 65536 in
set_option maxHeartbeats 16000000 in
theorem own_rmappB2 (l : Launch) (Z : State) (a0 : Array Value) (hw : own_HW Z a0) (ws : List Jvm.Cond) (a : Addr) (hk : Int32) (aL : Addr) (aS : Addr) (aM : Addr) (aW : Addr) (aH : Addr) (aP : Addr) (aQ : Addr) (aK : Addr) (ho : Int32) (kaP : ClassId) (q0 : Int64) (q1 : Int64) (q2 : Int64) (q3 : Int64) (kaK : ClassId) (y0 : Int64) (y1 : Int64) (h0 : Heap) (n0 : Nat) (Z0 : n0 ≤ h0.size) (E_a : Exa Z h0 a own_z0) (F_lows_a : Fld Z h0 a own_z0 "lows" "[I" (.ref aL)) (F_spans_a : Fld Z h0 a own_z0 "spans" "[J" (.ref aS)) (F_masks_a : Fld Z h0 a own_z0 "masks" "[J" (.ref aM)) (F_words_a : Fld Z h0 a own_z0 "words" "[I" (.ref aW)) (F_shifts_a : Fld Z h0 a own_z0 "shifts" "[I" (.ref aH)) (F_packed_a : Fld Z h0 a own_z0 "packed" "[J" (.ref aP)) (F_slots_a : Fld Z h0 a own_z0 "slots" "[I" (.ref aQ)) (F_key_a : Fld Z h0 a own_z0 "key" "[J" (.ref aK)) (F_wordCount_a : Fld Z h0 a own_z0 "wordCount" "I" (.int 2)) (F_size_a : Fld Z h0 a own_z0 "size" "I" (.int 1)) (P_aQ : own_AI Z h0 aQ 1024 (own_sl ho)) (V_aP : Arv Z h0 aP kaP .long (2048 : Int32) [(.long q0), (.long q1), (.long q2), (.long q3)] (.long 0)) (V_aK : Arv Z h0 aK kaK .long (2 : Int32) [(.long y0), (.long y1)] (.long 0)) (ne_a_aP : a ≠ aP) (ne_a_aQ : a ≠ aQ) (ne_aK_aP : aK ≠ aP) (ne_aK_aQ : aK ≠ aQ) (ne_aK_a : aK ≠ a) (ne_aP_aQ : aP ≠ aQ) (g_a : n0 ≤ a) (g_aP : n0 ≤ aP) (g_aQ : n0 ≤ aQ) :
    MetFree l (⟨own_z0, "append", "(I)I"⟩ : MethodName) (head1 (Jvm.Cond.code (⟨own_z0, "append", "(I)I"⟩ : MethodName) prog_160_method_12_code 5 (some .int) :: ws) ({ frames := 1, cells := 0, slots := 0, locals := 18 } : Room)) (fun aa UU => aa = #[(.ref a), (.int hk)] ∧ Z.Warmed39 UU.vm ∧ UU.heap = h0) (fun _ _ _ _ _ => True) (fun _ U o U' => ∃ v L, o = .returned v ∧ own_QappB2 Z a hk aL aS aM aW aH aP aQ aK ho kaP q0 q1 q2 q3 kaK y0 y1 h0 n0 v U'.heap L ∧ FrameEnd U o U' L ({ frames := 1, cells := 0, slots := 0, locals := 18 } : Room).cells ({ frames := 1, cells := 0, slots := 0, locals := 18 } : Room).slots) := by
  refine MetFree.of_bodySF (plainFor_of_name own_pn2) hisR ?_
  intro p e s m args below meth c s₁ Bd hml hP hK
  obtain ⟨rfl, hZ, hh⟩ := hP
  have hx := Bd.exec
  have hlk := Bd.notSynchronized
  have hby := Bd.bytes
  have hret := Bd.returns
  have hown := findClass_of_methodNamed Bd.named
  have hnm := (name_of_methodNamed Bd.named Bd.method).1
  have X0 : Stand p l e ({ frames := 1, cells := 0, slots := 0, locals := 18 } : Room) s m #[(.ref a), (.int hk)] below meth c s₁ [] 0 0 := Stand.of_body Bd
  have e0 : s₁.heap = h0 := by rw [← hh, Bd.state]; rfl
  have N0 := Fr.nil n0
  refine own_cast (own_efappB2 m a hk) ?_
  show own_Go p e below s s₁ _ (own_QappB2 Z a hk aL aS aM aW aH aP aQ aK ho kaP q0 q1 q2 q3 kaK y0 y1 h0 n0) 0 0
  have K0 : Keep h0 h0 [a, aP, aQ] := Keep.refl _ _
  refine own_st (g' := (mkF m 1 #[rv a, iv hk, .unset, .unset, .unset] [(.ref a)])) (fun tt_ kk_ => XS.aloadN X0.here hx rfl (hb hby own_d14_0) rfl rfl kk_) ?_
  refine own_gG X0 hx hZ hown (own_w hw 92 rfl) e0 F_size_a rfl rfl (hb hby own_d14_1) (fun {T389} X389 e389 => ?_)
  refine own_st (g' := (mkF m 20 #[rv a, iv hk, .unset, .unset, .unset] [(.ref a)])) (fun tt_ kk_ => X389.ldcInt hx hown (mvT hZ (own_w hw 94 rfl)) (g := (mkF m 4 #[rv a, iv hk, .unset, .unset, .unset] [(.int 1)])) rfl (hb hby own_d14_4) _ (XS.icmpYes X389.here hx rfl (pc0 := 6) (pc' := 19) rfl (hb hby own_d14_6) rfl (feq (by decide : ¬ ((1 : Int32) = (2147483646 : Int32)))).2 (by decide) (by decide) (XS.aloadN X389.here hx rfl (hb hby own_d14_19) rfl rfl kk_))) ?_
  refine own_gG X389 hx hZ hown (own_w hw 92 rfl) e389 F_size_a rfl rfl (hb hby own_d14_20) (fun {T390} X390 e390 => ?_)
  refine own_st (g' := (mkF m 27 #[rv a, iv hk, .unset, .unset, .unset] [(.ref a), (.long ((2 : Int32).toInt64))])) (fun tt_ kk_ => XS.iconst X390.here hx rfl (hb hby own_d14_23) (XS.iadd X390.here hx rfl (hb hby own_d14_24) rfl (XS.i2l X390.here hx rfl (hb hby own_d14_25) rfl (XS.aloadN X390.here hx rfl (hb hby own_d14_26) rfl rfl kk_)))) ?_
  refine own_gG X390 hx hZ hown (own_w hw 49 rfl) e390 F_wordCount_a rfl rfl (hb hby own_d14_27) (fun {T391} X391 e391 => ?_)
  refine own_st (g' := (mkF m 35 #[rv a, iv hk, .val (.long (((2 : Int32).toInt64) * ((2 : Int32).toInt64))), .second, .unset] [(.ref a), (.long (((2 : Int32).toInt64) * ((2 : Int32).toInt64)))])) (fun tt_ kk_ => XS.i2l X391.here hx rfl (hb hby own_d14_30) rfl (XS.lmul X391.here hx rfl (hb hby own_d14_31) rfl (XS.lstoreN X391.here hx rfl (hb hby own_d14_32) rfl (l' := #[rv a, iv hk, .val (.long (((2 : Int32).toInt64) * ((2 : Int32).toInt64))), .second, .unset]) rfl (XS.lloadN X391.here hx rfl (hb hby own_d14_33) rfl (XS.aloadN X391.here hx rfl (hb hby own_d14_34) rfl rfl kk_))))) ?_
  refine own_gG X391 hx hZ hown (own_w hw 56 rfl) e391 F_packed_a rfl rfl (hb hby own_d14_35) (fun {T392} X392 e392 => ?_)
  refine own_st (g' := (mkF m 41 #[rv a, iv hk, .val (.long (((2 : Int32).toInt64) * ((2 : Int32).toInt64))), .second, .unset] [(.int (lcmpW (((2 : Int32).toInt64) * ((2 : Int32).toInt64)) ((2048 : Int32).toInt64)))])) (fun tt_ kk_ => own_lnV (g := (mkF m 38 #[rv a, iv hk, .val (.long (((2 : Int32).toInt64) * ((2 : Int32).toInt64))), .second, .unset] [(.ref aP), (.long (((2 : Int32).toInt64) * ((2 : Int32).toInt64)))])) X392 hx hZ e392 V_aP rfl rfl (hb hby own_d14_38) tt_ (XS.i2l X392.here hx rfl (hb hby own_d14_39) rfl (XS.lcmp X392.here hx rfl (hb hby own_d14_40) rfl kk_))) ?_
  refine own_st (g' := (mkF m 77 #[rv a, iv hk, .val (.long (((2 : Int32).toInt64) * ((2 : Int32).toInt64))), .second, .unset] [(.ref a)])) (fun tt_ kk_ => XS.ifYes X392.here hx rfl (pc0 := 41) (pc' := 76) rfl (hb hby own_d14_41) rfl ((if0 _ _).trans (flt (by decide +kernel : ¬ ((0 : Int32) < (lcmpW (((2 : Int32).toInt64) * ((2 : Int32).toInt64)) ((2048 : Int32).toInt64))))).2.2.2) (by decide) (by decide) (XS.aloadN X392.here hx rfl (hb hby own_d14_76) rfl rfl kk_)) ?_
  refine own_gG X392 hx hZ hown (own_w hw 63 rfl) e392 F_key_a rfl rfl (hb hby own_d14_77) (fun {T393} X393 e393 => ?_)
  refine own_st (g' := (mkF m 82 #[rv a, iv hk, .val (.long (((2 : Int32).toInt64) * ((2 : Int32).toInt64))), .second, .unset] [(.ref a), (.int 0), (.ref aK)])) (fun tt_ kk_ => XS.iconst X393.here hx rfl (hb hby own_d14_80) (XS.aloadN X393.here hx rfl (hb hby own_d14_81) rfl rfl kk_)) ?_
  refine own_gG X393 hx hZ hown (own_w hw 56 rfl) e393 F_packed_a rfl rfl (hb hby own_d14_82) (fun {T394} X394 e394 => ?_)
  refine own_st (g' := (mkF m 86 #[rv a, iv hk, .val (.long (((2 : Int32).toInt64) * ((2 : Int32).toInt64))), .second, .unset] [(.ref a), (.ref aP), (.int 0), (.ref aK)])) (fun tt_ kk_ => XS.aloadN X394.here hx rfl (hb hby own_d14_85) rfl rfl kk_) ?_
  refine own_gG X394 hx hZ hown (own_w hw 92 rfl) e394 F_size_a rfl rfl (hb hby own_d14_86) (fun {T395} X395 e395 => ?_)
  refine own_st (g' := (mkF m 90 #[rv a, iv hk, .val (.long (((2 : Int32).toInt64) * ((2 : Int32).toInt64))), .second, .unset] [(.ref a), (.int 1), (.ref aP), (.int 0), (.ref aK)])) (fun tt_ kk_ => XS.aloadN X395.here hx rfl (hb hby own_d14_89) rfl rfl kk_) ?_
  refine own_gG X395 hx hZ hown (own_w hw 49 rfl) e395 F_wordCount_a rfl rfl (hb hby own_d14_90) (fun {T396} X396 e396 => ?_)
  refine own_st (g' := (mkF m 95 #[rv a, iv hk, .val (.long (((2 : Int32).toInt64) * ((2 : Int32).toInt64))), .second, .unset] [(.ref a), (.int 2), (.ref aP), (.int 0), (.ref aK)])) (fun tt_ kk_ => XS.imul X396.here hx rfl (hb hby own_d14_93) rfl (XS.aloadN X396.here hx rfl (hb hby own_d14_94) rfl rfl kk_)) ?_
  refine own_gG X396 hx hZ hown (own_w hw 49 rfl) e396 F_wordCount_a rfl rfl (hb hby own_d14_95) (fun {T397} X397 e397 => ?_)
  obtain ⟨T398, h398, L398, X398, e398, N398, K398q, V398q, st398⟩ := cpA X397 hx hZ hown (own_w hw 95 rfl) (own_w hw 98 rfl) (own_w hw 96 rfl) (own_w hw 97 rfl) e397 V_aK V_aP (us := [(.long y0), (.long y1)]) (Or.inl ⟨rfl, rfl⟩) (by decide) (by decide) (by decide) (by decide) (by decide) rfl (Nat.le_of_ble_eq_true rfl) N0 g_aP (g := (mkF m 98 #[rv a, iv hk, .val (.long (((2 : Int32).toInt64) * ((2 : Int32).toInt64))), .second, .unset] [(.int 2), (.int 2), (.ref aP), (.int 0), (.ref aK)])) rfl (by rw [hml]; rfl) rfl (hb hby own_d14_98) (by decide) (W := 0) (by show 2 * 0 + _ ≤ _; exact Nat.le_of_eq rfl) (by decide)
  have Z398 : n0 ≤ h398.size := Nat.le_trans Z0 K398q.1
  have K398 : Keep h0 h398 [a, aP, aQ] := K0.trans K398q (allS (P := fun x => x ∈ [a, aP, aQ] ∨ h0.size ≤ x) (Or.inl (List.mem_of_getElem? (i := 1) rfl)) all0)
  have V398 : Arv Z h398 aP kaP .long (2048 : Int32) [(.long q0), (.long q1), (.long y0), (.long y1)] (.long 0) := V398q
  refine own_st st398 ?_
  refine own_st (g' := (mkF m 102 #[rv a, iv hk, .val (.long (((2 : Int32).toInt64) * ((2 : Int32).toInt64))), .second, .unset] [(.ref a)])) (fun tt_ kk_ => XS.aloadN X398.here hx rfl (hb hby own_d14_101) rfl rfl kk_) ?_
  have F400 := (F_size_a.keep K398q (ninS ne_a_aP nin0))
  refine own_gG X398 hx hZ hown (own_w hw 92 rfl) e398 F400 rfl rfl (hb hby own_d14_102) (fun {T399} X399 e399 => ?_)
  refine own_st (g' := (mkF m 109 #[rv a, iv hk, .val (.long (((2 : Int32).toInt64) * ((2 : Int32).toInt64))), .second, iv 1] [(.ref a), (.ref a)])) (fun tt_ kk_ => XS.istore X399.here hx rfl (hb hby own_d14_105) rfl (l' := #[rv a, iv hk, .val (.long (((2 : Int32).toInt64) * ((2 : Int32).toInt64))), .second, iv 1]) rfl (XS.aloadN X399.here hx rfl (hb hby own_d14_107) rfl rfl (XS.dup X399.here hx rfl (hb hby own_d14_108) rfl rfl kk_))) ?_
  refine own_gG X399 hx hZ hown (own_w hw 92 rfl) e399 F400 rfl rfl (hb hby own_d14_109) (fun {T401} X401 e401 => ?_)
  refine own_st (g' := (mkF m 114 #[rv a, iv hk, .val (.long (((2 : Int32).toInt64) * ((2 : Int32).toInt64))), .second, iv 1] [(.int 2), (.ref a)])) (fun tt_ kk_ => XS.iconst X401.here hx rfl (hb hby own_d14_112) (XS.iadd X401.here hx rfl (hb hby own_d14_113) rfl kk_)) ?_
  have F403 := (E_a.keep K398q)
  obtain ⟨T402, h402, X402, e402, W402, st402⟩ := putF X401 hx hZ hown (host := "") (Or.inl (own_w hw 92 rfl)) Via.refl e401 F400 F403 (Or.inl (own_w hw 93 rfl)) (own_w hw 12 rfl) (ty := .int) (by decide) rfl rfl (g := (mkF m 114 #[rv a, iv hk, .val (.long (((2 : Int32).toInt64) * ((2 : Int32).toInt64))), .second, iv 1] [(.int 2), (.ref a)])) rfl rfl (hb hby own_d14_114)
  have N402 := Fr.snoc X402 N398 g_a
  have Z402 : n0 ≤ h402.size := Nat.le_trans Z398 (Keep.of_wr W402).1
  have K402 : Keep h0 h402 [a, aP, aQ] := K398.wr W402 (Or.inl (List.mem_of_getElem? (i := 0) rfl))
  have F402 : Fld Z h402 a own_z0 "size" "I" (.int 2) := F400.same W402
  refine own_st st402 ?_
  refine own_st (g' := (mkF m 118 #[rv a, iv hk, .val (.long (((2 : Int32).toInt64) * ((2 : Int32).toInt64))), .second, iv 1] [(.ref a)])) (fun tt_ kk_ => XS.aloadN X402.here hx rfl (hb hby own_d14_117) rfl rfl kk_) ?_
  refine own_gG X402 hx hZ hown (own_w hw 92 rfl) e402 F402 rfl rfl (hb hby own_d14_118) (fun {T404} X404 e404 => ?_)
  refine own_st (g' := (mkF m 122 #[rv a, iv hk, .val (.long (((2 : Int32).toInt64) * ((2 : Int32).toInt64))), .second, iv 1] [(.ref a), (.int 2)])) (fun tt_ kk_ => XS.aloadN X404.here hx rfl (hb hby own_d14_121) rfl rfl kk_) ?_
  have F406 := ((F_slots_a.keep K398q (ninS ne_a_aP nin0)).other W402 (Or.inr (own_sn0 hw)))
  refine own_gG X404 hx hZ hown (own_w hw 61 rfl) e404 F406 rfl rfl (hb hby own_d14_122) (fun {T405} X405 e405 => ?_)
  have F407 := ((P_aQ.keep K398q (ninS (Ne.symm ne_aP_aQ) nin0)).other W402 (Ne.symm ne_a_aQ))
  refine own_st (g' := (mkF m 130 #[rv a, iv hk, .val (.long (((2 : Int32).toInt64) * ((2 : Int32).toInt64))), .second, iv 1] [(.int (((1024 : Int32) / (4 : Int32)) * (3 : Int32))), (.int 2)])) (fun tt_ kk_ => own_lenI (g := (mkF m 125 #[rv a, iv hk, .val (.long (((2 : Int32).toInt64) * ((2 : Int32).toInt64))), .second, iv 1] [(.ref aQ), (.int 2)])) X405 hx hZ e405 F407 (z := (1024 : Int32)) rfl rfl rfl (hb hby own_d14_125) tt_ (XS.iconst X405.here hx rfl (hb hby own_d14_126) (XS.idiv X405.here hx rfl (hb hby own_d14_127) rfl (by decide) (XS.iconst X405.here hx rfl (hb hby own_d14_128) (XS.imul X405.here hx rfl (hb hby own_d14_129) rfl kk_))))) ?_
  refine own_st (g' := (mkF m 151 #[rv a, iv hk, .val (.long (((2 : Int32).toInt64) * ((2 : Int32).toInt64))), .second, iv 1] [(.ref a), (.int hk), (.int 1)])) (fun tt_ kk_ => XS.icmpYes X405.here hx rfl (pc0 := 130) (pc' := 147) rfl (hb hby own_d14_130) rfl (flt (by decide +kernel : ¬ ((((1024 : Int32) / (4 : Int32)) * (3 : Int32)) < (2 : Int32)))).2.2.2 (by decide) (by decide) (XS.iload X405.here hx rfl (hb hby own_d14_147) rfl (XS.iloadN X405.here hx rfl (hb hby own_d14_149) rfl (XS.aloadN X405.here hx rfl (hb hby own_d14_150) rfl rfl kk_)))) ?_
  refine own_gG X405 hx hZ hown (own_w hw 61 rfl) e405 F406 rfl rfl (hb hby own_d14_151) (fun {T408} X408 e408 => ?_)
  obtain ⟨_, _, ⟨T409, L409, k409, n409⟩, -, X409, ⟨Lc409, hQ409, l409, y409, z409⟩, st409⟩ := Jvm.LawKit.callS X408 hx (y := (⟨own_z0, "place", "(II[I)V"⟩ : MethodName)) hown (mvT hZ (own_w hw 99 rfl)) (mvT hZ (own_w hw 100 rfl)) (mvT hZ (own_w hw 13 rfl)) (mvT hZ (own_w hw 101 rfl)) (by decide) (backOf (W := 0) (own_rmpl2 l Z a0 hw [] hk aQ ho h402 n0 Z402 F407 g_aQ) hZ (own_w hw 101 rfl) (own_w hw 13 rfl) (by decide) (by decide)) (g := (mkF m 154 #[rv a, iv hk, .val (.long (((2 : Int32).toInt64) * ((2 : Int32).toInt64))), .second, iv 1] [(.ref aQ), (.int hk), (.int 1)])) rfl (by rw [hml]; rfl) (argsL := [(.int 1), (.int hk), (.ref aQ)]) (rest := []) (lenOf own_pd5 rfl) rfl (by show 2 * 0 + _ ≤ _; exact Nat.le_of_eq rfl) (hb hby own_d14_154) (fun _ _ => ⟨rfl, e408, (by decide : 0 + 0 ≤ _), (by decide : 0 + 0 ≤ _)⟩)
  dsimp only [Pt.U, Pt.locs, Pt.cells, Pt.slots] at X409 l409 y409 z409 st409 hQ409
  rw [l409, y409, z409] at X409
  obtain ⟨rfl, N409q, K409q⟩ := hQ409
  obtain ⟨h409, e409⟩ : ∃ z, T409.heap = z := ⟨_, rfl⟩
  rw [e409] at K409q
  have Z409 : n0 ≤ h409.size := Nat.le_trans Z402 K409q.1
  have K409 : Keep h0 h409 [a, aP, aQ] := K402.trans K409q (allS (P := fun x => x ∈ [a, aP, aQ] ∨ h0.size ≤ x) (Or.inl (List.mem_of_getElem? (i := 2) rfl)) all0)
  have N409 := Fr.app N402 N409q
  refine own_st st409 ?_
  refine own_st (g' := (mkF m 159 #[rv a, iv hk, .val (.long (((2 : Int32).toInt64) * ((2 : Int32).toInt64))), .second, iv 1] [(.int 1)])) (fun tt_ kk_ => XS.iload X409.here hx rfl (hb hby own_d14_157) rfl kk_) ?_
  have F410 := (((F_lows_a.keep K398q (ninS ne_a_aP nin0)).other W402 (Or.inr (own_sn1 hw))).keep K409q (ninS ne_a_aQ nin0))
  have F411 := (((F_spans_a.keep K398q (ninS ne_a_aP nin0)).other W402 (Or.inr (own_sn2 hw))).keep K409q (ninS ne_a_aQ nin0))
  have F412 := (((F_masks_a.keep K398q (ninS ne_a_aP nin0)).other W402 (Or.inr (own_sn3 hw))).keep K409q (ninS ne_a_aQ nin0))
  have F413 := (((F_words_a.keep K398q (ninS ne_a_aP nin0)).other W402 (Or.inr (own_sn4 hw))).keep K409q (ninS ne_a_aQ nin0))
  have F414 := (((F_shifts_a.keep K398q (ninS ne_a_aP nin0)).other W402 (Or.inr (own_sn5 hw))).keep K409q (ninS ne_a_aQ nin0))
  have F415 := (((F_packed_a.keep K398q (ninS ne_a_aP nin0)).other W402 (Or.inr (own_sn6 hw))).keep K409q (ninS ne_a_aQ nin0))
  have F416 := (F406.keep K409q (ninS ne_a_aQ nin0))
  have F417 := (((F_key_a.keep K398q (ninS ne_a_aP nin0)).other W402 (Or.inr (own_sn7 hw))).keep K409q (ninS ne_a_aQ nin0))
  have F418 := (((F_wordCount_a.keep K398q (ninS ne_a_aP nin0)).other W402 (Or.inr (own_sn8 hw))).keep K409q (ninS ne_a_aQ nin0))
  have F419 := (F402.keep K409q (ninS ne_a_aQ nin0))
  have F420 := ((V398.other W402 (Ne.symm ne_a_aP)).keep K409q (ninS ne_aP_aQ nin0))
  exact own_retI X409 hx hlk hret (hb hby own_d14_159) (by decide) (by decide) (by rw [e409]; exact ⟨rfl, N409, K409, F410, F411, F412, F413, F414, F415, F416, F417, F418, F419, F420⟩)
def own_QaddB1 (Z : State) (a : Addr) (st : Addr) (aL : Addr) (aS : Addr) (aM : Addr) (aW : Addr) (aH : Addr) (aP : Addr) (aQ : Addr) (aK : Addr) (kaL : ClassId) (l0 : Int32) (l1 : Int32) (l2 : Int32) (kaS : ClassId) (sp0 : Int64) (sp1 : Int64) (sp2 : Int64) (kaW : ClassId) (kaH : ClassId) (s0 : Int32) (s1 : Int32) (s2 : Int32) (kst : ClassId) (v0 : Int32) (v1 : Int32) (v2 : Int32) (kaK : ClassId) (y0 : Int64) (y1 : Int64) (kaP : ClassId) (q0 : Int64) (q1 : Int64) (q2 : Int64) (q3 : Int64) (h0 : Heap) (n0 : Nat) (v : Option Value) (h : Heap) (L : List Loc) : Prop := ∃ (hz : Int32), v = some (.int 0) ∧ Fr n0 L ∧ Keep h0 h [a, aK, aP, aQ] ∧ Fld Z h a own_z0 "lows" "[I" (.ref aL) ∧ Fld Z h a own_z0 "spans" "[J" (.ref aS) ∧ Fld Z h a own_z0 "masks" "[J" (.ref aM) ∧ Fld Z h a own_z0 "words" "[I" (.ref aW) ∧ Fld Z h a own_z0 "shifts" "[I" (.ref aH) ∧ Fld Z h a own_z0 "packed" "[J" (.ref aP) ∧ Fld Z h a own_z0 "slots" "[I" (.ref aQ) ∧ Fld Z h a own_z0 "key" "[J" (.ref aK) ∧ Fld Z h a own_z0 "wordCount" "I" (.int 2) ∧ Fld Z h a own_z0 "size" "I" (.int 1) ∧ Arv Z h aK kaK .long (2 : Int32) [(.long (own_kB v0 v1 l0 l1 s0 s1)), (.long (own_kC v2 l2 s2))] (.long 0) ∧ Arv Z h aP kaP .long (2048 : Int32) [(.long (own_kB v0 v1 l0 l1 s0 s1)), (.long (own_kC v2 l2 s2)), (.long q2), (.long q3)] (.long 0) ∧ own_AI Z h aQ 1024 (own_sl hz)
theorem own_efaddB1 (m : MethodId) (a : Addr) (st : Addr) : entryFrame m #[(.ref a), (.ref st)] 4 = mkF m 0 #[rv a, rv st, .unset, .unset] [] := by first | (simp [entryFrame, mkF, argsToLocals, Value.category]; done) | rfl
set_option maxRecDepth 65536 in
set_option maxHeartbeats 16000000 in
theorem own_rmaddB1 (l : Launch) (Z : State) (a0 : Array Value) (hw : own_HW Z a0) (ws : List Jvm.Cond) (a : Addr) (st : Addr) (aL : Addr) (aS : Addr) (aM : Addr) (aW : Addr) (aH : Addr) (aP : Addr) (aQ : Addr) (aK : Addr) (kaL : ClassId) (l0 : Int32) (l1 : Int32) (l2 : Int32) (kaS : ClassId) (sp0 : Int64) (sp1 : Int64) (sp2 : Int64) (kaW : ClassId) (kaH : ClassId) (s0 : Int32) (s1 : Int32) (s2 : Int32) (kst : ClassId) (v0 : Int32) (v1 : Int32) (v2 : Int32) (kaK : ClassId) (y0 : Int64) (y1 : Int64) (kaP : ClassId) (q0 : Int64) (q1 : Int64) (q2 : Int64) (q3 : Int64) (h0 : Heap) (n0 : Nat) (Z0 : n0 ≤ h0.size) (E_a : Exa Z h0 a own_z0) (F_lows_a : Fld Z h0 a own_z0 "lows" "[I" (.ref aL)) (F_spans_a : Fld Z h0 a own_z0 "spans" "[J" (.ref aS)) (F_masks_a : Fld Z h0 a own_z0 "masks" "[J" (.ref aM)) (F_words_a : Fld Z h0 a own_z0 "words" "[I" (.ref aW)) (F_shifts_a : Fld Z h0 a own_z0 "shifts" "[I" (.ref aH)) (F_packed_a : Fld Z h0 a own_z0 "packed" "[J" (.ref aP)) (F_slots_a : Fld Z h0 a own_z0 "slots" "[I" (.ref aQ)) (F_key_a : Fld Z h0 a own_z0 "key" "[J" (.ref aK)) (F_wordCount_a : Fld Z h0 a own_z0 "wordCount" "I" (.int 2)) (F_size_a : Fld Z h0 a own_z0 "size" "I" (.int 0)) (V_aL : Arv Z h0 aL kaL .int (3 : Int32) [(.int l0), (.int l1), (.int l2)] (.int 0)) (V_aS : Arv Z h0 aS kaS .long (3 : Int32) [(.long sp0), (.long sp1), (.long sp2)] (.long 0)) (V_aW : Arv Z h0 aW kaW .int (3 : Int32) [(.int 0), (.int 0), (.int 1)] (.int 0)) (V_aH : Arv Z h0 aH kaH .int (3 : Int32) [(.int s0), (.int s1), (.int s2)] (.int 0)) (V_st : Arv Z h0 st kst .int (3 : Int32) [(.int v0), (.int v1), (.int v2)] (.int 0)) (V_aK : Arv Z h0 aK kaK .long (2 : Int32) [(.long y0), (.long y1)] (.long 0)) (V_aP : Arv Z h0 aP kaP .long (2048 : Int32) [(.long q0), (.long q1), (.long q2), (.long q3)] (.long 0)) (P_aQ : own_AI Z h0 aQ 1024 (fun _ => 0)) (hA0 : ¬ ((lcmpW ((v0.toInt64) - (l0.toInt64)) (0 : Int64)) < (0 : Int32))) (hB0 : (lcmpW ((v0.toInt64) - (l0.toInt64)) sp0) < (0 : Int32)) (hA1 : ¬ ((lcmpW ((v1.toInt64) - (l1.toInt64)) (0 : Int64)) < (0 : Int32))) (hB1 : (lcmpW ((v1.toInt64) - (l1.toInt64)) sp1) < (0 : Int32)) (hA2 : ¬ ((lcmpW ((v2.toInt64) - (l2.toInt64)) (0 : Int64)) < (0 : Int32))) (hB2 : (lcmpW ((v2.toInt64) - (l2.toInt64)) sp2) < (0 : Int32)) (ne_a_aK : a ≠ aK) (ne_a_aP : a ≠ aP) (ne_a_aQ : a ≠ aQ) (ne_aL_aK : aL ≠ aK) (ne_aS_aK : aS ≠ aK) (ne_aW_aK : aW ≠ aK) (ne_aH_aK : aH ≠ aK) (ne_st_aK : st ≠ aK) (ne_aP_aK : aP ≠ aK) (ne_aQ_aK : aQ ≠ aK) (ne_aP_aQ : aP ≠ aQ) (g_a : n0 ≤ a) (g_aK : n0 ≤ aK) (g_aP : n0 ≤ aP) (g_aQ : n0 ≤ aQ) :
    MetFree l (⟨own_z0, "add", "([I)I"⟩ : MethodName) (head1 (Jvm.Cond.code (⟨own_z0, "add", "([I)I"⟩ : MethodName) prog_160_method_6_code 4 (some .int) :: ws) ({ frames := 2, cells := 0, slots := 0, locals := 34 } : Room)) (fun aa UU => aa = #[(.ref a), (.ref st)] ∧ Z.Warmed39 UU.vm ∧ UU.heap = h0) (fun _ _ _ _ _ => True) (fun _ U o U' => ∃ v L, o = .returned v ∧ own_QaddB1 Z a st aL aS aM aW aH aP aQ aK kaL l0 l1 l2 kaS sp0 sp1 sp2 kaW kaH s0 s1 s2 kst v0 v1 v2 kaK y0 y1 kaP q0 q1 q2 q3 h0 n0 v U'.heap L ∧ FrameEnd U o U' L ({ frames := 2, cells := 0, slots := 0, locals := 34 } : Room).cells ({ frames := 2, cells := 0, slots := 0, locals := 34 } : Room).slots) := by
  refine MetFree.of_bodySF (plainFor_of_name own_pn2) hisR ?_
  intro p e s m args below meth c s₁ Bd hml hP hK
  obtain ⟨rfl, hZ, hh⟩ := hP
  have hx := Bd.exec
  have hlk := Bd.notSynchronized
  have hby := Bd.bytes
  have hret := Bd.returns
  have hown := findClass_of_methodNamed Bd.named
  have hnm := (name_of_methodNamed Bd.named Bd.method).1
  have X0 : Stand p l e ({ frames := 2, cells := 0, slots := 0, locals := 34 } : Room) s m #[(.ref a), (.ref st)] below meth c s₁ [] 0 0 := Stand.of_body Bd
  have e0 : s₁.heap = h0 := by rw [← hh, Bd.state]; rfl
  have N0 := Fr.nil n0
  refine own_cast (own_efaddB1 m a st) ?_
  show own_Go p e below s s₁ _ (own_QaddB1 Z a st aL aS aM aW aH aP aQ aK kaL l0 l1 l2 kaS sp0 sp1 sp2 kaW kaH s0 s1 s2 kst v0 v1 v2 kaK y0 y1 kaP q0 q1 q2 q3 h0 n0) 0 0
  have K0 : Keep h0 h0 [a, aK, aP, aQ] := Keep.refl _ _
  refine own_st (g' := (mkF m 2 #[rv a, rv st, .unset, .unset] [(.ref st), (.ref a)])) (fun tt_ kk_ => XS.aloadN X0.here hx rfl (hb hby own_d9_0) rfl rfl (XS.aloadN X0.here hx rfl (hb hby own_d9_1) rfl rfl kk_)) ?_
  obtain ⟨cq421, q421, q421'⟩ := E_a.cell
  obtain ⟨_, _, ⟨T421, L421, k421, n421⟩, -, X421, ⟨Lc421, hQ421, l421, y421, z421⟩, st421⟩ := X0.privateBack hx (y := (⟨own_z0, "pack", "([I)V"⟩ : MethodName)) hown (mvT hZ (own_w hw 70 rfl)) (mvT hZ (own_w hw 71 rfl)) (own_sel (mvT hZ (own_w hw 71 rfl)) (mvP hZ (own_w hw 72 rfl)) (mvT hZ (own_w hw 12 rfl)) (by decide)) (Cond.privateMethod_at (mvP hZ (own_w hw 72 rfl) (args := #[]))) (mvT hZ (own_w hw 73 rfl)) (by decide) (backOf (W := 0) (own_rmpakB l Z a0 hw [] a st aL aS aW aH aK kaL l0 l1 l2 kaS sp0 sp1 sp2 kaW kaH s0 s1 s2 kst v0 v1 v2 kaK y0 y1 h0 n0 Z0 E_a F_lows_a F_spans_a F_words_a F_shifts_a F_key_a V_aL V_aS V_aW V_aH V_st V_aK hA0 hB0 hA1 hB1 hA2 hB2 ne_a_aK ne_aL_aK ne_aS_aK ne_aW_aK ne_aH_aK ne_st_aK g_aK) hZ (own_w hw 73 rfl) (own_w hw 13 rfl) (by decide) (by decide)) (g := (mkF m 2 #[rv a, rv st, .unset, .unset] [(.ref st), (.ref a)])) rfl (by rw [hml]; rfl) (Steps.refl _) (a := a) (by rw [e0]; exact q421) q421' (argsL := [(.ref st)]) (rest := []) (lenOf own_pd6 rfl) rfl (by show 2 * 0 + _ ≤ _; exact Nat.le_of_eq rfl) (hb hby own_d9_2) (fun _ _ => ⟨rfl, e0, (by decide : 0 + 0 ≤ _), (by decide : 0 + 0 ≤ _)⟩)
  dsimp only [Pt.U, Pt.locs, Pt.cells, Pt.slots] at X421 l421 y421 z421 st421 hQ421
  rw [l421, y421, z421] at X421
  obtain ⟨rfl, N421q, K421q, f421_0⟩ := hQ421
  obtain ⟨h421, e421⟩ : ∃ z, T421.heap = z := ⟨_, rfl⟩
  rw [e421] at K421q f421_0
  have Z421 : n0 ≤ h421.size := Nat.le_trans Z0 K421q.1
  have K421 : Keep h0 h421 [a, aK, aP, aQ] := K0.trans K421q (allS (P := fun x => x ∈ [a, aK, aP, aQ] ∨ h0.size ≤ x) (Or.inl (List.mem_of_getElem? (i := 1) rfl)) all0)
  have N421 := Fr.app N0 N421q
  refine own_st (fun t k => st421.trans k) ?_
  refine own_st (g' := (mkF m 7 #[rv a, rv st, .unset, .unset] [(.ref a), (.ref a)])) (fun tt_ kk_ => XS.aloadN X421.here hx rfl (hb hby own_d9_5) rfl rfl (XS.aloadN X421.here hx rfl (hb hby own_d9_6) rfl rfl kk_)) ?_
  have F423 := (F_key_a.keep K421q (ninS ne_a_aK nin0))
  refine own_gG X421 hx hZ hown (own_w hw 63 rfl) e421 F423 rfl rfl (hb hby own_d9_7) (fun {T422} X422 e422 => ?_)
  refine own_st (g' := (mkF m 11 #[rv a, rv st, .unset, .unset] [(.int 0), (.ref aK), (.ref a)])) (fun tt_ kk_ => XS.iconst X422.here hx rfl (hb hby own_d9_10) kk_) ?_
  have F424 := (E_a.keep K421q)
  have F425 := (F_wordCount_a.keep K421q (ninS ne_a_aK nin0))
  obtain ⟨cq426, q426, q426'⟩ := F424.cell
  obtain ⟨_, _, ⟨T426, L426, k426, n426⟩, -, X426, ⟨Lc426, hQ426, l426, y426, z426⟩, st426⟩ := X422.privateBack hx (y := (⟨own_z0, "hash", "([JI)I"⟩ : MethodName)) hown (mvT hZ (own_w hw 78 rfl)) (mvT hZ (own_w hw 79 rfl)) (own_sel (mvT hZ (own_w hw 79 rfl)) (mvP hZ (own_w hw 80 rfl)) (mvT hZ (own_w hw 12 rfl)) (by decide)) (Cond.privateMethod_at (mvP hZ (own_w hw 80 rfl) (args := #[]))) (mvT hZ (own_w hw 81 rfl)) (by decide) (backOf (W := 0) (own_rmhasB l Z a0 hw [] a aK kaK (own_kB v0 v1 l0 l1 s0 s1) (own_kC v2 l2 s2) h421 n0 Z421 F425 f421_0) hZ (own_w hw 81 rfl) (own_w hw 13 rfl) (by decide) (by decide)) (g := (mkF m 11 #[rv a, rv st, .unset, .unset] [(.int 0), (.ref aK), (.ref a)])) rfl (by rw [hml]; rfl) (Steps.refl _) (a := a) (by rw [e422]; exact q426) q426' (argsL := [(.ref aK), (.int 0)]) (rest := []) (lenOf own_pd7 rfl) rfl (by show 2 * 0 + _ ≤ _; exact Nat.le_of_eq rfl) (hb hby own_d9_11) (fun _ _ => ⟨rfl, e422, (by decide : 0 + 0 ≤ _), (by decide : 0 + 0 ≤ _)⟩)
  dsimp only [Pt.U, Pt.locs, Pt.cells, Pt.slots] at X426 l426 y426 z426 st426 hQ426
  rw [l426, y426, z426] at X426
  obtain ⟨hz_426, rfl, N426q, e426⟩ := hQ426
  have N426 := Fr.app N421 N426q
  refine own_st (fun t k => st426.trans k) ?_
  refine own_st (g' := (mkF m 17 #[rv a, rv st, iv hz_426, .unset] [(.int hz_426), (.ref a)])) (fun tt_ kk_ => XS.istoreN X426.here hx rfl (hb hby own_d9_14) rfl (l' := #[rv a, rv st, iv hz_426, .unset]) rfl (XS.aloadN X426.here hx rfl (hb hby own_d9_15) rfl rfl (XS.iloadN X426.here hx rfl (hb hby own_d9_16) rfl kk_))) ?_
  have F427 := (F_slots_a.keep K421q (ninS ne_a_aK nin0))
  have F428 := (P_aQ.keep K421q (ninS ne_aQ_aK nin0))
  obtain ⟨cq429, q429, q429'⟩ := F424.cell
  obtain ⟨_, _, ⟨T429, L429, k429, n429⟩, -, X429, ⟨Lc429, hQ429, l429, y429, z429⟩, st429⟩ := X426.privateBack hx (y := (⟨own_z0, "lookUp", "(I)I"⟩ : MethodName)) hown (mvT hZ (own_w hw 84 rfl)) (mvT hZ (own_w hw 85 rfl)) (own_sel (mvT hZ (own_w hw 85 rfl)) (mvP hZ (own_w hw 86 rfl)) (mvT hZ (own_w hw 12 rfl)) (by decide)) (Cond.privateMethod_at (mvP hZ (own_w hw 86 rfl) (args := #[]))) (mvT hZ (own_w hw 87 rfl)) (by decide) (backOf (W := 0) (own_rmlk1 l Z a0 hw [] a hz_426 aQ h421 n0 Z421 F427 F428) hZ (own_w hw 87 rfl) (own_w hw 13 rfl) (by decide) (by decide)) (g := (mkF m 17 #[rv a, rv st, iv hz_426, .unset] [(.int hz_426), (.ref a)])) rfl (by rw [hml]; rfl) (Steps.refl _) (a := a) (by rw [e426]; exact q429) q429' (argsL := [(.int hz_426)]) (rest := []) (lenOf own_pd0 rfl) rfl (by show 2 * 0 + _ ≤ _; exact Nat.le_of_eq rfl) (hb hby own_d9_17) (fun _ _ => ⟨rfl, e426, (by decide : 0 + 0 ≤ _), (by decide : 0 + 0 ≤ _)⟩)
  dsimp only [Pt.U, Pt.locs, Pt.cells, Pt.slots] at X429 l429 y429 z429 st429 hQ429
  rw [l429, y429, z429] at X429
  obtain ⟨rfl, N429q, e429⟩ := hQ429
  have N429 := Fr.app N426 N429q
  refine own_st (fun t k => st429.trans k) ?_
  refine own_st (g' := (mkF m 27 #[rv a, rv st, iv hz_426, iv (-1)] [(.int hz_426), (.ref a)])) (fun tt_ kk_ => XS.istoreN X429.here hx rfl (hb hby own_d9_20) rfl (l' := #[rv a, rv st, iv hz_426, iv (-1)]) rfl (XS.iloadN X429.here hx rfl (hb hby own_d9_21) rfl (XS.ifNo X429.here hx rfl (hb hby own_d9_22) rfl ((if0 _ _).trans (tlt (by decide : (-1 : Int32) < (0 : Int32))).2.1) (XS.aloadN X429.here hx rfl (hb hby own_d9_25) rfl rfl (XS.iloadN X429.here hx rfl (hb hby own_d9_26) rfl kk_))))) ?_
  have F430 := (F_lows_a.keep K421q (ninS ne_a_aK nin0))
  have F431 := (F_spans_a.keep K421q (ninS ne_a_aK nin0))
  have F432 := (F_masks_a.keep K421q (ninS ne_a_aK nin0))
  have F433 := (F_words_a.keep K421q (ninS ne_a_aK nin0))
  have F434 := (F_shifts_a.keep K421q (ninS ne_a_aK nin0))
  have F435 := (F_packed_a.keep K421q (ninS ne_a_aK nin0))
  have F436 := (F_size_a.keep K421q (ninS ne_a_aK nin0))
  have F437 := (V_aP.keep K421q (ninS ne_aP_aK nin0))
  obtain ⟨cq438, q438, q438'⟩ := F424.cell
  obtain ⟨_, _, ⟨T438, L438, k438, n438⟩, -, X438, ⟨Lc438, hQ438, l438, y438, z438⟩, st438⟩ := X429.privateBack hx (y := (⟨own_z0, "append", "(I)I"⟩ : MethodName)) hown (mvT hZ (own_w hw 88 rfl)) (mvT hZ (own_w hw 89 rfl)) (own_sel (mvT hZ (own_w hw 89 rfl)) (mvP hZ (own_w hw 90 rfl)) (mvT hZ (own_w hw 12 rfl)) (by decide)) (Cond.privateMethod_at (mvP hZ (own_w hw 90 rfl) (args := #[]))) (mvT hZ (own_w hw 91 rfl)) (by decide) (backOf (W := 0) (own_rmappB1 l Z a0 hw [] a hz_426 aL aS aM aW aH aP aQ aK kaP q0 q1 q2 q3 kaK (own_kB v0 v1 l0 l1 s0 s1) (own_kC v2 l2 s2) h421 n0 Z421 F424 F430 F431 F432 F433 F434 F435 F427 F423 F425 F436 F428 F437 f421_0 ne_a_aP ne_a_aQ (Ne.symm ne_aP_aK) (Ne.symm ne_aQ_aK) (Ne.symm ne_a_aK) ne_aP_aQ g_a g_aP g_aQ) hZ (own_w hw 91 rfl) (own_w hw 13 rfl) (by decide) (by decide)) (g := (mkF m 27 #[rv a, rv st, iv hz_426, iv (-1)] [(.int hz_426), (.ref a)])) rfl (by rw [hml]; rfl) (Steps.refl _) (a := a) (by rw [e429]; exact q438) q438' (argsL := [(.int hz_426)]) (rest := []) (lenOf own_pd0 rfl) rfl (by show 2 * 0 + _ ≤ _; exact Nat.le_of_eq rfl) (hb hby own_d9_27) (fun _ _ => ⟨rfl, e429, (by decide : 0 + 0 ≤ _), (by decide : 0 + 0 ≤ _)⟩)
  dsimp only [Pt.U, Pt.locs, Pt.cells, Pt.slots] at X438 l438 y438 z438 st438 hQ438
  rw [l438, y438, z438] at X438
  obtain ⟨rfl, N438q, K438q, f438_0, f438_1, f438_2, f438_3, f438_4, f438_5, f438_6, f438_7, f438_8, f438_9, f438_10, f438_11⟩ := hQ438
  obtain ⟨h438, e438⟩ : ∃ z, T438.heap = z := ⟨_, rfl⟩
  rw [e438] at K438q f438_0 f438_1 f438_2 f438_3 f438_4 f438_5 f438_6 f438_7 f438_8 f438_9 f438_10 f438_11
  have Z438 : n0 ≤ h438.size := Nat.le_trans Z421 K438q.1
  have K438 : Keep h0 h438 [a, aK, aP, aQ] := K421.trans K438q (allS (P := fun x => x ∈ [a, aK, aP, aQ] ∨ h0.size ≤ x) (Or.inl (List.mem_of_getElem? (i := 0) rfl)) (allS (P := fun x => x ∈ [a, aK, aP, aQ] ∨ h0.size ≤ x) (Or.inl (List.mem_of_getElem? (i := 2) rfl)) (allS (P := fun x => x ∈ [a, aK, aP, aQ] ∨ h0.size ≤ x) (Or.inl (List.mem_of_getElem? (i := 3) rfl)) all0)))
  have N438 := Fr.app N429 N438q
  refine own_st (fun t k => st438.trans k) ?_
  refine own_st (g' := (mkF m 32 #[rv a, rv st, iv hz_426, iv 0] [(.int 0)])) (fun tt_ kk_ => XS.istoreN X438.here hx rfl (hb hby own_d9_30) rfl (l' := #[rv a, rv st, iv hz_426, iv 0]) rfl (XS.iloadN X438.here hx rfl (hb hby own_d9_31) rfl kk_)) ?_
  have F439 := (f421_0.keep K438q (ninS (Ne.symm ne_a_aK) (ninS (Ne.symm ne_aP_aK) (ninS (Ne.symm ne_aQ_aK) nin0))))
  exact own_retI X438 hx hlk hret (hb hby own_d9_32) (by decide) (by decide) (by rw [e438]; exact ⟨hz_426, rfl, N438, K438, f438_0, f438_1, f438_2, f438_3, f438_4, f438_5, f438_6, f438_7, f438_8, f438_9, F439, f438_10, f438_11⟩)
def own_QaddB2 (Z : State) (a : Addr) (st : Addr) (aL : Addr) (aS : Addr) (aM : Addr) (aW : Addr) (aH : Addr) (aP : Addr) (aQ : Addr) (aK : Addr) (kaL : ClassId) (l0 : Int32) (l1 : Int32) (l2 : Int32) (kaS : ClassId) (sp0 : Int64) (sp1 : Int64) (sp2 : Int64) (kaW : ClassId) (kaH : ClassId) (s0 : Int32) (s1 : Int32) (s2 : Int32) (kst : ClassId) (v0 : Int32) (v1 : Int32) (v2 : Int32) (kaK : ClassId) (y0 : Int64) (y1 : Int64) (kaP : ClassId) (q0 : Int64) (q1 : Int64) (q2 : Int64) (q3 : Int64) (ho : Int32) (h0 : Heap) (n0 : Nat) (v : Option Value) (h : Heap) (L : List Loc) : Prop := ∃ (rl : Int32) (u0 : Int64) (u1 : Int64), v = some (.int rl) ∧ Fr n0 L ∧ Keep h0 h [a, aK, aP, aQ] ∧ Fld Z h a own_z0 "lows" "[I" (.ref aL) ∧ Fld Z h a own_z0 "masks" "[J" (.ref aM) ∧ Fld Z h a own_z0 "words" "[I" (.ref aW) ∧ Fld Z h a own_z0 "shifts" "[I" (.ref aH) ∧ Fld Z h a own_z0 "packed" "[J" (.ref aP) ∧ Fld Z h a own_z0 "wordCount" "I" (.int 2) ∧ Arv Z h aP kaP .long (2048 : Int32) [(.long q0), (.long q1), (.long u0), (.long u1)] (.long 0) ∧ ((rl = (1 : Int32) ∧ u0 = (own_kB v0 v1 l0 l1 s0 s1) ∧ u1 = (own_kC v2 l2 s2)) ∨ (rl = (0 : Int32) ∧ q0 = (own_kB v0 v1 l0 l1 s0 s1) ∧ q1 = (own_kC v2 l2 s2)))
theorem own_efaddB2 (m : MethodId) (a : Addr) (st : Addr) : entryFrame m #[(.ref a), (.ref st)] 4 = mkF m 0 #[rv a, rv st, .unset, .unset] [] := by first | (simp [entryFrame, mkF, argsToLocals, Value.category]; done) | rfl
set_option maxRecDepth 65536 in
set_option maxHeartbeats 16000000 in
theorem own_rmaddB2 (l : Launch) (Z : State) (a0 : Array Value) (hw : own_HW Z a0) (ws : List Jvm.Cond) (a : Addr) (st : Addr) (aL : Addr) (aS : Addr) (aM : Addr) (aW : Addr) (aH : Addr) (aP : Addr) (aQ : Addr) (aK : Addr) (kaL : ClassId) (l0 : Int32) (l1 : Int32) (l2 : Int32) (kaS : ClassId) (sp0 : Int64) (sp1 : Int64) (sp2 : Int64) (kaW : ClassId) (kaH : ClassId) (s0 : Int32) (s1 : Int32) (s2 : Int32) (kst : ClassId) (v0 : Int32) (v1 : Int32) (v2 : Int32) (kaK : ClassId) (y0 : Int64) (y1 : Int64) (kaP : ClassId) (q0 : Int64) (q1 : Int64) (q2 : Int64) (q3 : Int64) (ho : Int32) (h0 : Heap) (n0 : Nat) (Z0 : n0 ≤ h0.size) (E_a : Exa Z h0 a own_z0) (F_lows_a : Fld Z h0 a own_z0 "lows" "[I" (.ref aL)) (F_spans_a : Fld Z h0 a own_z0 "spans" "[J" (.ref aS)) (F_masks_a : Fld Z h0 a own_z0 "masks" "[J" (.ref aM)) (F_words_a : Fld Z h0 a own_z0 "words" "[I" (.ref aW)) (F_shifts_a : Fld Z h0 a own_z0 "shifts" "[I" (.ref aH)) (F_packed_a : Fld Z h0 a own_z0 "packed" "[J" (.ref aP)) (F_slots_a : Fld Z h0 a own_z0 "slots" "[I" (.ref aQ)) (F_key_a : Fld Z h0 a own_z0 "key" "[J" (.ref aK)) (F_wordCount_a : Fld Z h0 a own_z0 "wordCount" "I" (.int 2)) (F_size_a : Fld Z h0 a own_z0 "size" "I" (.int 1)) (V_aL : Arv Z h0 aL kaL .int (3 : Int32) [(.int l0), (.int l1), (.int l2)] (.int 0)) (V_aS : Arv Z h0 aS kaS .long (3 : Int32) [(.long sp0), (.long sp1), (.long sp2)] (.long 0)) (V_aW : Arv Z h0 aW kaW .int (3 : Int32) [(.int 0), (.int 0), (.int 1)] (.int 0)) (V_aH : Arv Z h0 aH kaH .int (3 : Int32) [(.int s0), (.int s1), (.int s2)] (.int 0)) (V_st : Arv Z h0 st kst .int (3 : Int32) [(.int v0), (.int v1), (.int v2)] (.int 0)) (V_aK : Arv Z h0 aK kaK .long (2 : Int32) [(.long y0), (.long y1)] (.long 0)) (V_aP : Arv Z h0 aP kaP .long (2048 : Int32) [(.long q0), (.long q1), (.long q2), (.long q3)] (.long 0)) (P_aQ : own_AI Z h0 aQ 1024 (own_sl ho)) (hA0 : ¬ ((lcmpW ((v0.toInt64) - (l0.toInt64)) (0 : Int64)) < (0 : Int32))) (hB0 : (lcmpW ((v0.toInt64) - (l0.toInt64)) sp0) < (0 : Int32)) (hA1 : ¬ ((lcmpW ((v1.toInt64) - (l1.toInt64)) (0 : Int64)) < (0 : Int32))) (hB1 : (lcmpW ((v1.toInt64) - (l1.toInt64)) sp1) < (0 : Int32)) (hA2 : ¬ ((lcmpW ((v2.toInt64) - (l2.toInt64)) (0 : Int64)) < (0 : Int32))) (hB2 : (lcmpW ((v2.toInt64) - (l2.toInt64)) sp2) < (0 : Int32)) (ne_a_aK : a ≠ aK) (ne_a_aP : a ≠ aP) (ne_a_aQ : a ≠ aQ) (ne_aL_aK : aL ≠ aK) (ne_aS_aK : aS ≠ aK) (ne_aW_aK : aW ≠ aK) (ne_aH_aK : aH ≠ aK) (ne_st_aK : st ≠ aK) (ne_aP_aK : aP ≠ aK) (ne_aQ_aK : aQ ≠ aK) (ne_aP_aQ : aP ≠ aQ) (g_a : n0 ≤ a) (g_aK : n0 ≤ aK) (g_aP : n0 ≤ aP) (g_aQ : n0 ≤ aQ) :
    MetFree l (⟨own_z0, "add", "([I)I"⟩ : MethodName) (head1 (Jvm.Cond.code (⟨own_z0, "add", "([I)I"⟩ : MethodName) prog_160_method_6_code 4 (some .int) :: ws) ({ frames := 2, cells := 0, slots := 0, locals := 34 } : Room)) (fun aa UU => aa = #[(.ref a), (.ref st)] ∧ Z.Warmed39 UU.vm ∧ UU.heap = h0) (fun _ _ _ _ _ => True) (fun _ U o U' => ∃ v L, o = .returned v ∧ own_QaddB2 Z a st aL aS aM aW aH aP aQ aK kaL l0 l1 l2 kaS sp0 sp1 sp2 kaW kaH s0 s1 s2 kst v0 v1 v2 kaK y0 y1 kaP q0 q1 q2 q3 ho h0 n0 v U'.heap L ∧ FrameEnd U o U' L ({ frames := 2, cells := 0, slots := 0, locals := 34 } : Room).cells ({ frames := 2, cells := 0, slots := 0, locals := 34 } : Room).slots) := by
  refine MetFree.of_bodySF (plainFor_of_name own_pn2) hisR ?_
  intro p e s m args below meth c s₁ Bd hml hP hK
  obtain ⟨rfl, hZ, hh⟩ := hP
  have hx := Bd.exec
  have hlk := Bd.notSynchronized
  have hby := Bd.bytes
  have hret := Bd.returns
  have hown := findClass_of_methodNamed Bd.named
  have hnm := (name_of_methodNamed Bd.named Bd.method).1
  have X0 : Stand p l e ({ frames := 2, cells := 0, slots := 0, locals := 34 } : Room) s m #[(.ref a), (.ref st)] below meth c s₁ [] 0 0 := Stand.of_body Bd
  have e0 : s₁.heap = h0 := by rw [← hh, Bd.state]; rfl
  have N0 := Fr.nil n0
  refine own_cast (own_efaddB2 m a st) ?_
  show own_Go p e below s s₁ _ (own_QaddB2 Z a st aL aS aM aW aH aP aQ aK kaL l0 l1 l2 kaS sp0 sp1 sp2 kaW kaH s0 s1 s2 kst v0 v1 v2 kaK y0 y1 kaP q0 q1 q2 q3 ho h0 n0) 0 0
  have K0 : Keep h0 h0 [a, aK, aP, aQ] := Keep.refl _ _
  refine own_st (g' := (mkF m 2 #[rv a, rv st, .unset, .unset] [(.ref st), (.ref a)])) (fun tt_ kk_ => XS.aloadN X0.here hx rfl (hb hby own_d9_0) rfl rfl (XS.aloadN X0.here hx rfl (hb hby own_d9_1) rfl rfl kk_)) ?_
  obtain ⟨cq440, q440, q440'⟩ := E_a.cell
  obtain ⟨_, _, ⟨T440, L440, k440, n440⟩, -, X440, ⟨Lc440, hQ440, l440, y440, z440⟩, st440⟩ := X0.privateBack hx (y := (⟨own_z0, "pack", "([I)V"⟩ : MethodName)) hown (mvT hZ (own_w hw 70 rfl)) (mvT hZ (own_w hw 71 rfl)) (own_sel (mvT hZ (own_w hw 71 rfl)) (mvP hZ (own_w hw 72 rfl)) (mvT hZ (own_w hw 12 rfl)) (by decide)) (Cond.privateMethod_at (mvP hZ (own_w hw 72 rfl) (args := #[]))) (mvT hZ (own_w hw 73 rfl)) (by decide) (backOf (W := 0) (own_rmpakB l Z a0 hw [] a st aL aS aW aH aK kaL l0 l1 l2 kaS sp0 sp1 sp2 kaW kaH s0 s1 s2 kst v0 v1 v2 kaK y0 y1 h0 n0 Z0 E_a F_lows_a F_spans_a F_words_a F_shifts_a F_key_a V_aL V_aS V_aW V_aH V_st V_aK hA0 hB0 hA1 hB1 hA2 hB2 ne_a_aK ne_aL_aK ne_aS_aK ne_aW_aK ne_aH_aK ne_st_aK g_aK) hZ (own_w hw 73 rfl) (own_w hw 13 rfl) (by decide) (by decide)) (g := (mkF m 2 #[rv a, rv st, .unset, .unset] [(.ref st), (.ref a)])) rfl (by rw [hml]; rfl) (Steps.refl _) (a := a) (by rw [e0]; exact q440) q440' (argsL := [(.ref st)]) (rest := []) (lenOf own_pd6 rfl) rfl (by show 2 * 0 + _ ≤ _; exact Nat.le_of_eq rfl) (hb hby own_d9_2) (fun _ _ => ⟨rfl, e0, (by decide : 0 + 0 ≤ _), (by decide : 0 + 0 ≤ _)⟩)
  dsimp only [Pt.U, Pt.locs, Pt.cells, Pt.slots] at X440 l440 y440 z440 st440 hQ440
  rw [l440, y440, z440] at X440
  obtain ⟨rfl, N440q, K440q, f440_0⟩ := hQ440
  obtain ⟨h440, e440⟩ : ∃ z, T440.heap = z := ⟨_, rfl⟩
  rw [e440] at K440q f440_0
  have Z440 : n0 ≤ h440.size := Nat.le_trans Z0 K440q.1
  have K440 : Keep h0 h440 [a, aK, aP, aQ] := K0.trans K440q (allS (P := fun x => x ∈ [a, aK, aP, aQ] ∨ h0.size ≤ x) (Or.inl (List.mem_of_getElem? (i := 1) rfl)) all0)
  have N440 := Fr.app N0 N440q
  refine own_st (fun t k => st440.trans k) ?_
  refine own_st (g' := (mkF m 7 #[rv a, rv st, .unset, .unset] [(.ref a), (.ref a)])) (fun tt_ kk_ => XS.aloadN X440.here hx rfl (hb hby own_d9_5) rfl rfl (XS.aloadN X440.here hx rfl (hb hby own_d9_6) rfl rfl kk_)) ?_
  have F442 := (F_key_a.keep K440q (ninS ne_a_aK nin0))
  refine own_gG X440 hx hZ hown (own_w hw 63 rfl) e440 F442 rfl rfl (hb hby own_d9_7) (fun {T441} X441 e441 => ?_)
  refine own_st (g' := (mkF m 11 #[rv a, rv st, .unset, .unset] [(.int 0), (.ref aK), (.ref a)])) (fun tt_ kk_ => XS.iconst X441.here hx rfl (hb hby own_d9_10) kk_) ?_
  have F443 := (E_a.keep K440q)
  have F444 := (F_wordCount_a.keep K440q (ninS ne_a_aK nin0))
  obtain ⟨cq445, q445, q445'⟩ := F443.cell
  obtain ⟨_, _, ⟨T445, L445, k445, n445⟩, -, X445, ⟨Lc445, hQ445, l445, y445, z445⟩, st445⟩ := X441.privateBack hx (y := (⟨own_z0, "hash", "([JI)I"⟩ : MethodName)) hown (mvT hZ (own_w hw 78 rfl)) (mvT hZ (own_w hw 79 rfl)) (own_sel (mvT hZ (own_w hw 79 rfl)) (mvP hZ (own_w hw 80 rfl)) (mvT hZ (own_w hw 12 rfl)) (by decide)) (Cond.privateMethod_at (mvP hZ (own_w hw 80 rfl) (args := #[]))) (mvT hZ (own_w hw 81 rfl)) (by decide) (backOf (W := 0) (own_rmhasB l Z a0 hw [] a aK kaK (own_kB v0 v1 l0 l1 s0 s1) (own_kC v2 l2 s2) h440 n0 Z440 F444 f440_0) hZ (own_w hw 81 rfl) (own_w hw 13 rfl) (by decide) (by decide)) (g := (mkF m 11 #[rv a, rv st, .unset, .unset] [(.int 0), (.ref aK), (.ref a)])) rfl (by rw [hml]; rfl) (Steps.refl _) (a := a) (by rw [e441]; exact q445) q445' (argsL := [(.ref aK), (.int 0)]) (rest := []) (lenOf own_pd7 rfl) rfl (by show 2 * 0 + _ ≤ _; exact Nat.le_of_eq rfl) (hb hby own_d9_11) (fun _ _ => ⟨rfl, e441, (by decide : 0 + 0 ≤ _), (by decide : 0 + 0 ≤ _)⟩)
  dsimp only [Pt.U, Pt.locs, Pt.cells, Pt.slots] at X445 l445 y445 z445 st445 hQ445
  rw [l445, y445, z445] at X445
  obtain ⟨hz_445, rfl, N445q, e445⟩ := hQ445
  have N445 := Fr.app N440 N445q
  refine own_st (fun t k => st445.trans k) ?_
  refine own_st (g' := (mkF m 17 #[rv a, rv st, iv hz_445, .unset] [(.int hz_445), (.ref a)])) (fun tt_ kk_ => XS.istoreN X445.here hx rfl (hb hby own_d9_14) rfl (l' := #[rv a, rv st, iv hz_445, .unset]) rfl (XS.aloadN X445.here hx rfl (hb hby own_d9_15) rfl rfl (XS.iloadN X445.here hx rfl (hb hby own_d9_16) rfl kk_))) ?_
  have F446 := (F_packed_a.keep K440q (ninS ne_a_aK nin0))
  have F447 := (F_slots_a.keep K440q (ninS ne_a_aK nin0))
  have F448 := (P_aQ.keep K440q (ninS ne_aQ_aK nin0))
  have F449 := (V_aP.keep K440q (ninS ne_aP_aK nin0))
  obtain ⟨cq450, q450, q450'⟩ := F443.cell
  obtain ⟨_, _, ⟨T450, L450, k450, n450⟩, -, X450, ⟨Lc450, hQ450, l450, y450, z450⟩, st450⟩ := X445.privateBack hx (y := (⟨own_z0, "lookUp", "(I)I"⟩ : MethodName)) hown (mvT hZ (own_w hw 84 rfl)) (mvT hZ (own_w hw 85 rfl)) (own_sel (mvT hZ (own_w hw 85 rfl)) (mvP hZ (own_w hw 86 rfl)) (mvT hZ (own_w hw 12 rfl)) (by decide)) (Cond.privateMethod_at (mvP hZ (own_w hw 86 rfl) (args := #[]))) (mvT hZ (own_w hw 87 rfl)) (by decide) (backOf (W := 0) (own_rmlk2B l Z a0 hw [] a hz_445 aP aQ aK ho kaP q0 q1 q2 q3 kaK (own_kB v0 v1 l0 l1 s0 s1) (own_kC v2 l2 s2) h440 n0 Z440 F443 F446 F447 F442 F444 F448 F449 f440_0) hZ (own_w hw 87 rfl) (own_w hw 13 rfl) (by decide) (by decide)) (g := (mkF m 17 #[rv a, rv st, iv hz_445, .unset] [(.int hz_445), (.ref a)])) rfl (by rw [hml]; rfl) (Steps.refl _) (a := a) (by rw [e445]; exact q450) q450' (argsL := [(.int hz_445)]) (rest := []) (lenOf own_pd0 rfl) rfl (by show 2 * 0 + _ ≤ _; exact Nat.le_of_eq rfl) (hb hby own_d9_17) (fun _ _ => ⟨rfl, e445, (by decide : 0 + 0 ≤ _), (by decide : 0 + 0 ≤ _)⟩)
  dsimp only [Pt.U, Pt.locs, Pt.cells, Pt.slots] at X450 l450 y450 z450 st450 hQ450
  rw [l450, y450, z450] at X450
  obtain ⟨rl_450, rfl, N450q, e450, f450_0⟩ := hQ450
  have N450 := Fr.app N445 N450q
  refine own_st (fun t k => st450.trans k) ?_
  rcases f450_0 with rfl | ⟨rfl, ek0, ek1⟩
  · skip
    refine own_st (g' := (mkF m 27 #[rv a, rv st, iv hz_445, iv (-1)] [(.int hz_445), (.ref a)])) (fun tt_ kk_ => XS.istoreN X450.here hx rfl (hb hby own_d9_20) rfl (l' := #[rv a, rv st, iv hz_445, iv (-1)]) rfl (XS.iloadN X450.here hx rfl (hb hby own_d9_21) rfl (XS.ifNo X450.here hx rfl (hb hby own_d9_22) rfl ((if0 _ _).trans (tlt (by decide : (-1 : Int32) < (0 : Int32))).2.1) (XS.aloadN X450.here hx rfl (hb hby own_d9_25) rfl rfl (XS.iloadN X450.here hx rfl (hb hby own_d9_26) rfl kk_))))) ?_
    have F451 := (F_lows_a.keep K440q (ninS ne_a_aK nin0))
    have F452 := (F_spans_a.keep K440q (ninS ne_a_aK nin0))
    have F453 := (F_masks_a.keep K440q (ninS ne_a_aK nin0))
    have F454 := (F_words_a.keep K440q (ninS ne_a_aK nin0))
    have F455 := (F_shifts_a.keep K440q (ninS ne_a_aK nin0))
    have F456 := (F_size_a.keep K440q (ninS ne_a_aK nin0))
    obtain ⟨cq457, q457, q457'⟩ := F443.cell
    obtain ⟨_, _, ⟨T457, L457, k457, n457⟩, -, X457, ⟨Lc457, hQ457, l457, y457, z457⟩, st457⟩ := X450.privateBack hx (y := (⟨own_z0, "append", "(I)I"⟩ : MethodName)) hown (mvT hZ (own_w hw 88 rfl)) (mvT hZ (own_w hw 89 rfl)) (own_sel (mvT hZ (own_w hw 89 rfl)) (mvP hZ (own_w hw 90 rfl)) (mvT hZ (own_w hw 12 rfl)) (by decide)) (Cond.privateMethod_at (mvP hZ (own_w hw 90 rfl) (args := #[]))) (mvT hZ (own_w hw 91 rfl)) (by decide) (backOf (W := 0) (own_rmappB2 l Z a0 hw [] a hz_445 aL aS aM aW aH aP aQ aK ho kaP q0 q1 q2 q3 kaK (own_kB v0 v1 l0 l1 s0 s1) (own_kC v2 l2 s2) h440 n0 Z440 F443 F451 F452 F453 F454 F455 F446 F447 F442 F444 F456 F448 F449 f440_0 ne_a_aP ne_a_aQ (Ne.symm ne_aP_aK) (Ne.symm ne_aQ_aK) (Ne.symm ne_a_aK) ne_aP_aQ g_a g_aP g_aQ) hZ (own_w hw 91 rfl) (own_w hw 13 rfl) (by decide) (by decide)) (g := (mkF m 27 #[rv a, rv st, iv hz_445, iv (-1)] [(.int hz_445), (.ref a)])) rfl (by rw [hml]; rfl) (Steps.refl _) (a := a) (by rw [e450]; exact q457) q457' (argsL := [(.int hz_445)]) (rest := []) (lenOf own_pd0 rfl) rfl (by show 2 * 0 + _ ≤ _; exact Nat.le_of_eq rfl) (hb hby own_d9_27) (fun _ _ => ⟨rfl, e450, (by decide : 0 + 0 ≤ _), (by decide : 0 + 0 ≤ _)⟩)
    dsimp only [Pt.U, Pt.locs, Pt.cells, Pt.slots] at X457 l457 y457 z457 st457 hQ457
    rw [l457, y457, z457] at X457
    obtain ⟨rfl, N457q, K457q, f457_0, f457_1, f457_2, f457_3, f457_4, f457_5, f457_6, f457_7, f457_8, f457_9, f457_10⟩ := hQ457
    obtain ⟨h457, e457⟩ : ∃ z, T457.heap = z := ⟨_, rfl⟩
    rw [e457] at K457q f457_0 f457_1 f457_2 f457_3 f457_4 f457_5 f457_6 f457_7 f457_8 f457_9 f457_10
    have Z457 : n0 ≤ h457.size := Nat.le_trans Z440 K457q.1
    have K457 : Keep h0 h457 [a, aK, aP, aQ] := K440.trans K457q (allS (P := fun x => x ∈ [a, aK, aP, aQ] ∨ h0.size ≤ x) (Or.inl (List.mem_of_getElem? (i := 0) rfl)) (allS (P := fun x => x ∈ [a, aK, aP, aQ] ∨ h0.size ≤ x) (Or.inl (List.mem_of_getElem? (i := 2) rfl)) (allS (P := fun x => x ∈ [a, aK, aP, aQ] ∨ h0.size ≤ x) (Or.inl (List.mem_of_getElem? (i := 3) rfl)) all0)))
    have N457 := Fr.app N450 N457q
    refine own_st (fun t k => st457.trans k) ?_
    refine own_st (g' := (mkF m 32 #[rv a, rv st, iv hz_445, iv 1] [(.int 1)])) (fun tt_ kk_ => XS.istoreN X457.here hx rfl (hb hby own_d9_30) rfl (l' := #[rv a, rv st, iv hz_445, iv 1]) rfl (XS.iloadN X457.here hx rfl (hb hby own_d9_31) rfl kk_)) ?_
    exact own_retI X457 hx hlk hret (hb hby own_d9_32) (by decide) (by decide) (by rw [e457]; exact ⟨(1 : Int32), _, _, rfl, N457, K457, f457_0, f457_2, f457_3, f457_4, f457_5, f457_8, f457_10, (Or.inl ⟨rfl, rfl, rfl⟩)⟩)
  · skip
    refine own_st (g' := (mkF m 32 #[rv a, rv st, iv hz_445, iv 0] [(.int 0)])) (fun tt_ kk_ => XS.istoreN X450.here hx rfl (hb hby own_d9_20) rfl (l' := #[rv a, rv st, iv hz_445, iv 0]) rfl (XS.iloadN X450.here hx rfl (hb hby own_d9_21) rfl (XS.ifYes X450.here hx rfl (pc0 := 22) (pc' := 31) rfl (hb hby own_d9_22) rfl ((if0 _ _).trans (flt (by decide : ¬ ((0 : Int32) < (0 : Int32)))).2.1) (by decide) (by decide) (XS.iloadN X450.here hx rfl (hb hby own_d9_31) rfl kk_)))) ?_
    have F458 := (F_lows_a.keep K440q (ninS ne_a_aK nin0))
    have F459 := (F_masks_a.keep K440q (ninS ne_a_aK nin0))
    have F460 := (F_words_a.keep K440q (ninS ne_a_aK nin0))
    have F461 := (F_shifts_a.keep K440q (ninS ne_a_aK nin0))
    exact own_retI X450 hx hlk hret (hb hby own_d9_32) (by decide) (by decide) (by rw [e450]; exact ⟨(0 : Int32), _, _, rfl, N450, K440, F458, F459, F460, F461, F446, F444, F449, (Or.inr ⟨rfl, ek0, ek1⟩)⟩)
def own_QgetB0 (Z : State) (a : Addr) (ot : Addr) (aL : Addr) (aM : Addr) (aW : Addr) (aH : Addr) (aP : Addr) (kaL : ClassId) (l0 : Int32) (l1 : Int32) (l2 : Int32) (kaM : ClassId) (m0 : Int64) (m1 : Int64) (m2 : Int64) (kaW : ClassId) (kaH : ClassId) (s0 : Int32) (s1 : Int32) (s2 : Int32) (kot : ClassId) (o0 : Int32) (o1 : Int32) (o2 : Int32) (kaP : ClassId) (q0 : Int64) (q1 : Int64) (q2 : Int64) (q3 : Int64) (h0 : Heap) (n0 : Nat) (v : Option Value) (h : Heap) (L : List Loc) : Prop := v = none ∧ Fr n0 L ∧ Keep h0 h [ot] ∧ Arv Z h ot kot .int (3 : Int32) [(.int (own_gv l0 q0 s0 m0)), (.int (own_gv l1 q0 s1 m1)), (.int (own_gv l2 q1 s2 m2))] (.int 0)
theorem own_efgetB0 (m : MethodId) (a : Addr) (ot : Addr) : entryFrame m #[(.ref a), (.int 0), (.ref ot)] 7 = mkF m 0 #[rv a, iv 0, rv ot, .unset, .unset, .unset, .unset] [] := by first | (simp [entryFrame, mkF, argsToLocals, Value.category]; done) | rfl
set_option maxRecDepth 65536 in
set_option maxHeartbeats 16000000 in
theorem own_rmgetB0 (l : Launch) (Z : State) (a0 : Array Value) (hw : own_HW Z a0) (ws : List Jvm.Cond) (a : Addr) (ot : Addr) (aL : Addr) (aM : Addr) (aW : Addr) (aH : Addr) (aP : Addr) (kaL : ClassId) (l0 : Int32) (l1 : Int32) (l2 : Int32) (kaM : ClassId) (m0 : Int64) (m1 : Int64) (m2 : Int64) (kaW : ClassId) (kaH : ClassId) (s0 : Int32) (s1 : Int32) (s2 : Int32) (kot : ClassId) (o0 : Int32) (o1 : Int32) (o2 : Int32) (kaP : ClassId) (q0 : Int64) (q1 : Int64) (q2 : Int64) (q3 : Int64) (h0 : Heap) (n0 : Nat) (Z0 : n0 ≤ h0.size) (E_a : Exa Z h0 a own_z0) (F_lows_a : Fld Z h0 a own_z0 "lows" "[I" (.ref aL)) (F_masks_a : Fld Z h0 a own_z0 "masks" "[J" (.ref aM)) (F_words_a : Fld Z h0 a own_z0 "words" "[I" (.ref aW)) (F_shifts_a : Fld Z h0 a own_z0 "shifts" "[I" (.ref aH)) (F_packed_a : Fld Z h0 a own_z0 "packed" "[J" (.ref aP)) (F_wordCount_a : Fld Z h0 a own_z0 "wordCount" "I" (.int 2)) (V_aL : Arv Z h0 aL kaL .int (3 : Int32) [(.int l0), (.int l1), (.int l2)] (.int 0)) (V_aM : Arv Z h0 aM kaM .long (3 : Int32) [(.long m0), (.long m1), (.long m2)] (.long 0)) (V_aW : Arv Z h0 aW kaW .int (3 : Int32) [(.int 0), (.int 0), (.int 1)] (.int 0)) (V_aH : Arv Z h0 aH kaH .int (3 : Int32) [(.int s0), (.int s1), (.int s2)] (.int 0)) (V_ot : Arv Z h0 ot kot .int (3 : Int32) [(.int o0), (.int o1), (.int o2)] (.int 0)) (V_aP : Arv Z h0 aP kaP .long (2048 : Int32) [(.long q0), (.long q1), (.long q2), (.long q3)] (.long 0)) (ne_a_ot : a ≠ ot) (ne_aL_ot : aL ≠ ot) (ne_aM_ot : aM ≠ ot) (ne_aW_ot : aW ≠ ot) (ne_aH_ot : aH ≠ ot) (ne_aP_ot : aP ≠ ot) (g_ot : n0 ≤ ot) :
    MetFree l (⟨own_z0, "get", "(I[I)V"⟩ : MethodName) (head1 (Jvm.Cond.code (⟨own_z0, "get", "(I[I)V"⟩ : MethodName) prog_160_method_9_code 7 none :: ws) ({ frames := 0, cells := 0, slots := 0, locals := 0 } : Room)) (fun aa UU => aa = #[(.ref a), (.int 0), (.ref ot)] ∧ Z.Warmed39 UU.vm ∧ UU.heap = h0) (fun _ _ _ _ _ => True) (fun _ U o U' => ∃ v L, o = .returned v ∧ own_QgetB0 Z a ot aL aM aW aH aP kaL l0 l1 l2 kaM m0 m1 m2 kaW kaH s0 s1 s2 kot o0 o1 o2 kaP q0 q1 q2 q3 h0 n0 v U'.heap L ∧ FrameEnd U o U' L ({ frames := 0, cells := 0, slots := 0, locals := 0 } : Room).cells ({ frames := 0, cells := 0, slots := 0, locals := 0 } : Room).slots) := by
  refine MetFree.of_bodySF (plainFor_of_name own_pn2) hisR ?_
  intro p e s m args below meth c s₁ Bd hml hP hK
  obtain ⟨rfl, hZ, hh⟩ := hP
  have hx := Bd.exec
  have hlk := Bd.notSynchronized
  have hby := Bd.bytes
  have hret := Bd.returns
  have hown := findClass_of_methodNamed Bd.named
  have hnm := (name_of_methodNamed Bd.named Bd.method).1
  have X0 : Stand p l e ({ frames := 0, cells := 0, slots := 0, locals := 0 } : Room) s m #[(.ref a), (.int 0), (.ref ot)] below meth c s₁ [] 0 0 := Stand.of_body Bd
  have e0 : s₁.heap = h0 := by rw [← hh, Bd.state]; rfl
  have N0 := Fr.nil n0
  refine own_cast (own_efgetB0 m a ot) ?_
  show own_Go p e below s s₁ _ (own_QgetB0 Z a ot aL aM aW aH aP kaL l0 l1 l2 kaM m0 m1 m2 kaW kaH s0 s1 s2 kot o0 o1 o2 kaP q0 q1 q2 q3 h0 n0) 0 0
  have K0 : Keep h0 h0 [ot] := Keep.refl _ _
  refine own_st (g' := (mkF m 2 #[rv a, iv 0, rv ot, .unset, .unset, .unset, .unset] [(.ref a), (.int 0)])) (fun tt_ kk_ => XS.iloadN X0.here hx rfl (hb hby own_d16_0) rfl (XS.aloadN X0.here hx rfl (hb hby own_d16_1) rfl rfl kk_)) ?_
  refine own_gG X0 hx hZ hown (own_w hw 49 rfl) e0 F_wordCount_a rfl rfl (hb hby own_d16_2) (fun {T462} X462 e462 => ?_)
  refine own_st (g' := (mkF m 13 #[rv a, iv 0, rv ot, iv 0, iv 0, .unset, .unset] [(.ref a), (.int 0)])) (fun tt_ kk_ => XS.imul X462.here hx rfl (hb hby own_d16_5) rfl (XS.istoreN X462.here hx rfl (hb hby own_d16_6) rfl (l' := #[rv a, iv 0, rv ot, iv 0, .unset, .unset, .unset]) rfl (XS.iconst X462.here hx rfl (hb hby own_d16_7) (XS.istore X462.here hx rfl (hb hby own_d16_8) rfl (l' := #[rv a, iv 0, rv ot, iv 0, iv 0, .unset, .unset]) rfl (XS.iload X462.here hx rfl (hb hby own_d16_10) rfl (XS.aloadN X462.here hx rfl (hb hby own_d16_12) rfl rfl kk_)))))) ?_
  refine own_gG X462 hx hZ hown (own_w hw 29 rfl) e462 F_lows_a rfl rfl (hb hby own_d16_13) (fun {T463} X463 e463 => ?_)
  refine own_st (g' := (mkF m 21 #[rv a, iv 0, rv ot, iv 0, iv 0, .unset, .unset] [(.ref a)])) (fun tt_ kk_ => own_lnV (g := (mkF m 16 #[rv a, iv 0, rv ot, iv 0, iv 0, .unset, .unset] [(.ref aL), (.int 0)])) X463 hx hZ e463 V_aL rfl rfl (hb hby own_d16_16) tt_ (XS.icmpNo X463.here hx rfl (hb hby own_d16_17) rfl (tlt (by decide : (0 : Int32) < (3 : Int32))).2.1 (XS.aloadN X463.here hx rfl (hb hby own_d16_20) rfl rfl kk_))) ?_
  refine own_gG X463 hx hZ hown (own_w hw 56 rfl) e463 F_packed_a rfl rfl (hb hby own_d16_21) (fun {T464} X464 e464 => ?_)
  refine own_st (g' := (mkF m 26 #[rv a, iv 0, rv ot, iv 0, iv 0, .unset, .unset] [(.ref a), (.int 0), (.ref aP)])) (fun tt_ kk_ => XS.iloadN X464.here hx rfl (hb hby own_d16_24) rfl (XS.aloadN X464.here hx rfl (hb hby own_d16_25) rfl rfl kk_)) ?_
  refine own_gG X464 hx hZ hown (own_w hw 36 rfl) e464 F_words_a rfl rfl (hb hby own_d16_26) (fun {T465} X465 e465 => ?_)
  refine own_st (g' := (mkF m 31 #[rv a, iv 0, rv ot, iv 0, iv 0, .unset, .unset] [(.int 0), (.ref aW), (.int 0), (.ref aP)])) (fun tt_ kk_ => XS.iload X465.here hx rfl (hb hby own_d16_29) rfl kk_) ?_
  refine own_st (g' := (mkF m 33 #[rv a, iv 0, rv ot, iv 0, iv 0, .unset, .unset] [(.int 0), (.ref aP)])) (fun tt_ kk_ => own_lvI (g := (mkF m 31 #[rv a, iv 0, rv ot, iv 0, iv 0, .unset, .unset] [(.int 0), (.ref aW), (.int 0), (.ref aP)])) X465 hx hZ e465 V_aW (by decide) rfl rfl rfl (hb hby own_d16_31) tt_ (XS.iadd X465.here hx rfl (hb hby own_d16_32) rfl kk_)) ?_
  refine own_st (g' := (mkF m 40 #[rv a, iv 0, rv ot, iv 0, iv 0, .val (.long q0), .second] [(.ref a), (.int 0), (.ref ot)])) (fun tt_ kk_ => own_lvJ (g := (mkF m 33 #[rv a, iv 0, rv ot, iv 0, iv 0, .unset, .unset] [(.int 0), (.ref aP)])) X465 hx hZ e465 V_aP (by decide) rfl rfl rfl (hb hby own_d16_33) tt_ (XS.lstore X465.here hx rfl (hb hby own_d16_34) rfl (l' := #[rv a, iv 0, rv ot, iv 0, iv 0, .val (.long q0), .second]) rfl (XS.aloadN X465.here hx rfl (hb hby own_d16_36) rfl rfl (XS.iload X465.here hx rfl (hb hby own_d16_37) rfl (XS.aloadN X465.here hx rfl (hb hby own_d16_39) rfl rfl kk_))))) ?_
  refine own_gG X465 hx hZ hown (own_w hw 29 rfl) e465 F_lows_a rfl rfl (hb hby own_d16_40) (fun {T466} X466 e466 => ?_)
  refine own_st (g' := (mkF m 45 #[rv a, iv 0, rv ot, iv 0, iv 0, .val (.long q0), .second] [(.int 0), (.ref aL), (.int 0), (.ref ot)])) (fun tt_ kk_ => XS.iload X466.here hx rfl (hb hby own_d16_43) rfl kk_) ?_
  refine own_st (g' := (mkF m 50 #[rv a, iv 0, rv ot, iv 0, iv 0, .val (.long q0), .second] [(.ref a), (.long q0), (.long (l0.toInt64)), (.int 0), (.ref ot)])) (fun tt_ kk_ => own_lvI (g := (mkF m 45 #[rv a, iv 0, rv ot, iv 0, iv 0, .val (.long q0), .second] [(.int 0), (.ref aL), (.int 0), (.ref ot)])) X466 hx hZ e466 V_aL (by decide) rfl rfl rfl (hb hby own_d16_45) tt_ (XS.i2l X466.here hx rfl (hb hby own_d16_46) rfl (XS.lload X466.here hx rfl (hb hby own_d16_47) rfl (XS.aloadN X466.here hx rfl (hb hby own_d16_49) rfl rfl kk_)))) ?_
  refine own_gG X466 hx hZ hown (own_w hw 38 rfl) e466 F_shifts_a rfl rfl (hb hby own_d16_50) (fun {T467} X467 e467 => ?_)
  refine own_st (g' := (mkF m 55 #[rv a, iv 0, rv ot, iv 0, iv 0, .val (.long q0), .second] [(.int 0), (.ref aH), (.long q0), (.long (l0.toInt64)), (.int 0), (.ref ot)])) (fun tt_ kk_ => XS.iload X467.here hx rfl (hb hby own_d16_53) rfl kk_) ?_
  refine own_st (g' := (mkF m 58 #[rv a, iv 0, rv ot, iv 0, iv 0, .val (.long q0), .second] [(.ref a), (.long ((q0.toUInt64 >>> (s0 &&& 0x3f).toInt64.toUInt64).toInt64)), (.long (l0.toInt64)), (.int 0), (.ref ot)])) (fun tt_ kk_ => own_lvI (g := (mkF m 55 #[rv a, iv 0, rv ot, iv 0, iv 0, .val (.long q0), .second] [(.int 0), (.ref aH), (.long q0), (.long (l0.toInt64)), (.int 0), (.ref ot)])) X467 hx hZ e467 V_aH (by decide) rfl rfl rfl (hb hby own_d16_55) tt_ (XS.lushr X467.here hx rfl (hb hby own_d16_56) rfl (XS.aloadN X467.here hx rfl (hb hby own_d16_57) rfl rfl kk_))) ?_
  refine own_gG X467 hx hZ hown (own_w hw 34 rfl) e467 F_masks_a rfl rfl (hb hby own_d16_58) (fun {T468} X468 e468 => ?_)
  refine own_st (g' := (mkF m 63 #[rv a, iv 0, rv ot, iv 0, iv 0, .val (.long q0), .second] [(.int 0), (.ref aM), (.long ((q0.toUInt64 >>> (s0 &&& 0x3f).toInt64.toUInt64).toInt64)), (.long (l0.toInt64)), (.int 0), (.ref ot)])) (fun tt_ kk_ => XS.iload X468.here hx rfl (hb hby own_d16_61) rfl kk_) ?_
  refine own_st (g' := (mkF m 67 #[rv a, iv 0, rv ot, iv 0, iv 0, .val (.long q0), .second] [(.int (((l0.toInt64) + (((q0.toUInt64 >>> (s0 &&& 0x3f).toInt64.toUInt64).toInt64) &&& m0)).toInt32)), (.int 0), (.ref ot)])) (fun tt_ kk_ => own_lvJ (g := (mkF m 63 #[rv a, iv 0, rv ot, iv 0, iv 0, .val (.long q0), .second] [(.int 0), (.ref aM), (.long ((q0.toUInt64 >>> (s0 &&& 0x3f).toInt64.toUInt64).toInt64)), (.long (l0.toInt64)), (.int 0), (.ref ot)])) X468 hx hZ e468 V_aM (by decide) rfl rfl rfl (hb hby own_d16_63) tt_ (XS.land X468.here hx rfl (hb hby own_d16_64) rfl (XS.ladd X468.here hx rfl (hb hby own_d16_65) rfl (XS.l2i X468.here hx rfl (hb hby own_d16_66) rfl kk_)))) ?_
  obtain ⟨T469, h469, X469, e469, W469, V469q, st469⟩ := own_svI X468 hx hZ e468 V_ot (j := (0 : Int32)) (by decide) 0 rfl (Nat.le_of_ble_eq_true rfl) (g := (mkF m 67 #[rv a, iv 0, rv ot, iv 0, iv 0, .val (.long q0), .second] [(.int (((l0.toInt64) + (((q0.toUInt64 >>> (s0 &&& 0x3f).toInt64.toUInt64).toInt64) &&& m0)).toInt32)), (.int 0), (.ref ot)])) rfl rfl (hb hby own_d16_67)
  have N469 := Fr.snoc X469 N0 g_ot
  have Z469 : n0 ≤ h469.size := Nat.le_trans Z0 (Keep.of_wr W469).1
  have K469 : Keep h0 h469 [ot] := K0.wr W469 (Or.inl (List.mem_of_getElem? (i := 0) rfl))
  have V469 : Arv Z h469 ot kot .int (3 : Int32) [(.int (((l0.toInt64) + (((q0.toUInt64 >>> (s0 &&& 0x3f).toInt64.toUInt64).toInt64) &&& m0)).toInt32)), (.int o1), (.int o2)] (.int 0) := V469q
  refine own_st st469 ?_
  refine own_st (g' := (mkF m 13 #[rv a, iv 0, rv ot, iv 0, iv 1, .val (.long q0), .second] [(.ref a), (.int 1)])) (fun tt_ kk_ => XS.iinc X469.here hx rfl (hb hby own_d16_68) rfl (l' := #[rv a, iv 0, rv ot, iv 0, iv 1, .val (.long q0), .second]) rfl (XS.goto X469.here hx rfl (pc0 := 71) (pc' := 10) rfl (hb hby own_d16_71) (by decide) (by decide) (XS.iload X469.here hx rfl (hb hby own_d16_10) rfl (XS.aloadN X469.here hx rfl (hb hby own_d16_12) rfl rfl kk_)))) ?_
  have F471 := (F_lows_a.other W469 (Or.inl ne_a_ot))
  refine own_gG X469 hx hZ hown (own_w hw 29 rfl) e469 F471 rfl rfl (hb hby own_d16_13) (fun {T470} X470 e470 => ?_)
  have F472 := (V_aL.other W469 ne_aL_ot)
  refine own_st (g' := (mkF m 21 #[rv a, iv 0, rv ot, iv 0, iv 1, .val (.long q0), .second] [(.ref a)])) (fun tt_ kk_ => own_lnV (g := (mkF m 16 #[rv a, iv 0, rv ot, iv 0, iv 1, .val (.long q0), .second] [(.ref aL), (.int 1)])) X470 hx hZ e470 F472 rfl rfl (hb hby own_d16_16) tt_ (XS.icmpNo X470.here hx rfl (hb hby own_d16_17) rfl (tlt (by decide : (1 : Int32) < (3 : Int32))).2.1 (XS.aloadN X470.here hx rfl (hb hby own_d16_20) rfl rfl kk_))) ?_
  have F474 := (F_packed_a.other W469 (Or.inl ne_a_ot))
  refine own_gG X470 hx hZ hown (own_w hw 56 rfl) e470 F474 rfl rfl (hb hby own_d16_21) (fun {T473} X473 e473 => ?_)
  refine own_st (g' := (mkF m 26 #[rv a, iv 0, rv ot, iv 0, iv 1, .val (.long q0), .second] [(.ref a), (.int 0), (.ref aP)])) (fun tt_ kk_ => XS.iloadN X473.here hx rfl (hb hby own_d16_24) rfl (XS.aloadN X473.here hx rfl (hb hby own_d16_25) rfl rfl kk_)) ?_
  have F476 := (F_words_a.other W469 (Or.inl ne_a_ot))
  refine own_gG X473 hx hZ hown (own_w hw 36 rfl) e473 F476 rfl rfl (hb hby own_d16_26) (fun {T475} X475 e475 => ?_)
  refine own_st (g' := (mkF m 31 #[rv a, iv 0, rv ot, iv 0, iv 1, .val (.long q0), .second] [(.int 1), (.ref aW), (.int 0), (.ref aP)])) (fun tt_ kk_ => XS.iload X475.here hx rfl (hb hby own_d16_29) rfl kk_) ?_
  have F477 := (V_aW.other W469 ne_aW_ot)
  refine own_st (g' := (mkF m 33 #[rv a, iv 0, rv ot, iv 0, iv 1, .val (.long q0), .second] [(.int 0), (.ref aP)])) (fun tt_ kk_ => own_lvI (g := (mkF m 31 #[rv a, iv 0, rv ot, iv 0, iv 1, .val (.long q0), .second] [(.int 1), (.ref aW), (.int 0), (.ref aP)])) X475 hx hZ e475 F477 (by decide) rfl rfl rfl (hb hby own_d16_31) tt_ (XS.iadd X475.here hx rfl (hb hby own_d16_32) rfl kk_)) ?_
  have F478 := (V_aP.other W469 ne_aP_ot)
  refine own_st (g' := (mkF m 40 #[rv a, iv 0, rv ot, iv 0, iv 1, .val (.long q0), .second] [(.ref a), (.int 1), (.ref ot)])) (fun tt_ kk_ => own_lvJ (g := (mkF m 33 #[rv a, iv 0, rv ot, iv 0, iv 1, .val (.long q0), .second] [(.int 0), (.ref aP)])) X475 hx hZ e475 F478 (by decide) rfl rfl rfl (hb hby own_d16_33) tt_ (XS.lstore X475.here hx rfl (hb hby own_d16_34) rfl (l' := #[rv a, iv 0, rv ot, iv 0, iv 1, .val (.long q0), .second]) rfl (XS.aloadN X475.here hx rfl (hb hby own_d16_36) rfl rfl (XS.iload X475.here hx rfl (hb hby own_d16_37) rfl (XS.aloadN X475.here hx rfl (hb hby own_d16_39) rfl rfl kk_))))) ?_
  refine own_gG X475 hx hZ hown (own_w hw 29 rfl) e475 F471 rfl rfl (hb hby own_d16_40) (fun {T479} X479 e479 => ?_)
  refine own_st (g' := (mkF m 45 #[rv a, iv 0, rv ot, iv 0, iv 1, .val (.long q0), .second] [(.int 1), (.ref aL), (.int 1), (.ref ot)])) (fun tt_ kk_ => XS.iload X479.here hx rfl (hb hby own_d16_43) rfl kk_) ?_
  refine own_st (g' := (mkF m 50 #[rv a, iv 0, rv ot, iv 0, iv 1, .val (.long q0), .second] [(.ref a), (.long q0), (.long (l1.toInt64)), (.int 1), (.ref ot)])) (fun tt_ kk_ => own_lvI (g := (mkF m 45 #[rv a, iv 0, rv ot, iv 0, iv 1, .val (.long q0), .second] [(.int 1), (.ref aL), (.int 1), (.ref ot)])) X479 hx hZ e479 F472 (by decide) rfl rfl rfl (hb hby own_d16_45) tt_ (XS.i2l X479.here hx rfl (hb hby own_d16_46) rfl (XS.lload X479.here hx rfl (hb hby own_d16_47) rfl (XS.aloadN X479.here hx rfl (hb hby own_d16_49) rfl rfl kk_)))) ?_
  have F481 := (F_shifts_a.other W469 (Or.inl ne_a_ot))
  refine own_gG X479 hx hZ hown (own_w hw 38 rfl) e479 F481 rfl rfl (hb hby own_d16_50) (fun {T480} X480 e480 => ?_)
  refine own_st (g' := (mkF m 55 #[rv a, iv 0, rv ot, iv 0, iv 1, .val (.long q0), .second] [(.int 1), (.ref aH), (.long q0), (.long (l1.toInt64)), (.int 1), (.ref ot)])) (fun tt_ kk_ => XS.iload X480.here hx rfl (hb hby own_d16_53) rfl kk_) ?_
  have F482 := (V_aH.other W469 ne_aH_ot)
  refine own_st (g' := (mkF m 58 #[rv a, iv 0, rv ot, iv 0, iv 1, .val (.long q0), .second] [(.ref a), (.long ((q0.toUInt64 >>> (s1 &&& 0x3f).toInt64.toUInt64).toInt64)), (.long (l1.toInt64)), (.int 1), (.ref ot)])) (fun tt_ kk_ => own_lvI (g := (mkF m 55 #[rv a, iv 0, rv ot, iv 0, iv 1, .val (.long q0), .second] [(.int 1), (.ref aH), (.long q0), (.long (l1.toInt64)), (.int 1), (.ref ot)])) X480 hx hZ e480 F482 (by decide) rfl rfl rfl (hb hby own_d16_55) tt_ (XS.lushr X480.here hx rfl (hb hby own_d16_56) rfl (XS.aloadN X480.here hx rfl (hb hby own_d16_57) rfl rfl kk_))) ?_
  have F484 := (F_masks_a.other W469 (Or.inl ne_a_ot))
  refine own_gG X480 hx hZ hown (own_w hw 34 rfl) e480 F484 rfl rfl (hb hby own_d16_58) (fun {T483} X483 e483 => ?_)
  refine own_st (g' := (mkF m 63 #[rv a, iv 0, rv ot, iv 0, iv 1, .val (.long q0), .second] [(.int 1), (.ref aM), (.long ((q0.toUInt64 >>> (s1 &&& 0x3f).toInt64.toUInt64).toInt64)), (.long (l1.toInt64)), (.int 1), (.ref ot)])) (fun tt_ kk_ => XS.iload X483.here hx rfl (hb hby own_d16_61) rfl kk_) ?_
  have F485 := (V_aM.other W469 ne_aM_ot)
  refine own_st (g' := (mkF m 67 #[rv a, iv 0, rv ot, iv 0, iv 1, .val (.long q0), .second] [(.int (((l1.toInt64) + (((q0.toUInt64 >>> (s1 &&& 0x3f).toInt64.toUInt64).toInt64) &&& m1)).toInt32)), (.int 1), (.ref ot)])) (fun tt_ kk_ => own_lvJ (g := (mkF m 63 #[rv a, iv 0, rv ot, iv 0, iv 1, .val (.long q0), .second] [(.int 1), (.ref aM), (.long ((q0.toUInt64 >>> (s1 &&& 0x3f).toInt64.toUInt64).toInt64)), (.long (l1.toInt64)), (.int 1), (.ref ot)])) X483 hx hZ e483 F485 (by decide) rfl rfl rfl (hb hby own_d16_63) tt_ (XS.land X483.here hx rfl (hb hby own_d16_64) rfl (XS.ladd X483.here hx rfl (hb hby own_d16_65) rfl (XS.l2i X483.here hx rfl (hb hby own_d16_66) rfl kk_)))) ?_
  obtain ⟨T486, h486, X486, e486, W486, V486q, st486⟩ := own_svI X483 hx hZ e483 V469 (j := (1 : Int32)) (by decide) 1 rfl (Nat.le_of_ble_eq_true rfl) (g := (mkF m 67 #[rv a, iv 0, rv ot, iv 0, iv 1, .val (.long q0), .second] [(.int (((l1.toInt64) + (((q0.toUInt64 >>> (s1 &&& 0x3f).toInt64.toUInt64).toInt64) &&& m1)).toInt32)), (.int 1), (.ref ot)])) rfl rfl (hb hby own_d16_67)
  have N486 := Fr.snoc X486 N469 g_ot
  have Z486 : n0 ≤ h486.size := Nat.le_trans Z469 (Keep.of_wr W486).1
  have K486 : Keep h0 h486 [ot] := K469.wr W486 (Or.inl (List.mem_of_getElem? (i := 0) rfl))
  have V486 : Arv Z h486 ot kot .int (3 : Int32) [(.int (((l0.toInt64) + (((q0.toUInt64 >>> (s0 &&& 0x3f).toInt64.toUInt64).toInt64) &&& m0)).toInt32)), (.int (((l1.toInt64) + (((q0.toUInt64 >>> (s1 &&& 0x3f).toInt64.toUInt64).toInt64) &&& m1)).toInt32)), (.int o2)] (.int 0) := V486q
  refine own_st st486 ?_
  refine own_st (g' := (mkF m 13 #[rv a, iv 0, rv ot, iv 0, iv 2, .val (.long q0), .second] [(.ref a), (.int 2)])) (fun tt_ kk_ => XS.iinc X486.here hx rfl (hb hby own_d16_68) rfl (l' := #[rv a, iv 0, rv ot, iv 0, iv 2, .val (.long q0), .second]) rfl (XS.goto X486.here hx rfl (pc0 := 71) (pc' := 10) rfl (hb hby own_d16_71) (by decide) (by decide) (XS.iload X486.here hx rfl (hb hby own_d16_10) rfl (XS.aloadN X486.here hx rfl (hb hby own_d16_12) rfl rfl kk_)))) ?_
  have F488 := (F471.other W486 (Or.inl ne_a_ot))
  refine own_gG X486 hx hZ hown (own_w hw 29 rfl) e486 F488 rfl rfl (hb hby own_d16_13) (fun {T487} X487 e487 => ?_)
  have F489 := (F472.other W486 ne_aL_ot)
  refine own_st (g' := (mkF m 21 #[rv a, iv 0, rv ot, iv 0, iv 2, .val (.long q0), .second] [(.ref a)])) (fun tt_ kk_ => own_lnV (g := (mkF m 16 #[rv a, iv 0, rv ot, iv 0, iv 2, .val (.long q0), .second] [(.ref aL), (.int 2)])) X487 hx hZ e487 F489 rfl rfl (hb hby own_d16_16) tt_ (XS.icmpNo X487.here hx rfl (hb hby own_d16_17) rfl (tlt (by decide : (2 : Int32) < (3 : Int32))).2.1 (XS.aloadN X487.here hx rfl (hb hby own_d16_20) rfl rfl kk_))) ?_
  have F491 := (F474.other W486 (Or.inl ne_a_ot))
  refine own_gG X487 hx hZ hown (own_w hw 56 rfl) e487 F491 rfl rfl (hb hby own_d16_21) (fun {T490} X490 e490 => ?_)
  refine own_st (g' := (mkF m 26 #[rv a, iv 0, rv ot, iv 0, iv 2, .val (.long q0), .second] [(.ref a), (.int 0), (.ref aP)])) (fun tt_ kk_ => XS.iloadN X490.here hx rfl (hb hby own_d16_24) rfl (XS.aloadN X490.here hx rfl (hb hby own_d16_25) rfl rfl kk_)) ?_
  have F493 := (F476.other W486 (Or.inl ne_a_ot))
  refine own_gG X490 hx hZ hown (own_w hw 36 rfl) e490 F493 rfl rfl (hb hby own_d16_26) (fun {T492} X492 e492 => ?_)
  refine own_st (g' := (mkF m 31 #[rv a, iv 0, rv ot, iv 0, iv 2, .val (.long q0), .second] [(.int 2), (.ref aW), (.int 0), (.ref aP)])) (fun tt_ kk_ => XS.iload X492.here hx rfl (hb hby own_d16_29) rfl kk_) ?_
  have F494 := (F477.other W486 ne_aW_ot)
  refine own_st (g' := (mkF m 33 #[rv a, iv 0, rv ot, iv 0, iv 2, .val (.long q0), .second] [(.int 1), (.ref aP)])) (fun tt_ kk_ => own_lvI (g := (mkF m 31 #[rv a, iv 0, rv ot, iv 0, iv 2, .val (.long q0), .second] [(.int 2), (.ref aW), (.int 0), (.ref aP)])) X492 hx hZ e492 F494 (by decide) rfl rfl rfl (hb hby own_d16_31) tt_ (XS.iadd X492.here hx rfl (hb hby own_d16_32) rfl kk_)) ?_
  have F495 := (F478.other W486 ne_aP_ot)
  refine own_st (g' := (mkF m 40 #[rv a, iv 0, rv ot, iv 0, iv 2, .val (.long q1), .second] [(.ref a), (.int 2), (.ref ot)])) (fun tt_ kk_ => own_lvJ (g := (mkF m 33 #[rv a, iv 0, rv ot, iv 0, iv 2, .val (.long q0), .second] [(.int 1), (.ref aP)])) X492 hx hZ e492 F495 (by decide) rfl rfl rfl (hb hby own_d16_33) tt_ (XS.lstore X492.here hx rfl (hb hby own_d16_34) rfl (l' := #[rv a, iv 0, rv ot, iv 0, iv 2, .val (.long q1), .second]) rfl (XS.aloadN X492.here hx rfl (hb hby own_d16_36) rfl rfl (XS.iload X492.here hx rfl (hb hby own_d16_37) rfl (XS.aloadN X492.here hx rfl (hb hby own_d16_39) rfl rfl kk_))))) ?_
  refine own_gG X492 hx hZ hown (own_w hw 29 rfl) e492 F488 rfl rfl (hb hby own_d16_40) (fun {T496} X496 e496 => ?_)
  refine own_st (g' := (mkF m 45 #[rv a, iv 0, rv ot, iv 0, iv 2, .val (.long q1), .second] [(.int 2), (.ref aL), (.int 2), (.ref ot)])) (fun tt_ kk_ => XS.iload X496.here hx rfl (hb hby own_d16_43) rfl kk_) ?_
  refine own_st (g' := (mkF m 50 #[rv a, iv 0, rv ot, iv 0, iv 2, .val (.long q1), .second] [(.ref a), (.long q1), (.long (l2.toInt64)), (.int 2), (.ref ot)])) (fun tt_ kk_ => own_lvI (g := (mkF m 45 #[rv a, iv 0, rv ot, iv 0, iv 2, .val (.long q1), .second] [(.int 2), (.ref aL), (.int 2), (.ref ot)])) X496 hx hZ e496 F489 (by decide) rfl rfl rfl (hb hby own_d16_45) tt_ (XS.i2l X496.here hx rfl (hb hby own_d16_46) rfl (XS.lload X496.here hx rfl (hb hby own_d16_47) rfl (XS.aloadN X496.here hx rfl (hb hby own_d16_49) rfl rfl kk_)))) ?_
  have F498 := (F481.other W486 (Or.inl ne_a_ot))
  refine own_gG X496 hx hZ hown (own_w hw 38 rfl) e496 F498 rfl rfl (hb hby own_d16_50) (fun {T497} X497 e497 => ?_)
  refine own_st (g' := (mkF m 55 #[rv a, iv 0, rv ot, iv 0, iv 2, .val (.long q1), .second] [(.int 2), (.ref aH), (.long q1), (.long (l2.toInt64)), (.int 2), (.ref ot)])) (fun tt_ kk_ => XS.iload X497.here hx rfl (hb hby own_d16_53) rfl kk_) ?_
  have F499 := (F482.other W486 ne_aH_ot)
  refine own_st (g' := (mkF m 58 #[rv a, iv 0, rv ot, iv 0, iv 2, .val (.long q1), .second] [(.ref a), (.long ((q1.toUInt64 >>> (s2 &&& 0x3f).toInt64.toUInt64).toInt64)), (.long (l2.toInt64)), (.int 2), (.ref ot)])) (fun tt_ kk_ => own_lvI (g := (mkF m 55 #[rv a, iv 0, rv ot, iv 0, iv 2, .val (.long q1), .second] [(.int 2), (.ref aH), (.long q1), (.long (l2.toInt64)), (.int 2), (.ref ot)])) X497 hx hZ e497 F499 (by decide) rfl rfl rfl (hb hby own_d16_55) tt_ (XS.lushr X497.here hx rfl (hb hby own_d16_56) rfl (XS.aloadN X497.here hx rfl (hb hby own_d16_57) rfl rfl kk_))) ?_
  have F501 := (F484.other W486 (Or.inl ne_a_ot))
  refine own_gG X497 hx hZ hown (own_w hw 34 rfl) e497 F501 rfl rfl (hb hby own_d16_58) (fun {T500} X500 e500 => ?_)
  refine own_st (g' := (mkF m 63 #[rv a, iv 0, rv ot, iv 0, iv 2, .val (.long q1), .second] [(.int 2), (.ref aM), (.long ((q1.toUInt64 >>> (s2 &&& 0x3f).toInt64.toUInt64).toInt64)), (.long (l2.toInt64)), (.int 2), (.ref ot)])) (fun tt_ kk_ => XS.iload X500.here hx rfl (hb hby own_d16_61) rfl kk_) ?_
  have F502 := (F485.other W486 ne_aM_ot)
  refine own_st (g' := (mkF m 67 #[rv a, iv 0, rv ot, iv 0, iv 2, .val (.long q1), .second] [(.int (((l2.toInt64) + (((q1.toUInt64 >>> (s2 &&& 0x3f).toInt64.toUInt64).toInt64) &&& m2)).toInt32)), (.int 2), (.ref ot)])) (fun tt_ kk_ => own_lvJ (g := (mkF m 63 #[rv a, iv 0, rv ot, iv 0, iv 2, .val (.long q1), .second] [(.int 2), (.ref aM), (.long ((q1.toUInt64 >>> (s2 &&& 0x3f).toInt64.toUInt64).toInt64)), (.long (l2.toInt64)), (.int 2), (.ref ot)])) X500 hx hZ e500 F502 (by decide) rfl rfl rfl (hb hby own_d16_63) tt_ (XS.land X500.here hx rfl (hb hby own_d16_64) rfl (XS.ladd X500.here hx rfl (hb hby own_d16_65) rfl (XS.l2i X500.here hx rfl (hb hby own_d16_66) rfl kk_)))) ?_
  obtain ⟨T503, h503, X503, e503, W503, V503q, st503⟩ := own_svI X500 hx hZ e500 V486 (j := (2 : Int32)) (by decide) 2 rfl (Nat.le_of_ble_eq_true rfl) (g := (mkF m 67 #[rv a, iv 0, rv ot, iv 0, iv 2, .val (.long q1), .second] [(.int (((l2.toInt64) + (((q1.toUInt64 >>> (s2 &&& 0x3f).toInt64.toUInt64).toInt64) &&& m2)).toInt32)), (.int 2), (.ref ot)])) rfl rfl (hb hby own_d16_67)
  have N503 := Fr.snoc X503 N486 g_ot
  have Z503 : n0 ≤ h503.size := Nat.le_trans Z486 (Keep.of_wr W503).1
  have K503 : Keep h0 h503 [ot] := K486.wr W503 (Or.inl (List.mem_of_getElem? (i := 0) rfl))
  have V503 : Arv Z h503 ot kot .int (3 : Int32) [(.int (((l0.toInt64) + (((q0.toUInt64 >>> (s0 &&& 0x3f).toInt64.toUInt64).toInt64) &&& m0)).toInt32)), (.int (((l1.toInt64) + (((q0.toUInt64 >>> (s1 &&& 0x3f).toInt64.toUInt64).toInt64) &&& m1)).toInt32)), (.int (((l2.toInt64) + (((q1.toUInt64 >>> (s2 &&& 0x3f).toInt64.toUInt64).toInt64) &&& m2)).toInt32))] (.int 0) := V503q
  refine own_st st503 ?_
  refine own_st (g' := (mkF m 13 #[rv a, iv 0, rv ot, iv 0, iv 3, .val (.long q1), .second] [(.ref a), (.int 3)])) (fun tt_ kk_ => XS.iinc X503.here hx rfl (hb hby own_d16_68) rfl (l' := #[rv a, iv 0, rv ot, iv 0, iv 3, .val (.long q1), .second]) rfl (XS.goto X503.here hx rfl (pc0 := 71) (pc' := 10) rfl (hb hby own_d16_71) (by decide) (by decide) (XS.iload X503.here hx rfl (hb hby own_d16_10) rfl (XS.aloadN X503.here hx rfl (hb hby own_d16_12) rfl rfl kk_)))) ?_
  have F505 := (F488.other W503 (Or.inl ne_a_ot))
  refine own_gG X503 hx hZ hown (own_w hw 29 rfl) e503 F505 rfl rfl (hb hby own_d16_13) (fun {T504} X504 e504 => ?_)
  have F506 := (F489.other W503 ne_aL_ot)
  refine own_st (g' := (mkF m 74 #[rv a, iv 0, rv ot, iv 0, iv 3, .val (.long q1), .second] [])) (fun tt_ kk_ => own_lnV (g := (mkF m 16 #[rv a, iv 0, rv ot, iv 0, iv 3, .val (.long q1), .second] [(.ref aL), (.int 3)])) X504 hx hZ e504 F506 rfl rfl (hb hby own_d16_16) tt_ (XS.icmpYes X504.here hx rfl (pc0 := 17) (pc' := 74) rfl (hb hby own_d16_17) rfl (flt (by decide : ¬ ((3 : Int32) < (3 : Int32)))).2.1 (by decide) (by decide) kk_)) ?_
  exact own_retV X504 hx hlk hret (hb hby own_d16_74) (by decide) (by decide) (by rw [e504]; exact ⟨rfl, N503, K503, V503⟩)
def own_QgetB1 (Z : State) (a : Addr) (ot : Addr) (aL : Addr) (aM : Addr) (aW : Addr) (aH : Addr) (aP : Addr) (kaL : ClassId) (l0 : Int32) (l1 : Int32) (l2 : Int32) (kaM : ClassId) (m0 : Int64) (m1 : Int64) (m2 : Int64) (kaW : ClassId) (kaH : ClassId) (s0 : Int32) (s1 : Int32) (s2 : Int32) (kot : ClassId) (o0 : Int32) (o1 : Int32) (o2 : Int32) (kaP : ClassId) (q0 : Int64) (q1 : Int64) (q2 : Int64) (q3 : Int64) (h0 : Heap) (n0 : Nat) (v : Option Value) (h : Heap) (L : List Loc) : Prop := v = none ∧ Fr n0 L ∧ Keep h0 h [ot] ∧ Arv Z h ot kot .int (3 : Int32) [(.int (own_gv l0 q2 s0 m0)), (.int (own_gv l1 q2 s1 m1)), (.int (own_gv l2 q3 s2 m2))] (.int 0)
theorem own_efgetB1 (m : MethodId) (a : Addr) (ot : Addr) : entryFrame m #[(.ref a), (.int 1), (.ref ot)] 7 = mkF m 0 #[rv a, iv 1, rv ot, .unset, .unset, .unset, .unset] [] := by first | (simp [entryFrame, mkF, argsToLocals, Value.category]; done) | rfl
set_option maxRecDepth 65536 in
set_option maxHeartbeats 16000000 in
theorem own_rmgetB1 (l : Launch) (Z : State) (a0 : Array Value) (hw : own_HW Z a0) (ws : List Jvm.Cond) (a : Addr) (ot : Addr) (aL : Addr) (aM : Addr) (aW : Addr) (aH : Addr) (aP : Addr) (kaL : ClassId) (l0 : Int32) (l1 : Int32) (l2 : Int32) (kaM : ClassId) (m0 : Int64) (m1 : Int64) (m2 : Int64) (kaW : ClassId) (kaH : ClassId) (s0 : Int32) (s1 : Int32) (s2 : Int32) (kot : ClassId) (o0 : Int32) (o1 : Int32) (o2 : Int32) (kaP : ClassId) (q0 : Int64) (q1 : Int64) (q2 : Int64) (q3 : Int64) (h0 : Heap) (n0 : Nat) (Z0 : n0 ≤ h0.size) (E_a : Exa Z h0 a own_z0) (F_lows_a : Fld Z h0 a own_z0 "lows" "[I" (.ref aL)) (F_masks_a : Fld Z h0 a own_z0 "masks" "[J" (.ref aM)) (F_words_a : Fld Z h0 a own_z0 "words" "[I" (.ref aW)) (F_shifts_a : Fld Z h0 a own_z0 "shifts" "[I" (.ref aH)) (F_packed_a : Fld Z h0 a own_z0 "packed" "[J" (.ref aP)) (F_wordCount_a : Fld Z h0 a own_z0 "wordCount" "I" (.int 2)) (V_aL : Arv Z h0 aL kaL .int (3 : Int32) [(.int l0), (.int l1), (.int l2)] (.int 0)) (V_aM : Arv Z h0 aM kaM .long (3 : Int32) [(.long m0), (.long m1), (.long m2)] (.long 0)) (V_aW : Arv Z h0 aW kaW .int (3 : Int32) [(.int 0), (.int 0), (.int 1)] (.int 0)) (V_aH : Arv Z h0 aH kaH .int (3 : Int32) [(.int s0), (.int s1), (.int s2)] (.int 0)) (V_ot : Arv Z h0 ot kot .int (3 : Int32) [(.int o0), (.int o1), (.int o2)] (.int 0)) (V_aP : Arv Z h0 aP kaP .long (2048 : Int32) [(.long q0), (.long q1), (.long q2), (.long q3)] (.long 0)) (ne_a_ot : a ≠ ot) (ne_aL_ot : aL ≠ ot) (ne_aM_ot : aM ≠ ot) (ne_aW_ot : aW ≠ ot) (ne_aH_ot : aH ≠ ot) (ne_aP_ot : aP ≠ ot) (g_ot : n0 ≤ ot) :
    MetFree l (⟨own_z0, "get", "(I[I)V"⟩ : MethodName) (head1 (Jvm.Cond.code (⟨own_z0, "get", "(I[I)V"⟩ : MethodName) prog_160_method_9_code 7 none :: ws) ({ frames := 0, cells := 0, slots := 0, locals := 0 } : Room)) (fun aa UU => aa = #[(.ref a), (.int 1), (.ref ot)] ∧ Z.Warmed39 UU.vm ∧ UU.heap = h0) (fun _ _ _ _ _ => True) (fun _ U o U' => ∃ v L, o = .returned v ∧ own_QgetB1 Z a ot aL aM aW aH aP kaL l0 l1 l2 kaM m0 m1 m2 kaW kaH s0 s1 s2 kot o0 o1 o2 kaP q0 q1 q2 q3 h0 n0 v U'.heap L ∧ FrameEnd U o U' L ({ frames := 0, cells := 0, slots := 0, locals := 0 } : Room).cells ({ frames := 0, cells := 0, slots := 0, locals := 0 } : Room).slots) := by
  refine MetFree.of_bodySF (plainFor_of_name own_pn2) hisR ?_
  intro p e s m args below meth c s₁ Bd hml hP hK
  obtain ⟨rfl, hZ, hh⟩ := hP
  have hx := Bd.exec
  have hlk := Bd.notSynchronized
  have hby := Bd.bytes
  have hret := Bd.returns
  have hown := findClass_of_methodNamed Bd.named
  have hnm := (name_of_methodNamed Bd.named Bd.method).1
  have X0 : Stand p l e ({ frames := 0, cells := 0, slots := 0, locals := 0 } : Room) s m #[(.ref a), (.int 1), (.ref ot)] below meth c s₁ [] 0 0 := Stand.of_body Bd
  have e0 : s₁.heap = h0 := by rw [← hh, Bd.state]; rfl
  have N0 := Fr.nil n0
  refine own_cast (own_efgetB1 m a ot) ?_
  show own_Go p e below s s₁ _ (own_QgetB1 Z a ot aL aM aW aH aP kaL l0 l1 l2 kaM m0 m1 m2 kaW kaH s0 s1 s2 kot o0 o1 o2 kaP q0 q1 q2 q3 h0 n0) 0 0
  have K0 : Keep h0 h0 [ot] := Keep.refl _ _
  refine own_st (g' := (mkF m 2 #[rv a, iv 1, rv ot, .unset, .unset, .unset, .unset] [(.ref a), (.int 1)])) (fun tt_ kk_ => XS.iloadN X0.here hx rfl (hb hby own_d16_0) rfl (XS.aloadN X0.here hx rfl (hb hby own_d16_1) rfl rfl kk_)) ?_
  refine own_gG X0 hx hZ hown (own_w hw 49 rfl) e0 F_wordCount_a rfl rfl (hb hby own_d16_2) (fun {T507} X507 e507 => ?_)
  refine own_st (g' := (mkF m 13 #[rv a, iv 1, rv ot, iv 2, iv 0, .unset, .unset] [(.ref a), (.int 0)])) (fun tt_ kk_ => XS.imul X507.here hx rfl (hb hby own_d16_5) rfl (XS.istoreN X507.here hx rfl (hb hby own_d16_6) rfl (l' := #[rv a, iv 1, rv ot, iv 2, .unset, .unset, .unset]) rfl (XS.iconst X507.here hx rfl (hb hby own_d16_7) (XS.istore X507.here hx rfl (hb hby own_d16_8) rfl (l' := #[rv a, iv 1, rv ot, iv 2, iv 0, .unset, .unset]) rfl (XS.iload X507.here hx rfl (hb hby own_d16_10) rfl (XS.aloadN X507.here hx rfl (hb hby own_d16_12) rfl rfl kk_)))))) ?_
  refine own_gG X507 hx hZ hown (own_w hw 29 rfl) e507 F_lows_a rfl rfl (hb hby own_d16_13) (fun {T508} X508 e508 => ?_)
  refine own_st (g' := (mkF m 21 #[rv a, iv 1, rv ot, iv 2, iv 0, .unset, .unset] [(.ref a)])) (fun tt_ kk_ => own_lnV (g := (mkF m 16 #[rv a, iv 1, rv ot, iv 2, iv 0, .unset, .unset] [(.ref aL), (.int 0)])) X508 hx hZ e508 V_aL rfl rfl (hb hby own_d16_16) tt_ (XS.icmpNo X508.here hx rfl (hb hby own_d16_17) rfl (tlt (by decide : (0 : Int32) < (3 : Int32))).2.1 (XS.aloadN X508.here hx rfl (hb hby own_d16_20) rfl rfl kk_))) ?_
  refine own_gG X508 hx hZ hown (own_w hw 56 rfl) e508 F_packed_a rfl rfl (hb hby own_d16_21) (fun {T509} X509 e509 => ?_)
  refine own_st (g' := (mkF m 26 #[rv a, iv 1, rv ot, iv 2, iv 0, .unset, .unset] [(.ref a), (.int 2), (.ref aP)])) (fun tt_ kk_ => XS.iloadN X509.here hx rfl (hb hby own_d16_24) rfl (XS.aloadN X509.here hx rfl (hb hby own_d16_25) rfl rfl kk_)) ?_
  refine own_gG X509 hx hZ hown (own_w hw 36 rfl) e509 F_words_a rfl rfl (hb hby own_d16_26) (fun {T510} X510 e510 => ?_)
  refine own_st (g' := (mkF m 31 #[rv a, iv 1, rv ot, iv 2, iv 0, .unset, .unset] [(.int 0), (.ref aW), (.int 2), (.ref aP)])) (fun tt_ kk_ => XS.iload X510.here hx rfl (hb hby own_d16_29) rfl kk_) ?_
  refine own_st (g' := (mkF m 33 #[rv a, iv 1, rv ot, iv 2, iv 0, .unset, .unset] [(.int 2), (.ref aP)])) (fun tt_ kk_ => own_lvI (g := (mkF m 31 #[rv a, iv 1, rv ot, iv 2, iv 0, .unset, .unset] [(.int 0), (.ref aW), (.int 2), (.ref aP)])) X510 hx hZ e510 V_aW (by decide) rfl rfl rfl (hb hby own_d16_31) tt_ (XS.iadd X510.here hx rfl (hb hby own_d16_32) rfl kk_)) ?_
  refine own_st (g' := (mkF m 40 #[rv a, iv 1, rv ot, iv 2, iv 0, .val (.long q2), .second] [(.ref a), (.int 0), (.ref ot)])) (fun tt_ kk_ => own_lvJ (g := (mkF m 33 #[rv a, iv 1, rv ot, iv 2, iv 0, .unset, .unset] [(.int 2), (.ref aP)])) X510 hx hZ e510 V_aP (by decide) rfl rfl rfl (hb hby own_d16_33) tt_ (XS.lstore X510.here hx rfl (hb hby own_d16_34) rfl (l' := #[rv a, iv 1, rv ot, iv 2, iv 0, .val (.long q2), .second]) rfl (XS.aloadN X510.here hx rfl (hb hby own_d16_36) rfl rfl (XS.iload X510.here hx rfl (hb hby own_d16_37) rfl (XS.aloadN X510.here hx rfl (hb hby own_d16_39) rfl rfl kk_))))) ?_
  refine own_gG X510 hx hZ hown (own_w hw 29 rfl) e510 F_lows_a rfl rfl (hb hby own_d16_40) (fun {T511} X511 e511 => ?_)
  refine own_st (g' := (mkF m 45 #[rv a, iv 1, rv ot, iv 2, iv 0, .val (.long q2), .second] [(.int 0), (.ref aL), (.int 0), (.ref ot)])) (fun tt_ kk_ => XS.iload X511.here hx rfl (hb hby own_d16_43) rfl kk_) ?_
  refine own_st (g' := (mkF m 50 #[rv a, iv 1, rv ot, iv 2, iv 0, .val (.long q2), .second] [(.ref a), (.long q2), (.long (l0.toInt64)), (.int 0), (.ref ot)])) (fun tt_ kk_ => own_lvI (g := (mkF m 45 #[rv a, iv 1, rv ot, iv 2, iv 0, .val (.long q2), .second] [(.int 0), (.ref aL), (.int 0), (.ref ot)])) X511 hx hZ e511 V_aL (by decide) rfl rfl rfl (hb hby own_d16_45) tt_ (XS.i2l X511.here hx rfl (hb hby own_d16_46) rfl (XS.lload X511.here hx rfl (hb hby own_d16_47) rfl (XS.aloadN X511.here hx rfl (hb hby own_d16_49) rfl rfl kk_)))) ?_
  refine own_gG X511 hx hZ hown (own_w hw 38 rfl) e511 F_shifts_a rfl rfl (hb hby own_d16_50) (fun {T512} X512 e512 => ?_)
  refine own_st (g' := (mkF m 55 #[rv a, iv 1, rv ot, iv 2, iv 0, .val (.long q2), .second] [(.int 0), (.ref aH), (.long q2), (.long (l0.toInt64)), (.int 0), (.ref ot)])) (fun tt_ kk_ => XS.iload X512.here hx rfl (hb hby own_d16_53) rfl kk_) ?_
  refine own_st (g' := (mkF m 58 #[rv a, iv 1, rv ot, iv 2, iv 0, .val (.long q2), .second] [(.ref a), (.long ((q2.toUInt64 >>> (s0 &&& 0x3f).toInt64.toUInt64).toInt64)), (.long (l0.toInt64)), (.int 0), (.ref ot)])) (fun tt_ kk_ => own_lvI (g := (mkF m 55 #[rv a, iv 1, rv ot, iv 2, iv 0, .val (.long q2), .second] [(.int 0), (.ref aH), (.long q2), (.long (l0.toInt64)), (.int 0), (.ref ot)])) X512 hx hZ e512 V_aH (by decide) rfl rfl rfl (hb hby own_d16_55) tt_ (XS.lushr X512.here hx rfl (hb hby own_d16_56) rfl (XS.aloadN X512.here hx rfl (hb hby own_d16_57) rfl rfl kk_))) ?_
  refine own_gG X512 hx hZ hown (own_w hw 34 rfl) e512 F_masks_a rfl rfl (hb hby own_d16_58) (fun {T513} X513 e513 => ?_)
  refine own_st (g' := (mkF m 63 #[rv a, iv 1, rv ot, iv 2, iv 0, .val (.long q2), .second] [(.int 0), (.ref aM), (.long ((q2.toUInt64 >>> (s0 &&& 0x3f).toInt64.toUInt64).toInt64)), (.long (l0.toInt64)), (.int 0), (.ref ot)])) (fun tt_ kk_ => XS.iload X513.here hx rfl (hb hby own_d16_61) rfl kk_) ?_
  refine own_st (g' := (mkF m 67 #[rv a, iv 1, rv ot, iv 2, iv 0, .val (.long q2), .second] [(.int (((l0.toInt64) + (((q2.toUInt64 >>> (s0 &&& 0x3f).toInt64.toUInt64).toInt64) &&& m0)).toInt32)), (.int 0), (.ref ot)])) (fun tt_ kk_ => own_lvJ (g := (mkF m 63 #[rv a, iv 1, rv ot, iv 2, iv 0, .val (.long q2), .second] [(.int 0), (.ref aM), (.long ((q2.toUInt64 >>> (s0 &&& 0x3f).toInt64.toUInt64).toInt64)), (.long (l0.toInt64)), (.int 0), (.ref ot)])) X513 hx hZ e513 V_aM (by decide) rfl rfl rfl (hb hby own_d16_63) tt_ (XS.land X513.here hx rfl (hb hby own_d16_64) rfl (XS.ladd X513.here hx rfl (hb hby own_d16_65) rfl (XS.l2i X513.here hx rfl (hb hby own_d16_66) rfl kk_)))) ?_
  obtain ⟨T514, h514, X514, e514, W514, V514q, st514⟩ := own_svI X513 hx hZ e513 V_ot (j := (0 : Int32)) (by decide) 0 rfl (Nat.le_of_ble_eq_true rfl) (g := (mkF m 67 #[rv a, iv 1, rv ot, iv 2, iv 0, .val (.long q2), .second] [(.int (((l0.toInt64) + (((q2.toUInt64 >>> (s0 &&& 0x3f).toInt64.toUInt64).toInt64) &&& m0)).toInt32)), (.int 0), (.ref ot)])) rfl rfl (hb hby own_d16_67)
  have N514 := Fr.snoc X514 N0 g_ot
  have Z514 : n0 ≤ h514.size := Nat.le_trans Z0 (Keep.of_wr W514).1
  have K514 : Keep h0 h514 [ot] := K0.wr W514 (Or.inl (List.mem_of_getElem? (i := 0) rfl))
  have V514 : Arv Z h514 ot kot .int (3 : Int32) [(.int (((l0.toInt64) + (((q2.toUInt64 >>> (s0 &&& 0x3f).toInt64.toUInt64).toInt64) &&& m0)).toInt32)), (.int o1), (.int o2)] (.int 0) := V514q
  refine own_st st514 ?_
  refine own_st (g' := (mkF m 13 #[rv a, iv 1, rv ot, iv 2, iv 1, .val (.long q2), .second] [(.ref a), (.int 1)])) (fun tt_ kk_ => XS.iinc X514.here hx rfl (hb hby own_d16_68) rfl (l' := #[rv a, iv 1, rv ot, iv 2, iv 1, .val (.long q2), .second]) rfl (XS.goto X514.here hx rfl (pc0 := 71) (pc' := 10) rfl (hb hby own_d16_71) (by decide) (by decide) (XS.iload X514.here hx rfl (hb hby own_d16_10) rfl (XS.aloadN X514.here hx rfl (hb hby own_d16_12) rfl rfl kk_)))) ?_
  have F516 := (F_lows_a.other W514 (Or.inl ne_a_ot))
  refine own_gG X514 hx hZ hown (own_w hw 29 rfl) e514 F516 rfl rfl (hb hby own_d16_13) (fun {T515} X515 e515 => ?_)
  have F517 := (V_aL.other W514 ne_aL_ot)
  refine own_st (g' := (mkF m 21 #[rv a, iv 1, rv ot, iv 2, iv 1, .val (.long q2), .second] [(.ref a)])) (fun tt_ kk_ => own_lnV (g := (mkF m 16 #[rv a, iv 1, rv ot, iv 2, iv 1, .val (.long q2), .second] [(.ref aL), (.int 1)])) X515 hx hZ e515 F517 rfl rfl (hb hby own_d16_16) tt_ (XS.icmpNo X515.here hx rfl (hb hby own_d16_17) rfl (tlt (by decide : (1 : Int32) < (3 : Int32))).2.1 (XS.aloadN X515.here hx rfl (hb hby own_d16_20) rfl rfl kk_))) ?_
  have F519 := (F_packed_a.other W514 (Or.inl ne_a_ot))
  refine own_gG X515 hx hZ hown (own_w hw 56 rfl) e515 F519 rfl rfl (hb hby own_d16_21) (fun {T518} X518 e518 => ?_)
  refine own_st (g' := (mkF m 26 #[rv a, iv 1, rv ot, iv 2, iv 1, .val (.long q2), .second] [(.ref a), (.int 2), (.ref aP)])) (fun tt_ kk_ => XS.iloadN X518.here hx rfl (hb hby own_d16_24) rfl (XS.aloadN X518.here hx rfl (hb hby own_d16_25) rfl rfl kk_)) ?_
  have F521 := (F_words_a.other W514 (Or.inl ne_a_ot))
  refine own_gG X518 hx hZ hown (own_w hw 36 rfl) e518 F521 rfl rfl (hb hby own_d16_26) (fun {T520} X520 e520 => ?_)
  refine own_st (g' := (mkF m 31 #[rv a, iv 1, rv ot, iv 2, iv 1, .val (.long q2), .second] [(.int 1), (.ref aW), (.int 2), (.ref aP)])) (fun tt_ kk_ => XS.iload X520.here hx rfl (hb hby own_d16_29) rfl kk_) ?_
  have F522 := (V_aW.other W514 ne_aW_ot)
  refine own_st (g' := (mkF m 33 #[rv a, iv 1, rv ot, iv 2, iv 1, .val (.long q2), .second] [(.int 2), (.ref aP)])) (fun tt_ kk_ => own_lvI (g := (mkF m 31 #[rv a, iv 1, rv ot, iv 2, iv 1, .val (.long q2), .second] [(.int 1), (.ref aW), (.int 2), (.ref aP)])) X520 hx hZ e520 F522 (by decide) rfl rfl rfl (hb hby own_d16_31) tt_ (XS.iadd X520.here hx rfl (hb hby own_d16_32) rfl kk_)) ?_
  have F523 := (V_aP.other W514 ne_aP_ot)
  refine own_st (g' := (mkF m 40 #[rv a, iv 1, rv ot, iv 2, iv 1, .val (.long q2), .second] [(.ref a), (.int 1), (.ref ot)])) (fun tt_ kk_ => own_lvJ (g := (mkF m 33 #[rv a, iv 1, rv ot, iv 2, iv 1, .val (.long q2), .second] [(.int 2), (.ref aP)])) X520 hx hZ e520 F523 (by decide) rfl rfl rfl (hb hby own_d16_33) tt_ (XS.lstore X520.here hx rfl (hb hby own_d16_34) rfl (l' := #[rv a, iv 1, rv ot, iv 2, iv 1, .val (.long q2), .second]) rfl (XS.aloadN X520.here hx rfl (hb hby own_d16_36) rfl rfl (XS.iload X520.here hx rfl (hb hby own_d16_37) rfl (XS.aloadN X520.here hx rfl (hb hby own_d16_39) rfl rfl kk_))))) ?_
  refine own_gG X520 hx hZ hown (own_w hw 29 rfl) e520 F516 rfl rfl (hb hby own_d16_40) (fun {T524} X524 e524 => ?_)
  refine own_st (g' := (mkF m 45 #[rv a, iv 1, rv ot, iv 2, iv 1, .val (.long q2), .second] [(.int 1), (.ref aL), (.int 1), (.ref ot)])) (fun tt_ kk_ => XS.iload X524.here hx rfl (hb hby own_d16_43) rfl kk_) ?_
  refine own_st (g' := (mkF m 50 #[rv a, iv 1, rv ot, iv 2, iv 1, .val (.long q2), .second] [(.ref a), (.long q2), (.long (l1.toInt64)), (.int 1), (.ref ot)])) (fun tt_ kk_ => own_lvI (g := (mkF m 45 #[rv a, iv 1, rv ot, iv 2, iv 1, .val (.long q2), .second] [(.int 1), (.ref aL), (.int 1), (.ref ot)])) X524 hx hZ e524 F517 (by decide) rfl rfl rfl (hb hby own_d16_45) tt_ (XS.i2l X524.here hx rfl (hb hby own_d16_46) rfl (XS.lload X524.here hx rfl (hb hby own_d16_47) rfl (XS.aloadN X524.here hx rfl (hb hby own_d16_49) rfl rfl kk_)))) ?_
  have F526 := (F_shifts_a.other W514 (Or.inl ne_a_ot))
  refine own_gG X524 hx hZ hown (own_w hw 38 rfl) e524 F526 rfl rfl (hb hby own_d16_50) (fun {T525} X525 e525 => ?_)
  refine own_st (g' := (mkF m 55 #[rv a, iv 1, rv ot, iv 2, iv 1, .val (.long q2), .second] [(.int 1), (.ref aH), (.long q2), (.long (l1.toInt64)), (.int 1), (.ref ot)])) (fun tt_ kk_ => XS.iload X525.here hx rfl (hb hby own_d16_53) rfl kk_) ?_
  have F527 := (V_aH.other W514 ne_aH_ot)
  refine own_st (g' := (mkF m 58 #[rv a, iv 1, rv ot, iv 2, iv 1, .val (.long q2), .second] [(.ref a), (.long ((q2.toUInt64 >>> (s1 &&& 0x3f).toInt64.toUInt64).toInt64)), (.long (l1.toInt64)), (.int 1), (.ref ot)])) (fun tt_ kk_ => own_lvI (g := (mkF m 55 #[rv a, iv 1, rv ot, iv 2, iv 1, .val (.long q2), .second] [(.int 1), (.ref aH), (.long q2), (.long (l1.toInt64)), (.int 1), (.ref ot)])) X525 hx hZ e525 F527 (by decide) rfl rfl rfl (hb hby own_d16_55) tt_ (XS.lushr X525.here hx rfl (hb hby own_d16_56) rfl (XS.aloadN X525.here hx rfl (hb hby own_d16_57) rfl rfl kk_))) ?_
  have F529 := (F_masks_a.other W514 (Or.inl ne_a_ot))
  refine own_gG X525 hx hZ hown (own_w hw 34 rfl) e525 F529 rfl rfl (hb hby own_d16_58) (fun {T528} X528 e528 => ?_)
  refine own_st (g' := (mkF m 63 #[rv a, iv 1, rv ot, iv 2, iv 1, .val (.long q2), .second] [(.int 1), (.ref aM), (.long ((q2.toUInt64 >>> (s1 &&& 0x3f).toInt64.toUInt64).toInt64)), (.long (l1.toInt64)), (.int 1), (.ref ot)])) (fun tt_ kk_ => XS.iload X528.here hx rfl (hb hby own_d16_61) rfl kk_) ?_
  have F530 := (V_aM.other W514 ne_aM_ot)
  refine own_st (g' := (mkF m 67 #[rv a, iv 1, rv ot, iv 2, iv 1, .val (.long q2), .second] [(.int (((l1.toInt64) + (((q2.toUInt64 >>> (s1 &&& 0x3f).toInt64.toUInt64).toInt64) &&& m1)).toInt32)), (.int 1), (.ref ot)])) (fun tt_ kk_ => own_lvJ (g := (mkF m 63 #[rv a, iv 1, rv ot, iv 2, iv 1, .val (.long q2), .second] [(.int 1), (.ref aM), (.long ((q2.toUInt64 >>> (s1 &&& 0x3f).toInt64.toUInt64).toInt64)), (.long (l1.toInt64)), (.int 1), (.ref ot)])) X528 hx hZ e528 F530 (by decide) rfl rfl rfl (hb hby own_d16_63) tt_ (XS.land X528.here hx rfl (hb hby own_d16_64) rfl (XS.ladd X528.here hx rfl (hb hby own_d16_65) rfl (XS.l2i X528.here hx rfl (hb hby own_d16_66) rfl kk_)))) ?_
  obtain ⟨T531, h531, X531, e531, W531, V531q, st531⟩ := own_svI X528 hx hZ e528 V514 (j := (1 : Int32)) (by decide) 1 rfl (Nat.le_of_ble_eq_true rfl) (g := (mkF m 67 #[rv a, iv 1, rv ot, iv 2, iv 1, .val (.long q2), .second] [(.int (((l1.toInt64) + (((q2.toUInt64 >>> (s1 &&& 0x3f).toInt64.toUInt64).toInt64) &&& m1)).toInt32)), (.int 1), (.ref ot)])) rfl rfl (hb hby own_d16_67)
  have N531 := Fr.snoc X531 N514 g_ot
  have Z531 : n0 ≤ h531.size := Nat.le_trans Z514 (Keep.of_wr W531).1
  have K531 : Keep h0 h531 [ot] := K514.wr W531 (Or.inl (List.mem_of_getElem? (i := 0) rfl))
  have V531 : Arv Z h531 ot kot .int (3 : Int32) [(.int (((l0.toInt64) + (((q2.toUInt64 >>> (s0 &&& 0x3f).toInt64.toUInt64).toInt64) &&& m0)).toInt32)), (.int (((l1.toInt64) + (((q2.toUInt64 >>> (s1 &&& 0x3f).toInt64.toUInt64).toInt64) &&& m1)).toInt32)), (.int o2)] (.int 0) := V531q
  refine own_st st531 ?_
  refine own_st (g' := (mkF m 13 #[rv a, iv 1, rv ot, iv 2, iv 2, .val (.long q2), .second] [(.ref a), (.int 2)])) (fun tt_ kk_ => XS.iinc X531.here hx rfl (hb hby own_d16_68) rfl (l' := #[rv a, iv 1, rv ot, iv 2, iv 2, .val (.long q2), .second]) rfl (XS.goto X531.here hx rfl (pc0 := 71) (pc' := 10) rfl (hb hby own_d16_71) (by decide) (by decide) (XS.iload X531.here hx rfl (hb hby own_d16_10) rfl (XS.aloadN X531.here hx rfl (hb hby own_d16_12) rfl rfl kk_)))) ?_
  have F533 := (F516.other W531 (Or.inl ne_a_ot))
  refine own_gG X531 hx hZ hown (own_w hw 29 rfl) e531 F533 rfl rfl (hb hby own_d16_13) (fun {T532} X532 e532 => ?_)
  have F534 := (F517.other W531 ne_aL_ot)
  refine own_st (g' := (mkF m 21 #[rv a, iv 1, rv ot, iv 2, iv 2, .val (.long q2), .second] [(.ref a)])) (fun tt_ kk_ => own_lnV (g := (mkF m 16 #[rv a, iv 1, rv ot, iv 2, iv 2, .val (.long q2), .second] [(.ref aL), (.int 2)])) X532 hx hZ e532 F534 rfl rfl (hb hby own_d16_16) tt_ (XS.icmpNo X532.here hx rfl (hb hby own_d16_17) rfl (tlt (by decide : (2 : Int32) < (3 : Int32))).2.1 (XS.aloadN X532.here hx rfl (hb hby own_d16_20) rfl rfl kk_))) ?_
  have F536 := (F519.other W531 (Or.inl ne_a_ot))
  refine own_gG X532 hx hZ hown (own_w hw 56 rfl) e532 F536 rfl rfl (hb hby own_d16_21) (fun {T535} X535 e535 => ?_)
  refine own_st (g' := (mkF m 26 #[rv a, iv 1, rv ot, iv 2, iv 2, .val (.long q2), .second] [(.ref a), (.int 2), (.ref aP)])) (fun tt_ kk_ => XS.iloadN X535.here hx rfl (hb hby own_d16_24) rfl (XS.aloadN X535.here hx rfl (hb hby own_d16_25) rfl rfl kk_)) ?_
  have F538 := (F521.other W531 (Or.inl ne_a_ot))
  refine own_gG X535 hx hZ hown (own_w hw 36 rfl) e535 F538 rfl rfl (hb hby own_d16_26) (fun {T537} X537 e537 => ?_)
  refine own_st (g' := (mkF m 31 #[rv a, iv 1, rv ot, iv 2, iv 2, .val (.long q2), .second] [(.int 2), (.ref aW), (.int 2), (.ref aP)])) (fun tt_ kk_ => XS.iload X537.here hx rfl (hb hby own_d16_29) rfl kk_) ?_
  have F539 := (F522.other W531 ne_aW_ot)
  refine own_st (g' := (mkF m 33 #[rv a, iv 1, rv ot, iv 2, iv 2, .val (.long q2), .second] [(.int 3), (.ref aP)])) (fun tt_ kk_ => own_lvI (g := (mkF m 31 #[rv a, iv 1, rv ot, iv 2, iv 2, .val (.long q2), .second] [(.int 2), (.ref aW), (.int 2), (.ref aP)])) X537 hx hZ e537 F539 (by decide) rfl rfl rfl (hb hby own_d16_31) tt_ (XS.iadd X537.here hx rfl (hb hby own_d16_32) rfl kk_)) ?_
  have F540 := (F523.other W531 ne_aP_ot)
  refine own_st (g' := (mkF m 40 #[rv a, iv 1, rv ot, iv 2, iv 2, .val (.long q3), .second] [(.ref a), (.int 2), (.ref ot)])) (fun tt_ kk_ => own_lvJ (g := (mkF m 33 #[rv a, iv 1, rv ot, iv 2, iv 2, .val (.long q2), .second] [(.int 3), (.ref aP)])) X537 hx hZ e537 F540 (by decide) rfl rfl rfl (hb hby own_d16_33) tt_ (XS.lstore X537.here hx rfl (hb hby own_d16_34) rfl (l' := #[rv a, iv 1, rv ot, iv 2, iv 2, .val (.long q3), .second]) rfl (XS.aloadN X537.here hx rfl (hb hby own_d16_36) rfl rfl (XS.iload X537.here hx rfl (hb hby own_d16_37) rfl (XS.aloadN X537.here hx rfl (hb hby own_d16_39) rfl rfl kk_))))) ?_
  refine own_gG X537 hx hZ hown (own_w hw 29 rfl) e537 F533 rfl rfl (hb hby own_d16_40) (fun {T541} X541 e541 => ?_)
  refine own_st (g' := (mkF m 45 #[rv a, iv 1, rv ot, iv 2, iv 2, .val (.long q3), .second] [(.int 2), (.ref aL), (.int 2), (.ref ot)])) (fun tt_ kk_ => XS.iload X541.here hx rfl (hb hby own_d16_43) rfl kk_) ?_
  refine own_st (g' := (mkF m 50 #[rv a, iv 1, rv ot, iv 2, iv 2, .val (.long q3), .second] [(.ref a), (.long q3), (.long (l2.toInt64)), (.int 2), (.ref ot)])) (fun tt_ kk_ => own_lvI (g := (mkF m 45 #[rv a, iv 1, rv ot, iv 2, iv 2, .val (.long q3), .second] [(.int 2), (.ref aL), (.int 2), (.ref ot)])) X541 hx hZ e541 F534 (by decide) rfl rfl rfl (hb hby own_d16_45) tt_ (XS.i2l X541.here hx rfl (hb hby own_d16_46) rfl (XS.lload X541.here hx rfl (hb hby own_d16_47) rfl (XS.aloadN X541.here hx rfl (hb hby own_d16_49) rfl rfl kk_)))) ?_
  have F543 := (F526.other W531 (Or.inl ne_a_ot))
  refine own_gG X541 hx hZ hown (own_w hw 38 rfl) e541 F543 rfl rfl (hb hby own_d16_50) (fun {T542} X542 e542 => ?_)
  refine own_st (g' := (mkF m 55 #[rv a, iv 1, rv ot, iv 2, iv 2, .val (.long q3), .second] [(.int 2), (.ref aH), (.long q3), (.long (l2.toInt64)), (.int 2), (.ref ot)])) (fun tt_ kk_ => XS.iload X542.here hx rfl (hb hby own_d16_53) rfl kk_) ?_
  have F544 := (F527.other W531 ne_aH_ot)
  refine own_st (g' := (mkF m 58 #[rv a, iv 1, rv ot, iv 2, iv 2, .val (.long q3), .second] [(.ref a), (.long ((q3.toUInt64 >>> (s2 &&& 0x3f).toInt64.toUInt64).toInt64)), (.long (l2.toInt64)), (.int 2), (.ref ot)])) (fun tt_ kk_ => own_lvI (g := (mkF m 55 #[rv a, iv 1, rv ot, iv 2, iv 2, .val (.long q3), .second] [(.int 2), (.ref aH), (.long q3), (.long (l2.toInt64)), (.int 2), (.ref ot)])) X542 hx hZ e542 F544 (by decide) rfl rfl rfl (hb hby own_d16_55) tt_ (XS.lushr X542.here hx rfl (hb hby own_d16_56) rfl (XS.aloadN X542.here hx rfl (hb hby own_d16_57) rfl rfl kk_))) ?_
  have F546 := (F529.other W531 (Or.inl ne_a_ot))
  refine own_gG X542 hx hZ hown (own_w hw 34 rfl) e542 F546 rfl rfl (hb hby own_d16_58) (fun {T545} X545 e545 => ?_)
  refine own_st (g' := (mkF m 63 #[rv a, iv 1, rv ot, iv 2, iv 2, .val (.long q3), .second] [(.int 2), (.ref aM), (.long ((q3.toUInt64 >>> (s2 &&& 0x3f).toInt64.toUInt64).toInt64)), (.long (l2.toInt64)), (.int 2), (.ref ot)])) (fun tt_ kk_ => XS.iload X545.here hx rfl (hb hby own_d16_61) rfl kk_) ?_
  have F547 := (F530.other W531 ne_aM_ot)
  refine own_st (g' := (mkF m 67 #[rv a, iv 1, rv ot, iv 2, iv 2, .val (.long q3), .second] [(.int (((l2.toInt64) + (((q3.toUInt64 >>> (s2 &&& 0x3f).toInt64.toUInt64).toInt64) &&& m2)).toInt32)), (.int 2), (.ref ot)])) (fun tt_ kk_ => own_lvJ (g := (mkF m 63 #[rv a, iv 1, rv ot, iv 2, iv 2, .val (.long q3), .second] [(.int 2), (.ref aM), (.long ((q3.toUInt64 >>> (s2 &&& 0x3f).toInt64.toUInt64).toInt64)), (.long (l2.toInt64)), (.int 2), (.ref ot)])) X545 hx hZ e545 F547 (by decide) rfl rfl rfl (hb hby own_d16_63) tt_ (XS.land X545.here hx rfl (hb hby own_d16_64) rfl (XS.ladd X545.here hx rfl (hb hby own_d16_65) rfl (XS.l2i X545.here hx rfl (hb hby own_d16_66) rfl kk_)))) ?_
  obtain ⟨T548, h548, X548, e548, W548, V548q, st548⟩ := own_svI X545 hx hZ e545 V531 (j := (2 : Int32)) (by decide) 2 rfl (Nat.le_of_ble_eq_true rfl) (g := (mkF m 67 #[rv a, iv 1, rv ot, iv 2, iv 2, .val (.long q3), .second] [(.int (((l2.toInt64) + (((q3.toUInt64 >>> (s2 &&& 0x3f).toInt64.toUInt64).toInt64) &&& m2)).toInt32)), (.int 2), (.ref ot)])) rfl rfl (hb hby own_d16_67)
  have N548 := Fr.snoc X548 N531 g_ot
  have Z548 : n0 ≤ h548.size := Nat.le_trans Z531 (Keep.of_wr W548).1
  have K548 : Keep h0 h548 [ot] := K531.wr W548 (Or.inl (List.mem_of_getElem? (i := 0) rfl))
  have V548 : Arv Z h548 ot kot .int (3 : Int32) [(.int (((l0.toInt64) + (((q2.toUInt64 >>> (s0 &&& 0x3f).toInt64.toUInt64).toInt64) &&& m0)).toInt32)), (.int (((l1.toInt64) + (((q2.toUInt64 >>> (s1 &&& 0x3f).toInt64.toUInt64).toInt64) &&& m1)).toInt32)), (.int (((l2.toInt64) + (((q3.toUInt64 >>> (s2 &&& 0x3f).toInt64.toUInt64).toInt64) &&& m2)).toInt32))] (.int 0) := V548q
  refine own_st st548 ?_
  refine own_st (g' := (mkF m 13 #[rv a, iv 1, rv ot, iv 2, iv 3, .val (.long q3), .second] [(.ref a), (.int 3)])) (fun tt_ kk_ => XS.iinc X548.here hx rfl (hb hby own_d16_68) rfl (l' := #[rv a, iv 1, rv ot, iv 2, iv 3, .val (.long q3), .second]) rfl (XS.goto X548.here hx rfl (pc0 := 71) (pc' := 10) rfl (hb hby own_d16_71) (by decide) (by decide) (XS.iload X548.here hx rfl (hb hby own_d16_10) rfl (XS.aloadN X548.here hx rfl (hb hby own_d16_12) rfl rfl kk_)))) ?_
  have F550 := (F533.other W548 (Or.inl ne_a_ot))
  refine own_gG X548 hx hZ hown (own_w hw 29 rfl) e548 F550 rfl rfl (hb hby own_d16_13) (fun {T549} X549 e549 => ?_)
  have F551 := (F534.other W548 ne_aL_ot)
  refine own_st (g' := (mkF m 74 #[rv a, iv 1, rv ot, iv 2, iv 3, .val (.long q3), .second] [])) (fun tt_ kk_ => own_lnV (g := (mkF m 16 #[rv a, iv 1, rv ot, iv 2, iv 3, .val (.long q3), .second] [(.ref aL), (.int 3)])) X549 hx hZ e549 F551 rfl rfl (hb hby own_d16_16) tt_ (XS.icmpYes X549.here hx rfl (pc0 := 17) (pc' := 74) rfl (hb hby own_d16_17) rfl (flt (by decide : ¬ ((3 : Int32) < (3 : Int32)))).2.1 (by decide) (by decide) kk_)) ?_
  exact own_retV X549 hx hlk hret (hb hby own_d16_74) (by decide) (by decide) (by rw [e549]; exact ⟨rfl, N548, K548, V548⟩)
theorem own_d3_0 : own_D own_b3 0 (.aload_n 0) 1 := by decide +kernel
theorem own_d3_1 : own_D own_b3 1 (.invokespecial 9) 3 := by decide +kernel
theorem own_d3_4 : own_D own_b3 4 (.aload_n 1) 1 := by decide +kernel
theorem own_d3_5 : own_D own_b3 5 .arraylength 1 := by decide +kernel
theorem own_d3_6 : own_D own_b3 6 (.aload_n 2) 1 := by decide +kernel
theorem own_d3_7 : own_D own_b3 7 .arraylength 1 := by decide +kernel
theorem own_d3_8 : own_D own_b3 8 (.if_icmp .eq 20) 3 := by decide +kernel
theorem own_d3_28 : own_D own_b3 28 (.aload_n 0) 1 := by decide +kernel
theorem own_d3_29 : own_D own_b3 29 (.aload_n 1) 1 := by decide +kernel
theorem own_d3_30 : own_D own_b3 30 (.invokevirtual 23) 3 := by decide +kernel
theorem own_d3_33 : own_D own_b3 33 (.checkcast 24) 3 := by decide +kernel
theorem own_d3_36 : own_D own_b3 36 (.putfield 29) 3 := by decide +kernel
theorem own_d3_39 : own_D own_b3 39 (.aload_n 0) 1 := by decide +kernel
theorem own_d3_40 : own_D own_b3 40 (.aload_n 1) 1 := by decide +kernel
theorem own_d3_41 : own_D own_b3 41 .arraylength 1 := by decide +kernel
theorem own_d3_42 : own_D own_b3 42 (.newarray .long) 2 := by decide +kernel
theorem own_d3_44 : own_D own_b3 44 (.putfield 32) 3 := by decide +kernel
theorem own_d3_47 : own_D own_b3 47 (.aload_n 0) 1 := by decide +kernel
theorem own_d3_48 : own_D own_b3 48 (.aload_n 1) 1 := by decide +kernel
theorem own_d3_49 : own_D own_b3 49 .arraylength 1 := by decide +kernel
theorem own_d3_50 : own_D own_b3 50 (.newarray .long) 2 := by decide +kernel
theorem own_d3_52 : own_D own_b3 52 (.putfield 36) 3 := by decide +kernel
theorem own_d3_55 : own_D own_b3 55 (.aload_n 0) 1 := by decide +kernel
theorem own_d3_56 : own_D own_b3 56 (.aload_n 1) 1 := by decide +kernel
theorem own_d3_57 : own_D own_b3 57 .arraylength 1 := by decide +kernel
theorem own_d3_58 : own_D own_b3 58 (.newarray .int) 2 := by decide +kernel
theorem own_d3_60 : own_D own_b3 60 (.putfield 39) 3 := by decide +kernel
theorem own_d3_63 : own_D own_b3 63 (.aload_n 0) 1 := by decide +kernel
theorem own_d3_64 : own_D own_b3 64 (.aload_n 1) 1 := by decide +kernel
theorem own_d3_65 : own_D own_b3 65 .arraylength 1 := by decide +kernel
theorem own_d3_66 : own_D own_b3 66 (.newarray .int) 2 := by decide +kernel
theorem own_d3_68 : own_D own_b3 68 (.putfield 42) 3 := by decide +kernel
theorem own_d3_71 : own_D own_b3 71 (.iconst 0) 1 := by decide +kernel
theorem own_d3_72 : own_D own_b3 72 (.istore 4) 2 := by decide +kernel
theorem own_d3_74 : own_D own_b3 74 (.iconst 0) 1 := by decide +kernel
theorem own_d3_75 : own_D own_b3 75 (.istore 5) 2 := by decide +kernel
theorem own_d3_77 : own_D own_b3 77 (.iconst 0) 1 := by decide +kernel
theorem own_d3_78 : own_D own_b3 78 (.istore 6) 2 := by decide +kernel
theorem own_d3_80 : own_D own_b3 80 (.iload 6) 2 := by decide +kernel
theorem own_d3_82 : own_D own_b3 82 (.aload_n 1) 1 := by decide +kernel
theorem own_d3_83 : own_D own_b3 83 .arraylength 1 := by decide +kernel
theorem own_d3_84 : own_D own_b3 84 (.if_icmp .ge 121) 3 := by decide +kernel
theorem own_d3_87 : own_D own_b3 87 (.aload_n 2) 1 := by decide +kernel
theorem own_d3_88 : own_D own_b3 88 (.iload 6) 2 := by decide +kernel
theorem own_d3_90 : own_D own_b3 90 .iaload 1 := by decide +kernel
theorem own_d3_91 : own_D own_b3 91 .i2l 1 := by decide +kernel
theorem own_d3_92 : own_D own_b3 92 (.aload_n 1) 1 := by decide +kernel
theorem own_d3_93 : own_D own_b3 93 (.iload 6) 2 := by decide +kernel
theorem own_d3_95 : own_D own_b3 95 .iaload 1 := by decide +kernel
theorem own_d3_96 : own_D own_b3 96 .i2l 1 := by decide +kernel
theorem own_d3_97 : own_D own_b3 97 .lsub 1 := by decide +kernel
theorem own_d3_98 : own_D own_b3 98 (.lconst 1) 1 := by decide +kernel
theorem own_d3_99 : own_D own_b3 99 .ladd 1 := by decide +kernel
theorem own_d3_100 : own_D own_b3 100 (.lstore 7) 2 := by decide +kernel
theorem own_d3_102 : own_D own_b3 102 (.lload 7) 2 := by decide +kernel
theorem own_d3_104 : own_D own_b3 104 (.lconst 1) 1 := by decide +kernel
theorem own_d3_105 : own_D own_b3 105 .lcmp 1 := by decide +kernel
theorem own_d3_106 : own_D own_b3 106 (.ifCond .ge 18) 3 := by decide +kernel
theorem own_d3_124 : own_D own_b3 124 (.bipush 64) 2 := by decide +kernel
theorem own_d3_126 : own_D own_b3 126 (.lload 7) 2 := by decide +kernel
theorem own_d3_128 : own_D own_b3 128 (.lconst 1) 1 := by decide +kernel
theorem own_d3_129 : own_D own_b3 129 .lsub 1 := by decide +kernel
theorem own_d3_130 : own_D own_b3 130 (.invokestatic 50) 3 := by decide +kernel
theorem own_d3_133 : own_D own_b3 133 .isub 1 := by decide +kernel
theorem own_d3_134 : own_D own_b3 134 (.istore 9) 2 := by decide +kernel
theorem own_d3_136 : own_D own_b3 136 (.iload 5) 2 := by decide +kernel
theorem own_d3_138 : own_D own_b3 138 (.iload 9) 2 := by decide +kernel
theorem own_d3_140 : own_D own_b3 140 .iadd 1 := by decide +kernel
theorem own_d3_141 : own_D own_b3 141 (.bipush 64) 2 := by decide +kernel
theorem own_d3_143 : own_D own_b3 143 (.if_icmp .le 9) 3 := by decide +kernel
theorem own_d3_146 : own_D own_b3 146 (.iinc 4 1) 3 := by decide +kernel
theorem own_d3_149 : own_D own_b3 149 (.iconst 0) 1 := by decide +kernel
theorem own_d3_150 : own_D own_b3 150 (.istore 5) 2 := by decide +kernel
theorem own_d3_152 : own_D own_b3 152 (.aload_n 0) 1 := by decide +kernel
theorem own_d3_153 : own_D own_b3 153 (.getfield 32) 3 := by decide +kernel
theorem own_d3_156 : own_D own_b3 156 (.iload 6) 2 := by decide +kernel
theorem own_d3_158 : own_D own_b3 158 (.lload 7) 2 := by decide +kernel
theorem own_d3_160 : own_D own_b3 160 .lastore 1 := by decide +kernel
theorem own_d3_161 : own_D own_b3 161 (.aload_n 0) 1 := by decide +kernel
theorem own_d3_162 : own_D own_b3 162 (.getfield 36) 3 := by decide +kernel
theorem own_d3_165 : own_D own_b3 165 (.iload 6) 2 := by decide +kernel
theorem own_d3_167 : own_D own_b3 167 (.lconst 1) 1 := by decide +kernel
theorem own_d3_168 : own_D own_b3 168 (.iload 9) 2 := by decide +kernel
theorem own_d3_170 : own_D own_b3 170 .lshl 1 := by decide +kernel
theorem own_d3_171 : own_D own_b3 171 (.lconst 1) 1 := by decide +kernel
theorem own_d3_172 : own_D own_b3 172 .lsub 1 := by decide +kernel
theorem own_d3_173 : own_D own_b3 173 .lastore 1 := by decide +kernel
theorem own_d3_174 : own_D own_b3 174 (.aload_n 0) 1 := by decide +kernel
theorem own_d3_175 : own_D own_b3 175 (.getfield 39) 3 := by decide +kernel
theorem own_d3_178 : own_D own_b3 178 (.iload 6) 2 := by decide +kernel
theorem own_d3_180 : own_D own_b3 180 (.iload 4) 2 := by decide +kernel
theorem own_d3_182 : own_D own_b3 182 .iastore 1 := by decide +kernel
theorem own_d3_183 : own_D own_b3 183 (.aload_n 0) 1 := by decide +kernel
theorem own_d3_184 : own_D own_b3 184 (.getfield 42) 3 := by decide +kernel
theorem own_d3_187 : own_D own_b3 187 (.iload 6) 2 := by decide +kernel
theorem own_d3_189 : own_D own_b3 189 (.iload 5) 2 := by decide +kernel
theorem own_d3_191 : own_D own_b3 191 .iastore 1 := by decide +kernel
theorem own_d3_192 : own_D own_b3 192 (.iload 5) 2 := by decide +kernel
theorem own_d3_194 : own_D own_b3 194 (.iload 9) 2 := by decide +kernel
theorem own_d3_196 : own_D own_b3 196 .iadd 1 := by decide +kernel
theorem own_d3_197 : own_D own_b3 197 (.istore 5) 2 := by decide +kernel
theorem own_d3_199 : own_D own_b3 199 (.iinc 6 1) 3 := by decide +kernel
theorem own_d3_202 : own_D own_b3 202 (.goto (-122)) 3 := by decide +kernel
theorem own_d3_205 : own_D own_b3 205 (.aload_n 0) 1 := by decide +kernel
theorem own_d3_206 : own_D own_b3 206 (.iload 4) 2 := by decide +kernel
theorem own_d3_208 : own_D own_b3 208 (.iconst 1) 1 := by decide +kernel
theorem own_d3_209 : own_D own_b3 209 .iadd 1 := by decide +kernel
theorem own_d3_210 : own_D own_b3 210 (.putfield 54) 3 := by decide +kernel
theorem own_d3_213 : own_D own_b3 213 (.aload_n 0) 1 := by decide +kernel
theorem own_d3_214 : own_D own_b3 214 (.sipush 1024) 3 := by decide +kernel
theorem own_d3_217 : own_D own_b3 217 (.iload_n 3) 1 := by decide +kernel
theorem own_d3_218 : own_D own_b3 218 (.invokestatic 58) 3 := by decide +kernel
theorem own_d3_221 : own_D own_b3 221 .i2l 1 := by decide +kernel
theorem own_d3_222 : own_D own_b3 222 (.aload_n 0) 1 := by decide +kernel
theorem own_d3_223 : own_D own_b3 223 (.getfield 54) 3 := by decide +kernel
theorem own_d3_226 : own_D own_b3 226 .i2l 1 := by decide +kernel
theorem own_d3_227 : own_D own_b3 227 .lmul 1 := by decide +kernel
theorem own_d3_228 : own_D own_b3 228 (.ldc2_w 64) 3 := by decide +kernel
theorem own_d3_231 : own_D own_b3 231 (.invokestatic 66) 3 := by decide +kernel
theorem own_d3_234 : own_D own_b3 234 .l2i 1 := by decide +kernel
theorem own_d3_235 : own_D own_b3 235 (.newarray .long) 2 := by decide +kernel
theorem own_d3_237 : own_D own_b3 237 (.putfield 70) 3 := by decide +kernel
theorem own_d3_240 : own_D own_b3 240 (.aload_n 0) 1 := by decide +kernel
theorem own_d3_241 : own_D own_b3 241 (.iload_n 3) 1 := by decide +kernel
theorem own_d3_242 : own_D own_b3 242 (.invokestatic 73) 3 := by decide +kernel
theorem own_d3_245 : own_D own_b3 245 (.newarray .int) 2 := by decide +kernel
theorem own_d3_247 : own_D own_b3 247 (.putfield 77) 3 := by decide +kernel
theorem own_d3_250 : own_D own_b3 250 (.aload_n 0) 1 := by decide +kernel
theorem own_d3_251 : own_D own_b3 251 (.aload_n 0) 1 := by decide +kernel
theorem own_d3_252 : own_D own_b3 252 (.getfield 54) 3 := by decide +kernel
theorem own_d3_255 : own_D own_b3 255 (.newarray .long) 2 := by decide +kernel
theorem own_d3_257 : own_D own_b3 257 (.putfield 80) 3 := by decide +kernel
theorem own_d3_260 : own_D own_b3 260 .return_ 1 := by decide +kernel
theorem own_pd8 : parseMethodDescriptor "()V" = some ⟨[], none⟩ := by decide +kernel
theorem own_pd9 : parseMethodDescriptor "()Ljava/lang/Object;" = some ⟨[], some (.object "java/lang/Object")⟩ := by decide +kernel
theorem own_pd10 : parseMethodDescriptor "(J)I" = some ⟨[.long], some .int⟩ := by decide +kernel
theorem own_pd11 : parseMethodDescriptor "(II)I" = some ⟨[.int, .int], some .int⟩ := by decide +kernel
def own_QiniA (Z : State) (a : Addr) (lw : Addr) (hg : Addr) (klw : ClassId) (lo : Int32) (khg : ClassId) (hi : Int32) (NL : Int32) (h0 : Heap) (n0 : Nat) (v : Option Value) (h : Heap) (L : List Loc) : Prop := v = none ∧ Fr n0 L ∧ Keep h0 h [a] ∧ ∃ aL aS aM aW aH aP aQ aK kaL kaS kaM kaW kaH kaP kaK : Addr, Fld Z h a own_z0 "lows" "[I" (.ref aL) ∧ Fld Z h a own_z0 "spans" "[J" (.ref aS) ∧ Fld Z h a own_z0 "masks" "[J" (.ref aM) ∧ Fld Z h a own_z0 "words" "[I" (.ref aW) ∧ Fld Z h a own_z0 "shifts" "[I" (.ref aH) ∧ Fld Z h a own_z0 "packed" "[J" (.ref aP) ∧ Fld Z h a own_z0 "slots" "[I" (.ref aQ) ∧ Fld Z h a own_z0 "key" "[J" (.ref aK) ∧ Fld Z h a own_z0 "wordCount" "I" (.int 1) ∧ Fld Z h a own_z0 "size" "I" (.int 0) ∧ Arv Z h aL kaL .int (3 : Int32) [(.int lo), (.int (-2147483648)), (.int (-2147483648))] (.int 0) ∧ Arv Z h aS kaS .long (3 : Int32) [(.long (((hi.toInt64) - (lo.toInt64)) + (1 : Int64))), (.long 4294967296), (.long 4294967296)] (.long 0) ∧ Arv Z h aM kaM .long (3 : Int32) [(.long (((1 : Int64) <<< (((64 : Int32) - NL) &&& 0x3f).toInt64) - (1 : Int64))), (.long (((1 : Int64) <<< ((32 : Int32) &&& 0x3f).toInt64) - (1 : Int64))), (.long (((1 : Int64) <<< ((32 : Int32) &&& 0x3f).toInt64) - (1 : Int64)))] (.long 0) ∧ Arv Z h aW kaW .int (3 : Int32) [(.int 0), (.int 0), (.int 0)] (.int 0) ∧ Arv Z h aH kaH .int (3 : Int32) [(.int 0), (.int ((0 : Int32) + ((64 : Int32) - NL))), (.int (((0 : Int32) + ((64 : Int32) - NL)) + (32 : Int32)))] (.int 0) ∧ Arv Z h aP kaP .long (1024 : Int32) [(.long 0), (.long 0)] (.long 0) ∧ Arv Z h aK kaK .long (1 : Int32) [(.long 0)] (.long 0) ∧ own_AI Z h aQ 1024 (fun _ => 0) ∧ aL ≠ aK ∧ aS ≠ aK ∧ aM ≠ aK ∧ aW ≠ aK ∧ aH ≠ aK ∧ aL ≠ aP ∧ aS ≠ aP ∧ aM ≠ aP ∧ aW ≠ aP ∧ aH ≠ aP ∧ aL ≠ aQ ∧ aS ≠ aQ ∧ aM ≠ aQ ∧ aW ≠ aQ ∧ aH ≠ aQ ∧ aP ≠ aK ∧ aQ ≠ aK ∧ aP ≠ aQ ∧ h0.size ≤ aL ∧ h0.size ≤ aS ∧ h0.size ≤ aM ∧ h0.size ≤ aW ∧ h0.size ≤ aH ∧ h0.size ≤ aP ∧ h0.size ≤ aQ ∧ h0.size ≤ aK
theorem own_efiniA (m : MethodId) (a : Addr) (lw : Addr) (hg : Addr) : entryFrame m #[(.ref a), (.ref lw), (.ref hg), (.int 0)] 10 = mkF m 0 #[rv a, rv lw, rv hg, iv 0, .unset, .unset, .unset, .unset, .unset, .unset] [] := by first | (simp [entryFrame, mkF, argsToLocals, Value.category]; done) | rfl
set_option maxRecDepth 65536 in
set_option maxHeartbeats 16000000 in
theorem own_rminiA (l : Launch) (Z : State) (a0 : Array Value) (hw : own_HW Z a0) (ws : List Jvm.Cond) (a : Addr) (lw : Addr) (hg : Addr) (klw : ClassId) (lo : Int32) (khg : ClassId) (hi : Int32) (NL : Int32) (h0 : Heap) (n0 : Nat) (Z0 : n0 ≤ h0.size) (E_a : Exa Z h0 a own_z0) (F_lows_a : Fld Z h0 a own_z0 "lows" "[I" .null) (F_spans_a : Fld Z h0 a own_z0 "spans" "[J" .null) (F_masks_a : Fld Z h0 a own_z0 "masks" "[J" .null) (F_words_a : Fld Z h0 a own_z0 "words" "[I" .null) (F_shifts_a : Fld Z h0 a own_z0 "shifts" "[I" .null) (F_wordCount_a : Fld Z h0 a own_z0 "wordCount" "I" (.int 0)) (F_packed_a : Fld Z h0 a own_z0 "packed" "[J" .null) (F_slots_a : Fld Z h0 a own_z0 "slots" "[I" .null) (F_key_a : Fld Z h0 a own_z0 "key" "[J" .null) (F_size_a : Fld Z h0 a own_z0 "size" "I" (.int 0)) (E_lw : Exa Z h0 lw "[I") (V_lw : Arv Z h0 lw klw .int (3 : Int32) [(.int lo), (.int (-2147483648)), (.int (-2147483648))] (.int 0)) (V_hg : Arv Z h0 hg khg .int (3 : Int32) [(.int hi), (.int 2147483647), (.int 2147483647)] (.int 0)) (hnl : own_f5_0 ((((hi.toInt64) - (lo.toInt64)) + (1 : Int64)) - (1 : Int64)) = NL) (hc1 : ¬ ((lcmpW (((hi.toInt64) - (lo.toInt64)) + (1 : Int64)) (1 : Int64)) < (0 : Int32))) (hc2 : ¬ ((64 : Int32) < ((0 : Int32) + ((64 : Int32) - NL)))) (hc3 : ¬ ((64 : Int32) < (((0 : Int32) + ((64 : Int32) - NL)) + (32 : Int32)))) (hc4 : ¬ ((64 : Int32) < ((((0 : Int32) + ((64 : Int32) - NL)) + (32 : Int32)) + (32 : Int32)))) (ne_lw_a : lw ≠ a) (ne_hg_a : hg ≠ a) (g_a : n0 ≤ a) :
    MetFree l (⟨own_z0, "<init>", "([I[II)V"⟩ : MethodName) (head1 (Jvm.Cond.code (⟨own_z0, "<init>", "([I[II)V"⟩ : MethodName) prog_160_method_2_code 10 none :: ws) ({ frames := 2, cells := 8, slots := 2064, locals := 29 } : Room)) (fun aa UU => aa = #[(.ref a), (.ref lw), (.ref hg), (.int 0)] ∧ Z.Warmed39 UU.vm ∧ UU.heap = h0) (fun _ _ _ _ _ => True) (fun _ U o U' => ∃ v L, o = .returned v ∧ own_QiniA Z a lw hg klw lo khg hi NL h0 n0 v U'.heap L ∧ FrameEnd U o U' L ({ frames := 2, cells := 8, slots := 2064, locals := 29 } : Room).cells ({ frames := 2, cells := 8, slots := 2064, locals := 29 } : Room).slots) := by
  refine MetFree.of_bodySF (plainFor_of_name own_pn2) hisR ?_
  intro p e s m args below meth c s₁ Bd hml hP hK
  obtain ⟨rfl, hZ, hh⟩ := hP
  have hx := Bd.exec
  have hlk := Bd.notSynchronized
  have hby := Bd.bytes
  have hret := Bd.returns
  have hown := findClass_of_methodNamed Bd.named
  have hnm := (name_of_methodNamed Bd.named Bd.method).1
  have X0 : Stand p l e ({ frames := 2, cells := 8, slots := 2064, locals := 29 } : Room) s m #[(.ref a), (.ref lw), (.ref hg), (.int 0)] below meth c s₁ [] 0 0 := Stand.of_body Bd
  have e0 : s₁.heap = h0 := by rw [← hh, Bd.state]; rfl
  have N0 := Fr.nil n0
  refine own_cast (own_efiniA m a lw hg) ?_
  show own_Go p e below s s₁ _ (own_QiniA Z a lw hg klw lo khg hi NL h0 n0) 8 2064
  have K0 : Keep h0 h0 [a] := Keep.refl _ _
  refine own_st (g' := (mkF m 1 #[rv a, rv lw, rv hg, iv 0, .unset, .unset, .unset, .unset, .unset, .unset] [(.ref a)])) (fun tt_ kk_ => XS.aloadN X0.here hx rfl (hb hby own_d3_0) rfl rfl kk_) ?_
  obtain ⟨T552, X552, e552, st552⟩ := initO X0 hx hZ hown (own_w hw 17 rfl) (own_w hw 18 rfl) (own_w hw 19 rfl) e0 (g := (mkF m 1 #[rv a, rv lw, rv hg, iv 0, .unset, .unset, .unset, .unset, .unset, .unset] [(.ref a)])) rfl (by rw [hml]; rfl) rfl (hb hby own_d3_1) (by decide) (W := 0) (by show 2 * 0 + _ ≤ _; exact Nat.le_of_eq rfl) (by decide)
  refine own_st st552 ?_
  refine own_st (g' := (mkF m 5 #[rv a, rv lw, rv hg, iv 0, .unset, .unset, .unset, .unset, .unset, .unset] [(.ref lw)])) (fun tt_ kk_ => XS.aloadN X552.here hx rfl (hb hby own_d3_4) rfl rfl kk_) ?_
  refine own_st (g' := (mkF m 7 #[rv a, rv lw, rv hg, iv 0, .unset, .unset, .unset, .unset, .unset, .unset] [(.ref hg), (.int 3)])) (fun tt_ kk_ => own_lnV (g := (mkF m 5 #[rv a, rv lw, rv hg, iv 0, .unset, .unset, .unset, .unset, .unset, .unset] [(.ref lw)])) X552 hx hZ e552 V_lw rfl rfl (hb hby own_d3_5) tt_ (XS.aloadN X552.here hx rfl (hb hby own_d3_6) rfl rfl kk_)) ?_
  refine own_st (g' := (mkF m 30 #[rv a, rv lw, rv hg, iv 0, .unset, .unset, .unset, .unset, .unset, .unset] [(.ref lw), (.ref a)])) (fun tt_ kk_ => own_lnV (g := (mkF m 7 #[rv a, rv lw, rv hg, iv 0, .unset, .unset, .unset, .unset, .unset, .unset] [(.ref hg), (.int 3)])) X552 hx hZ e552 V_hg rfl rfl (hb hby own_d3_7) tt_ (XS.icmpYes X552.here hx rfl (pc0 := 8) (pc' := 28) rfl (hb hby own_d3_8) rfl (teq (by decide : (3 : Int32) = (3 : Int32))).1 (by decide) (by decide) (XS.aloadN X552.here hx rfl (hb hby own_d3_28) rfl rfl (XS.aloadN X552.here hx rfl (hb hby own_d3_29) rfl rfl kk_)))) ?_
  obtain ⟨T553, h553, X553, e553, E553, V553, Q553, st553⟩ := own_clone X552 hx hZ hown (own_w hw 20 rfl) (own_w hw 21 rfl) (own_w hw 25 rfl) (own_w hw 23 rfl) (own_w hw 24 rfl) (own_w hw 26 rfl) e552 V_lw E_lw (g := (mkF m 30 #[rv a, rv lw, rv hg, iv 0, .unset, .unset, .unset, .unset, .unset, .unset] [(.ref lw), (.ref a)])) rfl (by rw [hml]; rfl) rfl (hb hby own_d3_30) (by decide) (W := 1) (by show 2 * 0 + _ ≤ _; exact Nat.le_of_eq rfl) (by decide) (cap := 3) (by decide) (by decide) (by decide)
  obtain ⟨b553, g553⟩ : ∃ z, z = h0.size := ⟨_, rfl⟩
  rw [← g553] at V553 Q553 st553
  have ne554 : a ≠ b553 := Nat.ne_of_lt (Nat.lt_of_lt_of_le E_a.lt (Nat.le_of_eq g553.symm))
  have ne555 : lw ≠ b553 := Nat.ne_of_lt (Nat.lt_of_lt_of_le E_lw.lt (Nat.le_of_eq g553.symm))
  have ne556 : hg ≠ b553 := Nat.ne_of_lt (Nat.lt_of_lt_of_le V_hg.lt (Nat.le_of_eq g553.symm))
  have gz553 : n0 ≤ b553 := Nat.le_trans Z0 (Nat.le_of_eq g553.symm)
  have Z553 : n0 ≤ h553.size := Nat.le_trans Z0 E553.1
  have sz553 : h0.size ≤ b553 := Nat.le_trans K0.1 (Nat.le_of_eq g553.symm)
  have K553 : Keep h0 h553 [a] := K0.ext E553
  refine own_st st553 ?_
  obtain ⟨T557, X557, e557, st557⟩ := castY X553 hx hZ hown (own_w hw 27 rfl) e553 (Ins.self Q553) (g := (mkF m 33 #[rv a, rv lw, rv hg, iv 0, .unset, .unset, .unset, .unset, .unset, .unset] [(.ref b553), (.ref a)])) rfl rfl (hb hby own_d3_33)
  refine own_st st557 ?_
  have F559 := (F_lows_a.ext E553)
  have F560 := (E_a.ext E553)
  obtain ⟨T558, h558, X558, e558, W558, st558⟩ := putF X557 hx hZ hown (host := "") (Or.inl (own_w hw 29 rfl)) Via.refl e557 F559 F560 (Or.inr ⟨(own_w hw 30 rfl), rfl, hnm⟩) (own_w hw 12 rfl) (ty := (.array .int)) (by decide) rfl rfl (g := (mkF m 36 #[rv a, rv lw, rv hg, iv 0, .unset, .unset, .unset, .unset, .unset, .unset] [(.ref b553), (.ref a)])) rfl rfl (hb hby own_d3_36)
  have N558 := Fr.snoc X558 N0 g_a
  have Z558 : n0 ≤ h558.size := Nat.le_trans Z553 (Keep.of_wr W558).1
  have K558 : Keep h0 h558 [a] := K553.wr W558 (Or.inl (List.mem_of_getElem? (i := 0) rfl))
  have F558 : Fld Z h558 a own_z0 "lows" "[I" (.ref b553) := F559.same W558
  refine own_st st558 ?_
  refine own_st (g' := (mkF m 41 #[rv a, rv lw, rv hg, iv 0, .unset, .unset, .unset, .unset, .unset, .unset] [(.ref lw), (.ref a)])) (fun tt_ kk_ => XS.aloadN X558.here hx rfl (hb hby own_d3_39) rfl rfl (XS.aloadN X558.here hx rfl (hb hby own_d3_40) rfl rfl kk_)) ?_
  have F561 := ((V_lw.ext E553).other W558 ne_lw_a)
  refine own_st (g' := (mkF m 42 #[rv a, rv lw, rv hg, iv 0, .unset, .unset, .unset, .unset, .unset, .unset] [(.int 3), (.ref a)])) (fun tt_ kk_ => own_lnV (g := (mkF m 41 #[rv a, rv lw, rv hg, iv 0, .unset, .unset, .unset, .unset, .unset, .unset] [(.ref lw), (.ref a)])) X558 hx hZ e558 F561 rfl rfl (hb hby own_d3_41) tt_ kk_) ?_
  obtain ⟨T562, h562, k562, X562, e562, E562, A562, st562⟩ := newP X558 hx hZ (own_w hw 31 rfl) e558 (g := (mkF m 42 #[rv a, rv lw, rv hg, iv 0, .unset, .unset, .unset, .unset, .unset, .unset] [(.int 3), (.ref a)])) rfl (hb hby own_d3_42) rfl (by decide) (cap := 3) (by decide) (by decide) (by decide) (by decide)
  obtain ⟨b562, g562⟩ : ∃ z, z = h558.size := ⟨_, rfl⟩
  rw [← g562] at A562 st562
  have F564 := (F560.wr W558)
  have ne563 : a ≠ b562 := Nat.ne_of_lt (Nat.lt_of_lt_of_le F564.lt (Nat.le_of_eq g562.symm))
  have F566 := (V553.other W558 (Ne.symm ne554))
  have ne565 : b553 ≠ b562 := Nat.ne_of_lt (Nat.lt_of_lt_of_le F566.lt (Nat.le_of_eq g562.symm))
  have F568 := ((E_lw.ext E553).wr W558)
  have ne567 : lw ≠ b562 := Nat.ne_of_lt (Nat.lt_of_lt_of_le F568.lt (Nat.le_of_eq g562.symm))
  have F570 := ((V_hg.ext E553).other W558 ne_hg_a)
  have ne569 : hg ≠ b562 := Nat.ne_of_lt (Nat.lt_of_lt_of_le F570.lt (Nat.le_of_eq g562.symm))
  have gz562 : n0 ≤ b562 := Nat.le_trans Z558 (Nat.le_of_eq g562.symm)
  have Z562 : n0 ≤ h562.size := Nat.le_trans Z558 E562.1
  have sz562 : h0.size ≤ b562 := Nat.le_trans K558.1 (Nat.le_of_eq g562.symm)
  have K562 : Keep h0 h562 [a] := K558.ext E562
  have V562 : Arv Z h562 b562 k562 .long (3 : Int32) [(.long 0), (.long 0), (.long 0)] (.long 0) := (Arv.new A562 (by decide)).pad (pad_rep [] (.long 0) 3)
  refine own_st st562 ?_
  have F572 := (((F_spans_a.ext E553).other W558 (Or.inr (own_sn9 hw))).ext E562)
  have F573 := (F564.ext E562)
  obtain ⟨T571, h571, X571, e571, W571, st571⟩ := putF X562 hx hZ hown (host := "") (Or.inl (own_w hw 32 rfl)) Via.refl e562 F572 F573 (Or.inr ⟨(own_w hw 33 rfl), rfl, hnm⟩) (own_w hw 12 rfl) (ty := (.array .long)) (by decide) rfl rfl (g := (mkF m 44 #[rv a, rv lw, rv hg, iv 0, .unset, .unset, .unset, .unset, .unset, .unset] [(.ref b562), (.ref a)])) rfl rfl (hb hby own_d3_44)
  have N571 := Fr.snoc X571 N558 g_a
  have Z571 : n0 ≤ h571.size := Nat.le_trans Z562 (Keep.of_wr W571).1
  have K571 : Keep h0 h571 [a] := K562.wr W571 (Or.inl (List.mem_of_getElem? (i := 0) rfl))
  have F571 : Fld Z h571 a own_z0 "spans" "[J" (.ref b562) := F572.same W571
  refine own_st st571 ?_
  refine own_st (g' := (mkF m 49 #[rv a, rv lw, rv hg, iv 0, .unset, .unset, .unset, .unset, .unset, .unset] [(.ref lw), (.ref a)])) (fun tt_ kk_ => XS.aloadN X571.here hx rfl (hb hby own_d3_47) rfl rfl (XS.aloadN X571.here hx rfl (hb hby own_d3_48) rfl rfl kk_)) ?_
  have F574 := ((F561.ext E562).other W571 ne_lw_a)
  refine own_st (g' := (mkF m 50 #[rv a, rv lw, rv hg, iv 0, .unset, .unset, .unset, .unset, .unset, .unset] [(.int 3), (.ref a)])) (fun tt_ kk_ => own_lnV (g := (mkF m 49 #[rv a, rv lw, rv hg, iv 0, .unset, .unset, .unset, .unset, .unset, .unset] [(.ref lw), (.ref a)])) X571 hx hZ e571 F574 rfl rfl (hb hby own_d3_49) tt_ kk_) ?_
  obtain ⟨T575, h575, k575, X575, e575, E575, A575, st575⟩ := newP X571 hx hZ (own_w hw 31 rfl) e571 (g := (mkF m 50 #[rv a, rv lw, rv hg, iv 0, .unset, .unset, .unset, .unset, .unset, .unset] [(.int 3), (.ref a)])) rfl (hb hby own_d3_50) rfl (by decide) (cap := 3) (by decide) (by decide) (by decide) (by decide)
  obtain ⟨b575, g575⟩ : ∃ z, z = h571.size := ⟨_, rfl⟩
  rw [← g575] at A575 st575
  have F577 := (F573.wr W571)
  have ne576 : a ≠ b575 := Nat.ne_of_lt (Nat.lt_of_lt_of_le F577.lt (Nat.le_of_eq g575.symm))
  have F579 := ((F566.ext E562).other W571 (Ne.symm ne554))
  have ne578 : b553 ≠ b575 := Nat.ne_of_lt (Nat.lt_of_lt_of_le F579.lt (Nat.le_of_eq g575.symm))
  have F581 := ((F568.ext E562).wr W571)
  have ne580 : lw ≠ b575 := Nat.ne_of_lt (Nat.lt_of_lt_of_le F581.lt (Nat.le_of_eq g575.symm))
  have F583 := (V562.other W571 (Ne.symm ne563))
  have ne582 : b562 ≠ b575 := Nat.ne_of_lt (Nat.lt_of_lt_of_le F583.lt (Nat.le_of_eq g575.symm))
  have F585 := ((F570.ext E562).other W571 ne_hg_a)
  have ne584 : hg ≠ b575 := Nat.ne_of_lt (Nat.lt_of_lt_of_le F585.lt (Nat.le_of_eq g575.symm))
  have gz575 : n0 ≤ b575 := Nat.le_trans Z571 (Nat.le_of_eq g575.symm)
  have Z575 : n0 ≤ h575.size := Nat.le_trans Z571 E575.1
  have sz575 : h0.size ≤ b575 := Nat.le_trans K571.1 (Nat.le_of_eq g575.symm)
  have K575 : Keep h0 h575 [a] := K571.ext E575
  have V575 : Arv Z h575 b575 k575 .long (3 : Int32) [(.long 0), (.long 0), (.long 0)] (.long 0) := (Arv.new A575 (by decide)).pad (pad_rep [] (.long 0) 3)
  refine own_st st575 ?_
  have F587 := (((((F_masks_a.ext E553).other W558 (Or.inr (own_sn10 hw))).ext E562).other W571 (Or.inr (own_sn11 hw))).ext E575)
  have F588 := (F577.ext E575)
  obtain ⟨T586, h586, X586, e586, W586, st586⟩ := putF X575 hx hZ hown (host := "") (Or.inl (own_w hw 34 rfl)) Via.refl e575 F587 F588 (Or.inr ⟨(own_w hw 35 rfl), rfl, hnm⟩) (own_w hw 12 rfl) (ty := (.array .long)) (by decide) rfl rfl (g := (mkF m 52 #[rv a, rv lw, rv hg, iv 0, .unset, .unset, .unset, .unset, .unset, .unset] [(.ref b575), (.ref a)])) rfl rfl (hb hby own_d3_52)
  have N586 := Fr.snoc X586 N571 g_a
  have Z586 : n0 ≤ h586.size := Nat.le_trans Z575 (Keep.of_wr W586).1
  have K586 : Keep h0 h586 [a] := K575.wr W586 (Or.inl (List.mem_of_getElem? (i := 0) rfl))
  have F586 : Fld Z h586 a own_z0 "masks" "[J" (.ref b575) := F587.same W586
  refine own_st st586 ?_
  refine own_st (g' := (mkF m 57 #[rv a, rv lw, rv hg, iv 0, .unset, .unset, .unset, .unset, .unset, .unset] [(.ref lw), (.ref a)])) (fun tt_ kk_ => XS.aloadN X586.here hx rfl (hb hby own_d3_55) rfl rfl (XS.aloadN X586.here hx rfl (hb hby own_d3_56) rfl rfl kk_)) ?_
  have F589 := ((F574.ext E575).other W586 ne_lw_a)
  refine own_st (g' := (mkF m 58 #[rv a, rv lw, rv hg, iv 0, .unset, .unset, .unset, .unset, .unset, .unset] [(.int 3), (.ref a)])) (fun tt_ kk_ => own_lnV (g := (mkF m 57 #[rv a, rv lw, rv hg, iv 0, .unset, .unset, .unset, .unset, .unset, .unset] [(.ref lw), (.ref a)])) X586 hx hZ e586 F589 rfl rfl (hb hby own_d3_57) tt_ kk_) ?_
  obtain ⟨T590, h590, k590, X590, e590, E590, A590, st590⟩ := newP X586 hx hZ (own_w hw 8 rfl) e586 (g := (mkF m 58 #[rv a, rv lw, rv hg, iv 0, .unset, .unset, .unset, .unset, .unset, .unset] [(.int 3), (.ref a)])) rfl (hb hby own_d3_58) rfl (by decide) (cap := 3) (by decide) (by decide) (by decide) (by decide)
  obtain ⟨b590, g590⟩ : ∃ z, z = h586.size := ⟨_, rfl⟩
  rw [← g590] at A590 st590
  have F592 := (F588.wr W586)
  have ne591 : a ≠ b590 := Nat.ne_of_lt (Nat.lt_of_lt_of_le F592.lt (Nat.le_of_eq g590.symm))
  have F594 := ((F579.ext E575).other W586 (Ne.symm ne554))
  have ne593 : b553 ≠ b590 := Nat.ne_of_lt (Nat.lt_of_lt_of_le F594.lt (Nat.le_of_eq g590.symm))
  have F596 := ((F581.ext E575).wr W586)
  have ne595 : lw ≠ b590 := Nat.ne_of_lt (Nat.lt_of_lt_of_le F596.lt (Nat.le_of_eq g590.symm))
  have F598 := ((F583.ext E575).other W586 (Ne.symm ne563))
  have ne597 : b562 ≠ b590 := Nat.ne_of_lt (Nat.lt_of_lt_of_le F598.lt (Nat.le_of_eq g590.symm))
  have F600 := (V575.other W586 (Ne.symm ne576))
  have ne599 : b575 ≠ b590 := Nat.ne_of_lt (Nat.lt_of_lt_of_le F600.lt (Nat.le_of_eq g590.symm))
  have F602 := ((F585.ext E575).other W586 ne_hg_a)
  have ne601 : hg ≠ b590 := Nat.ne_of_lt (Nat.lt_of_lt_of_le F602.lt (Nat.le_of_eq g590.symm))
  have gz590 : n0 ≤ b590 := Nat.le_trans Z586 (Nat.le_of_eq g590.symm)
  have Z590 : n0 ≤ h590.size := Nat.le_trans Z586 E590.1
  have sz590 : h0.size ≤ b590 := Nat.le_trans K586.1 (Nat.le_of_eq g590.symm)
  have K590 : Keep h0 h590 [a] := K586.ext E590
  have V590 : Arv Z h590 b590 k590 .int (3 : Int32) [(.int 0), (.int 0), (.int 0)] (.int 0) := (Arv.new A590 (by decide)).pad (pad_rep [] (.int 0) 3)
  refine own_st st590 ?_
  have F604 := (((((((F_words_a.ext E553).other W558 (Or.inr (own_sn12 hw))).ext E562).other W571 (Or.inr (own_sn13 hw))).ext E575).other W586 (Or.inr (own_sn14 hw))).ext E590)
  have F605 := (F592.ext E590)
  obtain ⟨T603, h603, X603, e603, W603, st603⟩ := putF X590 hx hZ hown (host := "") (Or.inl (own_w hw 36 rfl)) Via.refl e590 F604 F605 (Or.inr ⟨(own_w hw 37 rfl), rfl, hnm⟩) (own_w hw 12 rfl) (ty := (.array .int)) (by decide) rfl rfl (g := (mkF m 60 #[rv a, rv lw, rv hg, iv 0, .unset, .unset, .unset, .unset, .unset, .unset] [(.ref b590), (.ref a)])) rfl rfl (hb hby own_d3_60)
  have N603 := Fr.snoc X603 N586 g_a
  have Z603 : n0 ≤ h603.size := Nat.le_trans Z590 (Keep.of_wr W603).1
  have K603 : Keep h0 h603 [a] := K590.wr W603 (Or.inl (List.mem_of_getElem? (i := 0) rfl))
  have F603 : Fld Z h603 a own_z0 "words" "[I" (.ref b590) := F604.same W603
  refine own_st st603 ?_
  refine own_st (g' := (mkF m 65 #[rv a, rv lw, rv hg, iv 0, .unset, .unset, .unset, .unset, .unset, .unset] [(.ref lw), (.ref a)])) (fun tt_ kk_ => XS.aloadN X603.here hx rfl (hb hby own_d3_63) rfl rfl (XS.aloadN X603.here hx rfl (hb hby own_d3_64) rfl rfl kk_)) ?_
  have F606 := ((F589.ext E590).other W603 ne_lw_a)
  refine own_st (g' := (mkF m 66 #[rv a, rv lw, rv hg, iv 0, .unset, .unset, .unset, .unset, .unset, .unset] [(.int 3), (.ref a)])) (fun tt_ kk_ => own_lnV (g := (mkF m 65 #[rv a, rv lw, rv hg, iv 0, .unset, .unset, .unset, .unset, .unset, .unset] [(.ref lw), (.ref a)])) X603 hx hZ e603 F606 rfl rfl (hb hby own_d3_65) tt_ kk_) ?_
  obtain ⟨T607, h607, k607, X607, e607, E607, A607, st607⟩ := newP X603 hx hZ (own_w hw 8 rfl) e603 (g := (mkF m 66 #[rv a, rv lw, rv hg, iv 0, .unset, .unset, .unset, .unset, .unset, .unset] [(.int 3), (.ref a)])) rfl (hb hby own_d3_66) rfl (by decide) (cap := 3) (by decide) (by decide) (by decide) (by decide)
  obtain ⟨b607, g607⟩ : ∃ z, z = h603.size := ⟨_, rfl⟩
  rw [← g607] at A607 st607
  have F609 := (F605.wr W603)
  have ne608 : a ≠ b607 := Nat.ne_of_lt (Nat.lt_of_lt_of_le F609.lt (Nat.le_of_eq g607.symm))
  have F611 := ((F594.ext E590).other W603 (Ne.symm ne554))
  have ne610 : b553 ≠ b607 := Nat.ne_of_lt (Nat.lt_of_lt_of_le F611.lt (Nat.le_of_eq g607.symm))
  have F613 := ((F596.ext E590).wr W603)
  have ne612 : lw ≠ b607 := Nat.ne_of_lt (Nat.lt_of_lt_of_le F613.lt (Nat.le_of_eq g607.symm))
  have F615 := ((F598.ext E590).other W603 (Ne.symm ne563))
  have ne614 : b562 ≠ b607 := Nat.ne_of_lt (Nat.lt_of_lt_of_le F615.lt (Nat.le_of_eq g607.symm))
  have F617 := ((F600.ext E590).other W603 (Ne.symm ne576))
  have ne616 : b575 ≠ b607 := Nat.ne_of_lt (Nat.lt_of_lt_of_le F617.lt (Nat.le_of_eq g607.symm))
  have F619 := (V590.other W603 (Ne.symm ne591))
  have ne618 : b590 ≠ b607 := Nat.ne_of_lt (Nat.lt_of_lt_of_le F619.lt (Nat.le_of_eq g607.symm))
  have F621 := ((F602.ext E590).other W603 ne_hg_a)
  have ne620 : hg ≠ b607 := Nat.ne_of_lt (Nat.lt_of_lt_of_le F621.lt (Nat.le_of_eq g607.symm))
  have gz607 : n0 ≤ b607 := Nat.le_trans Z603 (Nat.le_of_eq g607.symm)
  have Z607 : n0 ≤ h607.size := Nat.le_trans Z603 E607.1
  have sz607 : h0.size ≤ b607 := Nat.le_trans K603.1 (Nat.le_of_eq g607.symm)
  have K607 : Keep h0 h607 [a] := K603.ext E607
  have V607 : Arv Z h607 b607 k607 .int (3 : Int32) [(.int 0), (.int 0), (.int 0)] (.int 0) := (Arv.new A607 (by decide)).pad (pad_rep [] (.int 0) 3)
  refine own_st st607 ?_
  have F623 := (((((((((F_shifts_a.ext E553).other W558 (Or.inr (own_sn15 hw))).ext E562).other W571 (Or.inr (own_sn16 hw))).ext E575).other W586 (Or.inr (own_sn17 hw))).ext E590).other W603 (Or.inr (own_sn18 hw))).ext E607)
  have F624 := (F609.ext E607)
  obtain ⟨T622, h622, X622, e622, W622, st622⟩ := putF X607 hx hZ hown (host := "") (Or.inl (own_w hw 38 rfl)) Via.refl e607 F623 F624 (Or.inr ⟨(own_w hw 39 rfl), rfl, hnm⟩) (own_w hw 12 rfl) (ty := (.array .int)) (by decide) rfl rfl (g := (mkF m 68 #[rv a, rv lw, rv hg, iv 0, .unset, .unset, .unset, .unset, .unset, .unset] [(.ref b607), (.ref a)])) rfl rfl (hb hby own_d3_68)
  have N622 := Fr.snoc X622 N603 g_a
  have Z622 : n0 ≤ h622.size := Nat.le_trans Z607 (Keep.of_wr W622).1
  have K622 : Keep h0 h622 [a] := K607.wr W622 (Or.inl (List.mem_of_getElem? (i := 0) rfl))
  have F622 : Fld Z h622 a own_z0 "shifts" "[I" (.ref b607) := F623.same W622
  refine own_st st622 ?_
  refine own_st (g' := (mkF m 83 #[rv a, rv lw, rv hg, iv 0, iv 0, iv 0, iv 0, .unset, .unset, .unset] [(.ref lw), (.int 0)])) (fun tt_ kk_ => XS.iconst X622.here hx rfl (hb hby own_d3_71) (XS.istore X622.here hx rfl (hb hby own_d3_72) rfl (l' := #[rv a, rv lw, rv hg, iv 0, iv 0, .unset, .unset, .unset, .unset, .unset]) rfl (XS.iconst X622.here hx rfl (hb hby own_d3_74) (XS.istore X622.here hx rfl (hb hby own_d3_75) rfl (l' := #[rv a, rv lw, rv hg, iv 0, iv 0, iv 0, .unset, .unset, .unset, .unset]) rfl (XS.iconst X622.here hx rfl (hb hby own_d3_77) (XS.istore X622.here hx rfl (hb hby own_d3_78) rfl (l' := #[rv a, rv lw, rv hg, iv 0, iv 0, iv 0, iv 0, .unset, .unset, .unset]) rfl (XS.iload X622.here hx rfl (hb hby own_d3_80) rfl (XS.aloadN X622.here hx rfl (hb hby own_d3_82) rfl rfl kk_)))))))) ?_
  have F625 := ((F606.ext E607).other W622 ne_lw_a)
  refine own_st (g' := (mkF m 90 #[rv a, rv lw, rv hg, iv 0, iv 0, iv 0, iv 0, .unset, .unset, .unset] [(.int 0), (.ref hg)])) (fun tt_ kk_ => own_lnV (g := (mkF m 83 #[rv a, rv lw, rv hg, iv 0, iv 0, iv 0, iv 0, .unset, .unset, .unset] [(.ref lw), (.int 0)])) X622 hx hZ e622 F625 rfl rfl (hb hby own_d3_83) tt_ (XS.icmpNo X622.here hx rfl (hb hby own_d3_84) rfl (tlt (by decide : (0 : Int32) < (3 : Int32))).2.1 (XS.aloadN X622.here hx rfl (hb hby own_d3_87) rfl rfl (XS.iload X622.here hx rfl (hb hby own_d3_88) rfl kk_)))) ?_
  have F626 := ((F621.ext E607).other W622 ne_hg_a)
  refine own_st (g' := (mkF m 95 #[rv a, rv lw, rv hg, iv 0, iv 0, iv 0, iv 0, .unset, .unset, .unset] [(.int 0), (.ref lw), (.long (hi.toInt64))])) (fun tt_ kk_ => own_lvI (g := (mkF m 90 #[rv a, rv lw, rv hg, iv 0, iv 0, iv 0, iv 0, .unset, .unset, .unset] [(.int 0), (.ref hg)])) X622 hx hZ e622 F626 (by decide) rfl rfl rfl (hb hby own_d3_90) tt_ (XS.i2l X622.here hx rfl (hb hby own_d3_91) rfl (XS.aloadN X622.here hx rfl (hb hby own_d3_92) rfl rfl (XS.iload X622.here hx rfl (hb hby own_d3_93) rfl kk_)))) ?_
  refine own_st (g' := (mkF m 106 #[rv a, rv lw, rv hg, iv 0, iv 0, iv 0, iv 0, .val (.long (((hi.toInt64) - (lo.toInt64)) + (1 : Int64))), .second, .unset] [(.int (lcmpW (((hi.toInt64) - (lo.toInt64)) + (1 : Int64)) (1 : Int64)))])) (fun tt_ kk_ => own_lvI (g := (mkF m 95 #[rv a, rv lw, rv hg, iv 0, iv 0, iv 0, iv 0, .unset, .unset, .unset] [(.int 0), (.ref lw), (.long (hi.toInt64))])) X622 hx hZ e622 F625 (by decide) rfl rfl rfl (hb hby own_d3_95) tt_ (XS.i2l X622.here hx rfl (hb hby own_d3_96) rfl (XS.lsub X622.here hx rfl (hb hby own_d3_97) rfl (XS.lconst X622.here hx rfl (hb hby own_d3_98) (XS.ladd X622.here hx rfl (hb hby own_d3_99) rfl (XS.lstore X622.here hx rfl (hb hby own_d3_100) rfl (l' := #[rv a, rv lw, rv hg, iv 0, iv 0, iv 0, iv 0, .val (.long (((hi.toInt64) - (lo.toInt64)) + (1 : Int64))), .second, .unset]) rfl (XS.lload X622.here hx rfl (hb hby own_d3_102) rfl (XS.lconst X622.here hx rfl (hb hby own_d3_104) (XS.lcmp X622.here hx rfl (hb hby own_d3_105) rfl kk_))))))))) ?_
  refine own_st (g' := (mkF m 130 #[rv a, rv lw, rv hg, iv 0, iv 0, iv 0, iv 0, .val (.long (((hi.toInt64) - (lo.toInt64)) + (1 : Int64))), .second, .unset] [(.long ((((hi.toInt64) - (lo.toInt64)) + (1 : Int64)) - (1 : Int64))), (.int 64)])) (fun tt_ kk_ => XS.ifYes X622.here hx rfl (pc0 := 106) (pc' := 124) rfl (hb hby own_d3_106) rfl ((if0 _ _).trans (flt hc1).2.1) (by decide) (by decide) (XS.bipush X622.here hx rfl (hb hby own_d3_124) (XS.lload X622.here hx rfl (hb hby own_d3_126) rfl (XS.lconst X622.here hx rfl (hb hby own_d3_128) (XS.lsub X622.here hx rfl (hb hby own_d3_129) rfl kk_))))) ?_
  obtain ⟨_, _, ⟨T627, L627, k627, n627⟩, -, X627, ⟨Lc627, hQ627, l627, y627, z627⟩, st627⟩ := Jvm.LawKit.callS X622 hx (y := (⟨"java/lang/Long", own_z1, "(J)I"⟩ : MethodName)) hown (mvT hZ (own_w hw 40 rfl)) (mvT hZ (own_w hw 41 rfl)) (mvT hZ (own_w hw 42 rfl)) (mvT hZ (own_w hw 43 rfl)) (by decide) (backOf (W := 1) (own_rm5 l Z a0 hw [] ((((hi.toInt64) - (lo.toInt64)) + (1 : Int64)) - (1 : Int64)) h622 n0) hZ (own_w hw 43 rfl) (own_w hw 42 rfl) (by decide) (by decide)) (g := (mkF m 130 #[rv a, rv lw, rv hg, iv 0, iv 0, iv 0, iv 0, .val (.long (((hi.toInt64) - (lo.toInt64)) + (1 : Int64))), .second, .unset] [(.long ((((hi.toInt64) - (lo.toInt64)) + (1 : Int64)) - (1 : Int64))), (.int 64)])) rfl (by rw [hml]; rfl) (argsL := [(.long ((((hi.toInt64) - (lo.toInt64)) + (1 : Int64)) - (1 : Int64)))]) (rest := [(.int 64)]) (lenOf own_pd10 rfl) rfl (by show 2 * 0 + _ ≤ _; exact Nat.le_of_eq rfl) (hb hby own_d3_130) (fun _ _ => ⟨rfl, e622, (by decide : 5 + 0 ≤ _), (by decide : 15 + 0 ≤ _)⟩)
  dsimp only [Pt.U, Pt.locs, Pt.cells, Pt.slots] at X627 l627 y627 z627 st627 hQ627
  rw [l627, y627, z627] at X627
  obtain ⟨rfl, N627q, e627⟩ := hQ627
  have N627 := Fr.app N622 N627q
  refine own_st st627 ?_
  rw [hnl]
  refine own_st (g' := (mkF m 143 #[rv a, rv lw, rv hg, iv 0, iv 0, iv 0, iv 0, .val (.long (((hi.toInt64) - (lo.toInt64)) + (1 : Int64))), .second, iv ((64 : Int32) - NL)] [(.int 64), (.int ((0 : Int32) + ((64 : Int32) - NL)))])) (fun tt_ kk_ => XS.isub X627.here hx rfl (hb hby own_d3_133) rfl (XS.istore X627.here hx rfl (hb hby own_d3_134) rfl (l' := #[rv a, rv lw, rv hg, iv 0, iv 0, iv 0, iv 0, .val (.long (((hi.toInt64) - (lo.toInt64)) + (1 : Int64))), .second, iv ((64 : Int32) - NL)]) rfl (XS.iload X627.here hx rfl (hb hby own_d3_136) rfl (XS.iload X627.here hx rfl (hb hby own_d3_138) rfl (XS.iadd X627.here hx rfl (hb hby own_d3_140) rfl (XS.bipush X627.here hx rfl (hb hby own_d3_141) kk_)))))) ?_
  refine own_st (g' := (mkF m 153 #[rv a, rv lw, rv hg, iv 0, iv 0, iv 0, iv 0, .val (.long (((hi.toInt64) - (lo.toInt64)) + (1 : Int64))), .second, iv ((64 : Int32) - NL)] [(.ref a)])) (fun tt_ kk_ => XS.icmpYes X627.here hx rfl (pc0 := 143) (pc' := 152) rfl (hb hby own_d3_143) rfl (flt hc2).2.2.2 (by decide) (by decide) (XS.aloadN X627.here hx rfl (hb hby own_d3_152) rfl rfl kk_)) ?_
  have F629 := ((((((F571.ext E575).other W586 (Or.inr (Ne.symm (own_sn11 hw)))).ext E590).other W603 (Or.inr (Ne.symm (own_sn13 hw)))).ext E607).other W622 (Or.inr (Ne.symm (own_sn16 hw))))
  refine own_gG X627 hx hZ hown (own_w hw 32 rfl) e627 F629 rfl rfl (hb hby own_d3_153) (fun {T628} X628 e628 => ?_)
  refine own_st (g' := (mkF m 160 #[rv a, rv lw, rv hg, iv 0, iv 0, iv 0, iv 0, .val (.long (((hi.toInt64) - (lo.toInt64)) + (1 : Int64))), .second, iv ((64 : Int32) - NL)] [(.long (((hi.toInt64) - (lo.toInt64)) + (1 : Int64))), (.int 0), (.ref b562)])) (fun tt_ kk_ => XS.iload X628.here hx rfl (hb hby own_d3_156) rfl (XS.lload X628.here hx rfl (hb hby own_d3_158) rfl kk_)) ?_
  have F630 := ((F615.ext E607).other W622 (Ne.symm ne563))
  obtain ⟨T631, h631, X631, e631, W631, V631q, st631⟩ := own_svJ X628 hx hZ e628 F630 (j := (0 : Int32)) (by decide) 0 rfl (Nat.le_of_ble_eq_true rfl) (g := (mkF m 160 #[rv a, rv lw, rv hg, iv 0, iv 0, iv 0, iv 0, .val (.long (((hi.toInt64) - (lo.toInt64)) + (1 : Int64))), .second, iv ((64 : Int32) - NL)] [(.long (((hi.toInt64) - (lo.toInt64)) + (1 : Int64))), (.int 0), (.ref b562)])) rfl rfl (hb hby own_d3_160)
  have N631 := Fr.snoc X631 N627 gz562
  have Z631 : n0 ≤ h631.size := Nat.le_trans Z622 (Keep.of_wr W631).1
  have K631 : Keep h0 h631 [a] := K622.wr W631 (Or.inr sz562)
  have V631 : Arv Z h631 b562 k562 .long (3 : Int32) [(.long (((hi.toInt64) - (lo.toInt64)) + (1 : Int64))), (.long 0), (.long 0)] (.long 0) := V631q
  refine own_st st631 ?_
  refine own_st (g' := (mkF m 162 #[rv a, rv lw, rv hg, iv 0, iv 0, iv 0, iv 0, .val (.long (((hi.toInt64) - (lo.toInt64)) + (1 : Int64))), .second, iv ((64 : Int32) - NL)] [(.ref a)])) (fun tt_ kk_ => XS.aloadN X631.here hx rfl (hb hby own_d3_161) rfl rfl kk_) ?_
  have F633 := (((((F586.ext E590).other W603 (Or.inr (Ne.symm (own_sn14 hw)))).ext E607).other W622 (Or.inr (Ne.symm (own_sn17 hw)))).other W631 (Or.inl ne563))
  refine own_gG X631 hx hZ hown (own_w hw 34 rfl) e631 F633 rfl rfl (hb hby own_d3_162) (fun {T632} X632 e632 => ?_)
  refine own_st (g' := (mkF m 173 #[rv a, rv lw, rv hg, iv 0, iv 0, iv 0, iv 0, .val (.long (((hi.toInt64) - (lo.toInt64)) + (1 : Int64))), .second, iv ((64 : Int32) - NL)] [(.long (((1 : Int64) <<< (((64 : Int32) - NL) &&& 0x3f).toInt64) - (1 : Int64))), (.int 0), (.ref b575)])) (fun tt_ kk_ => XS.iload X632.here hx rfl (hb hby own_d3_165) rfl (XS.lconst X632.here hx rfl (hb hby own_d3_167) (XS.iload X632.here hx rfl (hb hby own_d3_168) rfl (XS.lshl X632.here hx rfl (hb hby own_d3_170) rfl (XS.lconst X632.here hx rfl (hb hby own_d3_171) (XS.lsub X632.here hx rfl (hb hby own_d3_172) rfl kk_)))))) ?_
  have F634 := (((F617.ext E607).other W622 (Ne.symm ne576)).other W631 (Ne.symm ne582))
  obtain ⟨T635, h635, X635, e635, W635, V635q, st635⟩ := own_svJ X632 hx hZ e632 F634 (j := (0 : Int32)) (by decide) 0 rfl (Nat.le_of_ble_eq_true rfl) (g := (mkF m 173 #[rv a, rv lw, rv hg, iv 0, iv 0, iv 0, iv 0, .val (.long (((hi.toInt64) - (lo.toInt64)) + (1 : Int64))), .second, iv ((64 : Int32) - NL)] [(.long (((1 : Int64) <<< (((64 : Int32) - NL) &&& 0x3f).toInt64) - (1 : Int64))), (.int 0), (.ref b575)])) rfl rfl (hb hby own_d3_173)
  have N635 := Fr.snoc X635 N631 gz575
  have Z635 : n0 ≤ h635.size := Nat.le_trans Z631 (Keep.of_wr W635).1
  have K635 : Keep h0 h635 [a] := K631.wr W635 (Or.inr sz575)
  have V635 : Arv Z h635 b575 k575 .long (3 : Int32) [(.long (((1 : Int64) <<< (((64 : Int32) - NL) &&& 0x3f).toInt64) - (1 : Int64))), (.long 0), (.long 0)] (.long 0) := V635q
  refine own_st st635 ?_
  refine own_st (g' := (mkF m 175 #[rv a, rv lw, rv hg, iv 0, iv 0, iv 0, iv 0, .val (.long (((hi.toInt64) - (lo.toInt64)) + (1 : Int64))), .second, iv ((64 : Int32) - NL)] [(.ref a)])) (fun tt_ kk_ => XS.aloadN X635.here hx rfl (hb hby own_d3_174) rfl rfl kk_) ?_
  have F637 := ((((F603.ext E607).other W622 (Or.inr (Ne.symm (own_sn18 hw)))).other W631 (Or.inl ne563)).other W635 (Or.inl ne576))
  refine own_gG X635 hx hZ hown (own_w hw 36 rfl) e635 F637 rfl rfl (hb hby own_d3_175) (fun {T636} X636 e636 => ?_)
  refine own_st (g' := (mkF m 182 #[rv a, rv lw, rv hg, iv 0, iv 0, iv 0, iv 0, .val (.long (((hi.toInt64) - (lo.toInt64)) + (1 : Int64))), .second, iv ((64 : Int32) - NL)] [(.int 0), (.int 0), (.ref b590)])) (fun tt_ kk_ => XS.iload X636.here hx rfl (hb hby own_d3_178) rfl (XS.iload X636.here hx rfl (hb hby own_d3_180) rfl kk_)) ?_
  have F638 := ((((F619.ext E607).other W622 (Ne.symm ne591)).other W631 (Ne.symm ne597)).other W635 (Ne.symm ne599))
  obtain ⟨T639, h639, X639, e639, W639, V639q, st639⟩ := own_svI X636 hx hZ e636 F638 (j := (0 : Int32)) (by decide) 0 rfl (Nat.le_of_ble_eq_true rfl) (g := (mkF m 182 #[rv a, rv lw, rv hg, iv 0, iv 0, iv 0, iv 0, .val (.long (((hi.toInt64) - (lo.toInt64)) + (1 : Int64))), .second, iv ((64 : Int32) - NL)] [(.int 0), (.int 0), (.ref b590)])) rfl rfl (hb hby own_d3_182)
  have N639 := Fr.snoc X639 N635 gz590
  have Z639 : n0 ≤ h639.size := Nat.le_trans Z635 (Keep.of_wr W639).1
  have K639 : Keep h0 h639 [a] := K635.wr W639 (Or.inr sz590)
  have V639 : Arv Z h639 b590 k590 .int (3 : Int32) [(.int 0), (.int 0), (.int 0)] (.int 0) := V639q
  refine own_st st639 ?_
  refine own_st (g' := (mkF m 184 #[rv a, rv lw, rv hg, iv 0, iv 0, iv 0, iv 0, .val (.long (((hi.toInt64) - (lo.toInt64)) + (1 : Int64))), .second, iv ((64 : Int32) - NL)] [(.ref a)])) (fun tt_ kk_ => XS.aloadN X639.here hx rfl (hb hby own_d3_183) rfl rfl kk_) ?_
  have F641 := (((F622.other W631 (Or.inl ne563)).other W635 (Or.inl ne576)).other W639 (Or.inl ne591))
  refine own_gG X639 hx hZ hown (own_w hw 38 rfl) e639 F641 rfl rfl (hb hby own_d3_184) (fun {T640} X640 e640 => ?_)
  refine own_st (g' := (mkF m 191 #[rv a, rv lw, rv hg, iv 0, iv 0, iv 0, iv 0, .val (.long (((hi.toInt64) - (lo.toInt64)) + (1 : Int64))), .second, iv ((64 : Int32) - NL)] [(.int 0), (.int 0), (.ref b607)])) (fun tt_ kk_ => XS.iload X640.here hx rfl (hb hby own_d3_187) rfl (XS.iload X640.here hx rfl (hb hby own_d3_189) rfl kk_)) ?_
  have F642 := ((((V607.other W622 (Ne.symm ne608)).other W631 (Ne.symm ne614)).other W635 (Ne.symm ne616)).other W639 (Ne.symm ne618))
  obtain ⟨T643, h643, X643, e643, W643, V643q, st643⟩ := own_svI X640 hx hZ e640 F642 (j := (0 : Int32)) (by decide) 0 rfl (Nat.le_of_ble_eq_true rfl) (g := (mkF m 191 #[rv a, rv lw, rv hg, iv 0, iv 0, iv 0, iv 0, .val (.long (((hi.toInt64) - (lo.toInt64)) + (1 : Int64))), .second, iv ((64 : Int32) - NL)] [(.int 0), (.int 0), (.ref b607)])) rfl rfl (hb hby own_d3_191)
  have N643 := Fr.snoc X643 N639 gz607
  have Z643 : n0 ≤ h643.size := Nat.le_trans Z639 (Keep.of_wr W643).1
  have K643 : Keep h0 h643 [a] := K639.wr W643 (Or.inr sz607)
  have V643 : Arv Z h643 b607 k607 .int (3 : Int32) [(.int 0), (.int 0), (.int 0)] (.int 0) := V643q
  refine own_st st643 ?_
  refine own_st (g' := (mkF m 83 #[rv a, rv lw, rv hg, iv 0, iv 0, iv ((0 : Int32) + ((64 : Int32) - NL)), iv 1, .val (.long (((hi.toInt64) - (lo.toInt64)) + (1 : Int64))), .second, iv ((64 : Int32) - NL)] [(.ref lw), (.int 1)])) (fun tt_ kk_ => XS.iload X643.here hx rfl (hb hby own_d3_192) rfl (XS.iload X643.here hx rfl (hb hby own_d3_194) rfl (XS.iadd X643.here hx rfl (hb hby own_d3_196) rfl (XS.istore X643.here hx rfl (hb hby own_d3_197) rfl (l' := #[rv a, rv lw, rv hg, iv 0, iv 0, iv ((0 : Int32) + ((64 : Int32) - NL)), iv 0, .val (.long (((hi.toInt64) - (lo.toInt64)) + (1 : Int64))), .second, iv ((64 : Int32) - NL)]) rfl (XS.iinc X643.here hx rfl (hb hby own_d3_199) rfl (l' := #[rv a, rv lw, rv hg, iv 0, iv 0, iv ((0 : Int32) + ((64 : Int32) - NL)), iv 1, .val (.long (((hi.toInt64) - (lo.toInt64)) + (1 : Int64))), .second, iv ((64 : Int32) - NL)]) rfl (XS.goto X643.here hx rfl (pc0 := 202) (pc' := 80) rfl (hb hby own_d3_202) (by decide) (by decide) (XS.iload X643.here hx rfl (hb hby own_d3_80) rfl (XS.aloadN X643.here hx rfl (hb hby own_d3_82) rfl rfl kk_)))))))) ?_
  have F644 := ((((F625.other W631 ne567).other W635 ne580).other W639 ne595).other W643 ne612)
  refine own_st (g' := (mkF m 90 #[rv a, rv lw, rv hg, iv 0, iv 0, iv ((0 : Int32) + ((64 : Int32) - NL)), iv 1, .val (.long (((hi.toInt64) - (lo.toInt64)) + (1 : Int64))), .second, iv ((64 : Int32) - NL)] [(.int 1), (.ref hg)])) (fun tt_ kk_ => own_lnV (g := (mkF m 83 #[rv a, rv lw, rv hg, iv 0, iv 0, iv ((0 : Int32) + ((64 : Int32) - NL)), iv 1, .val (.long (((hi.toInt64) - (lo.toInt64)) + (1 : Int64))), .second, iv ((64 : Int32) - NL)] [(.ref lw), (.int 1)])) X643 hx hZ e643 F644 rfl rfl (hb hby own_d3_83) tt_ (XS.icmpNo X643.here hx rfl (hb hby own_d3_84) rfl (tlt (by decide : (1 : Int32) < (3 : Int32))).2.1 (XS.aloadN X643.here hx rfl (hb hby own_d3_87) rfl rfl (XS.iload X643.here hx rfl (hb hby own_d3_88) rfl kk_)))) ?_
  have F645 := ((((F626.other W631 ne569).other W635 ne584).other W639 ne601).other W643 ne620)
  refine own_st (g' := (mkF m 95 #[rv a, rv lw, rv hg, iv 0, iv 0, iv ((0 : Int32) + ((64 : Int32) - NL)), iv 1, .val (.long (((hi.toInt64) - (lo.toInt64)) + (1 : Int64))), .second, iv ((64 : Int32) - NL)] [(.int 1), (.ref lw), (.long ((2147483647 : Int32).toInt64))])) (fun tt_ kk_ => own_lvI (g := (mkF m 90 #[rv a, rv lw, rv hg, iv 0, iv 0, iv ((0 : Int32) + ((64 : Int32) - NL)), iv 1, .val (.long (((hi.toInt64) - (lo.toInt64)) + (1 : Int64))), .second, iv ((64 : Int32) - NL)] [(.int 1), (.ref hg)])) X643 hx hZ e643 F645 (by decide) rfl rfl rfl (hb hby own_d3_90) tt_ (XS.i2l X643.here hx rfl (hb hby own_d3_91) rfl (XS.aloadN X643.here hx rfl (hb hby own_d3_92) rfl rfl (XS.iload X643.here hx rfl (hb hby own_d3_93) rfl kk_)))) ?_
  refine own_st (g' := (mkF m 106 #[rv a, rv lw, rv hg, iv 0, iv 0, iv ((0 : Int32) + ((64 : Int32) - NL)), iv 1, .val (.long ((((2147483647 : Int32).toInt64) - ((-2147483648 : Int32).toInt64)) + (1 : Int64))), .second, iv ((64 : Int32) - NL)] [(.int (lcmpW ((((2147483647 : Int32).toInt64) - ((-2147483648 : Int32).toInt64)) + (1 : Int64)) (1 : Int64)))])) (fun tt_ kk_ => own_lvI (g := (mkF m 95 #[rv a, rv lw, rv hg, iv 0, iv 0, iv ((0 : Int32) + ((64 : Int32) - NL)), iv 1, .val (.long (((hi.toInt64) - (lo.toInt64)) + (1 : Int64))), .second, iv ((64 : Int32) - NL)] [(.int 1), (.ref lw), (.long ((2147483647 : Int32).toInt64))])) X643 hx hZ e643 F644 (by decide) rfl rfl rfl (hb hby own_d3_95) tt_ (XS.i2l X643.here hx rfl (hb hby own_d3_96) rfl (XS.lsub X643.here hx rfl (hb hby own_d3_97) rfl (XS.lconst X643.here hx rfl (hb hby own_d3_98) (XS.ladd X643.here hx rfl (hb hby own_d3_99) rfl (XS.lstore X643.here hx rfl (hb hby own_d3_100) rfl (l' := #[rv a, rv lw, rv hg, iv 0, iv 0, iv ((0 : Int32) + ((64 : Int32) - NL)), iv 1, .val (.long ((((2147483647 : Int32).toInt64) - ((-2147483648 : Int32).toInt64)) + (1 : Int64))), .second, iv ((64 : Int32) - NL)]) rfl (XS.lload X643.here hx rfl (hb hby own_d3_102) rfl (XS.lconst X643.here hx rfl (hb hby own_d3_104) (XS.lcmp X643.here hx rfl (hb hby own_d3_105) rfl kk_))))))))) ?_
  refine own_st (g' := (mkF m 130 #[rv a, rv lw, rv hg, iv 0, iv 0, iv ((0 : Int32) + ((64 : Int32) - NL)), iv 1, .val (.long ((((2147483647 : Int32).toInt64) - ((-2147483648 : Int32).toInt64)) + (1 : Int64))), .second, iv ((64 : Int32) - NL)] [(.long (((((2147483647 : Int32).toInt64) - ((-2147483648 : Int32).toInt64)) + (1 : Int64)) - (1 : Int64))), (.int 64)])) (fun tt_ kk_ => XS.ifYes X643.here hx rfl (pc0 := 106) (pc' := 124) rfl (hb hby own_d3_106) rfl ((if0 _ _).trans (flt (by decide +kernel : ¬ ((lcmpW ((((2147483647 : Int32).toInt64) - ((-2147483648 : Int32).toInt64)) + (1 : Int64)) (1 : Int64)) < (0 : Int32)))).2.1) (by decide) (by decide) (XS.bipush X643.here hx rfl (hb hby own_d3_124) (XS.lload X643.here hx rfl (hb hby own_d3_126) rfl (XS.lconst X643.here hx rfl (hb hby own_d3_128) (XS.lsub X643.here hx rfl (hb hby own_d3_129) rfl kk_))))) ?_
  rw [show ((((2147483647 : Int32).toInt64) - ((-2147483648 : Int32).toInt64)) + (1 : Int64)) = (4294967296 : Int64) from by decide +kernel]
  rw [show ((4294967296 : Int64) - (1 : Int64)) = (4294967295 : Int64) from by decide +kernel]
  obtain ⟨_, _, ⟨T646, L646, k646, n646⟩, -, X646, ⟨Lc646, hQ646, l646, y646, z646⟩, st646⟩ := Jvm.LawKit.callS X643 hx (y := (⟨"java/lang/Long", own_z1, "(J)I"⟩ : MethodName)) hown (mvT hZ (own_w hw 40 rfl)) (mvT hZ (own_w hw 41 rfl)) (mvT hZ (own_w hw 42 rfl)) (mvT hZ (own_w hw 43 rfl)) (by decide) (backOf (W := 1) (own_rm5 l Z a0 hw [] (4294967295 : Int64) h643 n0) hZ (own_w hw 43 rfl) (own_w hw 42 rfl) (by decide) (by decide)) (g := (mkF m 130 #[rv a, rv lw, rv hg, iv 0, iv 0, iv ((0 : Int32) + ((64 : Int32) - NL)), iv 1, .val (.long 4294967296), .second, iv ((64 : Int32) - NL)] [(.long 4294967295), (.int 64)])) rfl (by rw [hml]; rfl) (argsL := [(.long 4294967295)]) (rest := [(.int 64)]) (lenOf own_pd10 rfl) rfl (by show 2 * 0 + _ ≤ _; exact Nat.le_of_eq rfl) (hb hby own_d3_130) (fun _ _ => ⟨rfl, e643, (by decide : 5 + 0 ≤ _), (by decide : 15 + 0 ≤ _)⟩)
  dsimp only [Pt.U, Pt.locs, Pt.cells, Pt.slots] at X646 l646 y646 z646 st646 hQ646
  rw [l646, y646, z646] at X646
  obtain ⟨rfl, N646q, e646⟩ := hQ646
  have N646 := Fr.app N643 N646q
  refine own_st st646 ?_
  rw [show (own_f5_0 (4294967295 : Int64)) = (32 : Int32) from by decide +kernel]
  refine own_st (g' := (mkF m 143 #[rv a, rv lw, rv hg, iv 0, iv 0, iv ((0 : Int32) + ((64 : Int32) - NL)), iv 1, .val (.long 4294967296), .second, iv 32] [(.int 64), (.int (((0 : Int32) + ((64 : Int32) - NL)) + (32 : Int32)))])) (fun tt_ kk_ => XS.isub X646.here hx rfl (hb hby own_d3_133) rfl (XS.istore X646.here hx rfl (hb hby own_d3_134) rfl (l' := #[rv a, rv lw, rv hg, iv 0, iv 0, iv ((0 : Int32) + ((64 : Int32) - NL)), iv 1, .val (.long 4294967296), .second, iv 32]) rfl (XS.iload X646.here hx rfl (hb hby own_d3_136) rfl (XS.iload X646.here hx rfl (hb hby own_d3_138) rfl (XS.iadd X646.here hx rfl (hb hby own_d3_140) rfl (XS.bipush X646.here hx rfl (hb hby own_d3_141) kk_)))))) ?_
  refine own_st (g' := (mkF m 153 #[rv a, rv lw, rv hg, iv 0, iv 0, iv ((0 : Int32) + ((64 : Int32) - NL)), iv 1, .val (.long 4294967296), .second, iv 32] [(.ref a)])) (fun tt_ kk_ => XS.icmpYes X646.here hx rfl (pc0 := 143) (pc' := 152) rfl (hb hby own_d3_143) rfl (flt hc3).2.2.2 (by decide) (by decide) (XS.aloadN X646.here hx rfl (hb hby own_d3_152) rfl rfl kk_)) ?_
  have F648 := ((((F629.other W631 (Or.inl ne563)).other W635 (Or.inl ne576)).other W639 (Or.inl ne591)).other W643 (Or.inl ne608))
  refine own_gG X646 hx hZ hown (own_w hw 32 rfl) e646 F648 rfl rfl (hb hby own_d3_153) (fun {T647} X647 e647 => ?_)
  refine own_st (g' := (mkF m 160 #[rv a, rv lw, rv hg, iv 0, iv 0, iv ((0 : Int32) + ((64 : Int32) - NL)), iv 1, .val (.long 4294967296), .second, iv 32] [(.long 4294967296), (.int 1), (.ref b562)])) (fun tt_ kk_ => XS.iload X647.here hx rfl (hb hby own_d3_156) rfl (XS.lload X647.here hx rfl (hb hby own_d3_158) rfl kk_)) ?_
  have F649 := (((V631.other W635 ne582).other W639 ne597).other W643 ne614)
  obtain ⟨T650, h650, X650, e650, W650, V650q, st650⟩ := own_svJ X647 hx hZ e647 F649 (j := (1 : Int32)) (by decide) 1 rfl (Nat.le_of_ble_eq_true rfl) (g := (mkF m 160 #[rv a, rv lw, rv hg, iv 0, iv 0, iv ((0 : Int32) + ((64 : Int32) - NL)), iv 1, .val (.long 4294967296), .second, iv 32] [(.long 4294967296), (.int 1), (.ref b562)])) rfl rfl (hb hby own_d3_160)
  have N650 := Fr.snoc X650 N646 gz562
  have Z650 : n0 ≤ h650.size := Nat.le_trans Z643 (Keep.of_wr W650).1
  have K650 : Keep h0 h650 [a] := K643.wr W650 (Or.inr sz562)
  have V650 : Arv Z h650 b562 k562 .long (3 : Int32) [(.long (((hi.toInt64) - (lo.toInt64)) + (1 : Int64))), (.long 4294967296), (.long 0)] (.long 0) := V650q
  refine own_st st650 ?_
  refine own_st (g' := (mkF m 162 #[rv a, rv lw, rv hg, iv 0, iv 0, iv ((0 : Int32) + ((64 : Int32) - NL)), iv 1, .val (.long 4294967296), .second, iv 32] [(.ref a)])) (fun tt_ kk_ => XS.aloadN X650.here hx rfl (hb hby own_d3_161) rfl rfl kk_) ?_
  have F652 := ((((F633.other W635 (Or.inl ne576)).other W639 (Or.inl ne591)).other W643 (Or.inl ne608)).other W650 (Or.inl ne563))
  refine own_gG X650 hx hZ hown (own_w hw 34 rfl) e650 F652 rfl rfl (hb hby own_d3_162) (fun {T651} X651 e651 => ?_)
  refine own_st (g' := (mkF m 173 #[rv a, rv lw, rv hg, iv 0, iv 0, iv ((0 : Int32) + ((64 : Int32) - NL)), iv 1, .val (.long 4294967296), .second, iv 32] [(.long (((1 : Int64) <<< ((32 : Int32) &&& 0x3f).toInt64) - (1 : Int64))), (.int 1), (.ref b575)])) (fun tt_ kk_ => XS.iload X651.here hx rfl (hb hby own_d3_165) rfl (XS.lconst X651.here hx rfl (hb hby own_d3_167) (XS.iload X651.here hx rfl (hb hby own_d3_168) rfl (XS.lshl X651.here hx rfl (hb hby own_d3_170) rfl (XS.lconst X651.here hx rfl (hb hby own_d3_171) (XS.lsub X651.here hx rfl (hb hby own_d3_172) rfl kk_)))))) ?_
  have F653 := (((V635.other W639 ne599).other W643 ne616).other W650 (Ne.symm ne582))
  obtain ⟨T654, h654, X654, e654, W654, V654q, st654⟩ := own_svJ X651 hx hZ e651 F653 (j := (1 : Int32)) (by decide) 1 rfl (Nat.le_of_ble_eq_true rfl) (g := (mkF m 173 #[rv a, rv lw, rv hg, iv 0, iv 0, iv ((0 : Int32) + ((64 : Int32) - NL)), iv 1, .val (.long 4294967296), .second, iv 32] [(.long (((1 : Int64) <<< ((32 : Int32) &&& 0x3f).toInt64) - (1 : Int64))), (.int 1), (.ref b575)])) rfl rfl (hb hby own_d3_173)
  have N654 := Fr.snoc X654 N650 gz575
  have Z654 : n0 ≤ h654.size := Nat.le_trans Z650 (Keep.of_wr W654).1
  have K654 : Keep h0 h654 [a] := K650.wr W654 (Or.inr sz575)
  have V654 : Arv Z h654 b575 k575 .long (3 : Int32) [(.long (((1 : Int64) <<< (((64 : Int32) - NL) &&& 0x3f).toInt64) - (1 : Int64))), (.long (((1 : Int64) <<< ((32 : Int32) &&& 0x3f).toInt64) - (1 : Int64))), (.long 0)] (.long 0) := V654q
  refine own_st st654 ?_
  refine own_st (g' := (mkF m 175 #[rv a, rv lw, rv hg, iv 0, iv 0, iv ((0 : Int32) + ((64 : Int32) - NL)), iv 1, .val (.long 4294967296), .second, iv 32] [(.ref a)])) (fun tt_ kk_ => XS.aloadN X654.here hx rfl (hb hby own_d3_174) rfl rfl kk_) ?_
  have F656 := ((((F637.other W639 (Or.inl ne591)).other W643 (Or.inl ne608)).other W650 (Or.inl ne563)).other W654 (Or.inl ne576))
  refine own_gG X654 hx hZ hown (own_w hw 36 rfl) e654 F656 rfl rfl (hb hby own_d3_175) (fun {T655} X655 e655 => ?_)
  refine own_st (g' := (mkF m 182 #[rv a, rv lw, rv hg, iv 0, iv 0, iv ((0 : Int32) + ((64 : Int32) - NL)), iv 1, .val (.long 4294967296), .second, iv 32] [(.int 0), (.int 1), (.ref b590)])) (fun tt_ kk_ => XS.iload X655.here hx rfl (hb hby own_d3_178) rfl (XS.iload X655.here hx rfl (hb hby own_d3_180) rfl kk_)) ?_
  have F657 := (((V639.other W643 ne618).other W650 (Ne.symm ne597)).other W654 (Ne.symm ne599))
  obtain ⟨T658, h658, X658, e658, W658, V658q, st658⟩ := own_svI X655 hx hZ e655 F657 (j := (1 : Int32)) (by decide) 1 rfl (Nat.le_of_ble_eq_true rfl) (g := (mkF m 182 #[rv a, rv lw, rv hg, iv 0, iv 0, iv ((0 : Int32) + ((64 : Int32) - NL)), iv 1, .val (.long 4294967296), .second, iv 32] [(.int 0), (.int 1), (.ref b590)])) rfl rfl (hb hby own_d3_182)
  have N658 := Fr.snoc X658 N654 gz590
  have Z658 : n0 ≤ h658.size := Nat.le_trans Z654 (Keep.of_wr W658).1
  have K658 : Keep h0 h658 [a] := K654.wr W658 (Or.inr sz590)
  have V658 : Arv Z h658 b590 k590 .int (3 : Int32) [(.int 0), (.int 0), (.int 0)] (.int 0) := V658q
  refine own_st st658 ?_
  refine own_st (g' := (mkF m 184 #[rv a, rv lw, rv hg, iv 0, iv 0, iv ((0 : Int32) + ((64 : Int32) - NL)), iv 1, .val (.long 4294967296), .second, iv 32] [(.ref a)])) (fun tt_ kk_ => XS.aloadN X658.here hx rfl (hb hby own_d3_183) rfl rfl kk_) ?_
  have F660 := ((((F641.other W643 (Or.inl ne608)).other W650 (Or.inl ne563)).other W654 (Or.inl ne576)).other W658 (Or.inl ne591))
  refine own_gG X658 hx hZ hown (own_w hw 38 rfl) e658 F660 rfl rfl (hb hby own_d3_184) (fun {T659} X659 e659 => ?_)
  refine own_st (g' := (mkF m 191 #[rv a, rv lw, rv hg, iv 0, iv 0, iv ((0 : Int32) + ((64 : Int32) - NL)), iv 1, .val (.long 4294967296), .second, iv 32] [(.int ((0 : Int32) + ((64 : Int32) - NL))), (.int 1), (.ref b607)])) (fun tt_ kk_ => XS.iload X659.here hx rfl (hb hby own_d3_187) rfl (XS.iload X659.here hx rfl (hb hby own_d3_189) rfl kk_)) ?_
  have F661 := (((V643.other W650 (Ne.symm ne614)).other W654 (Ne.symm ne616)).other W658 (Ne.symm ne618))
  obtain ⟨T662, h662, X662, e662, W662, V662q, st662⟩ := own_svI X659 hx hZ e659 F661 (j := (1 : Int32)) (by decide) 1 rfl (Nat.le_of_ble_eq_true rfl) (g := (mkF m 191 #[rv a, rv lw, rv hg, iv 0, iv 0, iv ((0 : Int32) + ((64 : Int32) - NL)), iv 1, .val (.long 4294967296), .second, iv 32] [(.int ((0 : Int32) + ((64 : Int32) - NL))), (.int 1), (.ref b607)])) rfl rfl (hb hby own_d3_191)
  have N662 := Fr.snoc X662 N658 gz607
  have Z662 : n0 ≤ h662.size := Nat.le_trans Z658 (Keep.of_wr W662).1
  have K662 : Keep h0 h662 [a] := K658.wr W662 (Or.inr sz607)
  have V662 : Arv Z h662 b607 k607 .int (3 : Int32) [(.int 0), (.int ((0 : Int32) + ((64 : Int32) - NL))), (.int 0)] (.int 0) := V662q
  refine own_st st662 ?_
  refine own_st (g' := (mkF m 83 #[rv a, rv lw, rv hg, iv 0, iv 0, iv (((0 : Int32) + ((64 : Int32) - NL)) + (32 : Int32)), iv 2, .val (.long 4294967296), .second, iv 32] [(.ref lw), (.int 2)])) (fun tt_ kk_ => XS.iload X662.here hx rfl (hb hby own_d3_192) rfl (XS.iload X662.here hx rfl (hb hby own_d3_194) rfl (XS.iadd X662.here hx rfl (hb hby own_d3_196) rfl (XS.istore X662.here hx rfl (hb hby own_d3_197) rfl (l' := #[rv a, rv lw, rv hg, iv 0, iv 0, iv (((0 : Int32) + ((64 : Int32) - NL)) + (32 : Int32)), iv 1, .val (.long 4294967296), .second, iv 32]) rfl (XS.iinc X662.here hx rfl (hb hby own_d3_199) rfl (l' := #[rv a, rv lw, rv hg, iv 0, iv 0, iv (((0 : Int32) + ((64 : Int32) - NL)) + (32 : Int32)), iv 2, .val (.long 4294967296), .second, iv 32]) rfl (XS.goto X662.here hx rfl (pc0 := 202) (pc' := 80) rfl (hb hby own_d3_202) (by decide) (by decide) (XS.iload X662.here hx rfl (hb hby own_d3_80) rfl (XS.aloadN X662.here hx rfl (hb hby own_d3_82) rfl rfl kk_)))))))) ?_
  have F663 := ((((F644.other W650 ne567).other W654 ne580).other W658 ne595).other W662 ne612)
  refine own_st (g' := (mkF m 90 #[rv a, rv lw, rv hg, iv 0, iv 0, iv (((0 : Int32) + ((64 : Int32) - NL)) + (32 : Int32)), iv 2, .val (.long 4294967296), .second, iv 32] [(.int 2), (.ref hg)])) (fun tt_ kk_ => own_lnV (g := (mkF m 83 #[rv a, rv lw, rv hg, iv 0, iv 0, iv (((0 : Int32) + ((64 : Int32) - NL)) + (32 : Int32)), iv 2, .val (.long 4294967296), .second, iv 32] [(.ref lw), (.int 2)])) X662 hx hZ e662 F663 rfl rfl (hb hby own_d3_83) tt_ (XS.icmpNo X662.here hx rfl (hb hby own_d3_84) rfl (tlt (by decide : (2 : Int32) < (3 : Int32))).2.1 (XS.aloadN X662.here hx rfl (hb hby own_d3_87) rfl rfl (XS.iload X662.here hx rfl (hb hby own_d3_88) rfl kk_)))) ?_
  have F664 := ((((F645.other W650 ne569).other W654 ne584).other W658 ne601).other W662 ne620)
  refine own_st (g' := (mkF m 95 #[rv a, rv lw, rv hg, iv 0, iv 0, iv (((0 : Int32) + ((64 : Int32) - NL)) + (32 : Int32)), iv 2, .val (.long 4294967296), .second, iv 32] [(.int 2), (.ref lw), (.long ((2147483647 : Int32).toInt64))])) (fun tt_ kk_ => own_lvI (g := (mkF m 90 #[rv a, rv lw, rv hg, iv 0, iv 0, iv (((0 : Int32) + ((64 : Int32) - NL)) + (32 : Int32)), iv 2, .val (.long 4294967296), .second, iv 32] [(.int 2), (.ref hg)])) X662 hx hZ e662 F664 (by decide) rfl rfl rfl (hb hby own_d3_90) tt_ (XS.i2l X662.here hx rfl (hb hby own_d3_91) rfl (XS.aloadN X662.here hx rfl (hb hby own_d3_92) rfl rfl (XS.iload X662.here hx rfl (hb hby own_d3_93) rfl kk_)))) ?_
  refine own_st (g' := (mkF m 106 #[rv a, rv lw, rv hg, iv 0, iv 0, iv (((0 : Int32) + ((64 : Int32) - NL)) + (32 : Int32)), iv 2, .val (.long ((((2147483647 : Int32).toInt64) - ((-2147483648 : Int32).toInt64)) + (1 : Int64))), .second, iv 32] [(.int (lcmpW ((((2147483647 : Int32).toInt64) - ((-2147483648 : Int32).toInt64)) + (1 : Int64)) (1 : Int64)))])) (fun tt_ kk_ => own_lvI (g := (mkF m 95 #[rv a, rv lw, rv hg, iv 0, iv 0, iv (((0 : Int32) + ((64 : Int32) - NL)) + (32 : Int32)), iv 2, .val (.long 4294967296), .second, iv 32] [(.int 2), (.ref lw), (.long ((2147483647 : Int32).toInt64))])) X662 hx hZ e662 F663 (by decide) rfl rfl rfl (hb hby own_d3_95) tt_ (XS.i2l X662.here hx rfl (hb hby own_d3_96) rfl (XS.lsub X662.here hx rfl (hb hby own_d3_97) rfl (XS.lconst X662.here hx rfl (hb hby own_d3_98) (XS.ladd X662.here hx rfl (hb hby own_d3_99) rfl (XS.lstore X662.here hx rfl (hb hby own_d3_100) rfl (l' := #[rv a, rv lw, rv hg, iv 0, iv 0, iv (((0 : Int32) + ((64 : Int32) - NL)) + (32 : Int32)), iv 2, .val (.long ((((2147483647 : Int32).toInt64) - ((-2147483648 : Int32).toInt64)) + (1 : Int64))), .second, iv 32]) rfl (XS.lload X662.here hx rfl (hb hby own_d3_102) rfl (XS.lconst X662.here hx rfl (hb hby own_d3_104) (XS.lcmp X662.here hx rfl (hb hby own_d3_105) rfl kk_))))))))) ?_
  refine own_st (g' := (mkF m 130 #[rv a, rv lw, rv hg, iv 0, iv 0, iv (((0 : Int32) + ((64 : Int32) - NL)) + (32 : Int32)), iv 2, .val (.long ((((2147483647 : Int32).toInt64) - ((-2147483648 : Int32).toInt64)) + (1 : Int64))), .second, iv 32] [(.long (((((2147483647 : Int32).toInt64) - ((-2147483648 : Int32).toInt64)) + (1 : Int64)) - (1 : Int64))), (.int 64)])) (fun tt_ kk_ => XS.ifYes X662.here hx rfl (pc0 := 106) (pc' := 124) rfl (hb hby own_d3_106) rfl ((if0 _ _).trans (flt (by decide +kernel : ¬ ((lcmpW ((((2147483647 : Int32).toInt64) - ((-2147483648 : Int32).toInt64)) + (1 : Int64)) (1 : Int64)) < (0 : Int32)))).2.1) (by decide) (by decide) (XS.bipush X662.here hx rfl (hb hby own_d3_124) (XS.lload X662.here hx rfl (hb hby own_d3_126) rfl (XS.lconst X662.here hx rfl (hb hby own_d3_128) (XS.lsub X662.here hx rfl (hb hby own_d3_129) rfl kk_))))) ?_
  rw [show ((((2147483647 : Int32).toInt64) - ((-2147483648 : Int32).toInt64)) + (1 : Int64)) = (4294967296 : Int64) from by decide +kernel]
  rw [show ((4294967296 : Int64) - (1 : Int64)) = (4294967295 : Int64) from by decide +kernel]
  obtain ⟨_, _, ⟨T665, L665, k665, n665⟩, -, X665, ⟨Lc665, hQ665, l665, y665, z665⟩, st665⟩ := Jvm.LawKit.callS X662 hx (y := (⟨"java/lang/Long", own_z1, "(J)I"⟩ : MethodName)) hown (mvT hZ (own_w hw 40 rfl)) (mvT hZ (own_w hw 41 rfl)) (mvT hZ (own_w hw 42 rfl)) (mvT hZ (own_w hw 43 rfl)) (by decide) (backOf (W := 1) (own_rm5 l Z a0 hw [] (4294967295 : Int64) h662 n0) hZ (own_w hw 43 rfl) (own_w hw 42 rfl) (by decide) (by decide)) (g := (mkF m 130 #[rv a, rv lw, rv hg, iv 0, iv 0, iv (((0 : Int32) + ((64 : Int32) - NL)) + (32 : Int32)), iv 2, .val (.long 4294967296), .second, iv 32] [(.long 4294967295), (.int 64)])) rfl (by rw [hml]; rfl) (argsL := [(.long 4294967295)]) (rest := [(.int 64)]) (lenOf own_pd10 rfl) rfl (by show 2 * 0 + _ ≤ _; exact Nat.le_of_eq rfl) (hb hby own_d3_130) (fun _ _ => ⟨rfl, e662, (by decide : 5 + 0 ≤ _), (by decide : 15 + 0 ≤ _)⟩)
  dsimp only [Pt.U, Pt.locs, Pt.cells, Pt.slots] at X665 l665 y665 z665 st665 hQ665
  rw [l665, y665, z665] at X665
  obtain ⟨rfl, N665q, e665⟩ := hQ665
  have N665 := Fr.app N662 N665q
  refine own_st st665 ?_
  rw [show (own_f5_0 (4294967295 : Int64)) = (32 : Int32) from by decide +kernel]
  refine own_st (g' := (mkF m 143 #[rv a, rv lw, rv hg, iv 0, iv 0, iv (((0 : Int32) + ((64 : Int32) - NL)) + (32 : Int32)), iv 2, .val (.long 4294967296), .second, iv 32] [(.int 64), (.int ((((0 : Int32) + ((64 : Int32) - NL)) + (32 : Int32)) + (32 : Int32)))])) (fun tt_ kk_ => XS.isub X665.here hx rfl (hb hby own_d3_133) rfl (XS.istore X665.here hx rfl (hb hby own_d3_134) rfl (l' := #[rv a, rv lw, rv hg, iv 0, iv 0, iv (((0 : Int32) + ((64 : Int32) - NL)) + (32 : Int32)), iv 2, .val (.long 4294967296), .second, iv 32]) rfl (XS.iload X665.here hx rfl (hb hby own_d3_136) rfl (XS.iload X665.here hx rfl (hb hby own_d3_138) rfl (XS.iadd X665.here hx rfl (hb hby own_d3_140) rfl (XS.bipush X665.here hx rfl (hb hby own_d3_141) kk_)))))) ?_
  refine own_st (g' := (mkF m 153 #[rv a, rv lw, rv hg, iv 0, iv 0, iv (((0 : Int32) + ((64 : Int32) - NL)) + (32 : Int32)), iv 2, .val (.long 4294967296), .second, iv 32] [(.ref a)])) (fun tt_ kk_ => XS.icmpYes X665.here hx rfl (pc0 := 143) (pc' := 152) rfl (hb hby own_d3_143) rfl (flt hc4).2.2.2 (by decide) (by decide) (XS.aloadN X665.here hx rfl (hb hby own_d3_152) rfl rfl kk_)) ?_
  have F667 := ((((F648.other W650 (Or.inl ne563)).other W654 (Or.inl ne576)).other W658 (Or.inl ne591)).other W662 (Or.inl ne608))
  refine own_gG X665 hx hZ hown (own_w hw 32 rfl) e665 F667 rfl rfl (hb hby own_d3_153) (fun {T666} X666 e666 => ?_)
  refine own_st (g' := (mkF m 160 #[rv a, rv lw, rv hg, iv 0, iv 0, iv (((0 : Int32) + ((64 : Int32) - NL)) + (32 : Int32)), iv 2, .val (.long 4294967296), .second, iv 32] [(.long 4294967296), (.int 2), (.ref b562)])) (fun tt_ kk_ => XS.iload X666.here hx rfl (hb hby own_d3_156) rfl (XS.lload X666.here hx rfl (hb hby own_d3_158) rfl kk_)) ?_
  have F668 := (((V650.other W654 ne582).other W658 ne597).other W662 ne614)
  obtain ⟨T669, h669, X669, e669, W669, V669q, st669⟩ := own_svJ X666 hx hZ e666 F668 (j := (2 : Int32)) (by decide) 2 rfl (Nat.le_of_ble_eq_true rfl) (g := (mkF m 160 #[rv a, rv lw, rv hg, iv 0, iv 0, iv (((0 : Int32) + ((64 : Int32) - NL)) + (32 : Int32)), iv 2, .val (.long 4294967296), .second, iv 32] [(.long 4294967296), (.int 2), (.ref b562)])) rfl rfl (hb hby own_d3_160)
  have N669 := Fr.snoc X669 N665 gz562
  have Z669 : n0 ≤ h669.size := Nat.le_trans Z662 (Keep.of_wr W669).1
  have K669 : Keep h0 h669 [a] := K662.wr W669 (Or.inr sz562)
  have V669 : Arv Z h669 b562 k562 .long (3 : Int32) [(.long (((hi.toInt64) - (lo.toInt64)) + (1 : Int64))), (.long 4294967296), (.long 4294967296)] (.long 0) := V669q
  refine own_st st669 ?_
  refine own_st (g' := (mkF m 162 #[rv a, rv lw, rv hg, iv 0, iv 0, iv (((0 : Int32) + ((64 : Int32) - NL)) + (32 : Int32)), iv 2, .val (.long 4294967296), .second, iv 32] [(.ref a)])) (fun tt_ kk_ => XS.aloadN X669.here hx rfl (hb hby own_d3_161) rfl rfl kk_) ?_
  have F671 := ((((F652.other W654 (Or.inl ne576)).other W658 (Or.inl ne591)).other W662 (Or.inl ne608)).other W669 (Or.inl ne563))
  refine own_gG X669 hx hZ hown (own_w hw 34 rfl) e669 F671 rfl rfl (hb hby own_d3_162) (fun {T670} X670 e670 => ?_)
  refine own_st (g' := (mkF m 173 #[rv a, rv lw, rv hg, iv 0, iv 0, iv (((0 : Int32) + ((64 : Int32) - NL)) + (32 : Int32)), iv 2, .val (.long 4294967296), .second, iv 32] [(.long (((1 : Int64) <<< ((32 : Int32) &&& 0x3f).toInt64) - (1 : Int64))), (.int 2), (.ref b575)])) (fun tt_ kk_ => XS.iload X670.here hx rfl (hb hby own_d3_165) rfl (XS.lconst X670.here hx rfl (hb hby own_d3_167) (XS.iload X670.here hx rfl (hb hby own_d3_168) rfl (XS.lshl X670.here hx rfl (hb hby own_d3_170) rfl (XS.lconst X670.here hx rfl (hb hby own_d3_171) (XS.lsub X670.here hx rfl (hb hby own_d3_172) rfl kk_)))))) ?_
  have F672 := (((V654.other W658 ne599).other W662 ne616).other W669 (Ne.symm ne582))
  obtain ⟨T673, h673, X673, e673, W673, V673q, st673⟩ := own_svJ X670 hx hZ e670 F672 (j := (2 : Int32)) (by decide) 2 rfl (Nat.le_of_ble_eq_true rfl) (g := (mkF m 173 #[rv a, rv lw, rv hg, iv 0, iv 0, iv (((0 : Int32) + ((64 : Int32) - NL)) + (32 : Int32)), iv 2, .val (.long 4294967296), .second, iv 32] [(.long (((1 : Int64) <<< ((32 : Int32) &&& 0x3f).toInt64) - (1 : Int64))), (.int 2), (.ref b575)])) rfl rfl (hb hby own_d3_173)
  have N673 := Fr.snoc X673 N669 gz575
  have Z673 : n0 ≤ h673.size := Nat.le_trans Z669 (Keep.of_wr W673).1
  have K673 : Keep h0 h673 [a] := K669.wr W673 (Or.inr sz575)
  have V673 : Arv Z h673 b575 k575 .long (3 : Int32) [(.long (((1 : Int64) <<< (((64 : Int32) - NL) &&& 0x3f).toInt64) - (1 : Int64))), (.long (((1 : Int64) <<< ((32 : Int32) &&& 0x3f).toInt64) - (1 : Int64))), (.long (((1 : Int64) <<< ((32 : Int32) &&& 0x3f).toInt64) - (1 : Int64)))] (.long 0) := V673q
  refine own_st st673 ?_
  refine own_st (g' := (mkF m 175 #[rv a, rv lw, rv hg, iv 0, iv 0, iv (((0 : Int32) + ((64 : Int32) - NL)) + (32 : Int32)), iv 2, .val (.long 4294967296), .second, iv 32] [(.ref a)])) (fun tt_ kk_ => XS.aloadN X673.here hx rfl (hb hby own_d3_174) rfl rfl kk_) ?_
  have F675 := ((((F656.other W658 (Or.inl ne591)).other W662 (Or.inl ne608)).other W669 (Or.inl ne563)).other W673 (Or.inl ne576))
  refine own_gG X673 hx hZ hown (own_w hw 36 rfl) e673 F675 rfl rfl (hb hby own_d3_175) (fun {T674} X674 e674 => ?_)
  refine own_st (g' := (mkF m 182 #[rv a, rv lw, rv hg, iv 0, iv 0, iv (((0 : Int32) + ((64 : Int32) - NL)) + (32 : Int32)), iv 2, .val (.long 4294967296), .second, iv 32] [(.int 0), (.int 2), (.ref b590)])) (fun tt_ kk_ => XS.iload X674.here hx rfl (hb hby own_d3_178) rfl (XS.iload X674.here hx rfl (hb hby own_d3_180) rfl kk_)) ?_
  have F676 := (((V658.other W662 ne618).other W669 (Ne.symm ne597)).other W673 (Ne.symm ne599))
  obtain ⟨T677, h677, X677, e677, W677, V677q, st677⟩ := own_svI X674 hx hZ e674 F676 (j := (2 : Int32)) (by decide) 2 rfl (Nat.le_of_ble_eq_true rfl) (g := (mkF m 182 #[rv a, rv lw, rv hg, iv 0, iv 0, iv (((0 : Int32) + ((64 : Int32) - NL)) + (32 : Int32)), iv 2, .val (.long 4294967296), .second, iv 32] [(.int 0), (.int 2), (.ref b590)])) rfl rfl (hb hby own_d3_182)
  have N677 := Fr.snoc X677 N673 gz590
  have Z677 : n0 ≤ h677.size := Nat.le_trans Z673 (Keep.of_wr W677).1
  have K677 : Keep h0 h677 [a] := K673.wr W677 (Or.inr sz590)
  have V677 : Arv Z h677 b590 k590 .int (3 : Int32) [(.int 0), (.int 0), (.int 0)] (.int 0) := V677q
  refine own_st st677 ?_
  refine own_st (g' := (mkF m 184 #[rv a, rv lw, rv hg, iv 0, iv 0, iv (((0 : Int32) + ((64 : Int32) - NL)) + (32 : Int32)), iv 2, .val (.long 4294967296), .second, iv 32] [(.ref a)])) (fun tt_ kk_ => XS.aloadN X677.here hx rfl (hb hby own_d3_183) rfl rfl kk_) ?_
  have F679 := ((((F660.other W662 (Or.inl ne608)).other W669 (Or.inl ne563)).other W673 (Or.inl ne576)).other W677 (Or.inl ne591))
  refine own_gG X677 hx hZ hown (own_w hw 38 rfl) e677 F679 rfl rfl (hb hby own_d3_184) (fun {T678} X678 e678 => ?_)
  refine own_st (g' := (mkF m 191 #[rv a, rv lw, rv hg, iv 0, iv 0, iv (((0 : Int32) + ((64 : Int32) - NL)) + (32 : Int32)), iv 2, .val (.long 4294967296), .second, iv 32] [(.int (((0 : Int32) + ((64 : Int32) - NL)) + (32 : Int32))), (.int 2), (.ref b607)])) (fun tt_ kk_ => XS.iload X678.here hx rfl (hb hby own_d3_187) rfl (XS.iload X678.here hx rfl (hb hby own_d3_189) rfl kk_)) ?_
  have F680 := (((V662.other W669 (Ne.symm ne614)).other W673 (Ne.symm ne616)).other W677 (Ne.symm ne618))
  obtain ⟨T681, h681, X681, e681, W681, V681q, st681⟩ := own_svI X678 hx hZ e678 F680 (j := (2 : Int32)) (by decide) 2 rfl (Nat.le_of_ble_eq_true rfl) (g := (mkF m 191 #[rv a, rv lw, rv hg, iv 0, iv 0, iv (((0 : Int32) + ((64 : Int32) - NL)) + (32 : Int32)), iv 2, .val (.long 4294967296), .second, iv 32] [(.int (((0 : Int32) + ((64 : Int32) - NL)) + (32 : Int32))), (.int 2), (.ref b607)])) rfl rfl (hb hby own_d3_191)
  have N681 := Fr.snoc X681 N677 gz607
  have Z681 : n0 ≤ h681.size := Nat.le_trans Z677 (Keep.of_wr W681).1
  have K681 : Keep h0 h681 [a] := K677.wr W681 (Or.inr sz607)
  have V681 : Arv Z h681 b607 k607 .int (3 : Int32) [(.int 0), (.int ((0 : Int32) + ((64 : Int32) - NL))), (.int (((0 : Int32) + ((64 : Int32) - NL)) + (32 : Int32)))] (.int 0) := V681q
  refine own_st st681 ?_
  refine own_st (g' := (mkF m 83 #[rv a, rv lw, rv hg, iv 0, iv 0, iv ((((0 : Int32) + ((64 : Int32) - NL)) + (32 : Int32)) + (32 : Int32)), iv 3, .val (.long 4294967296), .second, iv 32] [(.ref lw), (.int 3)])) (fun tt_ kk_ => XS.iload X681.here hx rfl (hb hby own_d3_192) rfl (XS.iload X681.here hx rfl (hb hby own_d3_194) rfl (XS.iadd X681.here hx rfl (hb hby own_d3_196) rfl (XS.istore X681.here hx rfl (hb hby own_d3_197) rfl (l' := #[rv a, rv lw, rv hg, iv 0, iv 0, iv ((((0 : Int32) + ((64 : Int32) - NL)) + (32 : Int32)) + (32 : Int32)), iv 2, .val (.long 4294967296), .second, iv 32]) rfl (XS.iinc X681.here hx rfl (hb hby own_d3_199) rfl (l' := #[rv a, rv lw, rv hg, iv 0, iv 0, iv ((((0 : Int32) + ((64 : Int32) - NL)) + (32 : Int32)) + (32 : Int32)), iv 3, .val (.long 4294967296), .second, iv 32]) rfl (XS.goto X681.here hx rfl (pc0 := 202) (pc' := 80) rfl (hb hby own_d3_202) (by decide) (by decide) (XS.iload X681.here hx rfl (hb hby own_d3_80) rfl (XS.aloadN X681.here hx rfl (hb hby own_d3_82) rfl rfl kk_)))))))) ?_
  have F682 := ((((F663.other W669 ne567).other W673 ne580).other W677 ne595).other W681 ne612)
  refine own_st (g' := (mkF m 210 #[rv a, rv lw, rv hg, iv 0, iv 0, iv ((((0 : Int32) + ((64 : Int32) - NL)) + (32 : Int32)) + (32 : Int32)), iv 3, .val (.long 4294967296), .second, iv 32] [(.int 1), (.ref a)])) (fun tt_ kk_ => own_lnV (g := (mkF m 83 #[rv a, rv lw, rv hg, iv 0, iv 0, iv ((((0 : Int32) + ((64 : Int32) - NL)) + (32 : Int32)) + (32 : Int32)), iv 3, .val (.long 4294967296), .second, iv 32] [(.ref lw), (.int 3)])) X681 hx hZ e681 F682 rfl rfl (hb hby own_d3_83) tt_ (XS.icmpYes X681.here hx rfl (pc0 := 84) (pc' := 205) rfl (hb hby own_d3_84) rfl (flt (by decide : ¬ ((3 : Int32) < (3 : Int32)))).2.1 (by decide) (by decide) (XS.aloadN X681.here hx rfl (hb hby own_d3_205) rfl rfl (XS.iload X681.here hx rfl (hb hby own_d3_206) rfl (XS.iconst X681.here hx rfl (hb hby own_d3_208) (XS.iadd X681.here hx rfl (hb hby own_d3_209) rfl kk_)))))) ?_
  have F684 := ((((((((((((((((((((((F_wordCount_a.ext E553).other W558 (Or.inr (own_sn19 hw))).ext E562).other W571 (Or.inr (own_sn20 hw))).ext E575).other W586 (Or.inr (own_sn21 hw))).ext E590).other W603 (Or.inr (own_sn22 hw))).ext E607).other W622 (Or.inr (own_sn23 hw))).other W631 (Or.inl ne563)).other W635 (Or.inl ne576)).other W639 (Or.inl ne591)).other W643 (Or.inl ne608)).other W650 (Or.inl ne563)).other W654 (Or.inl ne576)).other W658 (Or.inl ne591)).other W662 (Or.inl ne608)).other W669 (Or.inl ne563)).other W673 (Or.inl ne576)).other W677 (Or.inl ne591)).other W681 (Or.inl ne608))
  have F685 := (((((((((((((F624.wr W622).wr W631).wr W635).wr W639).wr W643).wr W650).wr W654).wr W658).wr W662).wr W669).wr W673).wr W677).wr W681)
  obtain ⟨T683, h683, X683, e683, W683, st683⟩ := putF X681 hx hZ hown (host := "") (Or.inl (own_w hw 49 rfl)) Via.refl e681 F684 F685 (Or.inr ⟨(own_w hw 50 rfl), rfl, hnm⟩) (own_w hw 12 rfl) (ty := .int) (by decide) rfl rfl (g := (mkF m 210 #[rv a, rv lw, rv hg, iv 0, iv 0, iv ((((0 : Int32) + ((64 : Int32) - NL)) + (32 : Int32)) + (32 : Int32)), iv 3, .val (.long 4294967296), .second, iv 32] [(.int 1), (.ref a)])) rfl rfl (hb hby own_d3_210)
  have N683 := Fr.snoc X683 N681 g_a
  have Z683 : n0 ≤ h683.size := Nat.le_trans Z681 (Keep.of_wr W683).1
  have K683 : Keep h0 h683 [a] := K681.wr W683 (Or.inl (List.mem_of_getElem? (i := 0) rfl))
  have F683 : Fld Z h683 a own_z0 "wordCount" "I" (.int 1) := F684.same W683
  refine own_st st683 ?_
  refine own_st (g' := (mkF m 218 #[rv a, rv lw, rv hg, iv 0, iv 0, iv ((((0 : Int32) + ((64 : Int32) - NL)) + (32 : Int32)) + (32 : Int32)), iv 3, .val (.long 4294967296), .second, iv 32] [(.int 0), (.int 1024), (.ref a)])) (fun tt_ kk_ => XS.aloadN X683.here hx rfl (hb hby own_d3_213) rfl rfl (XS.sipush X683.here hx rfl (hb hby own_d3_214) (XS.iloadN X683.here hx rfl (hb hby own_d3_217) rfl kk_))) ?_
  obtain ⟨_, _, ⟨T686, L686, k686, n686⟩, -, X686, ⟨Lc686, hQ686, l686, y686, z686⟩, st686⟩ := Jvm.LawKit.callS X683 hx (y := (⟨own_z2, "max", "(II)I"⟩ : MethodName)) hown (mvT hZ (own_w hw 51 rfl)) (mvT hZ (own_w hw 5 rfl)) (mvT hZ (own_w hw 2 rfl)) (mvT hZ (own_w hw 6 rfl)) (by decide) (backOf (W := 1) (own_rm2 l Z a0 hw [] (1024 : Int32) (0 : Int32) h683 n0) hZ (own_w hw 6 rfl) (own_w hw 2 rfl) (by decide) (by decide)) (g := (mkF m 218 #[rv a, rv lw, rv hg, iv 0, iv 0, iv ((((0 : Int32) + ((64 : Int32) - NL)) + (32 : Int32)) + (32 : Int32)), iv 3, .val (.long 4294967296), .second, iv 32] [(.int 0), (.int 1024), (.ref a)])) rfl (by rw [hml]; rfl) (argsL := [(.int 1024), (.int 0)]) (rest := [(.ref a)]) (lenOf own_pd11 rfl) rfl (by show 2 * 0 + _ ≤ _; exact Nat.le_of_eq rfl) (hb hby own_d3_218) (fun _ _ => ⟨rfl, e683, (by decide : 5 + 0 ≤ _), (by decide : 15 + 0 ≤ _)⟩)
  dsimp only [Pt.U, Pt.locs, Pt.cells, Pt.slots] at X686 l686 y686 z686 st686 hQ686
  rw [l686, y686, z686] at X686
  obtain ⟨rfl, N686q, e686⟩ := hQ686
  have N686 := Fr.app N683 N686q
  refine own_st st686 ?_
  rw [show (own_f2_0 (1024 : Int32) (0 : Int32)) = (1024 : Int32) from by decide +kernel]
  refine own_st (g' := (mkF m 223 #[rv a, rv lw, rv hg, iv 0, iv 0, iv ((((0 : Int32) + ((64 : Int32) - NL)) + (32 : Int32)) + (32 : Int32)), iv 3, .val (.long 4294967296), .second, iv 32] [(.ref a), (.long ((1024 : Int32).toInt64)), (.ref a)])) (fun tt_ kk_ => XS.i2l X686.here hx rfl (hb hby own_d3_221) rfl (XS.aloadN X686.here hx rfl (hb hby own_d3_222) rfl rfl kk_)) ?_
  refine own_gG X686 hx hZ hown (own_w hw 49 rfl) e686 F683 rfl rfl (hb hby own_d3_223) (fun {T687} X687 e687 => ?_)
  refine own_st (g' := (mkF m 231 #[rv a, rv lw, rv hg, iv 0, iv 0, iv ((((0 : Int32) + ((64 : Int32) - NL)) + (32 : Int32)) + (32 : Int32)), iv 3, .val (.long 4294967296), .second, iv 32] [(.long 2147483639), (.long (((1024 : Int32).toInt64) * ((1 : Int32).toInt64))), (.ref a)])) (fun tt_ kk_ => XS.i2l X687.here hx rfl (hb hby own_d3_226) rfl (XS.lmul X687.here hx rfl (hb hby own_d3_227) rfl (X687.ldc2Long hx hown (mvT hZ (own_w hw 52 rfl)) (g := (mkF m 228 #[rv a, rv lw, rv hg, iv 0, iv 0, iv ((((0 : Int32) + ((64 : Int32) - NL)) + (32 : Int32)) + (32 : Int32)), iv 3, .val (.long 4294967296), .second, iv 32] [(.long (((1024 : Int32).toInt64) * ((1 : Int32).toInt64))), (.ref a)])) rfl (hb hby own_d3_228) _ kk_))) ?_
  obtain ⟨_, _, ⟨T688, L688, k688, n688⟩, -, X688, ⟨Lc688, hQ688, l688, y688, z688⟩, st688⟩ := Jvm.LawKit.callS X687 hx (y := (⟨own_z2, "min", "(JJ)J"⟩ : MethodName)) hown (mvT hZ (own_w hw 53 rfl)) (mvT hZ (own_w hw 54 rfl)) (mvT hZ (own_w hw 2 rfl)) (mvT hZ (own_w hw 55 rfl)) (by decide) (backOf (W := 1) (own_rm7 l Z a0 hw [] (((1024 : Int32).toInt64) * ((1 : Int32).toInt64)) (2147483639 : Int64) h683 n0) hZ (own_w hw 55 rfl) (own_w hw 2 rfl) (by decide) (by decide)) (g := (mkF m 231 #[rv a, rv lw, rv hg, iv 0, iv 0, iv ((((0 : Int32) + ((64 : Int32) - NL)) + (32 : Int32)) + (32 : Int32)), iv 3, .val (.long 4294967296), .second, iv 32] [(.long 2147483639), (.long (((1024 : Int32).toInt64) * ((1 : Int32).toInt64))), (.ref a)])) rfl (by rw [hml]; rfl) (argsL := [(.long (((1024 : Int32).toInt64) * ((1 : Int32).toInt64))), (.long 2147483639)]) (rest := [(.ref a)]) (lenOf own_pd3 rfl) rfl (by show 2 * 0 + _ ≤ _; exact Nat.le_of_eq rfl) (hb hby own_d3_231) (fun _ _ => ⟨rfl, e687, (by decide : 5 + 0 ≤ _), (by decide : 15 + 0 ≤ _)⟩)
  dsimp only [Pt.U, Pt.locs, Pt.cells, Pt.slots] at X688 l688 y688 z688 st688 hQ688
  rw [l688, y688, z688] at X688
  obtain ⟨rfl, N688q, e688⟩ := hQ688
  have N688 := Fr.app N686 N688q
  refine own_st st688 ?_
  rw [show (own_f7_0 (((1024 : Int32).toInt64) * ((1 : Int32).toInt64)) (2147483639 : Int64)) = (1024 : Int64) from by decide +kernel]
  refine own_st (g' := (mkF m 235 #[rv a, rv lw, rv hg, iv 0, iv 0, iv ((((0 : Int32) + ((64 : Int32) - NL)) + (32 : Int32)) + (32 : Int32)), iv 3, .val (.long 4294967296), .second, iv 32] [(.int ((1024 : Int64).toInt32)), (.ref a)])) (fun tt_ kk_ => XS.l2i X688.here hx rfl (hb hby own_d3_234) rfl kk_) ?_
  rw [show ((1024 : Int64).toInt32) = (1024 : Int32) from by decide]
  obtain ⟨T689, h689, k689, X689, e689, E689, A689, st689⟩ := newP X688 hx hZ (own_w hw 31 rfl) e688 (g := (mkF m 235 #[rv a, rv lw, rv hg, iv 0, iv 0, iv ((((0 : Int32) + ((64 : Int32) - NL)) + (32 : Int32)) + (32 : Int32)), iv 3, .val (.long 4294967296), .second, iv 32] [(.int 1024), (.ref a)])) rfl (hb hby own_d3_235) rfl (by decide) (cap := 1024) (by decide) (by decide) (by decide) (by decide)
  obtain ⟨b689, g689⟩ : ∃ z, z = h683.size := ⟨_, rfl⟩
  rw [← g689] at A689 st689
  have F691 := (F685.wr W683)
  have ne690 : a ≠ b689 := Nat.ne_of_lt (Nat.lt_of_lt_of_le F691.lt (Nat.le_of_eq g689.symm))
  have F693 := (((((((((((((((F611.ext E607).other W622 (Ne.symm ne554)).other W631 ne565).other W635 ne578).other W639 ne593).other W643 ne610).other W650 ne565).other W654 ne578).other W658 ne593).other W662 ne610).other W669 ne565).other W673 ne578).other W677 ne593).other W681 ne610).other W683 (Ne.symm ne554))
  have ne692 : b553 ≠ b689 := Nat.ne_of_lt (Nat.lt_of_lt_of_le F693.lt (Nat.le_of_eq g689.symm))
  have F695 := (((((((((((((((F613.ext E607).wr W622).wr W631).wr W635).wr W639).wr W643).wr W650).wr W654).wr W658).wr W662).wr W669).wr W673).wr W677).wr W681).wr W683)
  have ne694 : lw ≠ b689 := Nat.ne_of_lt (Nat.lt_of_lt_of_le F695.lt (Nat.le_of_eq g689.symm))
  have F697 := ((((V669.other W673 ne582).other W677 ne597).other W681 ne614).other W683 (Ne.symm ne563))
  have ne696 : b562 ≠ b689 := Nat.ne_of_lt (Nat.lt_of_lt_of_le F697.lt (Nat.le_of_eq g689.symm))
  have F699 := (((V673.other W677 ne599).other W681 ne616).other W683 (Ne.symm ne576))
  have ne698 : b575 ≠ b689 := Nat.ne_of_lt (Nat.lt_of_lt_of_le F699.lt (Nat.le_of_eq g689.symm))
  have F701 := ((V677.other W681 ne618).other W683 (Ne.symm ne591))
  have ne700 : b590 ≠ b689 := Nat.ne_of_lt (Nat.lt_of_lt_of_le F701.lt (Nat.le_of_eq g689.symm))
  have F703 := (V681.other W683 (Ne.symm ne608))
  have ne702 : b607 ≠ b689 := Nat.ne_of_lt (Nat.lt_of_lt_of_le F703.lt (Nat.le_of_eq g689.symm))
  have F705 := (((((F664.other W669 ne569).other W673 ne584).other W677 ne601).other W681 ne620).other W683 ne_hg_a)
  have ne704 : hg ≠ b689 := Nat.ne_of_lt (Nat.lt_of_lt_of_le F705.lt (Nat.le_of_eq g689.symm))
  have gz689 : n0 ≤ b689 := Nat.le_trans Z683 (Nat.le_of_eq g689.symm)
  have Z689 : n0 ≤ h689.size := Nat.le_trans Z683 E689.1
  have sz689 : h0.size ≤ b689 := Nat.le_trans K683.1 (Nat.le_of_eq g689.symm)
  have K689 : Keep h0 h689 [a] := K683.ext E689
  have V689 : Arv Z h689 b689 k689 .long (1024 : Int32) [(.long 0), (.long 0)] (.long 0) := (Arv.new A689 (by decide)).pad (pad_rep [] (.long 0) 2)
  refine own_st st689 ?_
  have F707 := ((((((((((((((((((((((((F_packed_a.ext E553).other W558 (Or.inr (own_sn24 hw))).ext E562).other W571 (Or.inr (own_sn25 hw))).ext E575).other W586 (Or.inr (own_sn26 hw))).ext E590).other W603 (Or.inr (own_sn27 hw))).ext E607).other W622 (Or.inr (own_sn28 hw))).other W631 (Or.inl ne563)).other W635 (Or.inl ne576)).other W639 (Or.inl ne591)).other W643 (Or.inl ne608)).other W650 (Or.inl ne563)).other W654 (Or.inl ne576)).other W658 (Or.inl ne591)).other W662 (Or.inl ne608)).other W669 (Or.inl ne563)).other W673 (Or.inl ne576)).other W677 (Or.inl ne591)).other W681 (Or.inl ne608)).other W683 (Or.inr (own_sn29 hw))).ext E689)
  have F708 := (F691.ext E689)
  obtain ⟨T706, h706, X706, e706, W706, st706⟩ := putF X689 hx hZ hown (host := "") (Or.inl (own_w hw 56 rfl)) Via.refl e689 F707 F708 (Or.inl (own_w hw 57 rfl)) (own_w hw 12 rfl) (ty := (.array .long)) (by decide) rfl rfl (g := (mkF m 237 #[rv a, rv lw, rv hg, iv 0, iv 0, iv ((((0 : Int32) + ((64 : Int32) - NL)) + (32 : Int32)) + (32 : Int32)), iv 3, .val (.long 4294967296), .second, iv 32] [(.ref b689), (.ref a)])) rfl rfl (hb hby own_d3_237)
  have N706 := Fr.snoc X706 N688 g_a
  have Z706 : n0 ≤ h706.size := Nat.le_trans Z689 (Keep.of_wr W706).1
  have K706 : Keep h0 h706 [a] := K689.wr W706 (Or.inl (List.mem_of_getElem? (i := 0) rfl))
  have F706 : Fld Z h706 a own_z0 "packed" "[J" (.ref b689) := F707.same W706
  refine own_st st706 ?_
  refine own_st (g' := (mkF m 242 #[rv a, rv lw, rv hg, iv 0, iv 0, iv ((((0 : Int32) + ((64 : Int32) - NL)) + (32 : Int32)) + (32 : Int32)), iv 3, .val (.long 4294967296), .second, iv 32] [(.int 0), (.ref a)])) (fun tt_ kk_ => XS.aloadN X706.here hx rfl (hb hby own_d3_240) rfl rfl (XS.iloadN X706.here hx rfl (hb hby own_d3_241) rfl kk_)) ?_
  obtain ⟨_, _, ⟨T709, L709, k709, n709⟩, -, X709, ⟨Lc709, hQ709, l709, y709, z709⟩, st709⟩ := Jvm.LawKit.callS X706 hx (y := (⟨own_z0, "slotsFor", "(I)I"⟩ : MethodName)) hown (mvT hZ (own_w hw 58 rfl)) (mvT hZ (own_w hw 59 rfl)) (mvT hZ (own_w hw 13 rfl)) (mvT hZ (own_w hw 60 rfl)) (by decide) (backOf (W := 1) (own_rmslf l Z a0 hw []  h706 n0 Z706 ) hZ (own_w hw 60 rfl) (own_w hw 13 rfl) (by decide) (by decide)) (g := (mkF m 242 #[rv a, rv lw, rv hg, iv 0, iv 0, iv ((((0 : Int32) + ((64 : Int32) - NL)) + (32 : Int32)) + (32 : Int32)), iv 3, .val (.long 4294967296), .second, iv 32] [(.int 0), (.ref a)])) rfl (by rw [hml]; rfl) (argsL := [(.int 0)]) (rest := [(.ref a)]) (lenOf own_pd0 rfl) rfl (by show 2 * 0 + _ ≤ _; exact Nat.le_of_eq rfl) (hb hby own_d3_242) (fun _ _ => ⟨rfl, e706, (by decide : 6 + 0 ≤ _), (by decide : 1039 + 0 ≤ _)⟩)
  dsimp only [Pt.U, Pt.locs, Pt.cells, Pt.slots] at X709 l709 y709 z709 st709 hQ709
  rw [l709, y709, z709] at X709
  obtain ⟨rfl, N709q, e709⟩ := hQ709
  have N709 := Fr.app N706 N709q
  refine own_st st709 ?_
  obtain ⟨T710, h710, k710, X710, e710, E710, A710, st710⟩ := newP X709 hx hZ (own_w hw 8 rfl) e709 (g := (mkF m 245 #[rv a, rv lw, rv hg, iv 0, iv 0, iv ((((0 : Int32) + ((64 : Int32) - NL)) + (32 : Int32)) + (32 : Int32)), iv 3, .val (.long 4294967296), .second, iv 32] [(.int 1024), (.ref a)])) rfl (hb hby own_d3_245) rfl (by decide) (cap := 1024) (by decide) (by decide) (by decide) (by decide)
  obtain ⟨b710, g710⟩ : ∃ z, z = h706.size := ⟨_, rfl⟩
  rw [← g710] at A710 st710
  have F712 := (F708.wr W706)
  have ne711 : a ≠ b710 := Nat.ne_of_lt (Nat.lt_of_lt_of_le F712.lt (Nat.le_of_eq g710.symm))
  have F714 := ((F693.ext E689).other W706 (Ne.symm ne554))
  have ne713 : b553 ≠ b710 := Nat.ne_of_lt (Nat.lt_of_lt_of_le F714.lt (Nat.le_of_eq g710.symm))
  have F716 := ((F695.ext E689).wr W706)
  have ne715 : lw ≠ b710 := Nat.ne_of_lt (Nat.lt_of_lt_of_le F716.lt (Nat.le_of_eq g710.symm))
  have F718 := ((F697.ext E689).other W706 (Ne.symm ne563))
  have ne717 : b562 ≠ b710 := Nat.ne_of_lt (Nat.lt_of_lt_of_le F718.lt (Nat.le_of_eq g710.symm))
  have F720 := ((F699.ext E689).other W706 (Ne.symm ne576))
  have ne719 : b575 ≠ b710 := Nat.ne_of_lt (Nat.lt_of_lt_of_le F720.lt (Nat.le_of_eq g710.symm))
  have F722 := ((F701.ext E689).other W706 (Ne.symm ne591))
  have ne721 : b590 ≠ b710 := Nat.ne_of_lt (Nat.lt_of_lt_of_le F722.lt (Nat.le_of_eq g710.symm))
  have F724 := ((F703.ext E689).other W706 (Ne.symm ne608))
  have ne723 : b607 ≠ b710 := Nat.ne_of_lt (Nat.lt_of_lt_of_le F724.lt (Nat.le_of_eq g710.symm))
  have F726 := (V689.other W706 (Ne.symm ne690))
  have ne725 : b689 ≠ b710 := Nat.ne_of_lt (Nat.lt_of_lt_of_le F726.lt (Nat.le_of_eq g710.symm))
  have F728 := ((F705.ext E689).other W706 ne_hg_a)
  have ne727 : hg ≠ b710 := Nat.ne_of_lt (Nat.lt_of_lt_of_le F728.lt (Nat.le_of_eq g710.symm))
  have gz710 : n0 ≤ b710 := Nat.le_trans Z706 (Nat.le_of_eq g710.symm)
  have Z710 : n0 ≤ h710.size := Nat.le_trans Z706 E710.1
  have sz710 : h0.size ≤ b710 := Nat.le_trans K706.1 (Nat.le_of_eq g710.symm)
  have K710 : Keep h0 h710 [a] := K706.ext E710
  have P710 : own_AI Z h710 b710 1024 (fun _ => 0) := own_AI.new A710 (by decide)
  refine own_st st710 ?_
  have F730 := ((((((((((((((((((((((((((F_slots_a.ext E553).other W558 (Or.inr (own_sn30 hw))).ext E562).other W571 (Or.inr (own_sn31 hw))).ext E575).other W586 (Or.inr (own_sn32 hw))).ext E590).other W603 (Or.inr (own_sn33 hw))).ext E607).other W622 (Or.inr (own_sn34 hw))).other W631 (Or.inl ne563)).other W635 (Or.inl ne576)).other W639 (Or.inl ne591)).other W643 (Or.inl ne608)).other W650 (Or.inl ne563)).other W654 (Or.inl ne576)).other W658 (Or.inl ne591)).other W662 (Or.inl ne608)).other W669 (Or.inl ne563)).other W673 (Or.inl ne576)).other W677 (Or.inl ne591)).other W681 (Or.inl ne608)).other W683 (Or.inr (own_sn35 hw))).ext E689).other W706 (Or.inr (own_sn36 hw))).ext E710)
  have F731 := (F712.ext E710)
  obtain ⟨T729, h729, X729, e729, W729, st729⟩ := putF X710 hx hZ hown (host := "") (Or.inl (own_w hw 61 rfl)) Via.refl e710 F730 F731 (Or.inl (own_w hw 62 rfl)) (own_w hw 12 rfl) (ty := (.array .int)) (by decide) rfl rfl (g := (mkF m 247 #[rv a, rv lw, rv hg, iv 0, iv 0, iv ((((0 : Int32) + ((64 : Int32) - NL)) + (32 : Int32)) + (32 : Int32)), iv 3, .val (.long 4294967296), .second, iv 32] [(.ref b710), (.ref a)])) rfl rfl (hb hby own_d3_247)
  have N729 := Fr.snoc X729 N709 g_a
  have Z729 : n0 ≤ h729.size := Nat.le_trans Z710 (Keep.of_wr W729).1
  have K729 : Keep h0 h729 [a] := K710.wr W729 (Or.inl (List.mem_of_getElem? (i := 0) rfl))
  have F729 : Fld Z h729 a own_z0 "slots" "[I" (.ref b710) := F730.same W729
  refine own_st st729 ?_
  refine own_st (g' := (mkF m 252 #[rv a, rv lw, rv hg, iv 0, iv 0, iv ((((0 : Int32) + ((64 : Int32) - NL)) + (32 : Int32)) + (32 : Int32)), iv 3, .val (.long 4294967296), .second, iv 32] [(.ref a), (.ref a)])) (fun tt_ kk_ => XS.aloadN X729.here hx rfl (hb hby own_d3_250) rfl rfl (XS.aloadN X729.here hx rfl (hb hby own_d3_251) rfl rfl kk_)) ?_
  have F733 := ((((F683.ext E689).other W706 (Or.inr (Ne.symm (own_sn29 hw)))).ext E710).other W729 (Or.inr (Ne.symm (own_sn35 hw))))
  refine own_gG X729 hx hZ hown (own_w hw 49 rfl) e729 F733 rfl rfl (hb hby own_d3_252) (fun {T732} X732 e732 => ?_)
  obtain ⟨T734, h734, k734, X734, e734, E734, A734, st734⟩ := newP X732 hx hZ (own_w hw 31 rfl) e732 (g := (mkF m 255 #[rv a, rv lw, rv hg, iv 0, iv 0, iv ((((0 : Int32) + ((64 : Int32) - NL)) + (32 : Int32)) + (32 : Int32)), iv 3, .val (.long 4294967296), .second, iv 32] [(.int 1), (.ref a)])) rfl (hb hby own_d3_255) rfl (by decide) (cap := 1) (by decide) (by decide) (by decide) (by decide)
  obtain ⟨b734, g734⟩ : ∃ z, z = h729.size := ⟨_, rfl⟩
  rw [← g734] at A734 st734
  have F736 := (F731.wr W729)
  have ne735 : a ≠ b734 := Nat.ne_of_lt (Nat.lt_of_lt_of_le F736.lt (Nat.le_of_eq g734.symm))
  have F738 := ((F714.ext E710).other W729 (Ne.symm ne554))
  have ne737 : b553 ≠ b734 := Nat.ne_of_lt (Nat.lt_of_lt_of_le F738.lt (Nat.le_of_eq g734.symm))
  have F740 := ((F716.ext E710).wr W729)
  have ne739 : lw ≠ b734 := Nat.ne_of_lt (Nat.lt_of_lt_of_le F740.lt (Nat.le_of_eq g734.symm))
  have F742 := (P710.other W729 (Ne.symm ne711))
  have ne741 : b710 ≠ b734 := Nat.ne_of_lt (Nat.lt_of_lt_of_le F742.lt (Nat.le_of_eq g734.symm))
  have F744 := ((F718.ext E710).other W729 (Ne.symm ne563))
  have ne743 : b562 ≠ b734 := Nat.ne_of_lt (Nat.lt_of_lt_of_le F744.lt (Nat.le_of_eq g734.symm))
  have F746 := ((F720.ext E710).other W729 (Ne.symm ne576))
  have ne745 : b575 ≠ b734 := Nat.ne_of_lt (Nat.lt_of_lt_of_le F746.lt (Nat.le_of_eq g734.symm))
  have F748 := ((F722.ext E710).other W729 (Ne.symm ne591))
  have ne747 : b590 ≠ b734 := Nat.ne_of_lt (Nat.lt_of_lt_of_le F748.lt (Nat.le_of_eq g734.symm))
  have F750 := ((F724.ext E710).other W729 (Ne.symm ne608))
  have ne749 : b607 ≠ b734 := Nat.ne_of_lt (Nat.lt_of_lt_of_le F750.lt (Nat.le_of_eq g734.symm))
  have F752 := ((F726.ext E710).other W729 (Ne.symm ne690))
  have ne751 : b689 ≠ b734 := Nat.ne_of_lt (Nat.lt_of_lt_of_le F752.lt (Nat.le_of_eq g734.symm))
  have F754 := ((F728.ext E710).other W729 ne_hg_a)
  have ne753 : hg ≠ b734 := Nat.ne_of_lt (Nat.lt_of_lt_of_le F754.lt (Nat.le_of_eq g734.symm))
  have gz734 : n0 ≤ b734 := Nat.le_trans Z729 (Nat.le_of_eq g734.symm)
  have Z734 : n0 ≤ h734.size := Nat.le_trans Z729 E734.1
  have sz734 : h0.size ≤ b734 := Nat.le_trans K729.1 (Nat.le_of_eq g734.symm)
  have K734 : Keep h0 h734 [a] := K729.ext E734
  have V734 : Arv Z h734 b734 k734 .long (1 : Int32) [(.long 0)] (.long 0) := (Arv.new A734 (by decide)).pad (pad_rep [] (.long 0) 1)
  refine own_st st734 ?_
  have F756 := ((((((((((((((((((((((((((((F_key_a.ext E553).other W558 (Or.inr (own_sn37 hw))).ext E562).other W571 (Or.inr (own_sn38 hw))).ext E575).other W586 (Or.inr (own_sn39 hw))).ext E590).other W603 (Or.inr (own_sn40 hw))).ext E607).other W622 (Or.inr (own_sn41 hw))).other W631 (Or.inl ne563)).other W635 (Or.inl ne576)).other W639 (Or.inl ne591)).other W643 (Or.inl ne608)).other W650 (Or.inl ne563)).other W654 (Or.inl ne576)).other W658 (Or.inl ne591)).other W662 (Or.inl ne608)).other W669 (Or.inl ne563)).other W673 (Or.inl ne576)).other W677 (Or.inl ne591)).other W681 (Or.inl ne608)).other W683 (Or.inr (own_sn42 hw))).ext E689).other W706 (Or.inr (own_sn43 hw))).ext E710).other W729 (Or.inr (own_sn44 hw))).ext E734)
  have F757 := (F736.ext E734)
  obtain ⟨T755, h755, X755, e755, W755, st755⟩ := putF X734 hx hZ hown (host := "") (Or.inl (own_w hw 63 rfl)) Via.refl e734 F756 F757 (Or.inr ⟨(own_w hw 64 rfl), rfl, hnm⟩) (own_w hw 12 rfl) (ty := (.array .long)) (by decide) rfl rfl (g := (mkF m 257 #[rv a, rv lw, rv hg, iv 0, iv 0, iv ((((0 : Int32) + ((64 : Int32) - NL)) + (32 : Int32)) + (32 : Int32)), iv 3, .val (.long 4294967296), .second, iv 32] [(.ref b734), (.ref a)])) rfl rfl (hb hby own_d3_257)
  have N755 := Fr.snoc X755 N729 g_a
  have Z755 : n0 ≤ h755.size := Nat.le_trans Z734 (Keep.of_wr W755).1
  have K755 : Keep h0 h755 [a] := K734.wr W755 (Or.inl (List.mem_of_getElem? (i := 0) rfl))
  have F755 : Fld Z h755 a own_z0 "key" "[J" (.ref b734) := F756.same W755
  refine own_st st755 ?_
  have F758 := (((((((((((((((((((((((((((F558.ext E562).other W571 (Or.inr (Ne.symm (own_sn9 hw)))).ext E575).other W586 (Or.inr (Ne.symm (own_sn10 hw)))).ext E590).other W603 (Or.inr (Ne.symm (own_sn12 hw)))).ext E607).other W622 (Or.inr (Ne.symm (own_sn15 hw)))).other W631 (Or.inl ne563)).other W635 (Or.inl ne576)).other W639 (Or.inl ne591)).other W643 (Or.inl ne608)).other W650 (Or.inl ne563)).other W654 (Or.inl ne576)).other W658 (Or.inl ne591)).other W662 (Or.inl ne608)).other W669 (Or.inl ne563)).other W673 (Or.inl ne576)).other W677 (Or.inl ne591)).other W681 (Or.inl ne608)).other W683 (Or.inr (Ne.symm (own_sn19 hw)))).ext E689).other W706 (Or.inr (Ne.symm (own_sn24 hw)))).ext E710).other W729 (Or.inr (Ne.symm (own_sn30 hw)))).ext E734).other W755 (Or.inr (Ne.symm (own_sn37 hw))))
  have F759 := (((((((((((F667.other W669 (Or.inl ne563)).other W673 (Or.inl ne576)).other W677 (Or.inl ne591)).other W681 (Or.inl ne608)).other W683 (Or.inr (Ne.symm (own_sn20 hw)))).ext E689).other W706 (Or.inr (Ne.symm (own_sn25 hw)))).ext E710).other W729 (Or.inr (Ne.symm (own_sn31 hw)))).ext E734).other W755 (Or.inr (Ne.symm (own_sn38 hw))))
  have F760 := ((((((((((F671.other W673 (Or.inl ne576)).other W677 (Or.inl ne591)).other W681 (Or.inl ne608)).other W683 (Or.inr (Ne.symm (own_sn21 hw)))).ext E689).other W706 (Or.inr (Ne.symm (own_sn26 hw)))).ext E710).other W729 (Or.inr (Ne.symm (own_sn32 hw)))).ext E734).other W755 (Or.inr (Ne.symm (own_sn39 hw))))
  have F761 := (((((((((F675.other W677 (Or.inl ne591)).other W681 (Or.inl ne608)).other W683 (Or.inr (Ne.symm (own_sn22 hw)))).ext E689).other W706 (Or.inr (Ne.symm (own_sn27 hw)))).ext E710).other W729 (Or.inr (Ne.symm (own_sn33 hw)))).ext E734).other W755 (Or.inr (Ne.symm (own_sn40 hw))))
  have F762 := ((((((((F679.other W681 (Or.inl ne608)).other W683 (Or.inr (Ne.symm (own_sn23 hw)))).ext E689).other W706 (Or.inr (Ne.symm (own_sn28 hw)))).ext E710).other W729 (Or.inr (Ne.symm (own_sn34 hw)))).ext E734).other W755 (Or.inr (Ne.symm (own_sn41 hw))))
  have F763 := ((((F706.ext E710).other W729 (Or.inr (Ne.symm (own_sn36 hw)))).ext E734).other W755 (Or.inr (Ne.symm (own_sn43 hw))))
  have F764 := ((F729.ext E734).other W755 (Or.inr (Ne.symm (own_sn44 hw))))
  have F765 := ((F733.ext E734).other W755 (Or.inr (Ne.symm (own_sn42 hw))))
  have F766 := (((((((((((((((((((((((((((((F_size_a.ext E553).other W558 (Or.inr (Ne.symm (own_sn1 hw)))).ext E562).other W571 (Or.inr (Ne.symm (own_sn2 hw)))).ext E575).other W586 (Or.inr (Ne.symm (own_sn3 hw)))).ext E590).other W603 (Or.inr (Ne.symm (own_sn4 hw)))).ext E607).other W622 (Or.inr (Ne.symm (own_sn5 hw)))).other W631 (Or.inl ne563)).other W635 (Or.inl ne576)).other W639 (Or.inl ne591)).other W643 (Or.inl ne608)).other W650 (Or.inl ne563)).other W654 (Or.inl ne576)).other W658 (Or.inl ne591)).other W662 (Or.inl ne608)).other W669 (Or.inl ne563)).other W673 (Or.inl ne576)).other W677 (Or.inl ne591)).other W681 (Or.inl ne608)).other W683 (Or.inr (Ne.symm (own_sn8 hw)))).ext E689).other W706 (Or.inr (Ne.symm (own_sn6 hw)))).ext E710).other W729 (Or.inr (Ne.symm (own_sn0 hw)))).ext E734).other W755 (Or.inr (Ne.symm (own_sn7 hw))))
  have F767 := ((F738.ext E734).other W755 (Ne.symm ne554))
  have F768 := ((F744.ext E734).other W755 (Ne.symm ne563))
  have F769 := ((F746.ext E734).other W755 (Ne.symm ne576))
  have F770 := ((F748.ext E734).other W755 (Ne.symm ne591))
  have F771 := ((F750.ext E734).other W755 (Ne.symm ne608))
  have F772 := ((F752.ext E734).other W755 (Ne.symm ne690))
  have F773 := (V734.other W755 (Ne.symm ne735))
  have F774 := ((F742.ext E734).other W755 (Ne.symm ne711))
  exact own_retV X755 hx hlk hret (hb hby own_d3_260) (by decide) (by decide) (by rw [e755]; exact ⟨rfl, N755, K755, b553, b562, b575, b590, b607, b689, b710, b734, klw, k562, k575, k590, k607, k689, k734, F758, F759, F760, F761, F762, F763, F764, F755, F765, F766, F767, F768, F769, F770, F771, F772, F773, F774, ne737, ne743, ne745, ne747, ne749, ne692, ne696, ne698, ne700, ne702, ne713, ne717, ne719, ne721, ne723, ne751, ne741, ne725, sz553, sz562, sz575, sz590, sz607, sz689, sz710, sz734⟩)
def own_QiniB (Z : State) (a : Addr) (lw : Addr) (hg : Addr) (klw : ClassId) (lo : Int32) (khg : ClassId) (hi : Int32) (NL : Int32) (h0 : Heap) (n0 : Nat) (v : Option Value) (h : Heap) (L : List Loc) : Prop := v = none ∧ Fr n0 L ∧ Keep h0 h [a] ∧ ∃ aL aS aM aW aH aP aQ aK kaL kaS kaM kaW kaH kaP kaK : Addr, Fld Z h a own_z0 "lows" "[I" (.ref aL) ∧ Fld Z h a own_z0 "spans" "[J" (.ref aS) ∧ Fld Z h a own_z0 "masks" "[J" (.ref aM) ∧ Fld Z h a own_z0 "words" "[I" (.ref aW) ∧ Fld Z h a own_z0 "shifts" "[I" (.ref aH) ∧ Fld Z h a own_z0 "packed" "[J" (.ref aP) ∧ Fld Z h a own_z0 "slots" "[I" (.ref aQ) ∧ Fld Z h a own_z0 "key" "[J" (.ref aK) ∧ Fld Z h a own_z0 "wordCount" "I" (.int 2) ∧ Fld Z h a own_z0 "size" "I" (.int 0) ∧ Arv Z h aL kaL .int (3 : Int32) [(.int lo), (.int (-2147483648)), (.int (-2147483648))] (.int 0) ∧ Arv Z h aS kaS .long (3 : Int32) [(.long (((hi.toInt64) - (lo.toInt64)) + (1 : Int64))), (.long 4294967296), (.long 4294967296)] (.long 0) ∧ Arv Z h aM kaM .long (3 : Int32) [(.long (((1 : Int64) <<< (((64 : Int32) - NL) &&& 0x3f).toInt64) - (1 : Int64))), (.long (((1 : Int64) <<< ((32 : Int32) &&& 0x3f).toInt64) - (1 : Int64))), (.long (((1 : Int64) <<< ((32 : Int32) &&& 0x3f).toInt64) - (1 : Int64)))] (.long 0) ∧ Arv Z h aW kaW .int (3 : Int32) [(.int 0), (.int 0), (.int 1)] (.int 0) ∧ Arv Z h aH kaH .int (3 : Int32) [(.int 0), (.int ((0 : Int32) + ((64 : Int32) - NL))), (.int 0)] (.int 0) ∧ Arv Z h aP kaP .long (2048 : Int32) [(.long 0), (.long 0), (.long 0), (.long 0)] (.long 0) ∧ Arv Z h aK kaK .long (2 : Int32) [(.long 0), (.long 0)] (.long 0) ∧ own_AI Z h aQ 1024 (fun _ => 0) ∧ aL ≠ aK ∧ aS ≠ aK ∧ aM ≠ aK ∧ aW ≠ aK ∧ aH ≠ aK ∧ aL ≠ aP ∧ aS ≠ aP ∧ aM ≠ aP ∧ aW ≠ aP ∧ aH ≠ aP ∧ aL ≠ aQ ∧ aS ≠ aQ ∧ aM ≠ aQ ∧ aW ≠ aQ ∧ aH ≠ aQ ∧ aP ≠ aK ∧ aQ ≠ aK ∧ aP ≠ aQ ∧ h0.size ≤ aL ∧ h0.size ≤ aS ∧ h0.size ≤ aM ∧ h0.size ≤ aW ∧ h0.size ≤ aH ∧ h0.size ≤ aP ∧ h0.size ≤ aQ ∧ h0.size ≤ aK
theorem own_efiniB (m : MethodId) (a : Addr) (lw : Addr) (hg : Addr) : entryFrame m #[(.ref a), (.ref lw), (.ref hg), (.int 0)] 10 = mkF m 0 #[rv a, rv lw, rv hg, iv 0, .unset, .unset, .unset, .unset, .unset, .unset] [] := by first | (simp [entryFrame, mkF, argsToLocals, Value.category]; done) | rfl
set_option maxRecDepth 65536 in
set_option maxHeartbeats 16000000 in
theorem own_rminiB (l : Launch) (Z : State) (a0 : Array Value) (hw : own_HW Z a0) (ws : List Jvm.Cond) (a : Addr) (lw : Addr) (hg : Addr) (klw : ClassId) (lo : Int32) (khg : ClassId) (hi : Int32) (NL : Int32) (h0 : Heap) (n0 : Nat) (Z0 : n0 ≤ h0.size) (E_a : Exa Z h0 a own_z0) (F_lows_a : Fld Z h0 a own_z0 "lows" "[I" .null) (F_spans_a : Fld Z h0 a own_z0 "spans" "[J" .null) (F_masks_a : Fld Z h0 a own_z0 "masks" "[J" .null) (F_words_a : Fld Z h0 a own_z0 "words" "[I" .null) (F_shifts_a : Fld Z h0 a own_z0 "shifts" "[I" .null) (F_wordCount_a : Fld Z h0 a own_z0 "wordCount" "I" (.int 0)) (F_packed_a : Fld Z h0 a own_z0 "packed" "[J" .null) (F_slots_a : Fld Z h0 a own_z0 "slots" "[I" .null) (F_key_a : Fld Z h0 a own_z0 "key" "[J" .null) (F_size_a : Fld Z h0 a own_z0 "size" "I" (.int 0)) (E_lw : Exa Z h0 lw "[I") (V_lw : Arv Z h0 lw klw .int (3 : Int32) [(.int lo), (.int (-2147483648)), (.int (-2147483648))] (.int 0)) (V_hg : Arv Z h0 hg khg .int (3 : Int32) [(.int hi), (.int 2147483647), (.int 2147483647)] (.int 0)) (hnl : own_f5_0 ((((hi.toInt64) - (lo.toInt64)) + (1 : Int64)) - (1 : Int64)) = NL) (hc1 : ¬ ((lcmpW (((hi.toInt64) - (lo.toInt64)) + (1 : Int64)) (1 : Int64)) < (0 : Int32))) (hc2 : ¬ ((64 : Int32) < ((0 : Int32) + ((64 : Int32) - NL)))) (hc3 : ¬ ((64 : Int32) < (((0 : Int32) + ((64 : Int32) - NL)) + (32 : Int32)))) (hc4 : (64 : Int32) < ((((0 : Int32) + ((64 : Int32) - NL)) + (32 : Int32)) + (32 : Int32))) (ne_lw_a : lw ≠ a) (ne_hg_a : hg ≠ a) (g_a : n0 ≤ a) :
    MetFree l (⟨own_z0, "<init>", "([I[II)V"⟩ : MethodName) (head1 (Jvm.Cond.code (⟨own_z0, "<init>", "([I[II)V"⟩ : MethodName) prog_160_method_2_code 10 none :: ws) ({ frames := 2, cells := 8, slots := 3089, locals := 29 } : Room)) (fun aa UU => aa = #[(.ref a), (.ref lw), (.ref hg), (.int 0)] ∧ Z.Warmed39 UU.vm ∧ UU.heap = h0) (fun _ _ _ _ _ => True) (fun _ U o U' => ∃ v L, o = .returned v ∧ own_QiniB Z a lw hg klw lo khg hi NL h0 n0 v U'.heap L ∧ FrameEnd U o U' L ({ frames := 2, cells := 8, slots := 3089, locals := 29 } : Room).cells ({ frames := 2, cells := 8, slots := 3089, locals := 29 } : Room).slots) := by
  refine MetFree.of_bodySF (plainFor_of_name own_pn2) hisR ?_
  intro p e s m args below meth c s₁ Bd hml hP hK
  obtain ⟨rfl, hZ, hh⟩ := hP
  have hx := Bd.exec
  have hlk := Bd.notSynchronized
  have hby := Bd.bytes
  have hret := Bd.returns
  have hown := findClass_of_methodNamed Bd.named
  have hnm := (name_of_methodNamed Bd.named Bd.method).1
  have X0 : Stand p l e ({ frames := 2, cells := 8, slots := 3089, locals := 29 } : Room) s m #[(.ref a), (.ref lw), (.ref hg), (.int 0)] below meth c s₁ [] 0 0 := Stand.of_body Bd
  have e0 : s₁.heap = h0 := by rw [← hh, Bd.state]; rfl
  have N0 := Fr.nil n0
  refine own_cast (own_efiniB m a lw hg) ?_
  show own_Go p e below s s₁ _ (own_QiniB Z a lw hg klw lo khg hi NL h0 n0) 8 3089
  have K0 : Keep h0 h0 [a] := Keep.refl _ _
  refine own_st (g' := (mkF m 1 #[rv a, rv lw, rv hg, iv 0, .unset, .unset, .unset, .unset, .unset, .unset] [(.ref a)])) (fun tt_ kk_ => XS.aloadN X0.here hx rfl (hb hby own_d3_0) rfl rfl kk_) ?_
  obtain ⟨T775, X775, e775, st775⟩ := initO X0 hx hZ hown (own_w hw 17 rfl) (own_w hw 18 rfl) (own_w hw 19 rfl) e0 (g := (mkF m 1 #[rv a, rv lw, rv hg, iv 0, .unset, .unset, .unset, .unset, .unset, .unset] [(.ref a)])) rfl (by rw [hml]; rfl) rfl (hb hby own_d3_1) (by decide) (W := 0) (by show 2 * 0 + _ ≤ _; exact Nat.le_of_eq rfl) (by decide)
  refine own_st st775 ?_
  refine own_st (g' := (mkF m 5 #[rv a, rv lw, rv hg, iv 0, .unset, .unset, .unset, .unset, .unset, .unset] [(.ref lw)])) (fun tt_ kk_ => XS.aloadN X775.here hx rfl (hb hby own_d3_4) rfl rfl kk_) ?_
  refine own_st (g' := (mkF m 7 #[rv a, rv lw, rv hg, iv 0, .unset, .unset, .unset, .unset, .unset, .unset] [(.ref hg), (.int 3)])) (fun tt_ kk_ => own_lnV (g := (mkF m 5 #[rv a, rv lw, rv hg, iv 0, .unset, .unset, .unset, .unset, .unset, .unset] [(.ref lw)])) X775 hx hZ e775 V_lw rfl rfl (hb hby own_d3_5) tt_ (XS.aloadN X775.here hx rfl (hb hby own_d3_6) rfl rfl kk_)) ?_
  refine own_st (g' := (mkF m 30 #[rv a, rv lw, rv hg, iv 0, .unset, .unset, .unset, .unset, .unset, .unset] [(.ref lw), (.ref a)])) (fun tt_ kk_ => own_lnV (g := (mkF m 7 #[rv a, rv lw, rv hg, iv 0, .unset, .unset, .unset, .unset, .unset, .unset] [(.ref hg), (.int 3)])) X775 hx hZ e775 V_hg rfl rfl (hb hby own_d3_7) tt_ (XS.icmpYes X775.here hx rfl (pc0 := 8) (pc' := 28) rfl (hb hby own_d3_8) rfl (teq (by decide : (3 : Int32) = (3 : Int32))).1 (by decide) (by decide) (XS.aloadN X775.here hx rfl (hb hby own_d3_28) rfl rfl (XS.aloadN X775.here hx rfl (hb hby own_d3_29) rfl rfl kk_)))) ?_
  obtain ⟨T776, h776, X776, e776, E776, V776, Q776, st776⟩ := own_clone X775 hx hZ hown (own_w hw 20 rfl) (own_w hw 21 rfl) (own_w hw 25 rfl) (own_w hw 23 rfl) (own_w hw 24 rfl) (own_w hw 26 rfl) e775 V_lw E_lw (g := (mkF m 30 #[rv a, rv lw, rv hg, iv 0, .unset, .unset, .unset, .unset, .unset, .unset] [(.ref lw), (.ref a)])) rfl (by rw [hml]; rfl) rfl (hb hby own_d3_30) (by decide) (W := 1) (by show 2 * 0 + _ ≤ _; exact Nat.le_of_eq rfl) (by decide) (cap := 3) (by decide) (by decide) (by decide)
  obtain ⟨b776, g776⟩ : ∃ z, z = h0.size := ⟨_, rfl⟩
  rw [← g776] at V776 Q776 st776
  have ne777 : a ≠ b776 := Nat.ne_of_lt (Nat.lt_of_lt_of_le E_a.lt (Nat.le_of_eq g776.symm))
  have ne778 : lw ≠ b776 := Nat.ne_of_lt (Nat.lt_of_lt_of_le E_lw.lt (Nat.le_of_eq g776.symm))
  have ne779 : hg ≠ b776 := Nat.ne_of_lt (Nat.lt_of_lt_of_le V_hg.lt (Nat.le_of_eq g776.symm))
  have gz776 : n0 ≤ b776 := Nat.le_trans Z0 (Nat.le_of_eq g776.symm)
  have Z776 : n0 ≤ h776.size := Nat.le_trans Z0 E776.1
  have sz776 : h0.size ≤ b776 := Nat.le_trans K0.1 (Nat.le_of_eq g776.symm)
  have K776 : Keep h0 h776 [a] := K0.ext E776
  refine own_st st776 ?_
  obtain ⟨T780, X780, e780, st780⟩ := castY X776 hx hZ hown (own_w hw 27 rfl) e776 (Ins.self Q776) (g := (mkF m 33 #[rv a, rv lw, rv hg, iv 0, .unset, .unset, .unset, .unset, .unset, .unset] [(.ref b776), (.ref a)])) rfl rfl (hb hby own_d3_33)
  refine own_st st780 ?_
  have F782 := (F_lows_a.ext E776)
  have F783 := (E_a.ext E776)
  obtain ⟨T781, h781, X781, e781, W781, st781⟩ := putF X780 hx hZ hown (host := "") (Or.inl (own_w hw 29 rfl)) Via.refl e780 F782 F783 (Or.inr ⟨(own_w hw 30 rfl), rfl, hnm⟩) (own_w hw 12 rfl) (ty := (.array .int)) (by decide) rfl rfl (g := (mkF m 36 #[rv a, rv lw, rv hg, iv 0, .unset, .unset, .unset, .unset, .unset, .unset] [(.ref b776), (.ref a)])) rfl rfl (hb hby own_d3_36)
  have N781 := Fr.snoc X781 N0 g_a
  have Z781 : n0 ≤ h781.size := Nat.le_trans Z776 (Keep.of_wr W781).1
  have K781 : Keep h0 h781 [a] := K776.wr W781 (Or.inl (List.mem_of_getElem? (i := 0) rfl))
  have F781 : Fld Z h781 a own_z0 "lows" "[I" (.ref b776) := F782.same W781
  refine own_st st781 ?_
  refine own_st (g' := (mkF m 41 #[rv a, rv lw, rv hg, iv 0, .unset, .unset, .unset, .unset, .unset, .unset] [(.ref lw), (.ref a)])) (fun tt_ kk_ => XS.aloadN X781.here hx rfl (hb hby own_d3_39) rfl rfl (XS.aloadN X781.here hx rfl (hb hby own_d3_40) rfl rfl kk_)) ?_
  have F784 := ((V_lw.ext E776).other W781 ne_lw_a)
  refine own_st (g' := (mkF m 42 #[rv a, rv lw, rv hg, iv 0, .unset, .unset, .unset, .unset, .unset, .unset] [(.int 3), (.ref a)])) (fun tt_ kk_ => own_lnV (g := (mkF m 41 #[rv a, rv lw, rv hg, iv 0, .unset, .unset, .unset, .unset, .unset, .unset] [(.ref lw), (.ref a)])) X781 hx hZ e781 F784 rfl rfl (hb hby own_d3_41) tt_ kk_) ?_
  obtain ⟨T785, h785, k785, X785, e785, E785, A785, st785⟩ := newP X781 hx hZ (own_w hw 31 rfl) e781 (g := (mkF m 42 #[rv a, rv lw, rv hg, iv 0, .unset, .unset, .unset, .unset, .unset, .unset] [(.int 3), (.ref a)])) rfl (hb hby own_d3_42) rfl (by decide) (cap := 3) (by decide) (by decide) (by decide) (by decide)
  obtain ⟨b785, g785⟩ : ∃ z, z = h781.size := ⟨_, rfl⟩
  rw [← g785] at A785 st785
  have F787 := (F783.wr W781)
  have ne786 : a ≠ b785 := Nat.ne_of_lt (Nat.lt_of_lt_of_le F787.lt (Nat.le_of_eq g785.symm))
  have F789 := (V776.other W781 (Ne.symm ne777))
  have ne788 : b776 ≠ b785 := Nat.ne_of_lt (Nat.lt_of_lt_of_le F789.lt (Nat.le_of_eq g785.symm))
  have F791 := ((E_lw.ext E776).wr W781)
  have ne790 : lw ≠ b785 := Nat.ne_of_lt (Nat.lt_of_lt_of_le F791.lt (Nat.le_of_eq g785.symm))
  have F793 := ((V_hg.ext E776).other W781 ne_hg_a)
  have ne792 : hg ≠ b785 := Nat.ne_of_lt (Nat.lt_of_lt_of_le F793.lt (Nat.le_of_eq g785.symm))
  have gz785 : n0 ≤ b785 := Nat.le_trans Z781 (Nat.le_of_eq g785.symm)
  have Z785 : n0 ≤ h785.size := Nat.le_trans Z781 E785.1
  have sz785 : h0.size ≤ b785 := Nat.le_trans K781.1 (Nat.le_of_eq g785.symm)
  have K785 : Keep h0 h785 [a] := K781.ext E785
  have V785 : Arv Z h785 b785 k785 .long (3 : Int32) [(.long 0), (.long 0), (.long 0)] (.long 0) := (Arv.new A785 (by decide)).pad (pad_rep [] (.long 0) 3)
  refine own_st st785 ?_
  have F795 := (((F_spans_a.ext E776).other W781 (Or.inr (own_sn9 hw))).ext E785)
  have F796 := (F787.ext E785)
  obtain ⟨T794, h794, X794, e794, W794, st794⟩ := putF X785 hx hZ hown (host := "") (Or.inl (own_w hw 32 rfl)) Via.refl e785 F795 F796 (Or.inr ⟨(own_w hw 33 rfl), rfl, hnm⟩) (own_w hw 12 rfl) (ty := (.array .long)) (by decide) rfl rfl (g := (mkF m 44 #[rv a, rv lw, rv hg, iv 0, .unset, .unset, .unset, .unset, .unset, .unset] [(.ref b785), (.ref a)])) rfl rfl (hb hby own_d3_44)
  have N794 := Fr.snoc X794 N781 g_a
  have Z794 : n0 ≤ h794.size := Nat.le_trans Z785 (Keep.of_wr W794).1
  have K794 : Keep h0 h794 [a] := K785.wr W794 (Or.inl (List.mem_of_getElem? (i := 0) rfl))
  have F794 : Fld Z h794 a own_z0 "spans" "[J" (.ref b785) := F795.same W794
  refine own_st st794 ?_
  refine own_st (g' := (mkF m 49 #[rv a, rv lw, rv hg, iv 0, .unset, .unset, .unset, .unset, .unset, .unset] [(.ref lw), (.ref a)])) (fun tt_ kk_ => XS.aloadN X794.here hx rfl (hb hby own_d3_47) rfl rfl (XS.aloadN X794.here hx rfl (hb hby own_d3_48) rfl rfl kk_)) ?_
  have F797 := ((F784.ext E785).other W794 ne_lw_a)
  refine own_st (g' := (mkF m 50 #[rv a, rv lw, rv hg, iv 0, .unset, .unset, .unset, .unset, .unset, .unset] [(.int 3), (.ref a)])) (fun tt_ kk_ => own_lnV (g := (mkF m 49 #[rv a, rv lw, rv hg, iv 0, .unset, .unset, .unset, .unset, .unset, .unset] [(.ref lw), (.ref a)])) X794 hx hZ e794 F797 rfl rfl (hb hby own_d3_49) tt_ kk_) ?_
  obtain ⟨T798, h798, k798, X798, e798, E798, A798, st798⟩ := newP X794 hx hZ (own_w hw 31 rfl) e794 (g := (mkF m 50 #[rv a, rv lw, rv hg, iv 0, .unset, .unset, .unset, .unset, .unset, .unset] [(.int 3), (.ref a)])) rfl (hb hby own_d3_50) rfl (by decide) (cap := 3) (by decide) (by decide) (by decide) (by decide)
  obtain ⟨b798, g798⟩ : ∃ z, z = h794.size := ⟨_, rfl⟩
  rw [← g798] at A798 st798
  have F800 := (F796.wr W794)
  have ne799 : a ≠ b798 := Nat.ne_of_lt (Nat.lt_of_lt_of_le F800.lt (Nat.le_of_eq g798.symm))
  have F802 := ((F789.ext E785).other W794 (Ne.symm ne777))
  have ne801 : b776 ≠ b798 := Nat.ne_of_lt (Nat.lt_of_lt_of_le F802.lt (Nat.le_of_eq g798.symm))
  have F804 := ((F791.ext E785).wr W794)
  have ne803 : lw ≠ b798 := Nat.ne_of_lt (Nat.lt_of_lt_of_le F804.lt (Nat.le_of_eq g798.symm))
  have F806 := (V785.other W794 (Ne.symm ne786))
  have ne805 : b785 ≠ b798 := Nat.ne_of_lt (Nat.lt_of_lt_of_le F806.lt (Nat.le_of_eq g798.symm))
  have F808 := ((F793.ext E785).other W794 ne_hg_a)
  have ne807 : hg ≠ b798 := Nat.ne_of_lt (Nat.lt_of_lt_of_le F808.lt (Nat.le_of_eq g798.symm))
  have gz798 : n0 ≤ b798 := Nat.le_trans Z794 (Nat.le_of_eq g798.symm)
  have Z798 : n0 ≤ h798.size := Nat.le_trans Z794 E798.1
  have sz798 : h0.size ≤ b798 := Nat.le_trans K794.1 (Nat.le_of_eq g798.symm)
  have K798 : Keep h0 h798 [a] := K794.ext E798
  have V798 : Arv Z h798 b798 k798 .long (3 : Int32) [(.long 0), (.long 0), (.long 0)] (.long 0) := (Arv.new A798 (by decide)).pad (pad_rep [] (.long 0) 3)
  refine own_st st798 ?_
  have F810 := (((((F_masks_a.ext E776).other W781 (Or.inr (own_sn10 hw))).ext E785).other W794 (Or.inr (own_sn11 hw))).ext E798)
  have F811 := (F800.ext E798)
  obtain ⟨T809, h809, X809, e809, W809, st809⟩ := putF X798 hx hZ hown (host := "") (Or.inl (own_w hw 34 rfl)) Via.refl e798 F810 F811 (Or.inr ⟨(own_w hw 35 rfl), rfl, hnm⟩) (own_w hw 12 rfl) (ty := (.array .long)) (by decide) rfl rfl (g := (mkF m 52 #[rv a, rv lw, rv hg, iv 0, .unset, .unset, .unset, .unset, .unset, .unset] [(.ref b798), (.ref a)])) rfl rfl (hb hby own_d3_52)
  have N809 := Fr.snoc X809 N794 g_a
  have Z809 : n0 ≤ h809.size := Nat.le_trans Z798 (Keep.of_wr W809).1
  have K809 : Keep h0 h809 [a] := K798.wr W809 (Or.inl (List.mem_of_getElem? (i := 0) rfl))
  have F809 : Fld Z h809 a own_z0 "masks" "[J" (.ref b798) := F810.same W809
  refine own_st st809 ?_
  refine own_st (g' := (mkF m 57 #[rv a, rv lw, rv hg, iv 0, .unset, .unset, .unset, .unset, .unset, .unset] [(.ref lw), (.ref a)])) (fun tt_ kk_ => XS.aloadN X809.here hx rfl (hb hby own_d3_55) rfl rfl (XS.aloadN X809.here hx rfl (hb hby own_d3_56) rfl rfl kk_)) ?_
  have F812 := ((F797.ext E798).other W809 ne_lw_a)
  refine own_st (g' := (mkF m 58 #[rv a, rv lw, rv hg, iv 0, .unset, .unset, .unset, .unset, .unset, .unset] [(.int 3), (.ref a)])) (fun tt_ kk_ => own_lnV (g := (mkF m 57 #[rv a, rv lw, rv hg, iv 0, .unset, .unset, .unset, .unset, .unset, .unset] [(.ref lw), (.ref a)])) X809 hx hZ e809 F812 rfl rfl (hb hby own_d3_57) tt_ kk_) ?_
  obtain ⟨T813, h813, k813, X813, e813, E813, A813, st813⟩ := newP X809 hx hZ (own_w hw 8 rfl) e809 (g := (mkF m 58 #[rv a, rv lw, rv hg, iv 0, .unset, .unset, .unset, .unset, .unset, .unset] [(.int 3), (.ref a)])) rfl (hb hby own_d3_58) rfl (by decide) (cap := 3) (by decide) (by decide) (by decide) (by decide)
  obtain ⟨b813, g813⟩ : ∃ z, z = h809.size := ⟨_, rfl⟩
  rw [← g813] at A813 st813
  have F815 := (F811.wr W809)
  have ne814 : a ≠ b813 := Nat.ne_of_lt (Nat.lt_of_lt_of_le F815.lt (Nat.le_of_eq g813.symm))
  have F817 := ((F802.ext E798).other W809 (Ne.symm ne777))
  have ne816 : b776 ≠ b813 := Nat.ne_of_lt (Nat.lt_of_lt_of_le F817.lt (Nat.le_of_eq g813.symm))
  have F819 := ((F804.ext E798).wr W809)
  have ne818 : lw ≠ b813 := Nat.ne_of_lt (Nat.lt_of_lt_of_le F819.lt (Nat.le_of_eq g813.symm))
  have F821 := ((F806.ext E798).other W809 (Ne.symm ne786))
  have ne820 : b785 ≠ b813 := Nat.ne_of_lt (Nat.lt_of_lt_of_le F821.lt (Nat.le_of_eq g813.symm))
  have F823 := (V798.other W809 (Ne.symm ne799))
  have ne822 : b798 ≠ b813 := Nat.ne_of_lt (Nat.lt_of_lt_of_le F823.lt (Nat.le_of_eq g813.symm))
  have F825 := ((F808.ext E798).other W809 ne_hg_a)
  have ne824 : hg ≠ b813 := Nat.ne_of_lt (Nat.lt_of_lt_of_le F825.lt (Nat.le_of_eq g813.symm))
  have gz813 : n0 ≤ b813 := Nat.le_trans Z809 (Nat.le_of_eq g813.symm)
  have Z813 : n0 ≤ h813.size := Nat.le_trans Z809 E813.1
  have sz813 : h0.size ≤ b813 := Nat.le_trans K809.1 (Nat.le_of_eq g813.symm)
  have K813 : Keep h0 h813 [a] := K809.ext E813
  have V813 : Arv Z h813 b813 k813 .int (3 : Int32) [(.int 0), (.int 0), (.int 0)] (.int 0) := (Arv.new A813 (by decide)).pad (pad_rep [] (.int 0) 3)
  refine own_st st813 ?_
  have F827 := (((((((F_words_a.ext E776).other W781 (Or.inr (own_sn12 hw))).ext E785).other W794 (Or.inr (own_sn13 hw))).ext E798).other W809 (Or.inr (own_sn14 hw))).ext E813)
  have F828 := (F815.ext E813)
  obtain ⟨T826, h826, X826, e826, W826, st826⟩ := putF X813 hx hZ hown (host := "") (Or.inl (own_w hw 36 rfl)) Via.refl e813 F827 F828 (Or.inr ⟨(own_w hw 37 rfl), rfl, hnm⟩) (own_w hw 12 rfl) (ty := (.array .int)) (by decide) rfl rfl (g := (mkF m 60 #[rv a, rv lw, rv hg, iv 0, .unset, .unset, .unset, .unset, .unset, .unset] [(.ref b813), (.ref a)])) rfl rfl (hb hby own_d3_60)
  have N826 := Fr.snoc X826 N809 g_a
  have Z826 : n0 ≤ h826.size := Nat.le_trans Z813 (Keep.of_wr W826).1
  have K826 : Keep h0 h826 [a] := K813.wr W826 (Or.inl (List.mem_of_getElem? (i := 0) rfl))
  have F826 : Fld Z h826 a own_z0 "words" "[I" (.ref b813) := F827.same W826
  refine own_st st826 ?_
  refine own_st (g' := (mkF m 65 #[rv a, rv lw, rv hg, iv 0, .unset, .unset, .unset, .unset, .unset, .unset] [(.ref lw), (.ref a)])) (fun tt_ kk_ => XS.aloadN X826.here hx rfl (hb hby own_d3_63) rfl rfl (XS.aloadN X826.here hx rfl (hb hby own_d3_64) rfl rfl kk_)) ?_
  have F829 := ((F812.ext E813).other W826 ne_lw_a)
  refine own_st (g' := (mkF m 66 #[rv a, rv lw, rv hg, iv 0, .unset, .unset, .unset, .unset, .unset, .unset] [(.int 3), (.ref a)])) (fun tt_ kk_ => own_lnV (g := (mkF m 65 #[rv a, rv lw, rv hg, iv 0, .unset, .unset, .unset, .unset, .unset, .unset] [(.ref lw), (.ref a)])) X826 hx hZ e826 F829 rfl rfl (hb hby own_d3_65) tt_ kk_) ?_
  obtain ⟨T830, h830, k830, X830, e830, E830, A830, st830⟩ := newP X826 hx hZ (own_w hw 8 rfl) e826 (g := (mkF m 66 #[rv a, rv lw, rv hg, iv 0, .unset, .unset, .unset, .unset, .unset, .unset] [(.int 3), (.ref a)])) rfl (hb hby own_d3_66) rfl (by decide) (cap := 3) (by decide) (by decide) (by decide) (by decide)
  obtain ⟨b830, g830⟩ : ∃ z, z = h826.size := ⟨_, rfl⟩
  rw [← g830] at A830 st830
  have F832 := (F828.wr W826)
  have ne831 : a ≠ b830 := Nat.ne_of_lt (Nat.lt_of_lt_of_le F832.lt (Nat.le_of_eq g830.symm))
  have F834 := ((F817.ext E813).other W826 (Ne.symm ne777))
  have ne833 : b776 ≠ b830 := Nat.ne_of_lt (Nat.lt_of_lt_of_le F834.lt (Nat.le_of_eq g830.symm))
  have F836 := ((F819.ext E813).wr W826)
  have ne835 : lw ≠ b830 := Nat.ne_of_lt (Nat.lt_of_lt_of_le F836.lt (Nat.le_of_eq g830.symm))
  have F838 := ((F821.ext E813).other W826 (Ne.symm ne786))
  have ne837 : b785 ≠ b830 := Nat.ne_of_lt (Nat.lt_of_lt_of_le F838.lt (Nat.le_of_eq g830.symm))
  have F840 := ((F823.ext E813).other W826 (Ne.symm ne799))
  have ne839 : b798 ≠ b830 := Nat.ne_of_lt (Nat.lt_of_lt_of_le F840.lt (Nat.le_of_eq g830.symm))
  have F842 := (V813.other W826 (Ne.symm ne814))
  have ne841 : b813 ≠ b830 := Nat.ne_of_lt (Nat.lt_of_lt_of_le F842.lt (Nat.le_of_eq g830.symm))
  have F844 := ((F825.ext E813).other W826 ne_hg_a)
  have ne843 : hg ≠ b830 := Nat.ne_of_lt (Nat.lt_of_lt_of_le F844.lt (Nat.le_of_eq g830.symm))
  have gz830 : n0 ≤ b830 := Nat.le_trans Z826 (Nat.le_of_eq g830.symm)
  have Z830 : n0 ≤ h830.size := Nat.le_trans Z826 E830.1
  have sz830 : h0.size ≤ b830 := Nat.le_trans K826.1 (Nat.le_of_eq g830.symm)
  have K830 : Keep h0 h830 [a] := K826.ext E830
  have V830 : Arv Z h830 b830 k830 .int (3 : Int32) [(.int 0), (.int 0), (.int 0)] (.int 0) := (Arv.new A830 (by decide)).pad (pad_rep [] (.int 0) 3)
  refine own_st st830 ?_
  have F846 := (((((((((F_shifts_a.ext E776).other W781 (Or.inr (own_sn15 hw))).ext E785).other W794 (Or.inr (own_sn16 hw))).ext E798).other W809 (Or.inr (own_sn17 hw))).ext E813).other W826 (Or.inr (own_sn18 hw))).ext E830)
  have F847 := (F832.ext E830)
  obtain ⟨T845, h845, X845, e845, W845, st845⟩ := putF X830 hx hZ hown (host := "") (Or.inl (own_w hw 38 rfl)) Via.refl e830 F846 F847 (Or.inr ⟨(own_w hw 39 rfl), rfl, hnm⟩) (own_w hw 12 rfl) (ty := (.array .int)) (by decide) rfl rfl (g := (mkF m 68 #[rv a, rv lw, rv hg, iv 0, .unset, .unset, .unset, .unset, .unset, .unset] [(.ref b830), (.ref a)])) rfl rfl (hb hby own_d3_68)
  have N845 := Fr.snoc X845 N826 g_a
  have Z845 : n0 ≤ h845.size := Nat.le_trans Z830 (Keep.of_wr W845).1
  have K845 : Keep h0 h845 [a] := K830.wr W845 (Or.inl (List.mem_of_getElem? (i := 0) rfl))
  have F845 : Fld Z h845 a own_z0 "shifts" "[I" (.ref b830) := F846.same W845
  refine own_st st845 ?_
  refine own_st (g' := (mkF m 83 #[rv a, rv lw, rv hg, iv 0, iv 0, iv 0, iv 0, .unset, .unset, .unset] [(.ref lw), (.int 0)])) (fun tt_ kk_ => XS.iconst X845.here hx rfl (hb hby own_d3_71) (XS.istore X845.here hx rfl (hb hby own_d3_72) rfl (l' := #[rv a, rv lw, rv hg, iv 0, iv 0, .unset, .unset, .unset, .unset, .unset]) rfl (XS.iconst X845.here hx rfl (hb hby own_d3_74) (XS.istore X845.here hx rfl (hb hby own_d3_75) rfl (l' := #[rv a, rv lw, rv hg, iv 0, iv 0, iv 0, .unset, .unset, .unset, .unset]) rfl (XS.iconst X845.here hx rfl (hb hby own_d3_77) (XS.istore X845.here hx rfl (hb hby own_d3_78) rfl (l' := #[rv a, rv lw, rv hg, iv 0, iv 0, iv 0, iv 0, .unset, .unset, .unset]) rfl (XS.iload X845.here hx rfl (hb hby own_d3_80) rfl (XS.aloadN X845.here hx rfl (hb hby own_d3_82) rfl rfl kk_)))))))) ?_
  have F848 := ((F829.ext E830).other W845 ne_lw_a)
  refine own_st (g' := (mkF m 90 #[rv a, rv lw, rv hg, iv 0, iv 0, iv 0, iv 0, .unset, .unset, .unset] [(.int 0), (.ref hg)])) (fun tt_ kk_ => own_lnV (g := (mkF m 83 #[rv a, rv lw, rv hg, iv 0, iv 0, iv 0, iv 0, .unset, .unset, .unset] [(.ref lw), (.int 0)])) X845 hx hZ e845 F848 rfl rfl (hb hby own_d3_83) tt_ (XS.icmpNo X845.here hx rfl (hb hby own_d3_84) rfl (tlt (by decide : (0 : Int32) < (3 : Int32))).2.1 (XS.aloadN X845.here hx rfl (hb hby own_d3_87) rfl rfl (XS.iload X845.here hx rfl (hb hby own_d3_88) rfl kk_)))) ?_
  have F849 := ((F844.ext E830).other W845 ne_hg_a)
  refine own_st (g' := (mkF m 95 #[rv a, rv lw, rv hg, iv 0, iv 0, iv 0, iv 0, .unset, .unset, .unset] [(.int 0), (.ref lw), (.long (hi.toInt64))])) (fun tt_ kk_ => own_lvI (g := (mkF m 90 #[rv a, rv lw, rv hg, iv 0, iv 0, iv 0, iv 0, .unset, .unset, .unset] [(.int 0), (.ref hg)])) X845 hx hZ e845 F849 (by decide) rfl rfl rfl (hb hby own_d3_90) tt_ (XS.i2l X845.here hx rfl (hb hby own_d3_91) rfl (XS.aloadN X845.here hx rfl (hb hby own_d3_92) rfl rfl (XS.iload X845.here hx rfl (hb hby own_d3_93) rfl kk_)))) ?_
  refine own_st (g' := (mkF m 106 #[rv a, rv lw, rv hg, iv 0, iv 0, iv 0, iv 0, .val (.long (((hi.toInt64) - (lo.toInt64)) + (1 : Int64))), .second, .unset] [(.int (lcmpW (((hi.toInt64) - (lo.toInt64)) + (1 : Int64)) (1 : Int64)))])) (fun tt_ kk_ => own_lvI (g := (mkF m 95 #[rv a, rv lw, rv hg, iv 0, iv 0, iv 0, iv 0, .unset, .unset, .unset] [(.int 0), (.ref lw), (.long (hi.toInt64))])) X845 hx hZ e845 F848 (by decide) rfl rfl rfl (hb hby own_d3_95) tt_ (XS.i2l X845.here hx rfl (hb hby own_d3_96) rfl (XS.lsub X845.here hx rfl (hb hby own_d3_97) rfl (XS.lconst X845.here hx rfl (hb hby own_d3_98) (XS.ladd X845.here hx rfl (hb hby own_d3_99) rfl (XS.lstore X845.here hx rfl (hb hby own_d3_100) rfl (l' := #[rv a, rv lw, rv hg, iv 0, iv 0, iv 0, iv 0, .val (.long (((hi.toInt64) - (lo.toInt64)) + (1 : Int64))), .second, .unset]) rfl (XS.lload X845.here hx rfl (hb hby own_d3_102) rfl (XS.lconst X845.here hx rfl (hb hby own_d3_104) (XS.lcmp X845.here hx rfl (hb hby own_d3_105) rfl kk_))))))))) ?_
  refine own_st (g' := (mkF m 130 #[rv a, rv lw, rv hg, iv 0, iv 0, iv 0, iv 0, .val (.long (((hi.toInt64) - (lo.toInt64)) + (1 : Int64))), .second, .unset] [(.long ((((hi.toInt64) - (lo.toInt64)) + (1 : Int64)) - (1 : Int64))), (.int 64)])) (fun tt_ kk_ => XS.ifYes X845.here hx rfl (pc0 := 106) (pc' := 124) rfl (hb hby own_d3_106) rfl ((if0 _ _).trans (flt hc1).2.1) (by decide) (by decide) (XS.bipush X845.here hx rfl (hb hby own_d3_124) (XS.lload X845.here hx rfl (hb hby own_d3_126) rfl (XS.lconst X845.here hx rfl (hb hby own_d3_128) (XS.lsub X845.here hx rfl (hb hby own_d3_129) rfl kk_))))) ?_
  obtain ⟨_, _, ⟨T850, L850, k850, n850⟩, -, X850, ⟨Lc850, hQ850, l850, y850, z850⟩, st850⟩ := Jvm.LawKit.callS X845 hx (y := (⟨"java/lang/Long", own_z1, "(J)I"⟩ : MethodName)) hown (mvT hZ (own_w hw 40 rfl)) (mvT hZ (own_w hw 41 rfl)) (mvT hZ (own_w hw 42 rfl)) (mvT hZ (own_w hw 43 rfl)) (by decide) (backOf (W := 1) (own_rm5 l Z a0 hw [] ((((hi.toInt64) - (lo.toInt64)) + (1 : Int64)) - (1 : Int64)) h845 n0) hZ (own_w hw 43 rfl) (own_w hw 42 rfl) (by decide) (by decide)) (g := (mkF m 130 #[rv a, rv lw, rv hg, iv 0, iv 0, iv 0, iv 0, .val (.long (((hi.toInt64) - (lo.toInt64)) + (1 : Int64))), .second, .unset] [(.long ((((hi.toInt64) - (lo.toInt64)) + (1 : Int64)) - (1 : Int64))), (.int 64)])) rfl (by rw [hml]; rfl) (argsL := [(.long ((((hi.toInt64) - (lo.toInt64)) + (1 : Int64)) - (1 : Int64)))]) (rest := [(.int 64)]) (lenOf own_pd10 rfl) rfl (by show 2 * 0 + _ ≤ _; exact Nat.le_of_eq rfl) (hb hby own_d3_130) (fun _ _ => ⟨rfl, e845, (by decide : 5 + 0 ≤ _), (by decide : 15 + 0 ≤ _)⟩)
  dsimp only [Pt.U, Pt.locs, Pt.cells, Pt.slots] at X850 l850 y850 z850 st850 hQ850
  rw [l850, y850, z850] at X850
  obtain ⟨rfl, N850q, e850⟩ := hQ850
  have N850 := Fr.app N845 N850q
  refine own_st st850 ?_
  rw [hnl]
  refine own_st (g' := (mkF m 143 #[rv a, rv lw, rv hg, iv 0, iv 0, iv 0, iv 0, .val (.long (((hi.toInt64) - (lo.toInt64)) + (1 : Int64))), .second, iv ((64 : Int32) - NL)] [(.int 64), (.int ((0 : Int32) + ((64 : Int32) - NL)))])) (fun tt_ kk_ => XS.isub X850.here hx rfl (hb hby own_d3_133) rfl (XS.istore X850.here hx rfl (hb hby own_d3_134) rfl (l' := #[rv a, rv lw, rv hg, iv 0, iv 0, iv 0, iv 0, .val (.long (((hi.toInt64) - (lo.toInt64)) + (1 : Int64))), .second, iv ((64 : Int32) - NL)]) rfl (XS.iload X850.here hx rfl (hb hby own_d3_136) rfl (XS.iload X850.here hx rfl (hb hby own_d3_138) rfl (XS.iadd X850.here hx rfl (hb hby own_d3_140) rfl (XS.bipush X850.here hx rfl (hb hby own_d3_141) kk_)))))) ?_
  refine own_st (g' := (mkF m 153 #[rv a, rv lw, rv hg, iv 0, iv 0, iv 0, iv 0, .val (.long (((hi.toInt64) - (lo.toInt64)) + (1 : Int64))), .second, iv ((64 : Int32) - NL)] [(.ref a)])) (fun tt_ kk_ => XS.icmpYes X850.here hx rfl (pc0 := 143) (pc' := 152) rfl (hb hby own_d3_143) rfl (flt hc2).2.2.2 (by decide) (by decide) (XS.aloadN X850.here hx rfl (hb hby own_d3_152) rfl rfl kk_)) ?_
  have F852 := ((((((F794.ext E798).other W809 (Or.inr (Ne.symm (own_sn11 hw)))).ext E813).other W826 (Or.inr (Ne.symm (own_sn13 hw)))).ext E830).other W845 (Or.inr (Ne.symm (own_sn16 hw))))
  refine own_gG X850 hx hZ hown (own_w hw 32 rfl) e850 F852 rfl rfl (hb hby own_d3_153) (fun {T851} X851 e851 => ?_)
  refine own_st (g' := (mkF m 160 #[rv a, rv lw, rv hg, iv 0, iv 0, iv 0, iv 0, .val (.long (((hi.toInt64) - (lo.toInt64)) + (1 : Int64))), .second, iv ((64 : Int32) - NL)] [(.long (((hi.toInt64) - (lo.toInt64)) + (1 : Int64))), (.int 0), (.ref b785)])) (fun tt_ kk_ => XS.iload X851.here hx rfl (hb hby own_d3_156) rfl (XS.lload X851.here hx rfl (hb hby own_d3_158) rfl kk_)) ?_
  have F853 := ((F838.ext E830).other W845 (Ne.symm ne786))
  obtain ⟨T854, h854, X854, e854, W854, V854q, st854⟩ := own_svJ X851 hx hZ e851 F853 (j := (0 : Int32)) (by decide) 0 rfl (Nat.le_of_ble_eq_true rfl) (g := (mkF m 160 #[rv a, rv lw, rv hg, iv 0, iv 0, iv 0, iv 0, .val (.long (((hi.toInt64) - (lo.toInt64)) + (1 : Int64))), .second, iv ((64 : Int32) - NL)] [(.long (((hi.toInt64) - (lo.toInt64)) + (1 : Int64))), (.int 0), (.ref b785)])) rfl rfl (hb hby own_d3_160)
  have N854 := Fr.snoc X854 N850 gz785
  have Z854 : n0 ≤ h854.size := Nat.le_trans Z845 (Keep.of_wr W854).1
  have K854 : Keep h0 h854 [a] := K845.wr W854 (Or.inr sz785)
  have V854 : Arv Z h854 b785 k785 .long (3 : Int32) [(.long (((hi.toInt64) - (lo.toInt64)) + (1 : Int64))), (.long 0), (.long 0)] (.long 0) := V854q
  refine own_st st854 ?_
  refine own_st (g' := (mkF m 162 #[rv a, rv lw, rv hg, iv 0, iv 0, iv 0, iv 0, .val (.long (((hi.toInt64) - (lo.toInt64)) + (1 : Int64))), .second, iv ((64 : Int32) - NL)] [(.ref a)])) (fun tt_ kk_ => XS.aloadN X854.here hx rfl (hb hby own_d3_161) rfl rfl kk_) ?_
  have F856 := (((((F809.ext E813).other W826 (Or.inr (Ne.symm (own_sn14 hw)))).ext E830).other W845 (Or.inr (Ne.symm (own_sn17 hw)))).other W854 (Or.inl ne786))
  refine own_gG X854 hx hZ hown (own_w hw 34 rfl) e854 F856 rfl rfl (hb hby own_d3_162) (fun {T855} X855 e855 => ?_)
  refine own_st (g' := (mkF m 173 #[rv a, rv lw, rv hg, iv 0, iv 0, iv 0, iv 0, .val (.long (((hi.toInt64) - (lo.toInt64)) + (1 : Int64))), .second, iv ((64 : Int32) - NL)] [(.long (((1 : Int64) <<< (((64 : Int32) - NL) &&& 0x3f).toInt64) - (1 : Int64))), (.int 0), (.ref b798)])) (fun tt_ kk_ => XS.iload X855.here hx rfl (hb hby own_d3_165) rfl (XS.lconst X855.here hx rfl (hb hby own_d3_167) (XS.iload X855.here hx rfl (hb hby own_d3_168) rfl (XS.lshl X855.here hx rfl (hb hby own_d3_170) rfl (XS.lconst X855.here hx rfl (hb hby own_d3_171) (XS.lsub X855.here hx rfl (hb hby own_d3_172) rfl kk_)))))) ?_
  have F857 := (((F840.ext E830).other W845 (Ne.symm ne799)).other W854 (Ne.symm ne805))
  obtain ⟨T858, h858, X858, e858, W858, V858q, st858⟩ := own_svJ X855 hx hZ e855 F857 (j := (0 : Int32)) (by decide) 0 rfl (Nat.le_of_ble_eq_true rfl) (g := (mkF m 173 #[rv a, rv lw, rv hg, iv 0, iv 0, iv 0, iv 0, .val (.long (((hi.toInt64) - (lo.toInt64)) + (1 : Int64))), .second, iv ((64 : Int32) - NL)] [(.long (((1 : Int64) <<< (((64 : Int32) - NL) &&& 0x3f).toInt64) - (1 : Int64))), (.int 0), (.ref b798)])) rfl rfl (hb hby own_d3_173)
  have N858 := Fr.snoc X858 N854 gz798
  have Z858 : n0 ≤ h858.size := Nat.le_trans Z854 (Keep.of_wr W858).1
  have K858 : Keep h0 h858 [a] := K854.wr W858 (Or.inr sz798)
  have V858 : Arv Z h858 b798 k798 .long (3 : Int32) [(.long (((1 : Int64) <<< (((64 : Int32) - NL) &&& 0x3f).toInt64) - (1 : Int64))), (.long 0), (.long 0)] (.long 0) := V858q
  refine own_st st858 ?_
  refine own_st (g' := (mkF m 175 #[rv a, rv lw, rv hg, iv 0, iv 0, iv 0, iv 0, .val (.long (((hi.toInt64) - (lo.toInt64)) + (1 : Int64))), .second, iv ((64 : Int32) - NL)] [(.ref a)])) (fun tt_ kk_ => XS.aloadN X858.here hx rfl (hb hby own_d3_174) rfl rfl kk_) ?_
  have F860 := ((((F826.ext E830).other W845 (Or.inr (Ne.symm (own_sn18 hw)))).other W854 (Or.inl ne786)).other W858 (Or.inl ne799))
  refine own_gG X858 hx hZ hown (own_w hw 36 rfl) e858 F860 rfl rfl (hb hby own_d3_175) (fun {T859} X859 e859 => ?_)
  refine own_st (g' := (mkF m 182 #[rv a, rv lw, rv hg, iv 0, iv 0, iv 0, iv 0, .val (.long (((hi.toInt64) - (lo.toInt64)) + (1 : Int64))), .second, iv ((64 : Int32) - NL)] [(.int 0), (.int 0), (.ref b813)])) (fun tt_ kk_ => XS.iload X859.here hx rfl (hb hby own_d3_178) rfl (XS.iload X859.here hx rfl (hb hby own_d3_180) rfl kk_)) ?_
  have F861 := ((((F842.ext E830).other W845 (Ne.symm ne814)).other W854 (Ne.symm ne820)).other W858 (Ne.symm ne822))
  obtain ⟨T862, h862, X862, e862, W862, V862q, st862⟩ := own_svI X859 hx hZ e859 F861 (j := (0 : Int32)) (by decide) 0 rfl (Nat.le_of_ble_eq_true rfl) (g := (mkF m 182 #[rv a, rv lw, rv hg, iv 0, iv 0, iv 0, iv 0, .val (.long (((hi.toInt64) - (lo.toInt64)) + (1 : Int64))), .second, iv ((64 : Int32) - NL)] [(.int 0), (.int 0), (.ref b813)])) rfl rfl (hb hby own_d3_182)
  have N862 := Fr.snoc X862 N858 gz813
  have Z862 : n0 ≤ h862.size := Nat.le_trans Z858 (Keep.of_wr W862).1
  have K862 : Keep h0 h862 [a] := K858.wr W862 (Or.inr sz813)
  have V862 : Arv Z h862 b813 k813 .int (3 : Int32) [(.int 0), (.int 0), (.int 0)] (.int 0) := V862q
  refine own_st st862 ?_
  refine own_st (g' := (mkF m 184 #[rv a, rv lw, rv hg, iv 0, iv 0, iv 0, iv 0, .val (.long (((hi.toInt64) - (lo.toInt64)) + (1 : Int64))), .second, iv ((64 : Int32) - NL)] [(.ref a)])) (fun tt_ kk_ => XS.aloadN X862.here hx rfl (hb hby own_d3_183) rfl rfl kk_) ?_
  have F864 := (((F845.other W854 (Or.inl ne786)).other W858 (Or.inl ne799)).other W862 (Or.inl ne814))
  refine own_gG X862 hx hZ hown (own_w hw 38 rfl) e862 F864 rfl rfl (hb hby own_d3_184) (fun {T863} X863 e863 => ?_)
  refine own_st (g' := (mkF m 191 #[rv a, rv lw, rv hg, iv 0, iv 0, iv 0, iv 0, .val (.long (((hi.toInt64) - (lo.toInt64)) + (1 : Int64))), .second, iv ((64 : Int32) - NL)] [(.int 0), (.int 0), (.ref b830)])) (fun tt_ kk_ => XS.iload X863.here hx rfl (hb hby own_d3_187) rfl (XS.iload X863.here hx rfl (hb hby own_d3_189) rfl kk_)) ?_
  have F865 := ((((V830.other W845 (Ne.symm ne831)).other W854 (Ne.symm ne837)).other W858 (Ne.symm ne839)).other W862 (Ne.symm ne841))
  obtain ⟨T866, h866, X866, e866, W866, V866q, st866⟩ := own_svI X863 hx hZ e863 F865 (j := (0 : Int32)) (by decide) 0 rfl (Nat.le_of_ble_eq_true rfl) (g := (mkF m 191 #[rv a, rv lw, rv hg, iv 0, iv 0, iv 0, iv 0, .val (.long (((hi.toInt64) - (lo.toInt64)) + (1 : Int64))), .second, iv ((64 : Int32) - NL)] [(.int 0), (.int 0), (.ref b830)])) rfl rfl (hb hby own_d3_191)
  have N866 := Fr.snoc X866 N862 gz830
  have Z866 : n0 ≤ h866.size := Nat.le_trans Z862 (Keep.of_wr W866).1
  have K866 : Keep h0 h866 [a] := K862.wr W866 (Or.inr sz830)
  have V866 : Arv Z h866 b830 k830 .int (3 : Int32) [(.int 0), (.int 0), (.int 0)] (.int 0) := V866q
  refine own_st st866 ?_
  refine own_st (g' := (mkF m 83 #[rv a, rv lw, rv hg, iv 0, iv 0, iv ((0 : Int32) + ((64 : Int32) - NL)), iv 1, .val (.long (((hi.toInt64) - (lo.toInt64)) + (1 : Int64))), .second, iv ((64 : Int32) - NL)] [(.ref lw), (.int 1)])) (fun tt_ kk_ => XS.iload X866.here hx rfl (hb hby own_d3_192) rfl (XS.iload X866.here hx rfl (hb hby own_d3_194) rfl (XS.iadd X866.here hx rfl (hb hby own_d3_196) rfl (XS.istore X866.here hx rfl (hb hby own_d3_197) rfl (l' := #[rv a, rv lw, rv hg, iv 0, iv 0, iv ((0 : Int32) + ((64 : Int32) - NL)), iv 0, .val (.long (((hi.toInt64) - (lo.toInt64)) + (1 : Int64))), .second, iv ((64 : Int32) - NL)]) rfl (XS.iinc X866.here hx rfl (hb hby own_d3_199) rfl (l' := #[rv a, rv lw, rv hg, iv 0, iv 0, iv ((0 : Int32) + ((64 : Int32) - NL)), iv 1, .val (.long (((hi.toInt64) - (lo.toInt64)) + (1 : Int64))), .second, iv ((64 : Int32) - NL)]) rfl (XS.goto X866.here hx rfl (pc0 := 202) (pc' := 80) rfl (hb hby own_d3_202) (by decide) (by decide) (XS.iload X866.here hx rfl (hb hby own_d3_80) rfl (XS.aloadN X866.here hx rfl (hb hby own_d3_82) rfl rfl kk_)))))))) ?_
  have F867 := ((((F848.other W854 ne790).other W858 ne803).other W862 ne818).other W866 ne835)
  refine own_st (g' := (mkF m 90 #[rv a, rv lw, rv hg, iv 0, iv 0, iv ((0 : Int32) + ((64 : Int32) - NL)), iv 1, .val (.long (((hi.toInt64) - (lo.toInt64)) + (1 : Int64))), .second, iv ((64 : Int32) - NL)] [(.int 1), (.ref hg)])) (fun tt_ kk_ => own_lnV (g := (mkF m 83 #[rv a, rv lw, rv hg, iv 0, iv 0, iv ((0 : Int32) + ((64 : Int32) - NL)), iv 1, .val (.long (((hi.toInt64) - (lo.toInt64)) + (1 : Int64))), .second, iv ((64 : Int32) - NL)] [(.ref lw), (.int 1)])) X866 hx hZ e866 F867 rfl rfl (hb hby own_d3_83) tt_ (XS.icmpNo X866.here hx rfl (hb hby own_d3_84) rfl (tlt (by decide : (1 : Int32) < (3 : Int32))).2.1 (XS.aloadN X866.here hx rfl (hb hby own_d3_87) rfl rfl (XS.iload X866.here hx rfl (hb hby own_d3_88) rfl kk_)))) ?_
  have F868 := ((((F849.other W854 ne792).other W858 ne807).other W862 ne824).other W866 ne843)
  refine own_st (g' := (mkF m 95 #[rv a, rv lw, rv hg, iv 0, iv 0, iv ((0 : Int32) + ((64 : Int32) - NL)), iv 1, .val (.long (((hi.toInt64) - (lo.toInt64)) + (1 : Int64))), .second, iv ((64 : Int32) - NL)] [(.int 1), (.ref lw), (.long ((2147483647 : Int32).toInt64))])) (fun tt_ kk_ => own_lvI (g := (mkF m 90 #[rv a, rv lw, rv hg, iv 0, iv 0, iv ((0 : Int32) + ((64 : Int32) - NL)), iv 1, .val (.long (((hi.toInt64) - (lo.toInt64)) + (1 : Int64))), .second, iv ((64 : Int32) - NL)] [(.int 1), (.ref hg)])) X866 hx hZ e866 F868 (by decide) rfl rfl rfl (hb hby own_d3_90) tt_ (XS.i2l X866.here hx rfl (hb hby own_d3_91) rfl (XS.aloadN X866.here hx rfl (hb hby own_d3_92) rfl rfl (XS.iload X866.here hx rfl (hb hby own_d3_93) rfl kk_)))) ?_
  refine own_st (g' := (mkF m 106 #[rv a, rv lw, rv hg, iv 0, iv 0, iv ((0 : Int32) + ((64 : Int32) - NL)), iv 1, .val (.long ((((2147483647 : Int32).toInt64) - ((-2147483648 : Int32).toInt64)) + (1 : Int64))), .second, iv ((64 : Int32) - NL)] [(.int (lcmpW ((((2147483647 : Int32).toInt64) - ((-2147483648 : Int32).toInt64)) + (1 : Int64)) (1 : Int64)))])) (fun tt_ kk_ => own_lvI (g := (mkF m 95 #[rv a, rv lw, rv hg, iv 0, iv 0, iv ((0 : Int32) + ((64 : Int32) - NL)), iv 1, .val (.long (((hi.toInt64) - (lo.toInt64)) + (1 : Int64))), .second, iv ((64 : Int32) - NL)] [(.int 1), (.ref lw), (.long ((2147483647 : Int32).toInt64))])) X866 hx hZ e866 F867 (by decide) rfl rfl rfl (hb hby own_d3_95) tt_ (XS.i2l X866.here hx rfl (hb hby own_d3_96) rfl (XS.lsub X866.here hx rfl (hb hby own_d3_97) rfl (XS.lconst X866.here hx rfl (hb hby own_d3_98) (XS.ladd X866.here hx rfl (hb hby own_d3_99) rfl (XS.lstore X866.here hx rfl (hb hby own_d3_100) rfl (l' := #[rv a, rv lw, rv hg, iv 0, iv 0, iv ((0 : Int32) + ((64 : Int32) - NL)), iv 1, .val (.long ((((2147483647 : Int32).toInt64) - ((-2147483648 : Int32).toInt64)) + (1 : Int64))), .second, iv ((64 : Int32) - NL)]) rfl (XS.lload X866.here hx rfl (hb hby own_d3_102) rfl (XS.lconst X866.here hx rfl (hb hby own_d3_104) (XS.lcmp X866.here hx rfl (hb hby own_d3_105) rfl kk_))))))))) ?_
  refine own_st (g' := (mkF m 130 #[rv a, rv lw, rv hg, iv 0, iv 0, iv ((0 : Int32) + ((64 : Int32) - NL)), iv 1, .val (.long ((((2147483647 : Int32).toInt64) - ((-2147483648 : Int32).toInt64)) + (1 : Int64))), .second, iv ((64 : Int32) - NL)] [(.long (((((2147483647 : Int32).toInt64) - ((-2147483648 : Int32).toInt64)) + (1 : Int64)) - (1 : Int64))), (.int 64)])) (fun tt_ kk_ => XS.ifYes X866.here hx rfl (pc0 := 106) (pc' := 124) rfl (hb hby own_d3_106) rfl ((if0 _ _).trans (flt (by decide +kernel : ¬ ((lcmpW ((((2147483647 : Int32).toInt64) - ((-2147483648 : Int32).toInt64)) + (1 : Int64)) (1 : Int64)) < (0 : Int32)))).2.1) (by decide) (by decide) (XS.bipush X866.here hx rfl (hb hby own_d3_124) (XS.lload X866.here hx rfl (hb hby own_d3_126) rfl (XS.lconst X866.here hx rfl (hb hby own_d3_128) (XS.lsub X866.here hx rfl (hb hby own_d3_129) rfl kk_))))) ?_
  rw [show ((((2147483647 : Int32).toInt64) - ((-2147483648 : Int32).toInt64)) + (1 : Int64)) = (4294967296 : Int64) from by decide +kernel]
  rw [show ((4294967296 : Int64) - (1 : Int64)) = (4294967295 : Int64) from by decide +kernel]
  obtain ⟨_, _, ⟨T869, L869, k869, n869⟩, -, X869, ⟨Lc869, hQ869, l869, y869, z869⟩, st869⟩ := Jvm.LawKit.callS X866 hx (y := (⟨"java/lang/Long", own_z1, "(J)I"⟩ : MethodName)) hown (mvT hZ (own_w hw 40 rfl)) (mvT hZ (own_w hw 41 rfl)) (mvT hZ (own_w hw 42 rfl)) (mvT hZ (own_w hw 43 rfl)) (by decide) (backOf (W := 1) (own_rm5 l Z a0 hw [] (4294967295 : Int64) h866 n0) hZ (own_w hw 43 rfl) (own_w hw 42 rfl) (by decide) (by decide)) (g := (mkF m 130 #[rv a, rv lw, rv hg, iv 0, iv 0, iv ((0 : Int32) + ((64 : Int32) - NL)), iv 1, .val (.long 4294967296), .second, iv ((64 : Int32) - NL)] [(.long 4294967295), (.int 64)])) rfl (by rw [hml]; rfl) (argsL := [(.long 4294967295)]) (rest := [(.int 64)]) (lenOf own_pd10 rfl) rfl (by show 2 * 0 + _ ≤ _; exact Nat.le_of_eq rfl) (hb hby own_d3_130) (fun _ _ => ⟨rfl, e866, (by decide : 5 + 0 ≤ _), (by decide : 15 + 0 ≤ _)⟩)
  dsimp only [Pt.U, Pt.locs, Pt.cells, Pt.slots] at X869 l869 y869 z869 st869 hQ869
  rw [l869, y869, z869] at X869
  obtain ⟨rfl, N869q, e869⟩ := hQ869
  have N869 := Fr.app N866 N869q
  refine own_st st869 ?_
  rw [show (own_f5_0 (4294967295 : Int64)) = (32 : Int32) from by decide +kernel]
  refine own_st (g' := (mkF m 143 #[rv a, rv lw, rv hg, iv 0, iv 0, iv ((0 : Int32) + ((64 : Int32) - NL)), iv 1, .val (.long 4294967296), .second, iv 32] [(.int 64), (.int (((0 : Int32) + ((64 : Int32) - NL)) + (32 : Int32)))])) (fun tt_ kk_ => XS.isub X869.here hx rfl (hb hby own_d3_133) rfl (XS.istore X869.here hx rfl (hb hby own_d3_134) rfl (l' := #[rv a, rv lw, rv hg, iv 0, iv 0, iv ((0 : Int32) + ((64 : Int32) - NL)), iv 1, .val (.long 4294967296), .second, iv 32]) rfl (XS.iload X869.here hx rfl (hb hby own_d3_136) rfl (XS.iload X869.here hx rfl (hb hby own_d3_138) rfl (XS.iadd X869.here hx rfl (hb hby own_d3_140) rfl (XS.bipush X869.here hx rfl (hb hby own_d3_141) kk_)))))) ?_
  refine own_st (g' := (mkF m 153 #[rv a, rv lw, rv hg, iv 0, iv 0, iv ((0 : Int32) + ((64 : Int32) - NL)), iv 1, .val (.long 4294967296), .second, iv 32] [(.ref a)])) (fun tt_ kk_ => XS.icmpYes X869.here hx rfl (pc0 := 143) (pc' := 152) rfl (hb hby own_d3_143) rfl (flt hc3).2.2.2 (by decide) (by decide) (XS.aloadN X869.here hx rfl (hb hby own_d3_152) rfl rfl kk_)) ?_
  have F871 := ((((F852.other W854 (Or.inl ne786)).other W858 (Or.inl ne799)).other W862 (Or.inl ne814)).other W866 (Or.inl ne831))
  refine own_gG X869 hx hZ hown (own_w hw 32 rfl) e869 F871 rfl rfl (hb hby own_d3_153) (fun {T870} X870 e870 => ?_)
  refine own_st (g' := (mkF m 160 #[rv a, rv lw, rv hg, iv 0, iv 0, iv ((0 : Int32) + ((64 : Int32) - NL)), iv 1, .val (.long 4294967296), .second, iv 32] [(.long 4294967296), (.int 1), (.ref b785)])) (fun tt_ kk_ => XS.iload X870.here hx rfl (hb hby own_d3_156) rfl (XS.lload X870.here hx rfl (hb hby own_d3_158) rfl kk_)) ?_
  have F872 := (((V854.other W858 ne805).other W862 ne820).other W866 ne837)
  obtain ⟨T873, h873, X873, e873, W873, V873q, st873⟩ := own_svJ X870 hx hZ e870 F872 (j := (1 : Int32)) (by decide) 1 rfl (Nat.le_of_ble_eq_true rfl) (g := (mkF m 160 #[rv a, rv lw, rv hg, iv 0, iv 0, iv ((0 : Int32) + ((64 : Int32) - NL)), iv 1, .val (.long 4294967296), .second, iv 32] [(.long 4294967296), (.int 1), (.ref b785)])) rfl rfl (hb hby own_d3_160)
  have N873 := Fr.snoc X873 N869 gz785
  have Z873 : n0 ≤ h873.size := Nat.le_trans Z866 (Keep.of_wr W873).1
  have K873 : Keep h0 h873 [a] := K866.wr W873 (Or.inr sz785)
  have V873 : Arv Z h873 b785 k785 .long (3 : Int32) [(.long (((hi.toInt64) - (lo.toInt64)) + (1 : Int64))), (.long 4294967296), (.long 0)] (.long 0) := V873q
  refine own_st st873 ?_
  refine own_st (g' := (mkF m 162 #[rv a, rv lw, rv hg, iv 0, iv 0, iv ((0 : Int32) + ((64 : Int32) - NL)), iv 1, .val (.long 4294967296), .second, iv 32] [(.ref a)])) (fun tt_ kk_ => XS.aloadN X873.here hx rfl (hb hby own_d3_161) rfl rfl kk_) ?_
  have F875 := ((((F856.other W858 (Or.inl ne799)).other W862 (Or.inl ne814)).other W866 (Or.inl ne831)).other W873 (Or.inl ne786))
  refine own_gG X873 hx hZ hown (own_w hw 34 rfl) e873 F875 rfl rfl (hb hby own_d3_162) (fun {T874} X874 e874 => ?_)
  refine own_st (g' := (mkF m 173 #[rv a, rv lw, rv hg, iv 0, iv 0, iv ((0 : Int32) + ((64 : Int32) - NL)), iv 1, .val (.long 4294967296), .second, iv 32] [(.long (((1 : Int64) <<< ((32 : Int32) &&& 0x3f).toInt64) - (1 : Int64))), (.int 1), (.ref b798)])) (fun tt_ kk_ => XS.iload X874.here hx rfl (hb hby own_d3_165) rfl (XS.lconst X874.here hx rfl (hb hby own_d3_167) (XS.iload X874.here hx rfl (hb hby own_d3_168) rfl (XS.lshl X874.here hx rfl (hb hby own_d3_170) rfl (XS.lconst X874.here hx rfl (hb hby own_d3_171) (XS.lsub X874.here hx rfl (hb hby own_d3_172) rfl kk_)))))) ?_
  have F876 := (((V858.other W862 ne822).other W866 ne839).other W873 (Ne.symm ne805))
  obtain ⟨T877, h877, X877, e877, W877, V877q, st877⟩ := own_svJ X874 hx hZ e874 F876 (j := (1 : Int32)) (by decide) 1 rfl (Nat.le_of_ble_eq_true rfl) (g := (mkF m 173 #[rv a, rv lw, rv hg, iv 0, iv 0, iv ((0 : Int32) + ((64 : Int32) - NL)), iv 1, .val (.long 4294967296), .second, iv 32] [(.long (((1 : Int64) <<< ((32 : Int32) &&& 0x3f).toInt64) - (1 : Int64))), (.int 1), (.ref b798)])) rfl rfl (hb hby own_d3_173)
  have N877 := Fr.snoc X877 N873 gz798
  have Z877 : n0 ≤ h877.size := Nat.le_trans Z873 (Keep.of_wr W877).1
  have K877 : Keep h0 h877 [a] := K873.wr W877 (Or.inr sz798)
  have V877 : Arv Z h877 b798 k798 .long (3 : Int32) [(.long (((1 : Int64) <<< (((64 : Int32) - NL) &&& 0x3f).toInt64) - (1 : Int64))), (.long (((1 : Int64) <<< ((32 : Int32) &&& 0x3f).toInt64) - (1 : Int64))), (.long 0)] (.long 0) := V877q
  refine own_st st877 ?_
  refine own_st (g' := (mkF m 175 #[rv a, rv lw, rv hg, iv 0, iv 0, iv ((0 : Int32) + ((64 : Int32) - NL)), iv 1, .val (.long 4294967296), .second, iv 32] [(.ref a)])) (fun tt_ kk_ => XS.aloadN X877.here hx rfl (hb hby own_d3_174) rfl rfl kk_) ?_
  have F879 := ((((F860.other W862 (Or.inl ne814)).other W866 (Or.inl ne831)).other W873 (Or.inl ne786)).other W877 (Or.inl ne799))
  refine own_gG X877 hx hZ hown (own_w hw 36 rfl) e877 F879 rfl rfl (hb hby own_d3_175) (fun {T878} X878 e878 => ?_)
  refine own_st (g' := (mkF m 182 #[rv a, rv lw, rv hg, iv 0, iv 0, iv ((0 : Int32) + ((64 : Int32) - NL)), iv 1, .val (.long 4294967296), .second, iv 32] [(.int 0), (.int 1), (.ref b813)])) (fun tt_ kk_ => XS.iload X878.here hx rfl (hb hby own_d3_178) rfl (XS.iload X878.here hx rfl (hb hby own_d3_180) rfl kk_)) ?_
  have F880 := (((V862.other W866 ne841).other W873 (Ne.symm ne820)).other W877 (Ne.symm ne822))
  obtain ⟨T881, h881, X881, e881, W881, V881q, st881⟩ := own_svI X878 hx hZ e878 F880 (j := (1 : Int32)) (by decide) 1 rfl (Nat.le_of_ble_eq_true rfl) (g := (mkF m 182 #[rv a, rv lw, rv hg, iv 0, iv 0, iv ((0 : Int32) + ((64 : Int32) - NL)), iv 1, .val (.long 4294967296), .second, iv 32] [(.int 0), (.int 1), (.ref b813)])) rfl rfl (hb hby own_d3_182)
  have N881 := Fr.snoc X881 N877 gz813
  have Z881 : n0 ≤ h881.size := Nat.le_trans Z877 (Keep.of_wr W881).1
  have K881 : Keep h0 h881 [a] := K877.wr W881 (Or.inr sz813)
  have V881 : Arv Z h881 b813 k813 .int (3 : Int32) [(.int 0), (.int 0), (.int 0)] (.int 0) := V881q
  refine own_st st881 ?_
  refine own_st (g' := (mkF m 184 #[rv a, rv lw, rv hg, iv 0, iv 0, iv ((0 : Int32) + ((64 : Int32) - NL)), iv 1, .val (.long 4294967296), .second, iv 32] [(.ref a)])) (fun tt_ kk_ => XS.aloadN X881.here hx rfl (hb hby own_d3_183) rfl rfl kk_) ?_
  have F883 := ((((F864.other W866 (Or.inl ne831)).other W873 (Or.inl ne786)).other W877 (Or.inl ne799)).other W881 (Or.inl ne814))
  refine own_gG X881 hx hZ hown (own_w hw 38 rfl) e881 F883 rfl rfl (hb hby own_d3_184) (fun {T882} X882 e882 => ?_)
  refine own_st (g' := (mkF m 191 #[rv a, rv lw, rv hg, iv 0, iv 0, iv ((0 : Int32) + ((64 : Int32) - NL)), iv 1, .val (.long 4294967296), .second, iv 32] [(.int ((0 : Int32) + ((64 : Int32) - NL))), (.int 1), (.ref b830)])) (fun tt_ kk_ => XS.iload X882.here hx rfl (hb hby own_d3_187) rfl (XS.iload X882.here hx rfl (hb hby own_d3_189) rfl kk_)) ?_
  have F884 := (((V866.other W873 (Ne.symm ne837)).other W877 (Ne.symm ne839)).other W881 (Ne.symm ne841))
  obtain ⟨T885, h885, X885, e885, W885, V885q, st885⟩ := own_svI X882 hx hZ e882 F884 (j := (1 : Int32)) (by decide) 1 rfl (Nat.le_of_ble_eq_true rfl) (g := (mkF m 191 #[rv a, rv lw, rv hg, iv 0, iv 0, iv ((0 : Int32) + ((64 : Int32) - NL)), iv 1, .val (.long 4294967296), .second, iv 32] [(.int ((0 : Int32) + ((64 : Int32) - NL))), (.int 1), (.ref b830)])) rfl rfl (hb hby own_d3_191)
  have N885 := Fr.snoc X885 N881 gz830
  have Z885 : n0 ≤ h885.size := Nat.le_trans Z881 (Keep.of_wr W885).1
  have K885 : Keep h0 h885 [a] := K881.wr W885 (Or.inr sz830)
  have V885 : Arv Z h885 b830 k830 .int (3 : Int32) [(.int 0), (.int ((0 : Int32) + ((64 : Int32) - NL))), (.int 0)] (.int 0) := V885q
  refine own_st st885 ?_
  refine own_st (g' := (mkF m 83 #[rv a, rv lw, rv hg, iv 0, iv 0, iv (((0 : Int32) + ((64 : Int32) - NL)) + (32 : Int32)), iv 2, .val (.long 4294967296), .second, iv 32] [(.ref lw), (.int 2)])) (fun tt_ kk_ => XS.iload X885.here hx rfl (hb hby own_d3_192) rfl (XS.iload X885.here hx rfl (hb hby own_d3_194) rfl (XS.iadd X885.here hx rfl (hb hby own_d3_196) rfl (XS.istore X885.here hx rfl (hb hby own_d3_197) rfl (l' := #[rv a, rv lw, rv hg, iv 0, iv 0, iv (((0 : Int32) + ((64 : Int32) - NL)) + (32 : Int32)), iv 1, .val (.long 4294967296), .second, iv 32]) rfl (XS.iinc X885.here hx rfl (hb hby own_d3_199) rfl (l' := #[rv a, rv lw, rv hg, iv 0, iv 0, iv (((0 : Int32) + ((64 : Int32) - NL)) + (32 : Int32)), iv 2, .val (.long 4294967296), .second, iv 32]) rfl (XS.goto X885.here hx rfl (pc0 := 202) (pc' := 80) rfl (hb hby own_d3_202) (by decide) (by decide) (XS.iload X885.here hx rfl (hb hby own_d3_80) rfl (XS.aloadN X885.here hx rfl (hb hby own_d3_82) rfl rfl kk_)))))))) ?_
  have F886 := ((((F867.other W873 ne790).other W877 ne803).other W881 ne818).other W885 ne835)
  refine own_st (g' := (mkF m 90 #[rv a, rv lw, rv hg, iv 0, iv 0, iv (((0 : Int32) + ((64 : Int32) - NL)) + (32 : Int32)), iv 2, .val (.long 4294967296), .second, iv 32] [(.int 2), (.ref hg)])) (fun tt_ kk_ => own_lnV (g := (mkF m 83 #[rv a, rv lw, rv hg, iv 0, iv 0, iv (((0 : Int32) + ((64 : Int32) - NL)) + (32 : Int32)), iv 2, .val (.long 4294967296), .second, iv 32] [(.ref lw), (.int 2)])) X885 hx hZ e885 F886 rfl rfl (hb hby own_d3_83) tt_ (XS.icmpNo X885.here hx rfl (hb hby own_d3_84) rfl (tlt (by decide : (2 : Int32) < (3 : Int32))).2.1 (XS.aloadN X885.here hx rfl (hb hby own_d3_87) rfl rfl (XS.iload X885.here hx rfl (hb hby own_d3_88) rfl kk_)))) ?_
  have F887 := ((((F868.other W873 ne792).other W877 ne807).other W881 ne824).other W885 ne843)
  refine own_st (g' := (mkF m 95 #[rv a, rv lw, rv hg, iv 0, iv 0, iv (((0 : Int32) + ((64 : Int32) - NL)) + (32 : Int32)), iv 2, .val (.long 4294967296), .second, iv 32] [(.int 2), (.ref lw), (.long ((2147483647 : Int32).toInt64))])) (fun tt_ kk_ => own_lvI (g := (mkF m 90 #[rv a, rv lw, rv hg, iv 0, iv 0, iv (((0 : Int32) + ((64 : Int32) - NL)) + (32 : Int32)), iv 2, .val (.long 4294967296), .second, iv 32] [(.int 2), (.ref hg)])) X885 hx hZ e885 F887 (by decide) rfl rfl rfl (hb hby own_d3_90) tt_ (XS.i2l X885.here hx rfl (hb hby own_d3_91) rfl (XS.aloadN X885.here hx rfl (hb hby own_d3_92) rfl rfl (XS.iload X885.here hx rfl (hb hby own_d3_93) rfl kk_)))) ?_
  refine own_st (g' := (mkF m 106 #[rv a, rv lw, rv hg, iv 0, iv 0, iv (((0 : Int32) + ((64 : Int32) - NL)) + (32 : Int32)), iv 2, .val (.long ((((2147483647 : Int32).toInt64) - ((-2147483648 : Int32).toInt64)) + (1 : Int64))), .second, iv 32] [(.int (lcmpW ((((2147483647 : Int32).toInt64) - ((-2147483648 : Int32).toInt64)) + (1 : Int64)) (1 : Int64)))])) (fun tt_ kk_ => own_lvI (g := (mkF m 95 #[rv a, rv lw, rv hg, iv 0, iv 0, iv (((0 : Int32) + ((64 : Int32) - NL)) + (32 : Int32)), iv 2, .val (.long 4294967296), .second, iv 32] [(.int 2), (.ref lw), (.long ((2147483647 : Int32).toInt64))])) X885 hx hZ e885 F886 (by decide) rfl rfl rfl (hb hby own_d3_95) tt_ (XS.i2l X885.here hx rfl (hb hby own_d3_96) rfl (XS.lsub X885.here hx rfl (hb hby own_d3_97) rfl (XS.lconst X885.here hx rfl (hb hby own_d3_98) (XS.ladd X885.here hx rfl (hb hby own_d3_99) rfl (XS.lstore X885.here hx rfl (hb hby own_d3_100) rfl (l' := #[rv a, rv lw, rv hg, iv 0, iv 0, iv (((0 : Int32) + ((64 : Int32) - NL)) + (32 : Int32)), iv 2, .val (.long ((((2147483647 : Int32).toInt64) - ((-2147483648 : Int32).toInt64)) + (1 : Int64))), .second, iv 32]) rfl (XS.lload X885.here hx rfl (hb hby own_d3_102) rfl (XS.lconst X885.here hx rfl (hb hby own_d3_104) (XS.lcmp X885.here hx rfl (hb hby own_d3_105) rfl kk_))))))))) ?_
  refine own_st (g' := (mkF m 130 #[rv a, rv lw, rv hg, iv 0, iv 0, iv (((0 : Int32) + ((64 : Int32) - NL)) + (32 : Int32)), iv 2, .val (.long ((((2147483647 : Int32).toInt64) - ((-2147483648 : Int32).toInt64)) + (1 : Int64))), .second, iv 32] [(.long (((((2147483647 : Int32).toInt64) - ((-2147483648 : Int32).toInt64)) + (1 : Int64)) - (1 : Int64))), (.int 64)])) (fun tt_ kk_ => XS.ifYes X885.here hx rfl (pc0 := 106) (pc' := 124) rfl (hb hby own_d3_106) rfl ((if0 _ _).trans (flt (by decide +kernel : ¬ ((lcmpW ((((2147483647 : Int32).toInt64) - ((-2147483648 : Int32).toInt64)) + (1 : Int64)) (1 : Int64)) < (0 : Int32)))).2.1) (by decide) (by decide) (XS.bipush X885.here hx rfl (hb hby own_d3_124) (XS.lload X885.here hx rfl (hb hby own_d3_126) rfl (XS.lconst X885.here hx rfl (hb hby own_d3_128) (XS.lsub X885.here hx rfl (hb hby own_d3_129) rfl kk_))))) ?_
  rw [show ((((2147483647 : Int32).toInt64) - ((-2147483648 : Int32).toInt64)) + (1 : Int64)) = (4294967296 : Int64) from by decide +kernel]
  rw [show ((4294967296 : Int64) - (1 : Int64)) = (4294967295 : Int64) from by decide +kernel]
  obtain ⟨_, _, ⟨T888, L888, k888, n888⟩, -, X888, ⟨Lc888, hQ888, l888, y888, z888⟩, st888⟩ := Jvm.LawKit.callS X885 hx (y := (⟨"java/lang/Long", own_z1, "(J)I"⟩ : MethodName)) hown (mvT hZ (own_w hw 40 rfl)) (mvT hZ (own_w hw 41 rfl)) (mvT hZ (own_w hw 42 rfl)) (mvT hZ (own_w hw 43 rfl)) (by decide) (backOf (W := 1) (own_rm5 l Z a0 hw [] (4294967295 : Int64) h885 n0) hZ (own_w hw 43 rfl) (own_w hw 42 rfl) (by decide) (by decide)) (g := (mkF m 130 #[rv a, rv lw, rv hg, iv 0, iv 0, iv (((0 : Int32) + ((64 : Int32) - NL)) + (32 : Int32)), iv 2, .val (.long 4294967296), .second, iv 32] [(.long 4294967295), (.int 64)])) rfl (by rw [hml]; rfl) (argsL := [(.long 4294967295)]) (rest := [(.int 64)]) (lenOf own_pd10 rfl) rfl (by show 2 * 0 + _ ≤ _; exact Nat.le_of_eq rfl) (hb hby own_d3_130) (fun _ _ => ⟨rfl, e885, (by decide : 5 + 0 ≤ _), (by decide : 15 + 0 ≤ _)⟩)
  dsimp only [Pt.U, Pt.locs, Pt.cells, Pt.slots] at X888 l888 y888 z888 st888 hQ888
  rw [l888, y888, z888] at X888
  obtain ⟨rfl, N888q, e888⟩ := hQ888
  have N888 := Fr.app N885 N888q
  refine own_st st888 ?_
  rw [show (own_f5_0 (4294967295 : Int64)) = (32 : Int32) from by decide +kernel]
  refine own_st (g' := (mkF m 143 #[rv a, rv lw, rv hg, iv 0, iv 0, iv (((0 : Int32) + ((64 : Int32) - NL)) + (32 : Int32)), iv 2, .val (.long 4294967296), .second, iv 32] [(.int 64), (.int ((((0 : Int32) + ((64 : Int32) - NL)) + (32 : Int32)) + (32 : Int32)))])) (fun tt_ kk_ => XS.isub X888.here hx rfl (hb hby own_d3_133) rfl (XS.istore X888.here hx rfl (hb hby own_d3_134) rfl (l' := #[rv a, rv lw, rv hg, iv 0, iv 0, iv (((0 : Int32) + ((64 : Int32) - NL)) + (32 : Int32)), iv 2, .val (.long 4294967296), .second, iv 32]) rfl (XS.iload X888.here hx rfl (hb hby own_d3_136) rfl (XS.iload X888.here hx rfl (hb hby own_d3_138) rfl (XS.iadd X888.here hx rfl (hb hby own_d3_140) rfl (XS.bipush X888.here hx rfl (hb hby own_d3_141) kk_)))))) ?_
  refine own_st (g' := (mkF m 153 #[rv a, rv lw, rv hg, iv 0, iv 1, iv 0, iv 2, .val (.long 4294967296), .second, iv 32] [(.ref a)])) (fun tt_ kk_ => XS.icmpNo X888.here hx rfl (hb hby own_d3_143) rfl (tlt hc4).2.2.2 (XS.iinc X888.here hx rfl (hb hby own_d3_146) rfl (l' := #[rv a, rv lw, rv hg, iv 0, iv 1, iv (((0 : Int32) + ((64 : Int32) - NL)) + (32 : Int32)), iv 2, .val (.long 4294967296), .second, iv 32]) rfl (XS.iconst X888.here hx rfl (hb hby own_d3_149) (XS.istore X888.here hx rfl (hb hby own_d3_150) rfl (l' := #[rv a, rv lw, rv hg, iv 0, iv 1, iv 0, iv 2, .val (.long 4294967296), .second, iv 32]) rfl (XS.aloadN X888.here hx rfl (hb hby own_d3_152) rfl rfl kk_))))) ?_
  have F890 := ((((F871.other W873 (Or.inl ne786)).other W877 (Or.inl ne799)).other W881 (Or.inl ne814)).other W885 (Or.inl ne831))
  refine own_gG X888 hx hZ hown (own_w hw 32 rfl) e888 F890 rfl rfl (hb hby own_d3_153) (fun {T889} X889 e889 => ?_)
  refine own_st (g' := (mkF m 160 #[rv a, rv lw, rv hg, iv 0, iv 1, iv 0, iv 2, .val (.long 4294967296), .second, iv 32] [(.long 4294967296), (.int 2), (.ref b785)])) (fun tt_ kk_ => XS.iload X889.here hx rfl (hb hby own_d3_156) rfl (XS.lload X889.here hx rfl (hb hby own_d3_158) rfl kk_)) ?_
  have F891 := (((V873.other W877 ne805).other W881 ne820).other W885 ne837)
  obtain ⟨T892, h892, X892, e892, W892, V892q, st892⟩ := own_svJ X889 hx hZ e889 F891 (j := (2 : Int32)) (by decide) 2 rfl (Nat.le_of_ble_eq_true rfl) (g := (mkF m 160 #[rv a, rv lw, rv hg, iv 0, iv 1, iv 0, iv 2, .val (.long 4294967296), .second, iv 32] [(.long 4294967296), (.int 2), (.ref b785)])) rfl rfl (hb hby own_d3_160)
  have N892 := Fr.snoc X892 N888 gz785
  have Z892 : n0 ≤ h892.size := Nat.le_trans Z885 (Keep.of_wr W892).1
  have K892 : Keep h0 h892 [a] := K885.wr W892 (Or.inr sz785)
  have V892 : Arv Z h892 b785 k785 .long (3 : Int32) [(.long (((hi.toInt64) - (lo.toInt64)) + (1 : Int64))), (.long 4294967296), (.long 4294967296)] (.long 0) := V892q
  refine own_st st892 ?_
  refine own_st (g' := (mkF m 162 #[rv a, rv lw, rv hg, iv 0, iv 1, iv 0, iv 2, .val (.long 4294967296), .second, iv 32] [(.ref a)])) (fun tt_ kk_ => XS.aloadN X892.here hx rfl (hb hby own_d3_161) rfl rfl kk_) ?_
  have F894 := ((((F875.other W877 (Or.inl ne799)).other W881 (Or.inl ne814)).other W885 (Or.inl ne831)).other W892 (Or.inl ne786))
  refine own_gG X892 hx hZ hown (own_w hw 34 rfl) e892 F894 rfl rfl (hb hby own_d3_162) (fun {T893} X893 e893 => ?_)
  refine own_st (g' := (mkF m 173 #[rv a, rv lw, rv hg, iv 0, iv 1, iv 0, iv 2, .val (.long 4294967296), .second, iv 32] [(.long (((1 : Int64) <<< ((32 : Int32) &&& 0x3f).toInt64) - (1 : Int64))), (.int 2), (.ref b798)])) (fun tt_ kk_ => XS.iload X893.here hx rfl (hb hby own_d3_165) rfl (XS.lconst X893.here hx rfl (hb hby own_d3_167) (XS.iload X893.here hx rfl (hb hby own_d3_168) rfl (XS.lshl X893.here hx rfl (hb hby own_d3_170) rfl (XS.lconst X893.here hx rfl (hb hby own_d3_171) (XS.lsub X893.here hx rfl (hb hby own_d3_172) rfl kk_)))))) ?_
  have F895 := (((V877.other W881 ne822).other W885 ne839).other W892 (Ne.symm ne805))
  obtain ⟨T896, h896, X896, e896, W896, V896q, st896⟩ := own_svJ X893 hx hZ e893 F895 (j := (2 : Int32)) (by decide) 2 rfl (Nat.le_of_ble_eq_true rfl) (g := (mkF m 173 #[rv a, rv lw, rv hg, iv 0, iv 1, iv 0, iv 2, .val (.long 4294967296), .second, iv 32] [(.long (((1 : Int64) <<< ((32 : Int32) &&& 0x3f).toInt64) - (1 : Int64))), (.int 2), (.ref b798)])) rfl rfl (hb hby own_d3_173)
  have N896 := Fr.snoc X896 N892 gz798
  have Z896 : n0 ≤ h896.size := Nat.le_trans Z892 (Keep.of_wr W896).1
  have K896 : Keep h0 h896 [a] := K892.wr W896 (Or.inr sz798)
  have V896 : Arv Z h896 b798 k798 .long (3 : Int32) [(.long (((1 : Int64) <<< (((64 : Int32) - NL) &&& 0x3f).toInt64) - (1 : Int64))), (.long (((1 : Int64) <<< ((32 : Int32) &&& 0x3f).toInt64) - (1 : Int64))), (.long (((1 : Int64) <<< ((32 : Int32) &&& 0x3f).toInt64) - (1 : Int64)))] (.long 0) := V896q
  refine own_st st896 ?_
  refine own_st (g' := (mkF m 175 #[rv a, rv lw, rv hg, iv 0, iv 1, iv 0, iv 2, .val (.long 4294967296), .second, iv 32] [(.ref a)])) (fun tt_ kk_ => XS.aloadN X896.here hx rfl (hb hby own_d3_174) rfl rfl kk_) ?_
  have F898 := ((((F879.other W881 (Or.inl ne814)).other W885 (Or.inl ne831)).other W892 (Or.inl ne786)).other W896 (Or.inl ne799))
  refine own_gG X896 hx hZ hown (own_w hw 36 rfl) e896 F898 rfl rfl (hb hby own_d3_175) (fun {T897} X897 e897 => ?_)
  refine own_st (g' := (mkF m 182 #[rv a, rv lw, rv hg, iv 0, iv 1, iv 0, iv 2, .val (.long 4294967296), .second, iv 32] [(.int 1), (.int 2), (.ref b813)])) (fun tt_ kk_ => XS.iload X897.here hx rfl (hb hby own_d3_178) rfl (XS.iload X897.here hx rfl (hb hby own_d3_180) rfl kk_)) ?_
  have F899 := (((V881.other W885 ne841).other W892 (Ne.symm ne820)).other W896 (Ne.symm ne822))
  obtain ⟨T900, h900, X900, e900, W900, V900q, st900⟩ := own_svI X897 hx hZ e897 F899 (j := (2 : Int32)) (by decide) 2 rfl (Nat.le_of_ble_eq_true rfl) (g := (mkF m 182 #[rv a, rv lw, rv hg, iv 0, iv 1, iv 0, iv 2, .val (.long 4294967296), .second, iv 32] [(.int 1), (.int 2), (.ref b813)])) rfl rfl (hb hby own_d3_182)
  have N900 := Fr.snoc X900 N896 gz813
  have Z900 : n0 ≤ h900.size := Nat.le_trans Z896 (Keep.of_wr W900).1
  have K900 : Keep h0 h900 [a] := K896.wr W900 (Or.inr sz813)
  have V900 : Arv Z h900 b813 k813 .int (3 : Int32) [(.int 0), (.int 0), (.int 1)] (.int 0) := V900q
  refine own_st st900 ?_
  refine own_st (g' := (mkF m 184 #[rv a, rv lw, rv hg, iv 0, iv 1, iv 0, iv 2, .val (.long 4294967296), .second, iv 32] [(.ref a)])) (fun tt_ kk_ => XS.aloadN X900.here hx rfl (hb hby own_d3_183) rfl rfl kk_) ?_
  have F902 := ((((F883.other W885 (Or.inl ne831)).other W892 (Or.inl ne786)).other W896 (Or.inl ne799)).other W900 (Or.inl ne814))
  refine own_gG X900 hx hZ hown (own_w hw 38 rfl) e900 F902 rfl rfl (hb hby own_d3_184) (fun {T901} X901 e901 => ?_)
  refine own_st (g' := (mkF m 191 #[rv a, rv lw, rv hg, iv 0, iv 1, iv 0, iv 2, .val (.long 4294967296), .second, iv 32] [(.int 0), (.int 2), (.ref b830)])) (fun tt_ kk_ => XS.iload X901.here hx rfl (hb hby own_d3_187) rfl (XS.iload X901.here hx rfl (hb hby own_d3_189) rfl kk_)) ?_
  have F903 := (((V885.other W892 (Ne.symm ne837)).other W896 (Ne.symm ne839)).other W900 (Ne.symm ne841))
  obtain ⟨T904, h904, X904, e904, W904, V904q, st904⟩ := own_svI X901 hx hZ e901 F903 (j := (2 : Int32)) (by decide) 2 rfl (Nat.le_of_ble_eq_true rfl) (g := (mkF m 191 #[rv a, rv lw, rv hg, iv 0, iv 1, iv 0, iv 2, .val (.long 4294967296), .second, iv 32] [(.int 0), (.int 2), (.ref b830)])) rfl rfl (hb hby own_d3_191)
  have N904 := Fr.snoc X904 N900 gz830
  have Z904 : n0 ≤ h904.size := Nat.le_trans Z900 (Keep.of_wr W904).1
  have K904 : Keep h0 h904 [a] := K900.wr W904 (Or.inr sz830)
  have V904 : Arv Z h904 b830 k830 .int (3 : Int32) [(.int 0), (.int ((0 : Int32) + ((64 : Int32) - NL))), (.int 0)] (.int 0) := V904q
  refine own_st st904 ?_
  refine own_st (g' := (mkF m 83 #[rv a, rv lw, rv hg, iv 0, iv 1, iv 32, iv 3, .val (.long 4294967296), .second, iv 32] [(.ref lw), (.int 3)])) (fun tt_ kk_ => XS.iload X904.here hx rfl (hb hby own_d3_192) rfl (XS.iload X904.here hx rfl (hb hby own_d3_194) rfl (XS.iadd X904.here hx rfl (hb hby own_d3_196) rfl (XS.istore X904.here hx rfl (hb hby own_d3_197) rfl (l' := #[rv a, rv lw, rv hg, iv 0, iv 1, iv 32, iv 2, .val (.long 4294967296), .second, iv 32]) rfl (XS.iinc X904.here hx rfl (hb hby own_d3_199) rfl (l' := #[rv a, rv lw, rv hg, iv 0, iv 1, iv 32, iv 3, .val (.long 4294967296), .second, iv 32]) rfl (XS.goto X904.here hx rfl (pc0 := 202) (pc' := 80) rfl (hb hby own_d3_202) (by decide) (by decide) (XS.iload X904.here hx rfl (hb hby own_d3_80) rfl (XS.aloadN X904.here hx rfl (hb hby own_d3_82) rfl rfl kk_)))))))) ?_
  have F905 := ((((F886.other W892 ne790).other W896 ne803).other W900 ne818).other W904 ne835)
  refine own_st (g' := (mkF m 210 #[rv a, rv lw, rv hg, iv 0, iv 1, iv 32, iv 3, .val (.long 4294967296), .second, iv 32] [(.int 2), (.ref a)])) (fun tt_ kk_ => own_lnV (g := (mkF m 83 #[rv a, rv lw, rv hg, iv 0, iv 1, iv 32, iv 3, .val (.long 4294967296), .second, iv 32] [(.ref lw), (.int 3)])) X904 hx hZ e904 F905 rfl rfl (hb hby own_d3_83) tt_ (XS.icmpYes X904.here hx rfl (pc0 := 84) (pc' := 205) rfl (hb hby own_d3_84) rfl (flt (by decide : ¬ ((3 : Int32) < (3 : Int32)))).2.1 (by decide) (by decide) (XS.aloadN X904.here hx rfl (hb hby own_d3_205) rfl rfl (XS.iload X904.here hx rfl (hb hby own_d3_206) rfl (XS.iconst X904.here hx rfl (hb hby own_d3_208) (XS.iadd X904.here hx rfl (hb hby own_d3_209) rfl kk_)))))) ?_
  have F907 := ((((((((((((((((((((((F_wordCount_a.ext E776).other W781 (Or.inr (own_sn19 hw))).ext E785).other W794 (Or.inr (own_sn20 hw))).ext E798).other W809 (Or.inr (own_sn21 hw))).ext E813).other W826 (Or.inr (own_sn22 hw))).ext E830).other W845 (Or.inr (own_sn23 hw))).other W854 (Or.inl ne786)).other W858 (Or.inl ne799)).other W862 (Or.inl ne814)).other W866 (Or.inl ne831)).other W873 (Or.inl ne786)).other W877 (Or.inl ne799)).other W881 (Or.inl ne814)).other W885 (Or.inl ne831)).other W892 (Or.inl ne786)).other W896 (Or.inl ne799)).other W900 (Or.inl ne814)).other W904 (Or.inl ne831))
  have F908 := (((((((((((((F847.wr W845).wr W854).wr W858).wr W862).wr W866).wr W873).wr W877).wr W881).wr W885).wr W892).wr W896).wr W900).wr W904)
  obtain ⟨T906, h906, X906, e906, W906, st906⟩ := putF X904 hx hZ hown (host := "") (Or.inl (own_w hw 49 rfl)) Via.refl e904 F907 F908 (Or.inr ⟨(own_w hw 50 rfl), rfl, hnm⟩) (own_w hw 12 rfl) (ty := .int) (by decide) rfl rfl (g := (mkF m 210 #[rv a, rv lw, rv hg, iv 0, iv 1, iv 32, iv 3, .val (.long 4294967296), .second, iv 32] [(.int 2), (.ref a)])) rfl rfl (hb hby own_d3_210)
  have N906 := Fr.snoc X906 N904 g_a
  have Z906 : n0 ≤ h906.size := Nat.le_trans Z904 (Keep.of_wr W906).1
  have K906 : Keep h0 h906 [a] := K904.wr W906 (Or.inl (List.mem_of_getElem? (i := 0) rfl))
  have F906 : Fld Z h906 a own_z0 "wordCount" "I" (.int 2) := F907.same W906
  refine own_st st906 ?_
  refine own_st (g' := (mkF m 218 #[rv a, rv lw, rv hg, iv 0, iv 1, iv 32, iv 3, .val (.long 4294967296), .second, iv 32] [(.int 0), (.int 1024), (.ref a)])) (fun tt_ kk_ => XS.aloadN X906.here hx rfl (hb hby own_d3_213) rfl rfl (XS.sipush X906.here hx rfl (hb hby own_d3_214) (XS.iloadN X906.here hx rfl (hb hby own_d3_217) rfl kk_))) ?_
  obtain ⟨_, _, ⟨T909, L909, k909, n909⟩, -, X909, ⟨Lc909, hQ909, l909, y909, z909⟩, st909⟩ := Jvm.LawKit.callS X906 hx (y := (⟨own_z2, "max", "(II)I"⟩ : MethodName)) hown (mvT hZ (own_w hw 51 rfl)) (mvT hZ (own_w hw 5 rfl)) (mvT hZ (own_w hw 2 rfl)) (mvT hZ (own_w hw 6 rfl)) (by decide) (backOf (W := 1) (own_rm2 l Z a0 hw [] (1024 : Int32) (0 : Int32) h906 n0) hZ (own_w hw 6 rfl) (own_w hw 2 rfl) (by decide) (by decide)) (g := (mkF m 218 #[rv a, rv lw, rv hg, iv 0, iv 1, iv 32, iv 3, .val (.long 4294967296), .second, iv 32] [(.int 0), (.int 1024), (.ref a)])) rfl (by rw [hml]; rfl) (argsL := [(.int 1024), (.int 0)]) (rest := [(.ref a)]) (lenOf own_pd11 rfl) rfl (by show 2 * 0 + _ ≤ _; exact Nat.le_of_eq rfl) (hb hby own_d3_218) (fun _ _ => ⟨rfl, e906, (by decide : 5 + 0 ≤ _), (by decide : 15 + 0 ≤ _)⟩)
  dsimp only [Pt.U, Pt.locs, Pt.cells, Pt.slots] at X909 l909 y909 z909 st909 hQ909
  rw [l909, y909, z909] at X909
  obtain ⟨rfl, N909q, e909⟩ := hQ909
  have N909 := Fr.app N906 N909q
  refine own_st st909 ?_
  rw [show (own_f2_0 (1024 : Int32) (0 : Int32)) = (1024 : Int32) from by decide +kernel]
  refine own_st (g' := (mkF m 223 #[rv a, rv lw, rv hg, iv 0, iv 1, iv 32, iv 3, .val (.long 4294967296), .second, iv 32] [(.ref a), (.long ((1024 : Int32).toInt64)), (.ref a)])) (fun tt_ kk_ => XS.i2l X909.here hx rfl (hb hby own_d3_221) rfl (XS.aloadN X909.here hx rfl (hb hby own_d3_222) rfl rfl kk_)) ?_
  refine own_gG X909 hx hZ hown (own_w hw 49 rfl) e909 F906 rfl rfl (hb hby own_d3_223) (fun {T910} X910 e910 => ?_)
  refine own_st (g' := (mkF m 231 #[rv a, rv lw, rv hg, iv 0, iv 1, iv 32, iv 3, .val (.long 4294967296), .second, iv 32] [(.long 2147483639), (.long (((1024 : Int32).toInt64) * ((2 : Int32).toInt64))), (.ref a)])) (fun tt_ kk_ => XS.i2l X910.here hx rfl (hb hby own_d3_226) rfl (XS.lmul X910.here hx rfl (hb hby own_d3_227) rfl (X910.ldc2Long hx hown (mvT hZ (own_w hw 52 rfl)) (g := (mkF m 228 #[rv a, rv lw, rv hg, iv 0, iv 1, iv 32, iv 3, .val (.long 4294967296), .second, iv 32] [(.long (((1024 : Int32).toInt64) * ((2 : Int32).toInt64))), (.ref a)])) rfl (hb hby own_d3_228) _ kk_))) ?_
  obtain ⟨_, _, ⟨T911, L911, k911, n911⟩, -, X911, ⟨Lc911, hQ911, l911, y911, z911⟩, st911⟩ := Jvm.LawKit.callS X910 hx (y := (⟨own_z2, "min", "(JJ)J"⟩ : MethodName)) hown (mvT hZ (own_w hw 53 rfl)) (mvT hZ (own_w hw 54 rfl)) (mvT hZ (own_w hw 2 rfl)) (mvT hZ (own_w hw 55 rfl)) (by decide) (backOf (W := 1) (own_rm7 l Z a0 hw [] (((1024 : Int32).toInt64) * ((2 : Int32).toInt64)) (2147483639 : Int64) h906 n0) hZ (own_w hw 55 rfl) (own_w hw 2 rfl) (by decide) (by decide)) (g := (mkF m 231 #[rv a, rv lw, rv hg, iv 0, iv 1, iv 32, iv 3, .val (.long 4294967296), .second, iv 32] [(.long 2147483639), (.long (((1024 : Int32).toInt64) * ((2 : Int32).toInt64))), (.ref a)])) rfl (by rw [hml]; rfl) (argsL := [(.long (((1024 : Int32).toInt64) * ((2 : Int32).toInt64))), (.long 2147483639)]) (rest := [(.ref a)]) (lenOf own_pd3 rfl) rfl (by show 2 * 0 + _ ≤ _; exact Nat.le_of_eq rfl) (hb hby own_d3_231) (fun _ _ => ⟨rfl, e910, (by decide : 5 + 0 ≤ _), (by decide : 15 + 0 ≤ _)⟩)
  dsimp only [Pt.U, Pt.locs, Pt.cells, Pt.slots] at X911 l911 y911 z911 st911 hQ911
  rw [l911, y911, z911] at X911
  obtain ⟨rfl, N911q, e911⟩ := hQ911
  have N911 := Fr.app N909 N911q
  refine own_st st911 ?_
  rw [show (own_f7_0 (((1024 : Int32).toInt64) * ((2 : Int32).toInt64)) (2147483639 : Int64)) = (2048 : Int64) from by decide +kernel]
  refine own_st (g' := (mkF m 235 #[rv a, rv lw, rv hg, iv 0, iv 1, iv 32, iv 3, .val (.long 4294967296), .second, iv 32] [(.int ((2048 : Int64).toInt32)), (.ref a)])) (fun tt_ kk_ => XS.l2i X911.here hx rfl (hb hby own_d3_234) rfl kk_) ?_
  rw [show ((2048 : Int64).toInt32) = (2048 : Int32) from by decide]
  obtain ⟨T912, h912, k912, X912, e912, E912, A912, st912⟩ := newP X911 hx hZ (own_w hw 31 rfl) e911 (g := (mkF m 235 #[rv a, rv lw, rv hg, iv 0, iv 1, iv 32, iv 3, .val (.long 4294967296), .second, iv 32] [(.int 2048), (.ref a)])) rfl (hb hby own_d3_235) rfl (by decide) (cap := 2048) (by decide) (by decide) (by decide) (by decide)
  obtain ⟨b912, g912⟩ : ∃ z, z = h906.size := ⟨_, rfl⟩
  rw [← g912] at A912 st912
  have F914 := (F908.wr W906)
  have ne913 : a ≠ b912 := Nat.ne_of_lt (Nat.lt_of_lt_of_le F914.lt (Nat.le_of_eq g912.symm))
  have F916 := (((((((((((((((F834.ext E830).other W845 (Ne.symm ne777)).other W854 ne788).other W858 ne801).other W862 ne816).other W866 ne833).other W873 ne788).other W877 ne801).other W881 ne816).other W885 ne833).other W892 ne788).other W896 ne801).other W900 ne816).other W904 ne833).other W906 (Ne.symm ne777))
  have ne915 : b776 ≠ b912 := Nat.ne_of_lt (Nat.lt_of_lt_of_le F916.lt (Nat.le_of_eq g912.symm))
  have F918 := (((((((((((((((F836.ext E830).wr W845).wr W854).wr W858).wr W862).wr W866).wr W873).wr W877).wr W881).wr W885).wr W892).wr W896).wr W900).wr W904).wr W906)
  have ne917 : lw ≠ b912 := Nat.ne_of_lt (Nat.lt_of_lt_of_le F918.lt (Nat.le_of_eq g912.symm))
  have F920 := ((((V892.other W896 ne805).other W900 ne820).other W904 ne837).other W906 (Ne.symm ne786))
  have ne919 : b785 ≠ b912 := Nat.ne_of_lt (Nat.lt_of_lt_of_le F920.lt (Nat.le_of_eq g912.symm))
  have F922 := (((V896.other W900 ne822).other W904 ne839).other W906 (Ne.symm ne799))
  have ne921 : b798 ≠ b912 := Nat.ne_of_lt (Nat.lt_of_lt_of_le F922.lt (Nat.le_of_eq g912.symm))
  have F924 := ((V900.other W904 ne841).other W906 (Ne.symm ne814))
  have ne923 : b813 ≠ b912 := Nat.ne_of_lt (Nat.lt_of_lt_of_le F924.lt (Nat.le_of_eq g912.symm))
  have F926 := (V904.other W906 (Ne.symm ne831))
  have ne925 : b830 ≠ b912 := Nat.ne_of_lt (Nat.lt_of_lt_of_le F926.lt (Nat.le_of_eq g912.symm))
  have F928 := (((((F887.other W892 ne792).other W896 ne807).other W900 ne824).other W904 ne843).other W906 ne_hg_a)
  have ne927 : hg ≠ b912 := Nat.ne_of_lt (Nat.lt_of_lt_of_le F928.lt (Nat.le_of_eq g912.symm))
  have gz912 : n0 ≤ b912 := Nat.le_trans Z906 (Nat.le_of_eq g912.symm)
  have Z912 : n0 ≤ h912.size := Nat.le_trans Z906 E912.1
  have sz912 : h0.size ≤ b912 := Nat.le_trans K906.1 (Nat.le_of_eq g912.symm)
  have K912 : Keep h0 h912 [a] := K906.ext E912
  have V912 : Arv Z h912 b912 k912 .long (2048 : Int32) [(.long 0), (.long 0), (.long 0), (.long 0)] (.long 0) := (Arv.new A912 (by decide)).pad (pad_rep [] (.long 0) 4)
  refine own_st st912 ?_
  have F930 := ((((((((((((((((((((((((F_packed_a.ext E776).other W781 (Or.inr (own_sn24 hw))).ext E785).other W794 (Or.inr (own_sn25 hw))).ext E798).other W809 (Or.inr (own_sn26 hw))).ext E813).other W826 (Or.inr (own_sn27 hw))).ext E830).other W845 (Or.inr (own_sn28 hw))).other W854 (Or.inl ne786)).other W858 (Or.inl ne799)).other W862 (Or.inl ne814)).other W866 (Or.inl ne831)).other W873 (Or.inl ne786)).other W877 (Or.inl ne799)).other W881 (Or.inl ne814)).other W885 (Or.inl ne831)).other W892 (Or.inl ne786)).other W896 (Or.inl ne799)).other W900 (Or.inl ne814)).other W904 (Or.inl ne831)).other W906 (Or.inr (own_sn29 hw))).ext E912)
  have F931 := (F914.ext E912)
  obtain ⟨T929, h929, X929, e929, W929, st929⟩ := putF X912 hx hZ hown (host := "") (Or.inl (own_w hw 56 rfl)) Via.refl e912 F930 F931 (Or.inl (own_w hw 57 rfl)) (own_w hw 12 rfl) (ty := (.array .long)) (by decide) rfl rfl (g := (mkF m 237 #[rv a, rv lw, rv hg, iv 0, iv 1, iv 32, iv 3, .val (.long 4294967296), .second, iv 32] [(.ref b912), (.ref a)])) rfl rfl (hb hby own_d3_237)
  have N929 := Fr.snoc X929 N911 g_a
  have Z929 : n0 ≤ h929.size := Nat.le_trans Z912 (Keep.of_wr W929).1
  have K929 : Keep h0 h929 [a] := K912.wr W929 (Or.inl (List.mem_of_getElem? (i := 0) rfl))
  have F929 : Fld Z h929 a own_z0 "packed" "[J" (.ref b912) := F930.same W929
  refine own_st st929 ?_
  refine own_st (g' := (mkF m 242 #[rv a, rv lw, rv hg, iv 0, iv 1, iv 32, iv 3, .val (.long 4294967296), .second, iv 32] [(.int 0), (.ref a)])) (fun tt_ kk_ => XS.aloadN X929.here hx rfl (hb hby own_d3_240) rfl rfl (XS.iloadN X929.here hx rfl (hb hby own_d3_241) rfl kk_)) ?_
  obtain ⟨_, _, ⟨T932, L932, k932, n932⟩, -, X932, ⟨Lc932, hQ932, l932, y932, z932⟩, st932⟩ := Jvm.LawKit.callS X929 hx (y := (⟨own_z0, "slotsFor", "(I)I"⟩ : MethodName)) hown (mvT hZ (own_w hw 58 rfl)) (mvT hZ (own_w hw 59 rfl)) (mvT hZ (own_w hw 13 rfl)) (mvT hZ (own_w hw 60 rfl)) (by decide) (backOf (W := 1) (own_rmslf l Z a0 hw []  h929 n0 Z929 ) hZ (own_w hw 60 rfl) (own_w hw 13 rfl) (by decide) (by decide)) (g := (mkF m 242 #[rv a, rv lw, rv hg, iv 0, iv 1, iv 32, iv 3, .val (.long 4294967296), .second, iv 32] [(.int 0), (.ref a)])) rfl (by rw [hml]; rfl) (argsL := [(.int 0)]) (rest := [(.ref a)]) (lenOf own_pd0 rfl) rfl (by show 2 * 0 + _ ≤ _; exact Nat.le_of_eq rfl) (hb hby own_d3_242) (fun _ _ => ⟨rfl, e929, (by decide : 6 + 0 ≤ _), (by decide : 2063 + 0 ≤ _)⟩)
  dsimp only [Pt.U, Pt.locs, Pt.cells, Pt.slots] at X932 l932 y932 z932 st932 hQ932
  rw [l932, y932, z932] at X932
  obtain ⟨rfl, N932q, e932⟩ := hQ932
  have N932 := Fr.app N929 N932q
  refine own_st st932 ?_
  obtain ⟨T933, h933, k933, X933, e933, E933, A933, st933⟩ := newP X932 hx hZ (own_w hw 8 rfl) e932 (g := (mkF m 245 #[rv a, rv lw, rv hg, iv 0, iv 1, iv 32, iv 3, .val (.long 4294967296), .second, iv 32] [(.int 1024), (.ref a)])) rfl (hb hby own_d3_245) rfl (by decide) (cap := 1024) (by decide) (by decide) (by decide) (by decide)
  obtain ⟨b933, g933⟩ : ∃ z, z = h929.size := ⟨_, rfl⟩
  rw [← g933] at A933 st933
  have F935 := (F931.wr W929)
  have ne934 : a ≠ b933 := Nat.ne_of_lt (Nat.lt_of_lt_of_le F935.lt (Nat.le_of_eq g933.symm))
  have F937 := ((F916.ext E912).other W929 (Ne.symm ne777))
  have ne936 : b776 ≠ b933 := Nat.ne_of_lt (Nat.lt_of_lt_of_le F937.lt (Nat.le_of_eq g933.symm))
  have F939 := ((F918.ext E912).wr W929)
  have ne938 : lw ≠ b933 := Nat.ne_of_lt (Nat.lt_of_lt_of_le F939.lt (Nat.le_of_eq g933.symm))
  have F941 := ((F920.ext E912).other W929 (Ne.symm ne786))
  have ne940 : b785 ≠ b933 := Nat.ne_of_lt (Nat.lt_of_lt_of_le F941.lt (Nat.le_of_eq g933.symm))
  have F943 := ((F922.ext E912).other W929 (Ne.symm ne799))
  have ne942 : b798 ≠ b933 := Nat.ne_of_lt (Nat.lt_of_lt_of_le F943.lt (Nat.le_of_eq g933.symm))
  have F945 := ((F924.ext E912).other W929 (Ne.symm ne814))
  have ne944 : b813 ≠ b933 := Nat.ne_of_lt (Nat.lt_of_lt_of_le F945.lt (Nat.le_of_eq g933.symm))
  have F947 := ((F926.ext E912).other W929 (Ne.symm ne831))
  have ne946 : b830 ≠ b933 := Nat.ne_of_lt (Nat.lt_of_lt_of_le F947.lt (Nat.le_of_eq g933.symm))
  have F949 := (V912.other W929 (Ne.symm ne913))
  have ne948 : b912 ≠ b933 := Nat.ne_of_lt (Nat.lt_of_lt_of_le F949.lt (Nat.le_of_eq g933.symm))
  have F951 := ((F928.ext E912).other W929 ne_hg_a)
  have ne950 : hg ≠ b933 := Nat.ne_of_lt (Nat.lt_of_lt_of_le F951.lt (Nat.le_of_eq g933.symm))
  have gz933 : n0 ≤ b933 := Nat.le_trans Z929 (Nat.le_of_eq g933.symm)
  have Z933 : n0 ≤ h933.size := Nat.le_trans Z929 E933.1
  have sz933 : h0.size ≤ b933 := Nat.le_trans K929.1 (Nat.le_of_eq g933.symm)
  have K933 : Keep h0 h933 [a] := K929.ext E933
  have P933 : own_AI Z h933 b933 1024 (fun _ => 0) := own_AI.new A933 (by decide)
  refine own_st st933 ?_
  have F953 := ((((((((((((((((((((((((((F_slots_a.ext E776).other W781 (Or.inr (own_sn30 hw))).ext E785).other W794 (Or.inr (own_sn31 hw))).ext E798).other W809 (Or.inr (own_sn32 hw))).ext E813).other W826 (Or.inr (own_sn33 hw))).ext E830).other W845 (Or.inr (own_sn34 hw))).other W854 (Or.inl ne786)).other W858 (Or.inl ne799)).other W862 (Or.inl ne814)).other W866 (Or.inl ne831)).other W873 (Or.inl ne786)).other W877 (Or.inl ne799)).other W881 (Or.inl ne814)).other W885 (Or.inl ne831)).other W892 (Or.inl ne786)).other W896 (Or.inl ne799)).other W900 (Or.inl ne814)).other W904 (Or.inl ne831)).other W906 (Or.inr (own_sn35 hw))).ext E912).other W929 (Or.inr (own_sn36 hw))).ext E933)
  have F954 := (F935.ext E933)
  obtain ⟨T952, h952, X952, e952, W952, st952⟩ := putF X933 hx hZ hown (host := "") (Or.inl (own_w hw 61 rfl)) Via.refl e933 F953 F954 (Or.inl (own_w hw 62 rfl)) (own_w hw 12 rfl) (ty := (.array .int)) (by decide) rfl rfl (g := (mkF m 247 #[rv a, rv lw, rv hg, iv 0, iv 1, iv 32, iv 3, .val (.long 4294967296), .second, iv 32] [(.ref b933), (.ref a)])) rfl rfl (hb hby own_d3_247)
  have N952 := Fr.snoc X952 N932 g_a
  have Z952 : n0 ≤ h952.size := Nat.le_trans Z933 (Keep.of_wr W952).1
  have K952 : Keep h0 h952 [a] := K933.wr W952 (Or.inl (List.mem_of_getElem? (i := 0) rfl))
  have F952 : Fld Z h952 a own_z0 "slots" "[I" (.ref b933) := F953.same W952
  refine own_st st952 ?_
  refine own_st (g' := (mkF m 252 #[rv a, rv lw, rv hg, iv 0, iv 1, iv 32, iv 3, .val (.long 4294967296), .second, iv 32] [(.ref a), (.ref a)])) (fun tt_ kk_ => XS.aloadN X952.here hx rfl (hb hby own_d3_250) rfl rfl (XS.aloadN X952.here hx rfl (hb hby own_d3_251) rfl rfl kk_)) ?_
  have F956 := ((((F906.ext E912).other W929 (Or.inr (Ne.symm (own_sn29 hw)))).ext E933).other W952 (Or.inr (Ne.symm (own_sn35 hw))))
  refine own_gG X952 hx hZ hown (own_w hw 49 rfl) e952 F956 rfl rfl (hb hby own_d3_252) (fun {T955} X955 e955 => ?_)
  obtain ⟨T957, h957, k957, X957, e957, E957, A957, st957⟩ := newP X955 hx hZ (own_w hw 31 rfl) e955 (g := (mkF m 255 #[rv a, rv lw, rv hg, iv 0, iv 1, iv 32, iv 3, .val (.long 4294967296), .second, iv 32] [(.int 2), (.ref a)])) rfl (hb hby own_d3_255) rfl (by decide) (cap := 2) (by decide) (by decide) (by decide) (by decide)
  obtain ⟨b957, g957⟩ : ∃ z, z = h952.size := ⟨_, rfl⟩
  rw [← g957] at A957 st957
  have F959 := (F954.wr W952)
  have ne958 : a ≠ b957 := Nat.ne_of_lt (Nat.lt_of_lt_of_le F959.lt (Nat.le_of_eq g957.symm))
  have F961 := ((F937.ext E933).other W952 (Ne.symm ne777))
  have ne960 : b776 ≠ b957 := Nat.ne_of_lt (Nat.lt_of_lt_of_le F961.lt (Nat.le_of_eq g957.symm))
  have F963 := ((F939.ext E933).wr W952)
  have ne962 : lw ≠ b957 := Nat.ne_of_lt (Nat.lt_of_lt_of_le F963.lt (Nat.le_of_eq g957.symm))
  have F965 := (P933.other W952 (Ne.symm ne934))
  have ne964 : b933 ≠ b957 := Nat.ne_of_lt (Nat.lt_of_lt_of_le F965.lt (Nat.le_of_eq g957.symm))
  have F967 := ((F941.ext E933).other W952 (Ne.symm ne786))
  have ne966 : b785 ≠ b957 := Nat.ne_of_lt (Nat.lt_of_lt_of_le F967.lt (Nat.le_of_eq g957.symm))
  have F969 := ((F943.ext E933).other W952 (Ne.symm ne799))
  have ne968 : b798 ≠ b957 := Nat.ne_of_lt (Nat.lt_of_lt_of_le F969.lt (Nat.le_of_eq g957.symm))
  have F971 := ((F945.ext E933).other W952 (Ne.symm ne814))
  have ne970 : b813 ≠ b957 := Nat.ne_of_lt (Nat.lt_of_lt_of_le F971.lt (Nat.le_of_eq g957.symm))
  have F973 := ((F947.ext E933).other W952 (Ne.symm ne831))
  have ne972 : b830 ≠ b957 := Nat.ne_of_lt (Nat.lt_of_lt_of_le F973.lt (Nat.le_of_eq g957.symm))
  have F975 := ((F949.ext E933).other W952 (Ne.symm ne913))
  have ne974 : b912 ≠ b957 := Nat.ne_of_lt (Nat.lt_of_lt_of_le F975.lt (Nat.le_of_eq g957.symm))
  have F977 := ((F951.ext E933).other W952 ne_hg_a)
  have ne976 : hg ≠ b957 := Nat.ne_of_lt (Nat.lt_of_lt_of_le F977.lt (Nat.le_of_eq g957.symm))
  have gz957 : n0 ≤ b957 := Nat.le_trans Z952 (Nat.le_of_eq g957.symm)
  have Z957 : n0 ≤ h957.size := Nat.le_trans Z952 E957.1
  have sz957 : h0.size ≤ b957 := Nat.le_trans K952.1 (Nat.le_of_eq g957.symm)
  have K957 : Keep h0 h957 [a] := K952.ext E957
  have V957 : Arv Z h957 b957 k957 .long (2 : Int32) [(.long 0), (.long 0)] (.long 0) := (Arv.new A957 (by decide)).pad (pad_rep [] (.long 0) 2)
  refine own_st st957 ?_
  have F979 := ((((((((((((((((((((((((((((F_key_a.ext E776).other W781 (Or.inr (own_sn37 hw))).ext E785).other W794 (Or.inr (own_sn38 hw))).ext E798).other W809 (Or.inr (own_sn39 hw))).ext E813).other W826 (Or.inr (own_sn40 hw))).ext E830).other W845 (Or.inr (own_sn41 hw))).other W854 (Or.inl ne786)).other W858 (Or.inl ne799)).other W862 (Or.inl ne814)).other W866 (Or.inl ne831)).other W873 (Or.inl ne786)).other W877 (Or.inl ne799)).other W881 (Or.inl ne814)).other W885 (Or.inl ne831)).other W892 (Or.inl ne786)).other W896 (Or.inl ne799)).other W900 (Or.inl ne814)).other W904 (Or.inl ne831)).other W906 (Or.inr (own_sn42 hw))).ext E912).other W929 (Or.inr (own_sn43 hw))).ext E933).other W952 (Or.inr (own_sn44 hw))).ext E957)
  have F980 := (F959.ext E957)
  obtain ⟨T978, h978, X978, e978, W978, st978⟩ := putF X957 hx hZ hown (host := "") (Or.inl (own_w hw 63 rfl)) Via.refl e957 F979 F980 (Or.inr ⟨(own_w hw 64 rfl), rfl, hnm⟩) (own_w hw 12 rfl) (ty := (.array .long)) (by decide) rfl rfl (g := (mkF m 257 #[rv a, rv lw, rv hg, iv 0, iv 1, iv 32, iv 3, .val (.long 4294967296), .second, iv 32] [(.ref b957), (.ref a)])) rfl rfl (hb hby own_d3_257)
  have N978 := Fr.snoc X978 N952 g_a
  have Z978 : n0 ≤ h978.size := Nat.le_trans Z957 (Keep.of_wr W978).1
  have K978 : Keep h0 h978 [a] := K957.wr W978 (Or.inl (List.mem_of_getElem? (i := 0) rfl))
  have F978 : Fld Z h978 a own_z0 "key" "[J" (.ref b957) := F979.same W978
  refine own_st st978 ?_
  have F981 := (((((((((((((((((((((((((((F781.ext E785).other W794 (Or.inr (Ne.symm (own_sn9 hw)))).ext E798).other W809 (Or.inr (Ne.symm (own_sn10 hw)))).ext E813).other W826 (Or.inr (Ne.symm (own_sn12 hw)))).ext E830).other W845 (Or.inr (Ne.symm (own_sn15 hw)))).other W854 (Or.inl ne786)).other W858 (Or.inl ne799)).other W862 (Or.inl ne814)).other W866 (Or.inl ne831)).other W873 (Or.inl ne786)).other W877 (Or.inl ne799)).other W881 (Or.inl ne814)).other W885 (Or.inl ne831)).other W892 (Or.inl ne786)).other W896 (Or.inl ne799)).other W900 (Or.inl ne814)).other W904 (Or.inl ne831)).other W906 (Or.inr (Ne.symm (own_sn19 hw)))).ext E912).other W929 (Or.inr (Ne.symm (own_sn24 hw)))).ext E933).other W952 (Or.inr (Ne.symm (own_sn30 hw)))).ext E957).other W978 (Or.inr (Ne.symm (own_sn37 hw))))
  have F982 := (((((((((((F890.other W892 (Or.inl ne786)).other W896 (Or.inl ne799)).other W900 (Or.inl ne814)).other W904 (Or.inl ne831)).other W906 (Or.inr (Ne.symm (own_sn20 hw)))).ext E912).other W929 (Or.inr (Ne.symm (own_sn25 hw)))).ext E933).other W952 (Or.inr (Ne.symm (own_sn31 hw)))).ext E957).other W978 (Or.inr (Ne.symm (own_sn38 hw))))
  have F983 := ((((((((((F894.other W896 (Or.inl ne799)).other W900 (Or.inl ne814)).other W904 (Or.inl ne831)).other W906 (Or.inr (Ne.symm (own_sn21 hw)))).ext E912).other W929 (Or.inr (Ne.symm (own_sn26 hw)))).ext E933).other W952 (Or.inr (Ne.symm (own_sn32 hw)))).ext E957).other W978 (Or.inr (Ne.symm (own_sn39 hw))))
  have F984 := (((((((((F898.other W900 (Or.inl ne814)).other W904 (Or.inl ne831)).other W906 (Or.inr (Ne.symm (own_sn22 hw)))).ext E912).other W929 (Or.inr (Ne.symm (own_sn27 hw)))).ext E933).other W952 (Or.inr (Ne.symm (own_sn33 hw)))).ext E957).other W978 (Or.inr (Ne.symm (own_sn40 hw))))
  have F985 := ((((((((F902.other W904 (Or.inl ne831)).other W906 (Or.inr (Ne.symm (own_sn23 hw)))).ext E912).other W929 (Or.inr (Ne.symm (own_sn28 hw)))).ext E933).other W952 (Or.inr (Ne.symm (own_sn34 hw)))).ext E957).other W978 (Or.inr (Ne.symm (own_sn41 hw))))
  have F986 := ((((F929.ext E933).other W952 (Or.inr (Ne.symm (own_sn36 hw)))).ext E957).other W978 (Or.inr (Ne.symm (own_sn43 hw))))
  have F987 := ((F952.ext E957).other W978 (Or.inr (Ne.symm (own_sn44 hw))))
  have F988 := ((F956.ext E957).other W978 (Or.inr (Ne.symm (own_sn42 hw))))
  have F989 := (((((((((((((((((((((((((((((F_size_a.ext E776).other W781 (Or.inr (Ne.symm (own_sn1 hw)))).ext E785).other W794 (Or.inr (Ne.symm (own_sn2 hw)))).ext E798).other W809 (Or.inr (Ne.symm (own_sn3 hw)))).ext E813).other W826 (Or.inr (Ne.symm (own_sn4 hw)))).ext E830).other W845 (Or.inr (Ne.symm (own_sn5 hw)))).other W854 (Or.inl ne786)).other W858 (Or.inl ne799)).other W862 (Or.inl ne814)).other W866 (Or.inl ne831)).other W873 (Or.inl ne786)).other W877 (Or.inl ne799)).other W881 (Or.inl ne814)).other W885 (Or.inl ne831)).other W892 (Or.inl ne786)).other W896 (Or.inl ne799)).other W900 (Or.inl ne814)).other W904 (Or.inl ne831)).other W906 (Or.inr (Ne.symm (own_sn8 hw)))).ext E912).other W929 (Or.inr (Ne.symm (own_sn6 hw)))).ext E933).other W952 (Or.inr (Ne.symm (own_sn0 hw)))).ext E957).other W978 (Or.inr (Ne.symm (own_sn7 hw))))
  have F990 := ((F961.ext E957).other W978 (Ne.symm ne777))
  have F991 := ((F967.ext E957).other W978 (Ne.symm ne786))
  have F992 := ((F969.ext E957).other W978 (Ne.symm ne799))
  have F993 := ((F971.ext E957).other W978 (Ne.symm ne814))
  have F994 := ((F973.ext E957).other W978 (Ne.symm ne831))
  have F995 := ((F975.ext E957).other W978 (Ne.symm ne913))
  have F996 := (V957.other W978 (Ne.symm ne958))
  have F997 := ((F965.ext E957).other W978 (Ne.symm ne934))
  exact own_retV X978 hx hlk hret (hb hby own_d3_260) (by decide) (by decide) (by rw [e978]; exact ⟨rfl, N978, K978, b776, b785, b798, b813, b830, b912, b933, b957, klw, k785, k798, k813, k830, k912, k957, F981, F982, F983, F984, F985, F986, F987, F978, F988, F989, F990, F991, F992, F993, F994, F995, F996, F997, ne960, ne966, ne968, ne970, ne972, ne915, ne919, ne921, ne923, ne925, ne936, ne940, ne942, ne944, ne946, ne974, ne964, ne948, sz776, sz785, sz798, sz813, sz830, sz912, sz933, sz957⟩)
def own_Q0 (n0 : Nat) (v : Option Value) (h : Heap) (L : List Loc) : Prop := v = some (.int 1) ∧ Fr n0 L
theorem own_pd12 : parseMethodDescriptor "([I[II)V" = some ⟨[(.array .int), (.array .int), .int], none⟩ := by decide +kernel
theorem own_pd13 : parseMethodDescriptor "([I)I" = some ⟨[(.array .int)], some .int⟩ := by decide +kernel
theorem own_pd14 : parseMethodDescriptor "(I[I)V" = some ⟨[.int, (.array .int)], none⟩ := by decide +kernel
theorem own_pn4 : plainName "com/example/weigh/weigh/models/explicit/StateTableGetPinLaw" = true := by first | (simp [plainName, overriddenIn]; done) | decide +kernel
set_option maxRecDepth 65536 in
set_option maxHeartbeats 8000000 in
theorem own_t56 {p : Program} {l : Launch} {e : Env} {s : State} {m : MethodId} {args : Array Value} {below : List Frame} {meth : Method} {c : Code} {T : State} {locs : List Loc} {cells slots : Nat} {Z : State} {a0 : Array Value} {h0 : Heap} {n0 : Nat} (X0 : Stand p l e room_1 s m args below meth c T locs cells slots) (hx : p.tables.exec = Jvm.exec) (hlk : meth.locks = false) (hby : c.code = code) (hml : c.maxLocals = 23) (hret : meth.sig.returnType = some .boolean) (hown : s.vm.findClass "com/example/weigh/weigh/models/explicit/StateTableGetPinLaw" = some m.cls) (hZ : Z.Warmed39 s.vm) (hw : own_HW Z a0) (e0 : T.heap = h0) (N0 : Fr n0 locs) (Z0 : n0 ≤ h0.size) (hcc : cells ≤ 0) (hss : slots ≤ 0) (x0 : Int32) (x1 : Int32) (x2 : Int64) (x4 : Int64) (x6 : Int32) (x7 : Int32) (x8 : Int32) (x9 : Int32) (x10 : Int64) (x12 : Int32) (x13 : Int32) (hA : x8.toInt ≤ x12.toInt ∧ x12.toInt ≤ x9.toInt) (hB : x8.toInt ≤ x13.toInt ∧ x13.toInt ≤ x9.toInt) :
    own_Go p e below s T (mkF m 56 #[iv x0, iv x1, .val (.long x2), .second, .val (.long x4), .second, iv x6, iv x7, iv x8, iv x9, .val (.long x10), .second, iv x12, iv x13, .unset, .unset, .unset, .unset, .unset, .unset, .unset, .unset, .unset] []) (own_Q0 n0) 40 6336 := by
  refine own_st (g' := (mkF m 57 #[iv x0, iv x1, .val (.long x2), .second, .val (.long x4), .second, iv x6, iv x7, iv x8, iv x9, .val (.long x10), .second, iv x12, iv x13, .unset, .unset, .unset, .unset, .unset, .unset, .unset, .unset, .unset] [(.int 3)])) (fun tt_ kk_ => XS.iconst X0.here hx rfl (hb hby at_56) kk_) ?_
  obtain ⟨T1000, h1000, k1000, X1000, e1000, E1000, A1000, Q1000, st1000⟩ := newPE X0 hx hZ (own_w hw 8 rfl) e0 (g := (mkF m 57 #[iv x0, iv x1, .val (.long x2), .second, .val (.long x4), .second, iv x6, iv x7, iv x8, iv x9, .val (.long x10), .second, iv x12, iv x13, .unset, .unset, .unset, .unset, .unset, .unset, .unset, .unset, .unset] [(.int 3)])) rfl (hb hby at_57) rfl (by decide) (cap := 3) (by decide) (by decide) (show cells + 1 ≤ 40 by omega) (show slots + 3 ≤ 6336 by omega) (ad := "[I") (by decide)
  obtain ⟨b1000, g1000⟩ : ∃ z, z = h0.size := ⟨_, rfl⟩
  rw [← g1000] at A1000 Q1000 st1000
  have gz1000 : n0 ≤ b1000 := Nat.le_trans Z0 (Nat.le_of_eq g1000.symm)
  have Z1000 : n0 ≤ h1000.size := Nat.le_trans Z0 E1000.1
  have V1000 : Arv Z h1000 b1000 k1000 .int (3 : Int32) [(.int 0), (.int 0), (.int 0)] (.int 0) := (Arv.new A1000 (by decide)).pad (pad_rep [] (.int 0) 3)
  refine own_st st1000 ?_
  refine own_st (g' := (mkF m 63 #[iv x0, iv x1, .val (.long x2), .second, .val (.long x4), .second, iv x6, iv x7, iv x8, iv x9, .val (.long x10), .second, iv x12, iv x13, .unset, .unset, .unset, .unset, .unset, .unset, .unset, .unset, .unset] [(.int x8), (.int 0), (.ref b1000), (.ref b1000)])) (fun tt_ kk_ => XS.dup X1000.here hx rfl (hb hby at_59) rfl rfl (XS.iconst X1000.here hx rfl (hb hby at_60) (XS.iload X1000.here hx rfl (hb hby at_61) rfl kk_))) ?_
  obtain ⟨T1001, h1001, X1001, e1001, W1001, V1001q, st1001⟩ := own_svI X1000 hx hZ e1000 V1000 (j := (0 : Int32)) (by decide) 0 rfl (Nat.le_of_ble_eq_true rfl) (g := (mkF m 63 #[iv x0, iv x1, .val (.long x2), .second, .val (.long x4), .second, iv x6, iv x7, iv x8, iv x9, .val (.long x10), .second, iv x12, iv x13, .unset, .unset, .unset, .unset, .unset, .unset, .unset, .unset, .unset] [(.int x8), (.int 0), (.ref b1000), (.ref b1000)])) rfl rfl (hb hby at_63)
  have N1001 := Fr.snoc X1001 N0 gz1000
  have Z1001 : n0 ≤ h1001.size := Nat.le_trans Z1000 (Keep.of_wr W1001).1
  have V1001 : Arv Z h1001 b1000 k1000 .int (3 : Int32) [(.int x8), (.int 0), (.int 0)] (.int 0) := V1001q
  refine own_st st1001 ?_
  refine own_st (g' := (mkF m 68 #[iv x0, iv x1, .val (.long x2), .second, .val (.long x4), .second, iv x6, iv x7, iv x8, iv x9, .val (.long x10), .second, iv x12, iv x13, .unset, .unset, .unset, .unset, .unset, .unset, .unset, .unset, .unset] [(.int (-2147483648)), (.int 1), (.ref b1000), (.ref b1000)])) (fun tt_ kk_ => XS.dup X1001.here hx rfl (hb hby at_64) rfl rfl (XS.iconst X1001.here hx rfl (hb hby at_65) (X1001.ldcInt hx hown (mvT hZ (own_w hw 9 rfl)) (g := (mkF m 66 #[iv x0, iv x1, .val (.long x2), .second, .val (.long x4), .second, iv x6, iv x7, iv x8, iv x9, .val (.long x10), .second, iv x12, iv x13, .unset, .unset, .unset, .unset, .unset, .unset, .unset, .unset, .unset] [(.int 1), (.ref b1000), (.ref b1000)])) rfl (hb hby at_66) _ kk_))) ?_
  obtain ⟨T1002, h1002, X1002, e1002, W1002, V1002q, st1002⟩ := own_svI X1001 hx hZ e1001 V1001 (j := (1 : Int32)) (by decide) 1 rfl (Nat.le_of_ble_eq_true rfl) (g := (mkF m 68 #[iv x0, iv x1, .val (.long x2), .second, .val (.long x4), .second, iv x6, iv x7, iv x8, iv x9, .val (.long x10), .second, iv x12, iv x13, .unset, .unset, .unset, .unset, .unset, .unset, .unset, .unset, .unset] [(.int (-2147483648)), (.int 1), (.ref b1000), (.ref b1000)])) rfl rfl (hb hby at_68)
  have N1002 := Fr.snoc X1002 N1001 gz1000
  have Z1002 : n0 ≤ h1002.size := Nat.le_trans Z1001 (Keep.of_wr W1002).1
  have V1002 : Arv Z h1002 b1000 k1000 .int (3 : Int32) [(.int x8), (.int (-2147483648)), (.int 0)] (.int 0) := V1002q
  refine own_st st1002 ?_
  refine own_st (g' := (mkF m 73 #[iv x0, iv x1, .val (.long x2), .second, .val (.long x4), .second, iv x6, iv x7, iv x8, iv x9, .val (.long x10), .second, iv x12, iv x13, .unset, .unset, .unset, .unset, .unset, .unset, .unset, .unset, .unset] [(.int (-2147483648)), (.int 2), (.ref b1000), (.ref b1000)])) (fun tt_ kk_ => XS.dup X1002.here hx rfl (hb hby at_69) rfl rfl (XS.iconst X1002.here hx rfl (hb hby at_70) (X1002.ldcInt hx hown (mvT hZ (own_w hw 9 rfl)) (g := (mkF m 71 #[iv x0, iv x1, .val (.long x2), .second, .val (.long x4), .second, iv x6, iv x7, iv x8, iv x9, .val (.long x10), .second, iv x12, iv x13, .unset, .unset, .unset, .unset, .unset, .unset, .unset, .unset, .unset] [(.int 2), (.ref b1000), (.ref b1000)])) rfl (hb hby at_71) _ kk_))) ?_
  obtain ⟨T1003, h1003, X1003, e1003, W1003, V1003q, st1003⟩ := own_svI X1002 hx hZ e1002 V1002 (j := (2 : Int32)) (by decide) 2 rfl (Nat.le_of_ble_eq_true rfl) (g := (mkF m 73 #[iv x0, iv x1, .val (.long x2), .second, .val (.long x4), .second, iv x6, iv x7, iv x8, iv x9, .val (.long x10), .second, iv x12, iv x13, .unset, .unset, .unset, .unset, .unset, .unset, .unset, .unset, .unset] [(.int (-2147483648)), (.int 2), (.ref b1000), (.ref b1000)])) rfl rfl (hb hby at_73)
  have N1003 := Fr.snoc X1003 N1002 gz1000
  have Z1003 : n0 ≤ h1003.size := Nat.le_trans Z1002 (Keep.of_wr W1003).1
  have V1003 : Arv Z h1003 b1000 k1000 .int (3 : Int32) [(.int x8), (.int (-2147483648)), (.int (-2147483648))] (.int 0) := V1003q
  refine own_st st1003 ?_
  refine own_st (g' := (mkF m 77 #[iv x0, iv x1, .val (.long x2), .second, .val (.long x4), .second, iv x6, iv x7, iv x8, iv x9, .val (.long x10), .second, iv x12, iv x13, rv b1000, .unset, .unset, .unset, .unset, .unset, .unset, .unset, .unset] [(.int 3)])) (fun tt_ kk_ => XS.astore X1003.here hx rfl (hb hby at_74) rfl rfl (l' := #[iv x0, iv x1, .val (.long x2), .second, .val (.long x4), .second, iv x6, iv x7, iv x8, iv x9, .val (.long x10), .second, iv x12, iv x13, rv b1000, .unset, .unset, .unset, .unset, .unset, .unset, .unset, .unset]) rfl (XS.iconst X1003.here hx rfl (hb hby at_76) kk_)) ?_
  obtain ⟨T1004, h1004, k1004, X1004, e1004, E1004, A1004, st1004⟩ := newP X1003 hx hZ (own_w hw 8 rfl) e1003 (g := (mkF m 77 #[iv x0, iv x1, .val (.long x2), .second, .val (.long x4), .second, iv x6, iv x7, iv x8, iv x9, .val (.long x10), .second, iv x12, iv x13, rv b1000, .unset, .unset, .unset, .unset, .unset, .unset, .unset, .unset] [(.int 3)])) rfl (hb hby at_77) rfl (by decide) (cap := 3) (by decide) (by decide) (show cells + 1 + 1 ≤ 40 by omega) (show slots + 3 + 3 ≤ 6336 by omega)
  obtain ⟨b1004, g1004⟩ : ∃ z, z = h1003.size := ⟨_, rfl⟩
  rw [← g1004] at A1004 st1004
  have ne1005 : b1000 ≠ b1004 := Nat.ne_of_lt (Nat.lt_of_lt_of_le V1003.lt (Nat.le_of_eq g1004.symm))
  have gz1004 : n0 ≤ b1004 := Nat.le_trans Z1003 (Nat.le_of_eq g1004.symm)
  have Z1004 : n0 ≤ h1004.size := Nat.le_trans Z1003 E1004.1
  have V1004 : Arv Z h1004 b1004 k1004 .int (3 : Int32) [(.int 0), (.int 0), (.int 0)] (.int 0) := (Arv.new A1004 (by decide)).pad (pad_rep [] (.int 0) 3)
  refine own_st st1004 ?_
  refine own_st (g' := (mkF m 83 #[iv x0, iv x1, .val (.long x2), .second, .val (.long x4), .second, iv x6, iv x7, iv x8, iv x9, .val (.long x10), .second, iv x12, iv x13, rv b1000, .unset, .unset, .unset, .unset, .unset, .unset, .unset, .unset] [(.int x9), (.int 0), (.ref b1004), (.ref b1004)])) (fun tt_ kk_ => XS.dup X1004.here hx rfl (hb hby at_79) rfl rfl (XS.iconst X1004.here hx rfl (hb hby at_80) (XS.iload X1004.here hx rfl (hb hby at_81) rfl kk_))) ?_
  obtain ⟨T1006, h1006, X1006, e1006, W1006, V1006q, st1006⟩ := own_svI X1004 hx hZ e1004 V1004 (j := (0 : Int32)) (by decide) 0 rfl (Nat.le_of_ble_eq_true rfl) (g := (mkF m 83 #[iv x0, iv x1, .val (.long x2), .second, .val (.long x4), .second, iv x6, iv x7, iv x8, iv x9, .val (.long x10), .second, iv x12, iv x13, rv b1000, .unset, .unset, .unset, .unset, .unset, .unset, .unset, .unset] [(.int x9), (.int 0), (.ref b1004), (.ref b1004)])) rfl rfl (hb hby at_83)
  have N1006 := Fr.snoc X1006 N1003 gz1004
  have Z1006 : n0 ≤ h1006.size := Nat.le_trans Z1004 (Keep.of_wr W1006).1
  have V1006 : Arv Z h1006 b1004 k1004 .int (3 : Int32) [(.int x9), (.int 0), (.int 0)] (.int 0) := V1006q
  refine own_st st1006 ?_
  refine own_st (g' := (mkF m 88 #[iv x0, iv x1, .val (.long x2), .second, .val (.long x4), .second, iv x6, iv x7, iv x8, iv x9, .val (.long x10), .second, iv x12, iv x13, rv b1000, .unset, .unset, .unset, .unset, .unset, .unset, .unset, .unset] [(.int 2147483647), (.int 1), (.ref b1004), (.ref b1004)])) (fun tt_ kk_ => XS.dup X1006.here hx rfl (hb hby at_84) rfl rfl (XS.iconst X1006.here hx rfl (hb hby at_85) (X1006.ldcInt hx hown (mvT hZ (own_w hw 10 rfl)) (g := (mkF m 86 #[iv x0, iv x1, .val (.long x2), .second, .val (.long x4), .second, iv x6, iv x7, iv x8, iv x9, .val (.long x10), .second, iv x12, iv x13, rv b1000, .unset, .unset, .unset, .unset, .unset, .unset, .unset, .unset] [(.int 1), (.ref b1004), (.ref b1004)])) rfl (hb hby at_86) _ kk_))) ?_
  obtain ⟨T1007, h1007, X1007, e1007, W1007, V1007q, st1007⟩ := own_svI X1006 hx hZ e1006 V1006 (j := (1 : Int32)) (by decide) 1 rfl (Nat.le_of_ble_eq_true rfl) (g := (mkF m 88 #[iv x0, iv x1, .val (.long x2), .second, .val (.long x4), .second, iv x6, iv x7, iv x8, iv x9, .val (.long x10), .second, iv x12, iv x13, rv b1000, .unset, .unset, .unset, .unset, .unset, .unset, .unset, .unset] [(.int 2147483647), (.int 1), (.ref b1004), (.ref b1004)])) rfl rfl (hb hby at_88)
  have N1007 := Fr.snoc X1007 N1006 gz1004
  have Z1007 : n0 ≤ h1007.size := Nat.le_trans Z1006 (Keep.of_wr W1007).1
  have V1007 : Arv Z h1007 b1004 k1004 .int (3 : Int32) [(.int x9), (.int 2147483647), (.int 0)] (.int 0) := V1007q
  refine own_st st1007 ?_
  refine own_st (g' := (mkF m 93 #[iv x0, iv x1, .val (.long x2), .second, .val (.long x4), .second, iv x6, iv x7, iv x8, iv x9, .val (.long x10), .second, iv x12, iv x13, rv b1000, .unset, .unset, .unset, .unset, .unset, .unset, .unset, .unset] [(.int 2147483647), (.int 2), (.ref b1004), (.ref b1004)])) (fun tt_ kk_ => XS.dup X1007.here hx rfl (hb hby at_89) rfl rfl (XS.iconst X1007.here hx rfl (hb hby at_90) (X1007.ldcInt hx hown (mvT hZ (own_w hw 10 rfl)) (g := (mkF m 91 #[iv x0, iv x1, .val (.long x2), .second, .val (.long x4), .second, iv x6, iv x7, iv x8, iv x9, .val (.long x10), .second, iv x12, iv x13, rv b1000, .unset, .unset, .unset, .unset, .unset, .unset, .unset, .unset] [(.int 2), (.ref b1004), (.ref b1004)])) rfl (hb hby at_91) _ kk_))) ?_
  obtain ⟨T1008, h1008, X1008, e1008, W1008, V1008q, st1008⟩ := own_svI X1007 hx hZ e1007 V1007 (j := (2 : Int32)) (by decide) 2 rfl (Nat.le_of_ble_eq_true rfl) (g := (mkF m 93 #[iv x0, iv x1, .val (.long x2), .second, .val (.long x4), .second, iv x6, iv x7, iv x8, iv x9, .val (.long x10), .second, iv x12, iv x13, rv b1000, .unset, .unset, .unset, .unset, .unset, .unset, .unset, .unset] [(.int 2147483647), (.int 2), (.ref b1004), (.ref b1004)])) rfl rfl (hb hby at_93)
  have N1008 := Fr.snoc X1008 N1007 gz1004
  have Z1008 : n0 ≤ h1008.size := Nat.le_trans Z1007 (Keep.of_wr W1008).1
  have V1008 : Arv Z h1008 b1004 k1004 .int (3 : Int32) [(.int x9), (.int 2147483647), (.int 2147483647)] (.int 0) := V1008q
  refine own_st st1008 ?_
  refine own_st (g' := (mkF m 97 #[iv x0, iv x1, .val (.long x2), .second, .val (.long x4), .second, iv x6, iv x7, iv x8, iv x9, .val (.long x10), .second, iv x12, iv x13, rv b1000, rv b1004, .unset, .unset, .unset, .unset, .unset, .unset, .unset] [(.int 3)])) (fun tt_ kk_ => XS.astore X1008.here hx rfl (hb hby at_94) rfl rfl (l' := #[iv x0, iv x1, .val (.long x2), .second, .val (.long x4), .second, iv x6, iv x7, iv x8, iv x9, .val (.long x10), .second, iv x12, iv x13, rv b1000, rv b1004, .unset, .unset, .unset, .unset, .unset, .unset, .unset]) rfl (XS.iconst X1008.here hx rfl (hb hby at_96) kk_)) ?_
  obtain ⟨T1009, h1009, k1009, X1009, e1009, E1009, A1009, st1009⟩ := newP X1008 hx hZ (own_w hw 8 rfl) e1008 (g := (mkF m 97 #[iv x0, iv x1, .val (.long x2), .second, .val (.long x4), .second, iv x6, iv x7, iv x8, iv x9, .val (.long x10), .second, iv x12, iv x13, rv b1000, rv b1004, .unset, .unset, .unset, .unset, .unset, .unset, .unset] [(.int 3)])) rfl (hb hby at_97) rfl (by decide) (cap := 3) (by decide) (by decide) (show cells + 1 + 1 + 1 ≤ 40 by omega) (show slots + 3 + 3 + 3 ≤ 6336 by omega)
  obtain ⟨b1009, g1009⟩ : ∃ z, z = h1008.size := ⟨_, rfl⟩
  rw [← g1009] at A1009 st1009
  have F1011 := ((((V1003.ext E1004).other W1006 ne1005).other W1007 ne1005).other W1008 ne1005)
  have ne1010 : b1000 ≠ b1009 := Nat.ne_of_lt (Nat.lt_of_lt_of_le F1011.lt (Nat.le_of_eq g1009.symm))
  have ne1012 : b1004 ≠ b1009 := Nat.ne_of_lt (Nat.lt_of_lt_of_le V1008.lt (Nat.le_of_eq g1009.symm))
  have gz1009 : n0 ≤ b1009 := Nat.le_trans Z1008 (Nat.le_of_eq g1009.symm)
  have Z1009 : n0 ≤ h1009.size := Nat.le_trans Z1008 E1009.1
  have V1009 : Arv Z h1009 b1009 k1009 .int (3 : Int32) [(.int 0), (.int 0), (.int 0)] (.int 0) := (Arv.new A1009 (by decide)).pad (pad_rep [] (.int 0) 3)
  refine own_st st1009 ?_
  refine own_st (g' := (mkF m 103 #[iv x0, iv x1, .val (.long x2), .second, .val (.long x4), .second, iv x6, iv x7, iv x8, iv x9, .val (.long x10), .second, iv x12, iv x13, rv b1000, rv b1004, .unset, .unset, .unset, .unset, .unset, .unset, .unset] [(.int x12), (.int 0), (.ref b1009), (.ref b1009)])) (fun tt_ kk_ => XS.dup X1009.here hx rfl (hb hby at_99) rfl rfl (XS.iconst X1009.here hx rfl (hb hby at_100) (XS.iload X1009.here hx rfl (hb hby at_101) rfl kk_))) ?_
  obtain ⟨T1013, h1013, X1013, e1013, W1013, V1013q, st1013⟩ := own_svI X1009 hx hZ e1009 V1009 (j := (0 : Int32)) (by decide) 0 rfl (Nat.le_of_ble_eq_true rfl) (g := (mkF m 103 #[iv x0, iv x1, .val (.long x2), .second, .val (.long x4), .second, iv x6, iv x7, iv x8, iv x9, .val (.long x10), .second, iv x12, iv x13, rv b1000, rv b1004, .unset, .unset, .unset, .unset, .unset, .unset, .unset] [(.int x12), (.int 0), (.ref b1009), (.ref b1009)])) rfl rfl (hb hby at_103)
  have N1013 := Fr.snoc X1013 N1008 gz1009
  have Z1013 : n0 ≤ h1013.size := Nat.le_trans Z1009 (Keep.of_wr W1013).1
  have V1013 : Arv Z h1013 b1009 k1009 .int (3 : Int32) [(.int x12), (.int 0), (.int 0)] (.int 0) := V1013q
  refine own_st st1013 ?_
  refine own_st (g' := (mkF m 108 #[iv x0, iv x1, .val (.long x2), .second, .val (.long x4), .second, iv x6, iv x7, iv x8, iv x9, .val (.long x10), .second, iv x12, iv x13, rv b1000, rv b1004, .unset, .unset, .unset, .unset, .unset, .unset, .unset] [(.int x6), (.int 1), (.ref b1009), (.ref b1009)])) (fun tt_ kk_ => XS.dup X1013.here hx rfl (hb hby at_104) rfl rfl (XS.iconst X1013.here hx rfl (hb hby at_105) (XS.iload X1013.here hx rfl (hb hby at_106) rfl kk_))) ?_
  obtain ⟨T1014, h1014, X1014, e1014, W1014, V1014q, st1014⟩ := own_svI X1013 hx hZ e1013 V1013 (j := (1 : Int32)) (by decide) 1 rfl (Nat.le_of_ble_eq_true rfl) (g := (mkF m 108 #[iv x0, iv x1, .val (.long x2), .second, .val (.long x4), .second, iv x6, iv x7, iv x8, iv x9, .val (.long x10), .second, iv x12, iv x13, rv b1000, rv b1004, .unset, .unset, .unset, .unset, .unset, .unset, .unset] [(.int x6), (.int 1), (.ref b1009), (.ref b1009)])) rfl rfl (hb hby at_108)
  have N1014 := Fr.snoc X1014 N1013 gz1009
  have Z1014 : n0 ≤ h1014.size := Nat.le_trans Z1013 (Keep.of_wr W1014).1
  have V1014 : Arv Z h1014 b1009 k1009 .int (3 : Int32) [(.int x12), (.int x6), (.int 0)] (.int 0) := V1014q
  refine own_st st1014 ?_
  refine own_st (g' := (mkF m 113 #[iv x0, iv x1, .val (.long x2), .second, .val (.long x4), .second, iv x6, iv x7, iv x8, iv x9, .val (.long x10), .second, iv x12, iv x13, rv b1000, rv b1004, .unset, .unset, .unset, .unset, .unset, .unset, .unset] [(.int x7), (.int 2), (.ref b1009), (.ref b1009)])) (fun tt_ kk_ => XS.dup X1014.here hx rfl (hb hby at_109) rfl rfl (XS.iconst X1014.here hx rfl (hb hby at_110) (XS.iload X1014.here hx rfl (hb hby at_111) rfl kk_))) ?_
  obtain ⟨T1015, h1015, X1015, e1015, W1015, V1015q, st1015⟩ := own_svI X1014 hx hZ e1014 V1014 (j := (2 : Int32)) (by decide) 2 rfl (Nat.le_of_ble_eq_true rfl) (g := (mkF m 113 #[iv x0, iv x1, .val (.long x2), .second, .val (.long x4), .second, iv x6, iv x7, iv x8, iv x9, .val (.long x10), .second, iv x12, iv x13, rv b1000, rv b1004, .unset, .unset, .unset, .unset, .unset, .unset, .unset] [(.int x7), (.int 2), (.ref b1009), (.ref b1009)])) rfl rfl (hb hby at_113)
  have N1015 := Fr.snoc X1015 N1014 gz1009
  have Z1015 : n0 ≤ h1015.size := Nat.le_trans Z1014 (Keep.of_wr W1015).1
  have V1015 : Arv Z h1015 b1009 k1009 .int (3 : Int32) [(.int x12), (.int x6), (.int x7)] (.int 0) := V1015q
  refine own_st st1015 ?_
  refine own_st (g' := (mkF m 117 #[iv x0, iv x1, .val (.long x2), .second, .val (.long x4), .second, iv x6, iv x7, iv x8, iv x9, .val (.long x10), .second, iv x12, iv x13, rv b1000, rv b1004, rv b1009, .unset, .unset, .unset, .unset, .unset, .unset] [(.int 3)])) (fun tt_ kk_ => XS.astore X1015.here hx rfl (hb hby at_114) rfl rfl (l' := #[iv x0, iv x1, .val (.long x2), .second, .val (.long x4), .second, iv x6, iv x7, iv x8, iv x9, .val (.long x10), .second, iv x12, iv x13, rv b1000, rv b1004, rv b1009, .unset, .unset, .unset, .unset, .unset, .unset]) rfl (XS.iconst X1015.here hx rfl (hb hby at_116) kk_)) ?_
  obtain ⟨T1016, h1016, k1016, X1016, e1016, E1016, A1016, st1016⟩ := newP X1015 hx hZ (own_w hw 8 rfl) e1015 (g := (mkF m 117 #[iv x0, iv x1, .val (.long x2), .second, .val (.long x4), .second, iv x6, iv x7, iv x8, iv x9, .val (.long x10), .second, iv x12, iv x13, rv b1000, rv b1004, rv b1009, .unset, .unset, .unset, .unset, .unset, .unset] [(.int 3)])) rfl (hb hby at_117) rfl (by decide) (cap := 3) (by decide) (by decide) (show cells + 1 + 1 + 1 + 1 ≤ 40 by omega) (show slots + 3 + 3 + 3 + 3 ≤ 6336 by omega)
  obtain ⟨b1016, g1016⟩ : ∃ z, z = h1015.size := ⟨_, rfl⟩
  rw [← g1016] at A1016 st1016
  have F1018 := ((((F1011.ext E1009).other W1013 ne1010).other W1014 ne1010).other W1015 ne1010)
  have ne1017 : b1000 ≠ b1016 := Nat.ne_of_lt (Nat.lt_of_lt_of_le F1018.lt (Nat.le_of_eq g1016.symm))
  have F1020 := ((((V1008.ext E1009).other W1013 ne1012).other W1014 ne1012).other W1015 ne1012)
  have ne1019 : b1004 ≠ b1016 := Nat.ne_of_lt (Nat.lt_of_lt_of_le F1020.lt (Nat.le_of_eq g1016.symm))
  have ne1021 : b1009 ≠ b1016 := Nat.ne_of_lt (Nat.lt_of_lt_of_le V1015.lt (Nat.le_of_eq g1016.symm))
  have gz1016 : n0 ≤ b1016 := Nat.le_trans Z1015 (Nat.le_of_eq g1016.symm)
  have Z1016 : n0 ≤ h1016.size := Nat.le_trans Z1015 E1016.1
  have V1016 : Arv Z h1016 b1016 k1016 .int (3 : Int32) [(.int 0), (.int 0), (.int 0)] (.int 0) := (Arv.new A1016 (by decide)).pad (pad_rep [] (.int 0) 3)
  refine own_st st1016 ?_
  refine own_st (g' := (mkF m 123 #[iv x0, iv x1, .val (.long x2), .second, .val (.long x4), .second, iv x6, iv x7, iv x8, iv x9, .val (.long x10), .second, iv x12, iv x13, rv b1000, rv b1004, rv b1009, .unset, .unset, .unset, .unset, .unset, .unset] [(.int x13), (.int 0), (.ref b1016), (.ref b1016)])) (fun tt_ kk_ => XS.dup X1016.here hx rfl (hb hby at_119) rfl rfl (XS.iconst X1016.here hx rfl (hb hby at_120) (XS.iload X1016.here hx rfl (hb hby at_121) rfl kk_))) ?_
  obtain ⟨T1022, h1022, X1022, e1022, W1022, V1022q, st1022⟩ := own_svI X1016 hx hZ e1016 V1016 (j := (0 : Int32)) (by decide) 0 rfl (Nat.le_of_ble_eq_true rfl) (g := (mkF m 123 #[iv x0, iv x1, .val (.long x2), .second, .val (.long x4), .second, iv x6, iv x7, iv x8, iv x9, .val (.long x10), .second, iv x12, iv x13, rv b1000, rv b1004, rv b1009, .unset, .unset, .unset, .unset, .unset, .unset] [(.int x13), (.int 0), (.ref b1016), (.ref b1016)])) rfl rfl (hb hby at_123)
  have N1022 := Fr.snoc X1022 N1015 gz1016
  have Z1022 : n0 ≤ h1022.size := Nat.le_trans Z1016 (Keep.of_wr W1022).1
  have V1022 : Arv Z h1022 b1016 k1016 .int (3 : Int32) [(.int x13), (.int 0), (.int 0)] (.int 0) := V1022q
  refine own_st st1022 ?_
  refine own_st (g' := (mkF m 128 #[iv x0, iv x1, .val (.long x2), .second, .val (.long x4), .second, iv x6, iv x7, iv x8, iv x9, .val (.long x10), .second, iv x12, iv x13, rv b1000, rv b1004, rv b1009, .unset, .unset, .unset, .unset, .unset, .unset] [(.int x7), (.int 1), (.ref b1016), (.ref b1016)])) (fun tt_ kk_ => XS.dup X1022.here hx rfl (hb hby at_124) rfl rfl (XS.iconst X1022.here hx rfl (hb hby at_125) (XS.iload X1022.here hx rfl (hb hby at_126) rfl kk_))) ?_
  obtain ⟨T1023, h1023, X1023, e1023, W1023, V1023q, st1023⟩ := own_svI X1022 hx hZ e1022 V1022 (j := (1 : Int32)) (by decide) 1 rfl (Nat.le_of_ble_eq_true rfl) (g := (mkF m 128 #[iv x0, iv x1, .val (.long x2), .second, .val (.long x4), .second, iv x6, iv x7, iv x8, iv x9, .val (.long x10), .second, iv x12, iv x13, rv b1000, rv b1004, rv b1009, .unset, .unset, .unset, .unset, .unset, .unset] [(.int x7), (.int 1), (.ref b1016), (.ref b1016)])) rfl rfl (hb hby at_128)
  have N1023 := Fr.snoc X1023 N1022 gz1016
  have Z1023 : n0 ≤ h1023.size := Nat.le_trans Z1022 (Keep.of_wr W1023).1
  have V1023 : Arv Z h1023 b1016 k1016 .int (3 : Int32) [(.int x13), (.int x7), (.int 0)] (.int 0) := V1023q
  refine own_st st1023 ?_
  refine own_st (g' := (mkF m 133 #[iv x0, iv x1, .val (.long x2), .second, .val (.long x4), .second, iv x6, iv x7, iv x8, iv x9, .val (.long x10), .second, iv x12, iv x13, rv b1000, rv b1004, rv b1009, .unset, .unset, .unset, .unset, .unset, .unset] [(.int x6), (.int 2), (.ref b1016), (.ref b1016)])) (fun tt_ kk_ => XS.dup X1023.here hx rfl (hb hby at_129) rfl rfl (XS.iconst X1023.here hx rfl (hb hby at_130) (XS.iload X1023.here hx rfl (hb hby at_131) rfl kk_))) ?_
  obtain ⟨T1024, h1024, X1024, e1024, W1024, V1024q, st1024⟩ := own_svI X1023 hx hZ e1023 V1023 (j := (2 : Int32)) (by decide) 2 rfl (Nat.le_of_ble_eq_true rfl) (g := (mkF m 133 #[iv x0, iv x1, .val (.long x2), .second, .val (.long x4), .second, iv x6, iv x7, iv x8, iv x9, .val (.long x10), .second, iv x12, iv x13, rv b1000, rv b1004, rv b1009, .unset, .unset, .unset, .unset, .unset, .unset] [(.int x6), (.int 2), (.ref b1016), (.ref b1016)])) rfl rfl (hb hby at_133)
  have N1024 := Fr.snoc X1024 N1023 gz1016
  have Z1024 : n0 ≤ h1024.size := Nat.le_trans Z1023 (Keep.of_wr W1024).1
  have V1024 : Arv Z h1024 b1016 k1016 .int (3 : Int32) [(.int x13), (.int x7), (.int x6)] (.int 0) := V1024q
  refine own_st st1024 ?_
  refine own_st (g' := (mkF m 137 #[iv x0, iv x1, .val (.long x2), .second, .val (.long x4), .second, iv x6, iv x7, iv x8, iv x9, .val (.long x10), .second, iv x12, iv x13, rv b1000, rv b1004, rv b1009, rv b1016, .unset, .unset, .unset, .unset, .unset] [(.int 3)])) (fun tt_ kk_ => XS.astore X1024.here hx rfl (hb hby at_134) rfl rfl (l' := #[iv x0, iv x1, .val (.long x2), .second, .val (.long x4), .second, iv x6, iv x7, iv x8, iv x9, .val (.long x10), .second, iv x12, iv x13, rv b1000, rv b1004, rv b1009, rv b1016, .unset, .unset, .unset, .unset, .unset]) rfl (XS.iconst X1024.here hx rfl (hb hby at_136) kk_)) ?_
  obtain ⟨T1025, h1025, k1025, X1025, e1025, E1025, A1025, st1025⟩ := newP X1024 hx hZ (own_w hw 8 rfl) e1024 (g := (mkF m 137 #[iv x0, iv x1, .val (.long x2), .second, .val (.long x4), .second, iv x6, iv x7, iv x8, iv x9, .val (.long x10), .second, iv x12, iv x13, rv b1000, rv b1004, rv b1009, rv b1016, .unset, .unset, .unset, .unset, .unset] [(.int 3)])) rfl (hb hby at_137) rfl (by decide) (cap := 3) (by decide) (by decide) (show cells + 1 + 1 + 1 + 1 + 1 ≤ 40 by omega) (show slots + 3 + 3 + 3 + 3 + 3 ≤ 6336 by omega)
  obtain ⟨b1025, g1025⟩ : ∃ z, z = h1024.size := ⟨_, rfl⟩
  rw [← g1025] at A1025 st1025
  have F1027 := ((((F1018.ext E1016).other W1022 ne1017).other W1023 ne1017).other W1024 ne1017)
  have ne1026 : b1000 ≠ b1025 := Nat.ne_of_lt (Nat.lt_of_lt_of_le F1027.lt (Nat.le_of_eq g1025.symm))
  have F1029 := ((((F1020.ext E1016).other W1022 ne1019).other W1023 ne1019).other W1024 ne1019)
  have ne1028 : b1004 ≠ b1025 := Nat.ne_of_lt (Nat.lt_of_lt_of_le F1029.lt (Nat.le_of_eq g1025.symm))
  have F1031 := ((((V1015.ext E1016).other W1022 ne1021).other W1023 ne1021).other W1024 ne1021)
  have ne1030 : b1009 ≠ b1025 := Nat.ne_of_lt (Nat.lt_of_lt_of_le F1031.lt (Nat.le_of_eq g1025.symm))
  have ne1032 : b1016 ≠ b1025 := Nat.ne_of_lt (Nat.lt_of_lt_of_le V1024.lt (Nat.le_of_eq g1025.symm))
  have gz1025 : n0 ≤ b1025 := Nat.le_trans Z1024 (Nat.le_of_eq g1025.symm)
  have Z1025 : n0 ≤ h1025.size := Nat.le_trans Z1024 E1025.1
  have V1025 : Arv Z h1025 b1025 k1025 .int (3 : Int32) [(.int 0), (.int 0), (.int 0)] (.int 0) := (Arv.new A1025 (by decide)).pad (pad_rep [] (.int 0) 3)
  refine own_st st1025 ?_
  refine own_st (g' := (mkF m 142 #[iv x0, iv x1, .val (.long x2), .second, .val (.long x4), .second, iv x6, iv x7, iv x8, iv x9, .val (.long x10), .second, iv x12, iv x13, rv b1000, rv b1004, rv b1009, rv b1016, rv b1025, .unset, .unset, .unset, .unset] [(.int 3)])) (fun tt_ kk_ => XS.astore X1025.here hx rfl (hb hby at_139) rfl rfl (l' := #[iv x0, iv x1, .val (.long x2), .second, .val (.long x4), .second, iv x6, iv x7, iv x8, iv x9, .val (.long x10), .second, iv x12, iv x13, rv b1000, rv b1004, rv b1009, rv b1016, rv b1025, .unset, .unset, .unset, .unset]) rfl (XS.iconst X1025.here hx rfl (hb hby at_141) kk_)) ?_
  obtain ⟨T1033, h1033, k1033, X1033, e1033, E1033, A1033, st1033⟩ := newP X1025 hx hZ (own_w hw 8 rfl) e1025 (g := (mkF m 142 #[iv x0, iv x1, .val (.long x2), .second, .val (.long x4), .second, iv x6, iv x7, iv x8, iv x9, .val (.long x10), .second, iv x12, iv x13, rv b1000, rv b1004, rv b1009, rv b1016, rv b1025, .unset, .unset, .unset, .unset] [(.int 3)])) rfl (hb hby at_142) rfl (by decide) (cap := 3) (by decide) (by decide) (show cells + 1 + 1 + 1 + 1 + 1 + 1 ≤ 40 by omega) (show slots + 3 + 3 + 3 + 3 + 3 + 3 ≤ 6336 by omega)
  obtain ⟨b1033, g1033⟩ : ∃ z, z = h1025.size := ⟨_, rfl⟩
  rw [← g1033] at A1033 st1033
  have F1035 := (F1027.ext E1025)
  have ne1034 : b1000 ≠ b1033 := Nat.ne_of_lt (Nat.lt_of_lt_of_le F1035.lt (Nat.le_of_eq g1033.symm))
  have F1037 := (F1029.ext E1025)
  have ne1036 : b1004 ≠ b1033 := Nat.ne_of_lt (Nat.lt_of_lt_of_le F1037.lt (Nat.le_of_eq g1033.symm))
  have F1039 := (F1031.ext E1025)
  have ne1038 : b1009 ≠ b1033 := Nat.ne_of_lt (Nat.lt_of_lt_of_le F1039.lt (Nat.le_of_eq g1033.symm))
  have F1041 := (V1024.ext E1025)
  have ne1040 : b1016 ≠ b1033 := Nat.ne_of_lt (Nat.lt_of_lt_of_le F1041.lt (Nat.le_of_eq g1033.symm))
  have ne1042 : b1025 ≠ b1033 := Nat.ne_of_lt (Nat.lt_of_lt_of_le V1025.lt (Nat.le_of_eq g1033.symm))
  have gz1033 : n0 ≤ b1033 := Nat.le_trans Z1025 (Nat.le_of_eq g1033.symm)
  have Z1033 : n0 ≤ h1033.size := Nat.le_trans Z1025 E1033.1
  have V1033 : Arv Z h1033 b1033 k1033 .int (3 : Int32) [(.int 0), (.int 0), (.int 0)] (.int 0) := (Arv.new A1033 (by decide)).pad (pad_rep [] (.int 0) 3)
  refine own_st st1033 ?_
  refine own_st (g' := (mkF m 146 #[iv x0, iv x1, .val (.long x2), .second, .val (.long x4), .second, iv x6, iv x7, iv x8, iv x9, .val (.long x10), .second, iv x12, iv x13, rv b1000, rv b1004, rv b1009, rv b1016, rv b1025, rv b1033, .unset, .unset, .unset] [])) (fun tt_ kk_ => XS.astore X1033.here hx rfl (hb hby at_144) rfl rfl (l' := #[iv x0, iv x1, .val (.long x2), .second, .val (.long x4), .second, iv x6, iv x7, iv x8, iv x9, .val (.long x10), .second, iv x12, iv x13, rv b1000, rv b1004, rv b1009, rv b1016, rv b1025, rv b1033, .unset, .unset, .unset]) rfl kk_) ?_
  obtain ⟨T1043, h1043, X1043, e1043, E1043, A1043, D1043, -, st1043⟩ := newO X1033 hx hZ hown (own_w hw 11 rfl) (own_w hw 12 rfl) (own_w hw 13 rfl) e1033 (g := (mkF m 146 #[iv x0, iv x1, .val (.long x2), .second, .val (.long x4), .second, iv x6, iv x7, iv x8, iv x9, .val (.long x10), .second, iv x12, iv x13, rv b1000, rv b1004, rv b1009, rv b1016, rv b1025, rv b1033, .unset, .unset, .unset] [])) rfl (hb hby at_146) (show cells + 1 + 1 + 1 + 1 + 1 + 1 + 1 ≤ 40 by omega) (show slots + 3 + 3 + 3 + 3 + 3 + 3 + 10 ≤ 6336 by omega)
  obtain ⟨b1043, g1043⟩ : ∃ z, z = h1033.size := ⟨_, rfl⟩
  rw [← g1043] at A1043 D1043 st1043
  have F1045 := (F1035.ext E1033)
  have ne1044 : b1000 ≠ b1043 := Nat.ne_of_lt (Nat.lt_of_lt_of_le F1045.lt (Nat.le_of_eq g1043.symm))
  have F1047 := (F1037.ext E1033)
  have ne1046 : b1004 ≠ b1043 := Nat.ne_of_lt (Nat.lt_of_lt_of_le F1047.lt (Nat.le_of_eq g1043.symm))
  have F1049 := (F1039.ext E1033)
  have ne1048 : b1009 ≠ b1043 := Nat.ne_of_lt (Nat.lt_of_lt_of_le F1049.lt (Nat.le_of_eq g1043.symm))
  have F1051 := (F1041.ext E1033)
  have ne1050 : b1016 ≠ b1043 := Nat.ne_of_lt (Nat.lt_of_lt_of_le F1051.lt (Nat.le_of_eq g1043.symm))
  have F1053 := (V1025.ext E1033)
  have ne1052 : b1025 ≠ b1043 := Nat.ne_of_lt (Nat.lt_of_lt_of_le F1053.lt (Nat.le_of_eq g1043.symm))
  have ne1054 : b1033 ≠ b1043 := Nat.ne_of_lt (Nat.lt_of_lt_of_le V1033.lt (Nat.le_of_eq g1043.symm))
  have gz1043 : n0 ≤ b1043 := Nat.le_trans Z1033 (Nat.le_of_eq g1043.symm)
  have Z1043 : n0 ≤ h1043.size := Nat.le_trans Z1033 E1043.1
  have F_lows_b1043 : Fld Z h1043 b1043 own_z0 "lows" "[I" .null := D1043 (Or.inr (own_w hw 30 rfl)) (ty := (.array .int)) (by decide)
  have F_spans_b1043 : Fld Z h1043 b1043 own_z0 "spans" "[J" .null := D1043 (Or.inr (own_w hw 33 rfl)) (ty := (.array .long)) (by decide)
  have F_masks_b1043 : Fld Z h1043 b1043 own_z0 "masks" "[J" .null := D1043 (Or.inr (own_w hw 35 rfl)) (ty := (.array .long)) (by decide)
  have F_words_b1043 : Fld Z h1043 b1043 own_z0 "words" "[I" .null := D1043 (Or.inr (own_w hw 37 rfl)) (ty := (.array .int)) (by decide)
  have F_shifts_b1043 : Fld Z h1043 b1043 own_z0 "shifts" "[I" .null := D1043 (Or.inr (own_w hw 39 rfl)) (ty := (.array .int)) (by decide)
  have F_wordCount_b1043 : Fld Z h1043 b1043 own_z0 "wordCount" "I" (.int 0) := D1043 (Or.inr (own_w hw 50 rfl)) (ty := .int) (by decide)
  have F_packed_b1043 : Fld Z h1043 b1043 own_z0 "packed" "[J" .null := D1043 (Or.inl (own_w hw 57 rfl)) (ty := (.array .long)) (by decide)
  have F_slots_b1043 : Fld Z h1043 b1043 own_z0 "slots" "[I" .null := D1043 (Or.inl (own_w hw 62 rfl)) (ty := (.array .int)) (by decide)
  have F_key_b1043 : Fld Z h1043 b1043 own_z0 "key" "[J" .null := D1043 (Or.inr (own_w hw 64 rfl)) (ty := (.array .long)) (by decide)
  have F_size_b1043 : Fld Z h1043 b1043 own_z0 "size" "I" (.int 0) := D1043 (Or.inl (own_w hw 93 rfl)) (ty := .int) (by decide)
  refine own_st st1043 ?_
  refine own_st (g' := (mkF m 155 #[iv x0, iv x1, .val (.long x2), .second, .val (.long x4), .second, iv x6, iv x7, iv x8, iv x9, .val (.long x10), .second, iv x12, iv x13, rv b1000, rv b1004, rv b1009, rv b1016, rv b1025, rv b1033, .unset, .unset, .unset] [(.int 0), (.ref b1004), (.ref b1000), (.ref b1043), (.ref b1043)])) (fun tt_ kk_ => XS.dup X1043.here hx rfl (hb hby at_149) rfl rfl (XS.aload X1043.here hx rfl (hb hby at_150) rfl rfl (XS.aload X1043.here hx rfl (hb hby at_152) rfl rfl (XS.iconst X1043.here hx rfl (hb hby at_154) kk_)))) ?_
  obtain ⟨bw, hbw, hBw, hxw⟩ := own_nlz (x := ((((x9.toInt64) - (x8.toInt64)) + (1 : Int64)) - (1 : Int64))) (own_nlh (Int.le_trans hA.1 hA.2))
  obtain ⟨NL, hNL⟩ : ∃ z, own_f5_0 ((((x9.toInt64) - (x8.toInt64)) + (1 : Int64)) - (1 : Int64)) = z := ⟨_, rfl⟩
  rw [hNL] at hBw
  by_cases hzw : bw = 0
  · skip
    have F1055 := ((((((((((((((((((Q1000.wr W1001).wr W1002).wr W1003).ext E1004).wr W1006).wr W1007).wr W1008).ext E1009).wr W1013).wr W1014).wr W1015).ext E1016).wr W1022).wr W1023).wr W1024).ext E1025).ext E1033).ext E1043)
    have F1056 := (F1045.ext E1043)
    have F1057 := (F1047.ext E1043)
    have F1058 := (F1053.ext E1043)
    have F1059 := (V1033.ext E1043)
    have F1060 := (F1049.ext E1043)
    have F1061 := (F1051.ext E1043)
    obtain ⟨_, _, ⟨T1062, L1062, k1062, n1062⟩, -, X1062, ⟨Lc1062, hQ1062, l1062, y1062, z1062⟩, st1062⟩ := X1043.specialBack hx (y := (⟨own_z0, "<init>", "([I[II)V"⟩ : MethodName)) rfl hown (mvT hZ (own_w hw 14 rfl)) (mvT hZ (own_w hw 15 rfl)) (mvT hZ (own_w hw 16 rfl)) (by decide) (backOf (W := 1) (own_rminiA l Z a0 hw [] b1043 b1000 b1004 k1000 x8 k1004 x9 NL h1043 n0 Z1043 A1043 F_lows_b1043 F_spans_b1043 F_masks_b1043 F_words_b1043 F_shifts_b1043 F_wordCount_b1043 F_packed_b1043 F_slots_b1043 F_key_b1043 F_size_b1043 F1055 F1056 F1057 hNL (own_cs1 (Int.le_trans hA.1 hA.2)) (own_c2 hbw hBw) (own_c3 hbw hBw) (own_c4A hbw hzw hBw) ne1044 ne1046 gz1043) hZ (own_w hw 16 rfl) (own_w hw 13 rfl) (by decide) (by decide)) (g := (mkF m 155 #[iv x0, iv x1, .val (.long x2), .second, .val (.long x4), .second, iv x6, iv x7, iv x8, iv x9, .val (.long x10), .second, iv x12, iv x13, rv b1000, rv b1004, rv b1009, rv b1016, rv b1025, rv b1033, .unset, .unset, .unset] [(.int 0), (.ref b1004), (.ref b1000), (.ref b1043), (.ref b1043)])) rfl (by rw [hml]; rfl) (Steps.refl _) (a := b1043) (argsL := [(.ref b1000), (.ref b1004), (.int 0)]) (rest := [(.ref b1043)]) (lenOf own_pd12 rfl) rfl (by show 2 * 0 + _ ≤ _; exact Nat.le_of_eq rfl) (hb hby at_155) (fun _ _ => ⟨rfl, e1043, (show cells + 1 + 1 + 1 + 1 + 1 + 1 + 1 + 8 ≤ 40 by omega), (show slots + 3 + 3 + 3 + 3 + 3 + 3 + 10 + 2064 ≤ 6336 by omega)⟩)
    dsimp only [Pt.U, Pt.locs, Pt.cells, Pt.slots] at X1062 l1062 y1062 z1062 st1062 hQ1062
    rw [l1062, y1062, z1062] at X1062
    obtain ⟨rfl, N1062q, K1062q, aL_1062, aS_1062, aM_1062, aW_1062, aH_1062, aP_1062, aQ_1062, aK_1062, kaL_1062, kaS_1062, kaM_1062, kaW_1062, kaH_1062, kaP_1062, kaK_1062, f1062_0, f1062_1, f1062_2, f1062_3, f1062_4, f1062_5, f1062_6, f1062_7, f1062_8, f1062_9, f1062_10, f1062_11, f1062_12, f1062_13, f1062_14, f1062_15, f1062_16, f1062_17, f1062_18, f1062_19, f1062_20, f1062_21, f1062_22, f1062_23, f1062_24, f1062_25, f1062_26, f1062_27, f1062_28, f1062_29, f1062_30, f1062_31, f1062_32, f1062_33, f1062_34, f1062_35, f1062_36, f1062_37, f1062_38, f1062_39, f1062_40, f1062_41, f1062_42, f1062_43⟩ := hQ1062
    obtain ⟨h1062, e1062⟩ : ∃ z, T1062.heap = z := ⟨_, rfl⟩
    rw [e1062] at K1062q f1062_0 f1062_1 f1062_2 f1062_3 f1062_4 f1062_5 f1062_6 f1062_7 f1062_8 f1062_9 f1062_10 f1062_11 f1062_12 f1062_13 f1062_14 f1062_15 f1062_16 f1062_17
    have Z1062 : n0 ≤ h1062.size := Nat.le_trans Z1043 K1062q.1
    have ne1063 : b1000 ≠ aL_1062 := Nat.ne_of_lt (Nat.lt_of_lt_of_le F1056.lt f1062_36)
    have ne1064 : b1004 ≠ aL_1062 := Nat.ne_of_lt (Nat.lt_of_lt_of_le F1057.lt f1062_36)
    have ne1065 : b1009 ≠ aL_1062 := Nat.ne_of_lt (Nat.lt_of_lt_of_le F1060.lt f1062_36)
    have ne1066 : b1016 ≠ aL_1062 := Nat.ne_of_lt (Nat.lt_of_lt_of_le F1061.lt f1062_36)
    have ne1067 : b1025 ≠ aL_1062 := Nat.ne_of_lt (Nat.lt_of_lt_of_le F1058.lt f1062_36)
    have ne1068 : b1033 ≠ aL_1062 := Nat.ne_of_lt (Nat.lt_of_lt_of_le F1059.lt f1062_36)
    have ne1069 : b1043 ≠ aL_1062 := Nat.ne_of_lt (Nat.lt_of_lt_of_le A1043.lt f1062_36)
    have gx1070 : n0 ≤ aL_1062 := Nat.le_trans Z1043 f1062_36
    have ne1071 : b1000 ≠ aS_1062 := Nat.ne_of_lt (Nat.lt_of_lt_of_le F1056.lt f1062_37)
    have ne1072 : b1004 ≠ aS_1062 := Nat.ne_of_lt (Nat.lt_of_lt_of_le F1057.lt f1062_37)
    have ne1073 : b1009 ≠ aS_1062 := Nat.ne_of_lt (Nat.lt_of_lt_of_le F1060.lt f1062_37)
    have ne1074 : b1016 ≠ aS_1062 := Nat.ne_of_lt (Nat.lt_of_lt_of_le F1061.lt f1062_37)
    have ne1075 : b1025 ≠ aS_1062 := Nat.ne_of_lt (Nat.lt_of_lt_of_le F1058.lt f1062_37)
    have ne1076 : b1033 ≠ aS_1062 := Nat.ne_of_lt (Nat.lt_of_lt_of_le F1059.lt f1062_37)
    have ne1077 : b1043 ≠ aS_1062 := Nat.ne_of_lt (Nat.lt_of_lt_of_le A1043.lt f1062_37)
    have gx1078 : n0 ≤ aS_1062 := Nat.le_trans Z1043 f1062_37
    have ne1079 : b1000 ≠ aM_1062 := Nat.ne_of_lt (Nat.lt_of_lt_of_le F1056.lt f1062_38)
    have ne1080 : b1004 ≠ aM_1062 := Nat.ne_of_lt (Nat.lt_of_lt_of_le F1057.lt f1062_38)
    have ne1081 : b1009 ≠ aM_1062 := Nat.ne_of_lt (Nat.lt_of_lt_of_le F1060.lt f1062_38)
    have ne1082 : b1016 ≠ aM_1062 := Nat.ne_of_lt (Nat.lt_of_lt_of_le F1061.lt f1062_38)
    have ne1083 : b1025 ≠ aM_1062 := Nat.ne_of_lt (Nat.lt_of_lt_of_le F1058.lt f1062_38)
    have ne1084 : b1033 ≠ aM_1062 := Nat.ne_of_lt (Nat.lt_of_lt_of_le F1059.lt f1062_38)
    have ne1085 : b1043 ≠ aM_1062 := Nat.ne_of_lt (Nat.lt_of_lt_of_le A1043.lt f1062_38)
    have gx1086 : n0 ≤ aM_1062 := Nat.le_trans Z1043 f1062_38
    have ne1087 : b1000 ≠ aW_1062 := Nat.ne_of_lt (Nat.lt_of_lt_of_le F1056.lt f1062_39)
    have ne1088 : b1004 ≠ aW_1062 := Nat.ne_of_lt (Nat.lt_of_lt_of_le F1057.lt f1062_39)
    have ne1089 : b1009 ≠ aW_1062 := Nat.ne_of_lt (Nat.lt_of_lt_of_le F1060.lt f1062_39)
    have ne1090 : b1016 ≠ aW_1062 := Nat.ne_of_lt (Nat.lt_of_lt_of_le F1061.lt f1062_39)
    have ne1091 : b1025 ≠ aW_1062 := Nat.ne_of_lt (Nat.lt_of_lt_of_le F1058.lt f1062_39)
    have ne1092 : b1033 ≠ aW_1062 := Nat.ne_of_lt (Nat.lt_of_lt_of_le F1059.lt f1062_39)
    have ne1093 : b1043 ≠ aW_1062 := Nat.ne_of_lt (Nat.lt_of_lt_of_le A1043.lt f1062_39)
    have gx1094 : n0 ≤ aW_1062 := Nat.le_trans Z1043 f1062_39
    have ne1095 : b1000 ≠ aH_1062 := Nat.ne_of_lt (Nat.lt_of_lt_of_le F1056.lt f1062_40)
    have ne1096 : b1004 ≠ aH_1062 := Nat.ne_of_lt (Nat.lt_of_lt_of_le F1057.lt f1062_40)
    have ne1097 : b1009 ≠ aH_1062 := Nat.ne_of_lt (Nat.lt_of_lt_of_le F1060.lt f1062_40)
    have ne1098 : b1016 ≠ aH_1062 := Nat.ne_of_lt (Nat.lt_of_lt_of_le F1061.lt f1062_40)
    have ne1099 : b1025 ≠ aH_1062 := Nat.ne_of_lt (Nat.lt_of_lt_of_le F1058.lt f1062_40)
    have ne1100 : b1033 ≠ aH_1062 := Nat.ne_of_lt (Nat.lt_of_lt_of_le F1059.lt f1062_40)
    have ne1101 : b1043 ≠ aH_1062 := Nat.ne_of_lt (Nat.lt_of_lt_of_le A1043.lt f1062_40)
    have gx1102 : n0 ≤ aH_1062 := Nat.le_trans Z1043 f1062_40
    have ne1103 : b1000 ≠ aP_1062 := Nat.ne_of_lt (Nat.lt_of_lt_of_le F1056.lt f1062_41)
    have ne1104 : b1004 ≠ aP_1062 := Nat.ne_of_lt (Nat.lt_of_lt_of_le F1057.lt f1062_41)
    have ne1105 : b1009 ≠ aP_1062 := Nat.ne_of_lt (Nat.lt_of_lt_of_le F1060.lt f1062_41)
    have ne1106 : b1016 ≠ aP_1062 := Nat.ne_of_lt (Nat.lt_of_lt_of_le F1061.lt f1062_41)
    have ne1107 : b1025 ≠ aP_1062 := Nat.ne_of_lt (Nat.lt_of_lt_of_le F1058.lt f1062_41)
    have ne1108 : b1033 ≠ aP_1062 := Nat.ne_of_lt (Nat.lt_of_lt_of_le F1059.lt f1062_41)
    have ne1109 : b1043 ≠ aP_1062 := Nat.ne_of_lt (Nat.lt_of_lt_of_le A1043.lt f1062_41)
    have gx1110 : n0 ≤ aP_1062 := Nat.le_trans Z1043 f1062_41
    have ne1111 : b1000 ≠ aQ_1062 := Nat.ne_of_lt (Nat.lt_of_lt_of_le F1056.lt f1062_42)
    have ne1112 : b1004 ≠ aQ_1062 := Nat.ne_of_lt (Nat.lt_of_lt_of_le F1057.lt f1062_42)
    have ne1113 : b1009 ≠ aQ_1062 := Nat.ne_of_lt (Nat.lt_of_lt_of_le F1060.lt f1062_42)
    have ne1114 : b1016 ≠ aQ_1062 := Nat.ne_of_lt (Nat.lt_of_lt_of_le F1061.lt f1062_42)
    have ne1115 : b1025 ≠ aQ_1062 := Nat.ne_of_lt (Nat.lt_of_lt_of_le F1058.lt f1062_42)
    have ne1116 : b1033 ≠ aQ_1062 := Nat.ne_of_lt (Nat.lt_of_lt_of_le F1059.lt f1062_42)
    have ne1117 : b1043 ≠ aQ_1062 := Nat.ne_of_lt (Nat.lt_of_lt_of_le A1043.lt f1062_42)
    have gx1118 : n0 ≤ aQ_1062 := Nat.le_trans Z1043 f1062_42
    have ne1119 : b1000 ≠ aK_1062 := Nat.ne_of_lt (Nat.lt_of_lt_of_le F1056.lt f1062_43)
    have ne1120 : b1004 ≠ aK_1062 := Nat.ne_of_lt (Nat.lt_of_lt_of_le F1057.lt f1062_43)
    have ne1121 : b1009 ≠ aK_1062 := Nat.ne_of_lt (Nat.lt_of_lt_of_le F1060.lt f1062_43)
    have ne1122 : b1016 ≠ aK_1062 := Nat.ne_of_lt (Nat.lt_of_lt_of_le F1061.lt f1062_43)
    have ne1123 : b1025 ≠ aK_1062 := Nat.ne_of_lt (Nat.lt_of_lt_of_le F1058.lt f1062_43)
    have ne1124 : b1033 ≠ aK_1062 := Nat.ne_of_lt (Nat.lt_of_lt_of_le F1059.lt f1062_43)
    have ne1125 : b1043 ≠ aK_1062 := Nat.ne_of_lt (Nat.lt_of_lt_of_le A1043.lt f1062_43)
    have gx1126 : n0 ≤ aK_1062 := Nat.le_trans Z1043 f1062_43
    have N1062 := Fr.app N1024 N1062q
    refine own_st (fun t k => st1062.trans k) ?_
    refine own_st (g' := (mkF m 164 #[iv x0, iv x1, .val (.long x2), .second, .val (.long x4), .second, iv x6, iv x7, iv x8, iv x9, .val (.long x10), .second, iv x12, iv x13, rv b1000, rv b1004, rv b1009, rv b1016, rv b1025, rv b1033, rv b1043, .unset, .unset] [(.ref b1009), (.ref b1043)])) (fun tt_ kk_ => XS.astore X1062.here hx rfl (hb hby at_158) rfl rfl (l' := #[iv x0, iv x1, .val (.long x2), .second, .val (.long x4), .second, iv x6, iv x7, iv x8, iv x9, .val (.long x10), .second, iv x12, iv x13, rv b1000, rv b1004, rv b1009, rv b1016, rv b1025, rv b1033, rv b1043, .unset, .unset]) rfl (XS.aload X1062.here hx rfl (hb hby at_160) rfl rfl (XS.aload X1062.here hx rfl (hb hby at_162) rfl rfl kk_))) ?_
    have F1127 := (A1043.keep K1062q)
    have F1128 := (F1060.keep K1062q (ninS ne1048 nin0))
    obtain ⟨cq1129, kq1129, q1129a, q1129b, q1129c⟩ := isOf hZ e1062 F1127
    obtain ⟨_, _, ⟨T1129, L1129, k1129, n1129⟩, -, X1129, ⟨Lc1129, hQ1129, l1129, y1129, z1129⟩, st1129⟩ := X1062.virtualBack hx (y := (⟨own_z0, "add", "([I)I"⟩ : MethodName)) (z := (⟨own_z0, "add", "([I)I"⟩ : MethodName)) hown (mvT hZ (own_w hw 65 rfl)) (mvT hZ (own_w hw 66 rfl)) (notFace_of_selects (args := #[]) (mvT hZ (own_w hw 68 rfl))) (mvT hZ (own_w hw 68 rfl)) (mvT hZ (own_w hw 67 rfl)) (by decide) (backOf (W := 0) (own_rmaddA1 l Z a0 hw [] b1043 b1009 aL_1062 aS_1062 aM_1062 aW_1062 aH_1062 aP_1062 aQ_1062 aK_1062 kaL_1062 x8 (-2147483648 : Int32) (-2147483648 : Int32) kaS_1062 (((x9.toInt64) - (x8.toInt64)) + (1 : Int64)) (4294967296 : Int64) (4294967296 : Int64) kaW_1062 kaH_1062 (0 : Int32) ((0 : Int32) + ((64 : Int32) - NL)) (((0 : Int32) + ((64 : Int32) - NL)) + (32 : Int32)) k1009 x12 x6 x7 kaK_1062 (0 : Int64) kaP_1062 (0 : Int64) (0 : Int64) h1062 n0 Z1062 F1127 f1062_0 f1062_1 f1062_2 f1062_3 f1062_4 f1062_5 f1062_6 f1062_7 f1062_8 f1062_9 f1062_10 f1062_11 f1062_13 f1062_14 F1128 f1062_16 f1062_15 f1062_17 (own_hge hA.1) (own_lt0 hA) (own_g32 own_min) (own_h32 own_min) (own_g32 own_min) (own_h32 own_min) ne1125 ne1109 ne1117 f1062_18 f1062_19 f1062_21 f1062_22 ne1121 f1062_33 f1062_34 f1062_35 gz1043 gx1126 gx1110 gx1118) hZ (own_w hw 69 rfl) (own_w hw 13 rfl) (by decide) (by decide)) q1129a q1129c (g := (mkF m 164 #[iv x0, iv x1, .val (.long x2), .second, .val (.long x4), .second, iv x6, iv x7, iv x8, iv x9, .val (.long x10), .second, iv x12, iv x13, rv b1000, rv b1004, rv b1009, rv b1016, rv b1025, rv b1033, rv b1043, .unset, .unset] [(.ref b1009), (.ref b1043)])) rfl (by rw [hml]; rfl) (Steps.refl _) (argsL := [(.ref b1009)]) (rest := []) (lenOf own_pd13 rfl) rfl (by show 2 * 0 + _ ≤ _; exact Nat.le_of_eq rfl) (hb hby at_164) (fun _ _ => ⟨rfl, e1062, (show cells + 1 + 1 + 1 + 1 + 1 + 1 + 1 + 8 + 0 ≤ 40 by omega), (show slots + 3 + 3 + 3 + 3 + 3 + 3 + 10 + 2064 + 0 ≤ 6336 by omega)⟩)
    dsimp only [Pt.U, Pt.locs, Pt.cells, Pt.slots] at X1129 l1129 y1129 z1129 st1129 hQ1129
    rw [l1129, y1129, z1129] at X1129
    obtain ⟨hz_1129, rfl, N1129q, K1129q, f1129_0, f1129_1, f1129_2, f1129_3, f1129_4, f1129_5, f1129_6, f1129_7, f1129_8, f1129_9, f1129_10, f1129_11, f1129_12⟩ := hQ1129
    obtain ⟨h1129, e1129⟩ : ∃ z, T1129.heap = z := ⟨_, rfl⟩
    rw [e1129] at K1129q f1129_0 f1129_1 f1129_2 f1129_3 f1129_4 f1129_5 f1129_6 f1129_7 f1129_8 f1129_9 f1129_10 f1129_11 f1129_12
    have Z1129 : n0 ≤ h1129.size := Nat.le_trans Z1062 K1129q.1
    have N1129 := Fr.app N1062 N1129q
    refine own_st (fun t k => st1129.trans k) ?_
    refine own_st (g' := (mkF m 173 #[iv x0, iv x1, .val (.long x2), .second, .val (.long x4), .second, iv x6, iv x7, iv x8, iv x9, .val (.long x10), .second, iv x12, iv x13, rv b1000, rv b1004, rv b1009, rv b1016, rv b1025, rv b1033, rv b1043, iv 0, .unset] [(.ref b1016), (.ref b1043)])) (fun tt_ kk_ => XS.istore X1129.here hx rfl (hb hby at_167) rfl (l' := #[iv x0, iv x1, .val (.long x2), .second, .val (.long x4), .second, iv x6, iv x7, iv x8, iv x9, .val (.long x10), .second, iv x12, iv x13, rv b1000, rv b1004, rv b1009, rv b1016, rv b1025, rv b1033, rv b1043, iv 0, .unset]) rfl (XS.aload X1129.here hx rfl (hb hby at_169) rfl rfl (XS.aload X1129.here hx rfl (hb hby at_171) rfl rfl kk_))) ?_
    have F1130 := (F1127.keep K1129q)
    have F1131 := (f1062_10.keep K1129q (ninS (Ne.symm ne1069) (ninS f1062_18 (ninS f1062_23 (ninS f1062_28 nin0)))))
    have F1132 := (f1062_11.keep K1129q (ninS (Ne.symm ne1077) (ninS f1062_19 (ninS f1062_24 (ninS f1062_29 nin0)))))
    have F1133 := (f1062_13.keep K1129q (ninS (Ne.symm ne1093) (ninS f1062_21 (ninS f1062_26 (ninS f1062_31 nin0)))))
    have F1134 := (f1062_14.keep K1129q (ninS (Ne.symm ne1101) (ninS f1062_22 (ninS f1062_27 (ninS f1062_32 nin0)))))
    have F1135 := ((F1061.keep K1062q (ninS ne1050 nin0)).keep K1129q (ninS ne1050 (ninS ne1122 (ninS ne1106 (ninS ne1114 nin0)))))
    obtain ⟨cq1136, kq1136, q1136a, q1136b, q1136c⟩ := isOf hZ e1129 F1130
    obtain ⟨_, _, ⟨T1136, L1136, k1136, n1136⟩, -, X1136, ⟨Lc1136, hQ1136, l1136, y1136, z1136⟩, st1136⟩ := X1129.virtualBack hx (y := (⟨own_z0, "add", "([I)I"⟩ : MethodName)) (z := (⟨own_z0, "add", "([I)I"⟩ : MethodName)) hown (mvT hZ (own_w hw 65 rfl)) (mvT hZ (own_w hw 66 rfl)) (notFace_of_selects (args := #[]) (mvT hZ (own_w hw 68 rfl))) (mvT hZ (own_w hw 68 rfl)) (mvT hZ (own_w hw 67 rfl)) (by decide) (backOf (W := 0) (own_rmaddA2 l Z a0 hw [] b1043 b1016 aL_1062 aS_1062 aM_1062 aW_1062 aH_1062 aP_1062 aQ_1062 aK_1062 kaL_1062 x8 (-2147483648 : Int32) (-2147483648 : Int32) kaS_1062 (((x9.toInt64) - (x8.toInt64)) + (1 : Int64)) (4294967296 : Int64) (4294967296 : Int64) kaW_1062 kaH_1062 (0 : Int32) ((0 : Int32) + ((64 : Int32) - NL)) (((0 : Int32) + ((64 : Int32) - NL)) + (32 : Int32)) k1016 x13 x7 x6 kaK_1062 (own_kA x12 x6 x7 x8 (-2147483648 : Int32) (-2147483648 : Int32) (0 : Int32) ((0 : Int32) + ((64 : Int32) - NL)) (((0 : Int32) + ((64 : Int32) - NL)) + (32 : Int32))) kaP_1062 (own_kA x12 x6 x7 x8 (-2147483648 : Int32) (-2147483648 : Int32) (0 : Int32) ((0 : Int32) + ((64 : Int32) - NL)) (((0 : Int32) + ((64 : Int32) - NL)) + (32 : Int32))) (0 : Int64) hz_1129 h1129 n0 Z1129 F1130 f1129_0 f1129_1 f1129_2 f1129_3 f1129_4 f1129_5 f1129_6 f1129_7 f1129_8 f1129_9 F1131 F1132 F1133 F1134 F1135 f1129_10 f1129_11 f1129_12 (own_hge hB.1) (own_lt0 hB) (own_g32 own_min) (own_h32 own_min) (own_g32 own_min) (own_h32 own_min) ne1125 ne1109 ne1117 f1062_18 f1062_19 f1062_21 f1062_22 ne1122 f1062_33 f1062_34 f1062_35 gz1043 gx1126 gx1110 gx1118) hZ (own_w hw 69 rfl) (own_w hw 13 rfl) (by decide) (by decide)) q1136a q1136c (g := (mkF m 173 #[iv x0, iv x1, .val (.long x2), .second, .val (.long x4), .second, iv x6, iv x7, iv x8, iv x9, .val (.long x10), .second, iv x12, iv x13, rv b1000, rv b1004, rv b1009, rv b1016, rv b1025, rv b1033, rv b1043, iv 0, .unset] [(.ref b1016), (.ref b1043)])) rfl (by rw [hml]; rfl) (Steps.refl _) (argsL := [(.ref b1016)]) (rest := []) (lenOf own_pd13 rfl) rfl (by show 2 * 0 + _ ≤ _; exact Nat.le_of_eq rfl) (hb hby at_173) (fun _ _ => ⟨rfl, e1129, (show cells + 1 + 1 + 1 + 1 + 1 + 1 + 1 + 8 + 0 ≤ 40 by omega), (show slots + 3 + 3 + 3 + 3 + 3 + 3 + 10 + 2064 + 0 ≤ 6336 by omega)⟩)
    dsimp only [Pt.U, Pt.locs, Pt.cells, Pt.slots] at X1136 l1136 y1136 z1136 st1136 hQ1136
    rw [l1136, y1136, z1136] at X1136
    obtain ⟨rl_1136, u0_1136, rfl, N1136q, K1136q, f1136_0, f1136_1, f1136_2, f1136_3, f1136_4, f1136_5, f1136_6, f1136_7⟩ := hQ1136
    obtain ⟨h1136, e1136⟩ : ∃ z, T1136.heap = z := ⟨_, rfl⟩
    rw [e1136] at K1136q f1136_0 f1136_1 f1136_2 f1136_3 f1136_4 f1136_5 f1136_6
    have Z1136 : n0 ≤ h1136.size := Nat.le_trans Z1129 K1136q.1
    have N1136 := Fr.app N1129 N1136q
    refine own_st (fun t k => st1136.trans k) ?_
    rcases f1136_7 with ⟨rfl, eu0⟩ | ⟨rfl, eu0⟩
    · skip
      refine own_st (g' := (mkF m 184 #[iv x0, iv x1, .val (.long x2), .second, .val (.long x4), .second, iv x6, iv x7, iv x8, iv x9, .val (.long x10), .second, iv x12, iv x13, rv b1000, rv b1004, rv b1009, rv b1016, rv b1025, rv b1033, rv b1043, iv 0, iv 1] [(.ref b1025), (.int 0), (.ref b1043)])) (fun tt_ kk_ => XS.istore X1136.here hx rfl (hb hby at_176) rfl (l' := #[iv x0, iv x1, .val (.long x2), .second, .val (.long x4), .second, iv x6, iv x7, iv x8, iv x9, .val (.long x10), .second, iv x12, iv x13, rv b1000, rv b1004, rv b1009, rv b1016, rv b1025, rv b1033, rv b1043, iv 0, iv 1]) rfl (XS.aload X1136.here hx rfl (hb hby at_178) rfl rfl (XS.iload X1136.here hx rfl (hb hby at_180) rfl (XS.aload X1136.here hx rfl (hb hby at_182) rfl rfl kk_)))) ?_
      have F1137 := (F1130.keep K1136q)
      have F1138 := (F1131.keep K1136q (ninS (Ne.symm ne1069) (ninS f1062_18 (ninS f1062_23 (ninS f1062_28 nin0)))))
      have F1139 := ((f1062_12.keep K1129q (ninS (Ne.symm ne1085) (ninS f1062_20 (ninS f1062_25 (ninS f1062_30 nin0))))).keep K1136q (ninS (Ne.symm ne1085) (ninS f1062_20 (ninS f1062_25 (ninS f1062_30 nin0)))))
      have F1140 := (F1133.keep K1136q (ninS (Ne.symm ne1093) (ninS f1062_21 (ninS f1062_26 (ninS f1062_31 nin0)))))
      have F1141 := (F1134.keep K1136q (ninS (Ne.symm ne1101) (ninS f1062_22 (ninS f1062_27 (ninS f1062_32 nin0)))))
      have F1142 := (((F1058.keep K1062q (ninS ne1052 nin0)).keep K1129q (ninS ne1052 (ninS ne1123 (ninS ne1107 (ninS ne1115 nin0))))).keep K1136q (ninS ne1052 (ninS ne1123 (ninS ne1107 (ninS ne1115 nin0)))))
      obtain ⟨cq1143, kq1143, q1143a, q1143b, q1143c⟩ := isOf hZ e1136 F1137
      obtain ⟨_, _, ⟨T1143, L1143, k1143, n1143⟩, -, X1143, ⟨Lc1143, hQ1143, l1143, y1143, z1143⟩, st1143⟩ := X1136.virtualBack hx (y := (⟨own_z0, "get", "(I[I)V"⟩ : MethodName)) (z := (⟨own_z0, "get", "(I[I)V"⟩ : MethodName)) hown (mvT hZ (own_w hw 102 rfl)) (mvT hZ (own_w hw 103 rfl)) (notFace_of_selects (args := #[]) (mvT hZ (own_w hw 105 rfl))) (mvT hZ (own_w hw 105 rfl)) (mvT hZ (own_w hw 104 rfl)) (by decide) (backOf (W := 0) (own_rmgetA0 l Z a0 hw [] b1043 b1025 aL_1062 aM_1062 aW_1062 aH_1062 aP_1062 kaL_1062 x8 (-2147483648 : Int32) (-2147483648 : Int32) kaM_1062 (((1 : Int64) <<< (((64 : Int32) - NL) &&& 0x3f).toInt64) - (1 : Int64)) (((1 : Int64) <<< ((32 : Int32) &&& 0x3f).toInt64) - (1 : Int64)) (((1 : Int64) <<< ((32 : Int32) &&& 0x3f).toInt64) - (1 : Int64)) kaW_1062 kaH_1062 (0 : Int32) ((0 : Int32) + ((64 : Int32) - NL)) (((0 : Int32) + ((64 : Int32) - NL)) + (32 : Int32)) k1025 (0 : Int32) (0 : Int32) (0 : Int32) kaP_1062 (own_kA x12 x6 x7 x8 (-2147483648 : Int32) (-2147483648 : Int32) (0 : Int32) ((0 : Int32) + ((64 : Int32) - NL)) (((0 : Int32) + ((64 : Int32) - NL)) + (32 : Int32))) u0_1136 h1136 n0 Z1136 F1137 f1136_0 f1136_1 f1136_2 f1136_3 f1136_4 f1136_5 F1138 F1139 F1140 F1141 F1142 f1136_6 (Ne.symm ne1052) (Ne.symm ne1067) (Ne.symm ne1083) (Ne.symm ne1091) (Ne.symm ne1099) (Ne.symm ne1107) gz1025) hZ (own_w hw 106 rfl) (own_w hw 13 rfl) (by decide) (by decide)) q1143a q1143c (g := (mkF m 184 #[iv x0, iv x1, .val (.long x2), .second, .val (.long x4), .second, iv x6, iv x7, iv x8, iv x9, .val (.long x10), .second, iv x12, iv x13, rv b1000, rv b1004, rv b1009, rv b1016, rv b1025, rv b1033, rv b1043, iv 0, iv 1] [(.ref b1025), (.int 0), (.ref b1043)])) rfl (by rw [hml]; rfl) (Steps.refl _) (argsL := [(.int 0), (.ref b1025)]) (rest := []) (lenOf own_pd14 rfl) rfl (by show 2 * 0 + _ ≤ _; exact Nat.le_of_eq rfl) (hb hby at_184) (fun _ _ => ⟨rfl, e1136, (show cells + 1 + 1 + 1 + 1 + 1 + 1 + 1 + 8 + 0 ≤ 40 by omega), (show slots + 3 + 3 + 3 + 3 + 3 + 3 + 10 + 2064 + 0 ≤ 6336 by omega)⟩)
      dsimp only [Pt.U, Pt.locs, Pt.cells, Pt.slots] at X1143 l1143 y1143 z1143 st1143 hQ1143
      rw [l1143, y1143, z1143] at X1143
      obtain ⟨rfl, N1143q, K1143q, f1143_0⟩ := hQ1143
      obtain ⟨h1143, e1143⟩ : ∃ z, T1143.heap = z := ⟨_, rfl⟩
      rw [e1143] at K1143q f1143_0
      have Z1143 : n0 ≤ h1143.size := Nat.le_trans Z1136 K1143q.1
      have N1143 := Fr.app N1136 N1143q
      refine own_st (fun t k => st1143.trans k) ?_
      refine own_st (g' := (mkF m 193 #[iv x0, iv x1, .val (.long x2), .second, .val (.long x4), .second, iv x6, iv x7, iv x8, iv x9, .val (.long x10), .second, iv x12, iv x13, rv b1000, rv b1004, rv b1009, rv b1016, rv b1025, rv b1033, rv b1043, iv 0, iv 1] [(.ref b1033), (.int 1), (.ref b1043)])) (fun tt_ kk_ => XS.aload X1143.here hx rfl (hb hby at_187) rfl rfl (XS.iload X1143.here hx rfl (hb hby at_189) rfl (XS.aload X1143.here hx rfl (hb hby at_191) rfl rfl kk_))) ?_
      have F1144 := (F1137.keep K1143q)
      have F1145 := (f1136_0.keep K1143q (ninS (Ne.symm ne1052) nin0))
      have F1146 := (f1136_1.keep K1143q (ninS (Ne.symm ne1052) nin0))
      have F1147 := (f1136_2.keep K1143q (ninS (Ne.symm ne1052) nin0))
      have F1148 := (f1136_3.keep K1143q (ninS (Ne.symm ne1052) nin0))
      have F1149 := (f1136_4.keep K1143q (ninS (Ne.symm ne1052) nin0))
      have F1150 := (f1136_5.keep K1143q (ninS (Ne.symm ne1052) nin0))
      have F1151 := (F1138.keep K1143q (ninS (Ne.symm ne1067) nin0))
      have F1152 := (F1139.keep K1143q (ninS (Ne.symm ne1083) nin0))
      have F1153 := (F1140.keep K1143q (ninS (Ne.symm ne1091) nin0))
      have F1154 := (F1141.keep K1143q (ninS (Ne.symm ne1099) nin0))
      have F1155 := ((((F1059.keep K1062q (ninS ne1054 nin0)).keep K1129q (ninS ne1054 (ninS ne1124 (ninS ne1108 (ninS ne1116 nin0))))).keep K1136q (ninS ne1054 (ninS ne1124 (ninS ne1108 (ninS ne1116 nin0))))).keep K1143q (ninS (Ne.symm ne1042) nin0))
      have F1156 := (f1136_6.keep K1143q (ninS (Ne.symm ne1107) nin0))
      obtain ⟨cq1157, kq1157, q1157a, q1157b, q1157c⟩ := isOf hZ e1143 F1144
      obtain ⟨_, _, ⟨T1157, L1157, k1157, n1157⟩, -, X1157, ⟨Lc1157, hQ1157, l1157, y1157, z1157⟩, st1157⟩ := X1143.virtualBack hx (y := (⟨own_z0, "get", "(I[I)V"⟩ : MethodName)) (z := (⟨own_z0, "get", "(I[I)V"⟩ : MethodName)) hown (mvT hZ (own_w hw 102 rfl)) (mvT hZ (own_w hw 103 rfl)) (notFace_of_selects (args := #[]) (mvT hZ (own_w hw 105 rfl))) (mvT hZ (own_w hw 105 rfl)) (mvT hZ (own_w hw 104 rfl)) (by decide) (backOf (W := 0) (own_rmgetA1 l Z a0 hw [] b1043 b1033 aL_1062 aM_1062 aW_1062 aH_1062 aP_1062 kaL_1062 x8 (-2147483648 : Int32) (-2147483648 : Int32) kaM_1062 (((1 : Int64) <<< (((64 : Int32) - NL) &&& 0x3f).toInt64) - (1 : Int64)) (((1 : Int64) <<< ((32 : Int32) &&& 0x3f).toInt64) - (1 : Int64)) (((1 : Int64) <<< ((32 : Int32) &&& 0x3f).toInt64) - (1 : Int64)) kaW_1062 kaH_1062 (0 : Int32) ((0 : Int32) + ((64 : Int32) - NL)) (((0 : Int32) + ((64 : Int32) - NL)) + (32 : Int32)) k1033 (0 : Int32) (0 : Int32) (0 : Int32) kaP_1062 (own_kA x12 x6 x7 x8 (-2147483648 : Int32) (-2147483648 : Int32) (0 : Int32) ((0 : Int32) + ((64 : Int32) - NL)) (((0 : Int32) + ((64 : Int32) - NL)) + (32 : Int32))) u0_1136 h1143 n0 Z1143 F1144 F1145 F1146 F1147 F1148 F1149 F1150 F1151 F1152 F1153 F1154 F1155 F1156 (Ne.symm ne1054) (Ne.symm ne1068) (Ne.symm ne1084) (Ne.symm ne1092) (Ne.symm ne1100) (Ne.symm ne1108) gz1033) hZ (own_w hw 106 rfl) (own_w hw 13 rfl) (by decide) (by decide)) q1157a q1157c (g := (mkF m 193 #[iv x0, iv x1, .val (.long x2), .second, .val (.long x4), .second, iv x6, iv x7, iv x8, iv x9, .val (.long x10), .second, iv x12, iv x13, rv b1000, rv b1004, rv b1009, rv b1016, rv b1025, rv b1033, rv b1043, iv 0, iv 1] [(.ref b1033), (.int 1), (.ref b1043)])) rfl (by rw [hml]; rfl) (Steps.refl _) (argsL := [(.int 1), (.ref b1033)]) (rest := []) (lenOf own_pd14 rfl) rfl (by show 2 * 0 + _ ≤ _; exact Nat.le_of_eq rfl) (hb hby at_193) (fun _ _ => ⟨rfl, e1143, (show cells + 1 + 1 + 1 + 1 + 1 + 1 + 1 + 8 + 0 ≤ 40 by omega), (show slots + 3 + 3 + 3 + 3 + 3 + 3 + 10 + 2064 + 0 ≤ 6336 by omega)⟩)
      dsimp only [Pt.U, Pt.locs, Pt.cells, Pt.slots] at X1157 l1157 y1157 z1157 st1157 hQ1157
      rw [l1157, y1157, z1157] at X1157
      obtain ⟨rfl, N1157q, K1157q, f1157_0⟩ := hQ1157
      obtain ⟨h1157, e1157⟩ : ∃ z, T1157.heap = z := ⟨_, rfl⟩
      rw [e1157] at K1157q f1157_0
      have Z1157 : n0 ≤ h1157.size := Nat.le_trans Z1143 K1157q.1
      have N1157 := Fr.app N1143 N1157q
      refine own_st (fun t k => st1157.trans k) ?_
      refine own_st (g' := (mkF m 199 #[iv x0, iv x1, .val (.long x2), .second, .val (.long x4), .second, iv x6, iv x7, iv x8, iv x9, .val (.long x10), .second, iv x12, iv x13, rv b1000, rv b1004, rv b1009, rv b1016, rv b1025, rv b1033, rv b1043, iv 0, iv 1] [(.int 0), (.ref b1025)])) (fun tt_ kk_ => XS.aload X1157.here hx rfl (hb hby at_196) rfl rfl (XS.iconst X1157.here hx rfl (hb hby at_198) kk_)) ?_
      have F1158 := (f1143_0.keep K1157q (ninS ne1042 nin0))
      refine own_st (g' := (mkF m 202 #[iv x0, iv x1, .val (.long x2), .second, .val (.long x4), .second, iv x6, iv x7, iv x8, iv x9, .val (.long x10), .second, iv x12, iv x13, rv b1000, rv b1004, rv b1009, rv b1016, rv b1025, rv b1033, rv b1043, iv 0, iv 1] [(.int x12), (.int (own_gv x8 (own_kA x12 x6 x7 x8 (-2147483648 : Int32) (-2147483648 : Int32) (0 : Int32) ((0 : Int32) + ((64 : Int32) - NL)) (((0 : Int32) + ((64 : Int32) - NL)) + (32 : Int32))) (0 : Int32) (((1 : Int64) <<< (((64 : Int32) - NL) &&& 0x3f).toInt64) - (1 : Int64))))])) (fun tt_ kk_ => own_lvI (g := (mkF m 199 #[iv x0, iv x1, .val (.long x2), .second, .val (.long x4), .second, iv x6, iv x7, iv x8, iv x9, .val (.long x10), .second, iv x12, iv x13, rv b1000, rv b1004, rv b1009, rv b1016, rv b1025, rv b1033, rv b1043, iv 0, iv 1] [(.int 0), (.ref b1025)])) X1157 hx hZ e1157 F1158 (by decide) rfl rfl rfl (hb hby at_199) tt_ (XS.iload X1157.here hx rfl (hb hby at_200) rfl kk_)) ?_
      refine own_st (g' := (mkF m 208 #[iv x0, iv x1, .val (.long x2), .second, .val (.long x4), .second, iv x6, iv x7, iv x8, iv x9, .val (.long x10), .second, iv x12, iv x13, rv b1000, rv b1004, rv b1009, rv b1016, rv b1025, rv b1033, rv b1043, iv 0, iv 1] [(.int 1), (.ref b1025)])) (fun tt_ kk_ => XS.icmpNo X1157.here hx rfl (hb hby at_202) rfl (teq (own_rA0 (own_mk0' hzw hBw) (own_pz hzw hA hxw))).2 (XS.aload X1157.here hx rfl (hb hby at_205) rfl rfl (XS.iconst X1157.here hx rfl (hb hby at_207) kk_))) ?_
      refine own_st (g' := (mkF m 211 #[iv x0, iv x1, .val (.long x2), .second, .val (.long x4), .second, iv x6, iv x7, iv x8, iv x9, .val (.long x10), .second, iv x12, iv x13, rv b1000, rv b1004, rv b1009, rv b1016, rv b1025, rv b1033, rv b1043, iv 0, iv 1] [(.int x6), (.int (own_gv (-2147483648 : Int32) (own_kA x12 x6 x7 x8 (-2147483648 : Int32) (-2147483648 : Int32) (0 : Int32) ((0 : Int32) + ((64 : Int32) - NL)) (((0 : Int32) + ((64 : Int32) - NL)) + (32 : Int32))) ((0 : Int32) + ((64 : Int32) - NL)) (((1 : Int64) <<< ((32 : Int32) &&& 0x3f).toInt64) - (1 : Int64))))])) (fun tt_ kk_ => own_lvI (g := (mkF m 208 #[iv x0, iv x1, .val (.long x2), .second, .val (.long x4), .second, iv x6, iv x7, iv x8, iv x9, .val (.long x10), .second, iv x12, iv x13, rv b1000, rv b1004, rv b1009, rv b1016, rv b1025, rv b1033, rv b1043, iv 0, iv 1] [(.int 1), (.ref b1025)])) X1157 hx hZ e1157 F1158 (by decide) rfl rfl rfl (hb hby at_208) tt_ (XS.iload X1157.here hx rfl (hb hby at_209) rfl kk_)) ?_
      refine own_st (g' := (mkF m 217 #[iv x0, iv x1, .val (.long x2), .second, .val (.long x4), .second, iv x6, iv x7, iv x8, iv x9, .val (.long x10), .second, iv x12, iv x13, rv b1000, rv b1004, rv b1009, rv b1016, rv b1025, rv b1033, rv b1043, iv 0, iv 1] [(.int 2), (.ref b1025)])) (fun tt_ kk_ => XS.icmpNo X1157.here hx rfl (hb hby at_211) rfl (teq (own_rA1 rfl (own_sh1' hzw hBw) (own_sh2 hzw hBw) own_mk1 (own_pz hzw hA hxw) own_min own_min)).2 (XS.aload X1157.here hx rfl (hb hby at_214) rfl rfl (XS.iconst X1157.here hx rfl (hb hby at_216) kk_))) ?_
      refine own_st (g' := (mkF m 220 #[iv x0, iv x1, .val (.long x2), .second, .val (.long x4), .second, iv x6, iv x7, iv x8, iv x9, .val (.long x10), .second, iv x12, iv x13, rv b1000, rv b1004, rv b1009, rv b1016, rv b1025, rv b1033, rv b1043, iv 0, iv 1] [(.int x7), (.int (own_gv (-2147483648 : Int32) (own_kA x12 x6 x7 x8 (-2147483648 : Int32) (-2147483648 : Int32) (0 : Int32) ((0 : Int32) + ((64 : Int32) - NL)) (((0 : Int32) + ((64 : Int32) - NL)) + (32 : Int32))) (((0 : Int32) + ((64 : Int32) - NL)) + (32 : Int32)) (((1 : Int64) <<< ((32 : Int32) &&& 0x3f).toInt64) - (1 : Int64))))])) (fun tt_ kk_ => own_lvI (g := (mkF m 217 #[iv x0, iv x1, .val (.long x2), .second, .val (.long x4), .second, iv x6, iv x7, iv x8, iv x9, .val (.long x10), .second, iv x12, iv x13, rv b1000, rv b1004, rv b1009, rv b1016, rv b1025, rv b1033, rv b1043, iv 0, iv 1] [(.int 2), (.ref b1025)])) X1157 hx hZ e1157 F1158 (by decide) rfl rfl rfl (hb hby at_217) tt_ (XS.iload X1157.here hx rfl (hb hby at_218) rfl kk_)) ?_
      refine own_st (g' := (mkF m 226 #[iv x0, iv x1, .val (.long x2), .second, .val (.long x4), .second, iv x6, iv x7, iv x8, iv x9, .val (.long x10), .second, iv x12, iv x13, rv b1000, rv b1004, rv b1009, rv b1016, rv b1025, rv b1033, rv b1043, iv 0, iv 1] [(.int 0), (.ref b1033)])) (fun tt_ kk_ => XS.icmpNo X1157.here hx rfl (hb hby at_220) rfl (teq (own_rA2 rfl (own_sh1' hzw hBw) (own_sh2 hzw hBw) own_mk1 (own_pz hzw hA hxw) own_min own_min)).2 (XS.aload X1157.here hx rfl (hb hby at_223) rfl rfl (XS.iconst X1157.here hx rfl (hb hby at_225) kk_))) ?_
      refine own_st (g' := (mkF m 229 #[iv x0, iv x1, .val (.long x2), .second, .val (.long x4), .second, iv x6, iv x7, iv x8, iv x9, .val (.long x10), .second, iv x12, iv x13, rv b1000, rv b1004, rv b1009, rv b1016, rv b1025, rv b1033, rv b1043, iv 0, iv 1] [(.int x13), (.int (own_gv x8 u0_1136 (0 : Int32) (((1 : Int64) <<< (((64 : Int32) - NL) &&& 0x3f).toInt64) - (1 : Int64))))])) (fun tt_ kk_ => own_lvI (g := (mkF m 226 #[iv x0, iv x1, .val (.long x2), .second, .val (.long x4), .second, iv x6, iv x7, iv x8, iv x9, .val (.long x10), .second, iv x12, iv x13, rv b1000, rv b1004, rv b1009, rv b1016, rv b1025, rv b1033, rv b1043, iv 0, iv 1] [(.int 0), (.ref b1033)])) X1157 hx hZ e1157 f1157_0 (by decide) rfl rfl rfl (hb hby at_226) tt_ (XS.iload X1157.here hx rfl (hb hby at_227) rfl kk_)) ?_
      refine own_st (g' := (mkF m 235 #[iv x0, iv x1, .val (.long x2), .second, .val (.long x4), .second, iv x6, iv x7, iv x8, iv x9, .val (.long x10), .second, iv x12, iv x13, rv b1000, rv b1004, rv b1009, rv b1016, rv b1025, rv b1033, rv b1043, iv 0, iv 1] [(.int 1), (.ref b1033)])) (fun tt_ kk_ => XS.icmpNo X1157.here hx rfl (hb hby at_229) rfl (teq (by rw [eu0]; exact own_rA0 (own_mk0' hzw hBw) (own_pz hzw hB hxw))).2 (XS.aload X1157.here hx rfl (hb hby at_232) rfl rfl (XS.iconst X1157.here hx rfl (hb hby at_234) kk_))) ?_
      refine own_st (g' := (mkF m 238 #[iv x0, iv x1, .val (.long x2), .second, .val (.long x4), .second, iv x6, iv x7, iv x8, iv x9, .val (.long x10), .second, iv x12, iv x13, rv b1000, rv b1004, rv b1009, rv b1016, rv b1025, rv b1033, rv b1043, iv 0, iv 1] [(.int x7), (.int (own_gv (-2147483648 : Int32) u0_1136 ((0 : Int32) + ((64 : Int32) - NL)) (((1 : Int64) <<< ((32 : Int32) &&& 0x3f).toInt64) - (1 : Int64))))])) (fun tt_ kk_ => own_lvI (g := (mkF m 235 #[iv x0, iv x1, .val (.long x2), .second, .val (.long x4), .second, iv x6, iv x7, iv x8, iv x9, .val (.long x10), .second, iv x12, iv x13, rv b1000, rv b1004, rv b1009, rv b1016, rv b1025, rv b1033, rv b1043, iv 0, iv 1] [(.int 1), (.ref b1033)])) X1157 hx hZ e1157 f1157_0 (by decide) rfl rfl rfl (hb hby at_235) tt_ (XS.iload X1157.here hx rfl (hb hby at_236) rfl kk_)) ?_
      refine own_st (g' := (mkF m 244 #[iv x0, iv x1, .val (.long x2), .second, .val (.long x4), .second, iv x6, iv x7, iv x8, iv x9, .val (.long x10), .second, iv x12, iv x13, rv b1000, rv b1004, rv b1009, rv b1016, rv b1025, rv b1033, rv b1043, iv 0, iv 1] [(.int 2), (.ref b1033)])) (fun tt_ kk_ => XS.icmpNo X1157.here hx rfl (hb hby at_238) rfl (teq (by rw [eu0]; exact own_rA1 rfl (own_sh1' hzw hBw) (own_sh2 hzw hBw) own_mk1 (own_pz hzw hB hxw) own_min own_min)).2 (XS.aload X1157.here hx rfl (hb hby at_241) rfl rfl (XS.iconst X1157.here hx rfl (hb hby at_243) kk_))) ?_
      refine own_st (g' := (mkF m 247 #[iv x0, iv x1, .val (.long x2), .second, .val (.long x4), .second, iv x6, iv x7, iv x8, iv x9, .val (.long x10), .second, iv x12, iv x13, rv b1000, rv b1004, rv b1009, rv b1016, rv b1025, rv b1033, rv b1043, iv 0, iv 1] [(.int x6), (.int (own_gv (-2147483648 : Int32) u0_1136 (((0 : Int32) + ((64 : Int32) - NL)) + (32 : Int32)) (((1 : Int64) <<< ((32 : Int32) &&& 0x3f).toInt64) - (1 : Int64))))])) (fun tt_ kk_ => own_lvI (g := (mkF m 244 #[iv x0, iv x1, .val (.long x2), .second, .val (.long x4), .second, iv x6, iv x7, iv x8, iv x9, .val (.long x10), .second, iv x12, iv x13, rv b1000, rv b1004, rv b1009, rv b1016, rv b1025, rv b1033, rv b1043, iv 0, iv 1] [(.int 2), (.ref b1033)])) X1157 hx hZ e1157 f1157_0 (by decide) rfl rfl rfl (hb hby at_244) tt_ (XS.iload X1157.here hx rfl (hb hby at_245) rfl kk_)) ?_
      refine own_st (g' := (mkF m 255 #[iv x0, iv x1, .val (.long x2), .second, .val (.long x4), .second, iv x6, iv x7, iv x8, iv x9, .val (.long x10), .second, iv x12, iv x13, rv b1000, rv b1004, rv b1009, rv b1016, rv b1025, rv b1033, rv b1043, iv 0, iv 1] [(.int 1)])) (fun tt_ kk_ => XS.icmpNo X1157.here hx rfl (hb hby at_247) rfl (teq (by rw [eu0]; exact own_rA2 rfl (own_sh1' hzw hBw) (own_sh2 hzw hBw) own_mk1 (own_pz hzw hB hxw) own_min own_min)).2 (XS.iconst X1157.here hx rfl (hb hby at_250) (XS.goto X1157.here hx rfl (pc0 := 251) (pc' := 255) rfl (hb hby at_251) (by decide) (by decide) kk_))) ?_
      exact own_retN X1157 hx hlk (t := .boolean) (Or.inl rfl) hret (hb hby at_255) (by omega) (by omega) ⟨rfl, N1157⟩
    · skip
      refine own_st (g' := (mkF m 184 #[iv x0, iv x1, .val (.long x2), .second, .val (.long x4), .second, iv x6, iv x7, iv x8, iv x9, .val (.long x10), .second, iv x12, iv x13, rv b1000, rv b1004, rv b1009, rv b1016, rv b1025, rv b1033, rv b1043, iv 0, iv 0] [(.ref b1025), (.int 0), (.ref b1043)])) (fun tt_ kk_ => XS.istore X1136.here hx rfl (hb hby at_176) rfl (l' := #[iv x0, iv x1, .val (.long x2), .second, .val (.long x4), .second, iv x6, iv x7, iv x8, iv x9, .val (.long x10), .second, iv x12, iv x13, rv b1000, rv b1004, rv b1009, rv b1016, rv b1025, rv b1033, rv b1043, iv 0, iv 0]) rfl (XS.aload X1136.here hx rfl (hb hby at_178) rfl rfl (XS.iload X1136.here hx rfl (hb hby at_180) rfl (XS.aload X1136.here hx rfl (hb hby at_182) rfl rfl kk_)))) ?_
      have F1159 := (F1130.keep K1136q)
      have F1160 := (F1131.keep K1136q (ninS (Ne.symm ne1069) (ninS f1062_18 (ninS f1062_23 (ninS f1062_28 nin0)))))
      have F1161 := ((f1062_12.keep K1129q (ninS (Ne.symm ne1085) (ninS f1062_20 (ninS f1062_25 (ninS f1062_30 nin0))))).keep K1136q (ninS (Ne.symm ne1085) (ninS f1062_20 (ninS f1062_25 (ninS f1062_30 nin0)))))
      have F1162 := (F1133.keep K1136q (ninS (Ne.symm ne1093) (ninS f1062_21 (ninS f1062_26 (ninS f1062_31 nin0)))))
      have F1163 := (F1134.keep K1136q (ninS (Ne.symm ne1101) (ninS f1062_22 (ninS f1062_27 (ninS f1062_32 nin0)))))
      have F1164 := (((F1058.keep K1062q (ninS ne1052 nin0)).keep K1129q (ninS ne1052 (ninS ne1123 (ninS ne1107 (ninS ne1115 nin0))))).keep K1136q (ninS ne1052 (ninS ne1123 (ninS ne1107 (ninS ne1115 nin0)))))
      obtain ⟨cq1165, kq1165, q1165a, q1165b, q1165c⟩ := isOf hZ e1136 F1159
      obtain ⟨_, _, ⟨T1165, L1165, k1165, n1165⟩, -, X1165, ⟨Lc1165, hQ1165, l1165, y1165, z1165⟩, st1165⟩ := X1136.virtualBack hx (y := (⟨own_z0, "get", "(I[I)V"⟩ : MethodName)) (z := (⟨own_z0, "get", "(I[I)V"⟩ : MethodName)) hown (mvT hZ (own_w hw 102 rfl)) (mvT hZ (own_w hw 103 rfl)) (notFace_of_selects (args := #[]) (mvT hZ (own_w hw 105 rfl))) (mvT hZ (own_w hw 105 rfl)) (mvT hZ (own_w hw 104 rfl)) (by decide) (backOf (W := 0) (own_rmgetA0 l Z a0 hw [] b1043 b1025 aL_1062 aM_1062 aW_1062 aH_1062 aP_1062 kaL_1062 x8 (-2147483648 : Int32) (-2147483648 : Int32) kaM_1062 (((1 : Int64) <<< (((64 : Int32) - NL) &&& 0x3f).toInt64) - (1 : Int64)) (((1 : Int64) <<< ((32 : Int32) &&& 0x3f).toInt64) - (1 : Int64)) (((1 : Int64) <<< ((32 : Int32) &&& 0x3f).toInt64) - (1 : Int64)) kaW_1062 kaH_1062 (0 : Int32) ((0 : Int32) + ((64 : Int32) - NL)) (((0 : Int32) + ((64 : Int32) - NL)) + (32 : Int32)) k1025 (0 : Int32) (0 : Int32) (0 : Int32) kaP_1062 (own_kA x12 x6 x7 x8 (-2147483648 : Int32) (-2147483648 : Int32) (0 : Int32) ((0 : Int32) + ((64 : Int32) - NL)) (((0 : Int32) + ((64 : Int32) - NL)) + (32 : Int32))) u0_1136 h1136 n0 Z1136 F1159 f1136_0 f1136_1 f1136_2 f1136_3 f1136_4 f1136_5 F1160 F1161 F1162 F1163 F1164 f1136_6 (Ne.symm ne1052) (Ne.symm ne1067) (Ne.symm ne1083) (Ne.symm ne1091) (Ne.symm ne1099) (Ne.symm ne1107) gz1025) hZ (own_w hw 106 rfl) (own_w hw 13 rfl) (by decide) (by decide)) q1165a q1165c (g := (mkF m 184 #[iv x0, iv x1, .val (.long x2), .second, .val (.long x4), .second, iv x6, iv x7, iv x8, iv x9, .val (.long x10), .second, iv x12, iv x13, rv b1000, rv b1004, rv b1009, rv b1016, rv b1025, rv b1033, rv b1043, iv 0, iv 0] [(.ref b1025), (.int 0), (.ref b1043)])) rfl (by rw [hml]; rfl) (Steps.refl _) (argsL := [(.int 0), (.ref b1025)]) (rest := []) (lenOf own_pd14 rfl) rfl (by show 2 * 0 + _ ≤ _; exact Nat.le_of_eq rfl) (hb hby at_184) (fun _ _ => ⟨rfl, e1136, (show cells + 1 + 1 + 1 + 1 + 1 + 1 + 1 + 8 + 0 ≤ 40 by omega), (show slots + 3 + 3 + 3 + 3 + 3 + 3 + 10 + 2064 + 0 ≤ 6336 by omega)⟩)
      dsimp only [Pt.U, Pt.locs, Pt.cells, Pt.slots] at X1165 l1165 y1165 z1165 st1165 hQ1165
      rw [l1165, y1165, z1165] at X1165
      obtain ⟨rfl, N1165q, K1165q, f1165_0⟩ := hQ1165
      obtain ⟨h1165, e1165⟩ : ∃ z, T1165.heap = z := ⟨_, rfl⟩
      rw [e1165] at K1165q f1165_0
      have Z1165 : n0 ≤ h1165.size := Nat.le_trans Z1136 K1165q.1
      have N1165 := Fr.app N1136 N1165q
      refine own_st (fun t k => st1165.trans k) ?_
      refine own_st (g' := (mkF m 193 #[iv x0, iv x1, .val (.long x2), .second, .val (.long x4), .second, iv x6, iv x7, iv x8, iv x9, .val (.long x10), .second, iv x12, iv x13, rv b1000, rv b1004, rv b1009, rv b1016, rv b1025, rv b1033, rv b1043, iv 0, iv 0] [(.ref b1033), (.int 0), (.ref b1043)])) (fun tt_ kk_ => XS.aload X1165.here hx rfl (hb hby at_187) rfl rfl (XS.iload X1165.here hx rfl (hb hby at_189) rfl (XS.aload X1165.here hx rfl (hb hby at_191) rfl rfl kk_))) ?_
      have F1166 := (F1159.keep K1165q)
      have F1167 := (f1136_0.keep K1165q (ninS (Ne.symm ne1052) nin0))
      have F1168 := (f1136_1.keep K1165q (ninS (Ne.symm ne1052) nin0))
      have F1169 := (f1136_2.keep K1165q (ninS (Ne.symm ne1052) nin0))
      have F1170 := (f1136_3.keep K1165q (ninS (Ne.symm ne1052) nin0))
      have F1171 := (f1136_4.keep K1165q (ninS (Ne.symm ne1052) nin0))
      have F1172 := (f1136_5.keep K1165q (ninS (Ne.symm ne1052) nin0))
      have F1173 := (F1160.keep K1165q (ninS (Ne.symm ne1067) nin0))
      have F1174 := (F1161.keep K1165q (ninS (Ne.symm ne1083) nin0))
      have F1175 := (F1162.keep K1165q (ninS (Ne.symm ne1091) nin0))
      have F1176 := (F1163.keep K1165q (ninS (Ne.symm ne1099) nin0))
      have F1177 := ((((F1059.keep K1062q (ninS ne1054 nin0)).keep K1129q (ninS ne1054 (ninS ne1124 (ninS ne1108 (ninS ne1116 nin0))))).keep K1136q (ninS ne1054 (ninS ne1124 (ninS ne1108 (ninS ne1116 nin0))))).keep K1165q (ninS (Ne.symm ne1042) nin0))
      have F1178 := (f1136_6.keep K1165q (ninS (Ne.symm ne1107) nin0))
      obtain ⟨cq1179, kq1179, q1179a, q1179b, q1179c⟩ := isOf hZ e1165 F1166
      obtain ⟨_, _, ⟨T1179, L1179, k1179, n1179⟩, -, X1179, ⟨Lc1179, hQ1179, l1179, y1179, z1179⟩, st1179⟩ := X1165.virtualBack hx (y := (⟨own_z0, "get", "(I[I)V"⟩ : MethodName)) (z := (⟨own_z0, "get", "(I[I)V"⟩ : MethodName)) hown (mvT hZ (own_w hw 102 rfl)) (mvT hZ (own_w hw 103 rfl)) (notFace_of_selects (args := #[]) (mvT hZ (own_w hw 105 rfl))) (mvT hZ (own_w hw 105 rfl)) (mvT hZ (own_w hw 104 rfl)) (by decide) (backOf (W := 0) (own_rmgetA0 l Z a0 hw [] b1043 b1033 aL_1062 aM_1062 aW_1062 aH_1062 aP_1062 kaL_1062 x8 (-2147483648 : Int32) (-2147483648 : Int32) kaM_1062 (((1 : Int64) <<< (((64 : Int32) - NL) &&& 0x3f).toInt64) - (1 : Int64)) (((1 : Int64) <<< ((32 : Int32) &&& 0x3f).toInt64) - (1 : Int64)) (((1 : Int64) <<< ((32 : Int32) &&& 0x3f).toInt64) - (1 : Int64)) kaW_1062 kaH_1062 (0 : Int32) ((0 : Int32) + ((64 : Int32) - NL)) (((0 : Int32) + ((64 : Int32) - NL)) + (32 : Int32)) k1033 (0 : Int32) (0 : Int32) (0 : Int32) kaP_1062 (own_kA x12 x6 x7 x8 (-2147483648 : Int32) (-2147483648 : Int32) (0 : Int32) ((0 : Int32) + ((64 : Int32) - NL)) (((0 : Int32) + ((64 : Int32) - NL)) + (32 : Int32))) u0_1136 h1165 n0 Z1165 F1166 F1167 F1168 F1169 F1170 F1171 F1172 F1173 F1174 F1175 F1176 F1177 F1178 (Ne.symm ne1054) (Ne.symm ne1068) (Ne.symm ne1084) (Ne.symm ne1092) (Ne.symm ne1100) (Ne.symm ne1108) gz1033) hZ (own_w hw 106 rfl) (own_w hw 13 rfl) (by decide) (by decide)) q1179a q1179c (g := (mkF m 193 #[iv x0, iv x1, .val (.long x2), .second, .val (.long x4), .second, iv x6, iv x7, iv x8, iv x9, .val (.long x10), .second, iv x12, iv x13, rv b1000, rv b1004, rv b1009, rv b1016, rv b1025, rv b1033, rv b1043, iv 0, iv 0] [(.ref b1033), (.int 0), (.ref b1043)])) rfl (by rw [hml]; rfl) (Steps.refl _) (argsL := [(.int 0), (.ref b1033)]) (rest := []) (lenOf own_pd14 rfl) rfl (by show 2 * 0 + _ ≤ _; exact Nat.le_of_eq rfl) (hb hby at_193) (fun _ _ => ⟨rfl, e1165, (show cells + 1 + 1 + 1 + 1 + 1 + 1 + 1 + 8 + 0 ≤ 40 by omega), (show slots + 3 + 3 + 3 + 3 + 3 + 3 + 10 + 2064 + 0 ≤ 6336 by omega)⟩)
      dsimp only [Pt.U, Pt.locs, Pt.cells, Pt.slots] at X1179 l1179 y1179 z1179 st1179 hQ1179
      rw [l1179, y1179, z1179] at X1179
      obtain ⟨rfl, N1179q, K1179q, f1179_0⟩ := hQ1179
      obtain ⟨h1179, e1179⟩ : ∃ z, T1179.heap = z := ⟨_, rfl⟩
      rw [e1179] at K1179q f1179_0
      have Z1179 : n0 ≤ h1179.size := Nat.le_trans Z1165 K1179q.1
      have N1179 := Fr.app N1165 N1179q
      refine own_st (fun t k => st1179.trans k) ?_
      refine own_st (g' := (mkF m 199 #[iv x0, iv x1, .val (.long x2), .second, .val (.long x4), .second, iv x6, iv x7, iv x8, iv x9, .val (.long x10), .second, iv x12, iv x13, rv b1000, rv b1004, rv b1009, rv b1016, rv b1025, rv b1033, rv b1043, iv 0, iv 0] [(.int 0), (.ref b1025)])) (fun tt_ kk_ => XS.aload X1179.here hx rfl (hb hby at_196) rfl rfl (XS.iconst X1179.here hx rfl (hb hby at_198) kk_)) ?_
      have F1180 := (f1165_0.keep K1179q (ninS ne1042 nin0))
      refine own_st (g' := (mkF m 202 #[iv x0, iv x1, .val (.long x2), .second, .val (.long x4), .second, iv x6, iv x7, iv x8, iv x9, .val (.long x10), .second, iv x12, iv x13, rv b1000, rv b1004, rv b1009, rv b1016, rv b1025, rv b1033, rv b1043, iv 0, iv 0] [(.int x12), (.int (own_gv x8 (own_kA x12 x6 x7 x8 (-2147483648 : Int32) (-2147483648 : Int32) (0 : Int32) ((0 : Int32) + ((64 : Int32) - NL)) (((0 : Int32) + ((64 : Int32) - NL)) + (32 : Int32))) (0 : Int32) (((1 : Int64) <<< (((64 : Int32) - NL) &&& 0x3f).toInt64) - (1 : Int64))))])) (fun tt_ kk_ => own_lvI (g := (mkF m 199 #[iv x0, iv x1, .val (.long x2), .second, .val (.long x4), .second, iv x6, iv x7, iv x8, iv x9, .val (.long x10), .second, iv x12, iv x13, rv b1000, rv b1004, rv b1009, rv b1016, rv b1025, rv b1033, rv b1043, iv 0, iv 0] [(.int 0), (.ref b1025)])) X1179 hx hZ e1179 F1180 (by decide) rfl rfl rfl (hb hby at_199) tt_ (XS.iload X1179.here hx rfl (hb hby at_200) rfl kk_)) ?_
      refine own_st (g' := (mkF m 208 #[iv x0, iv x1, .val (.long x2), .second, .val (.long x4), .second, iv x6, iv x7, iv x8, iv x9, .val (.long x10), .second, iv x12, iv x13, rv b1000, rv b1004, rv b1009, rv b1016, rv b1025, rv b1033, rv b1043, iv 0, iv 0] [(.int 1), (.ref b1025)])) (fun tt_ kk_ => XS.icmpNo X1179.here hx rfl (hb hby at_202) rfl (teq (own_rA0 (own_mk0' hzw hBw) (own_pz hzw hA hxw))).2 (XS.aload X1179.here hx rfl (hb hby at_205) rfl rfl (XS.iconst X1179.here hx rfl (hb hby at_207) kk_))) ?_
      refine own_st (g' := (mkF m 211 #[iv x0, iv x1, .val (.long x2), .second, .val (.long x4), .second, iv x6, iv x7, iv x8, iv x9, .val (.long x10), .second, iv x12, iv x13, rv b1000, rv b1004, rv b1009, rv b1016, rv b1025, rv b1033, rv b1043, iv 0, iv 0] [(.int x6), (.int (own_gv (-2147483648 : Int32) (own_kA x12 x6 x7 x8 (-2147483648 : Int32) (-2147483648 : Int32) (0 : Int32) ((0 : Int32) + ((64 : Int32) - NL)) (((0 : Int32) + ((64 : Int32) - NL)) + (32 : Int32))) ((0 : Int32) + ((64 : Int32) - NL)) (((1 : Int64) <<< ((32 : Int32) &&& 0x3f).toInt64) - (1 : Int64))))])) (fun tt_ kk_ => own_lvI (g := (mkF m 208 #[iv x0, iv x1, .val (.long x2), .second, .val (.long x4), .second, iv x6, iv x7, iv x8, iv x9, .val (.long x10), .second, iv x12, iv x13, rv b1000, rv b1004, rv b1009, rv b1016, rv b1025, rv b1033, rv b1043, iv 0, iv 0] [(.int 1), (.ref b1025)])) X1179 hx hZ e1179 F1180 (by decide) rfl rfl rfl (hb hby at_208) tt_ (XS.iload X1179.here hx rfl (hb hby at_209) rfl kk_)) ?_
      refine own_st (g' := (mkF m 217 #[iv x0, iv x1, .val (.long x2), .second, .val (.long x4), .second, iv x6, iv x7, iv x8, iv x9, .val (.long x10), .second, iv x12, iv x13, rv b1000, rv b1004, rv b1009, rv b1016, rv b1025, rv b1033, rv b1043, iv 0, iv 0] [(.int 2), (.ref b1025)])) (fun tt_ kk_ => XS.icmpNo X1179.here hx rfl (hb hby at_211) rfl (teq (own_rA1 rfl (own_sh1' hzw hBw) (own_sh2 hzw hBw) own_mk1 (own_pz hzw hA hxw) own_min own_min)).2 (XS.aload X1179.here hx rfl (hb hby at_214) rfl rfl (XS.iconst X1179.here hx rfl (hb hby at_216) kk_))) ?_
      refine own_st (g' := (mkF m 220 #[iv x0, iv x1, .val (.long x2), .second, .val (.long x4), .second, iv x6, iv x7, iv x8, iv x9, .val (.long x10), .second, iv x12, iv x13, rv b1000, rv b1004, rv b1009, rv b1016, rv b1025, rv b1033, rv b1043, iv 0, iv 0] [(.int x7), (.int (own_gv (-2147483648 : Int32) (own_kA x12 x6 x7 x8 (-2147483648 : Int32) (-2147483648 : Int32) (0 : Int32) ((0 : Int32) + ((64 : Int32) - NL)) (((0 : Int32) + ((64 : Int32) - NL)) + (32 : Int32))) (((0 : Int32) + ((64 : Int32) - NL)) + (32 : Int32)) (((1 : Int64) <<< ((32 : Int32) &&& 0x3f).toInt64) - (1 : Int64))))])) (fun tt_ kk_ => own_lvI (g := (mkF m 217 #[iv x0, iv x1, .val (.long x2), .second, .val (.long x4), .second, iv x6, iv x7, iv x8, iv x9, .val (.long x10), .second, iv x12, iv x13, rv b1000, rv b1004, rv b1009, rv b1016, rv b1025, rv b1033, rv b1043, iv 0, iv 0] [(.int 2), (.ref b1025)])) X1179 hx hZ e1179 F1180 (by decide) rfl rfl rfl (hb hby at_217) tt_ (XS.iload X1179.here hx rfl (hb hby at_218) rfl kk_)) ?_
      refine own_st (g' := (mkF m 226 #[iv x0, iv x1, .val (.long x2), .second, .val (.long x4), .second, iv x6, iv x7, iv x8, iv x9, .val (.long x10), .second, iv x12, iv x13, rv b1000, rv b1004, rv b1009, rv b1016, rv b1025, rv b1033, rv b1043, iv 0, iv 0] [(.int 0), (.ref b1033)])) (fun tt_ kk_ => XS.icmpNo X1179.here hx rfl (hb hby at_220) rfl (teq (own_rA2 rfl (own_sh1' hzw hBw) (own_sh2 hzw hBw) own_mk1 (own_pz hzw hA hxw) own_min own_min)).2 (XS.aload X1179.here hx rfl (hb hby at_223) rfl rfl (XS.iconst X1179.here hx rfl (hb hby at_225) kk_))) ?_
      refine own_st (g' := (mkF m 229 #[iv x0, iv x1, .val (.long x2), .second, .val (.long x4), .second, iv x6, iv x7, iv x8, iv x9, .val (.long x10), .second, iv x12, iv x13, rv b1000, rv b1004, rv b1009, rv b1016, rv b1025, rv b1033, rv b1043, iv 0, iv 0] [(.int x13), (.int (own_gv x8 (own_kA x12 x6 x7 x8 (-2147483648 : Int32) (-2147483648 : Int32) (0 : Int32) ((0 : Int32) + ((64 : Int32) - NL)) (((0 : Int32) + ((64 : Int32) - NL)) + (32 : Int32))) (0 : Int32) (((1 : Int64) <<< (((64 : Int32) - NL) &&& 0x3f).toInt64) - (1 : Int64))))])) (fun tt_ kk_ => own_lvI (g := (mkF m 226 #[iv x0, iv x1, .val (.long x2), .second, .val (.long x4), .second, iv x6, iv x7, iv x8, iv x9, .val (.long x10), .second, iv x12, iv x13, rv b1000, rv b1004, rv b1009, rv b1016, rv b1025, rv b1033, rv b1043, iv 0, iv 0] [(.int 0), (.ref b1033)])) X1179 hx hZ e1179 f1179_0 (by decide) rfl rfl rfl (hb hby at_226) tt_ (XS.iload X1179.here hx rfl (hb hby at_227) rfl kk_)) ?_
      refine own_st (g' := (mkF m 235 #[iv x0, iv x1, .val (.long x2), .second, .val (.long x4), .second, iv x6, iv x7, iv x8, iv x9, .val (.long x10), .second, iv x12, iv x13, rv b1000, rv b1004, rv b1009, rv b1016, rv b1025, rv b1033, rv b1043, iv 0, iv 0] [(.int 1), (.ref b1033)])) (fun tt_ kk_ => XS.icmpNo X1179.here hx rfl (hb hby at_229) rfl (teq (by rw [eu0]; exact own_rA0 (own_mk0' hzw hBw) (own_pz hzw hB hxw))).2 (XS.aload X1179.here hx rfl (hb hby at_232) rfl rfl (XS.iconst X1179.here hx rfl (hb hby at_234) kk_))) ?_
      refine own_st (g' := (mkF m 238 #[iv x0, iv x1, .val (.long x2), .second, .val (.long x4), .second, iv x6, iv x7, iv x8, iv x9, .val (.long x10), .second, iv x12, iv x13, rv b1000, rv b1004, rv b1009, rv b1016, rv b1025, rv b1033, rv b1043, iv 0, iv 0] [(.int x7), (.int (own_gv (-2147483648 : Int32) (own_kA x12 x6 x7 x8 (-2147483648 : Int32) (-2147483648 : Int32) (0 : Int32) ((0 : Int32) + ((64 : Int32) - NL)) (((0 : Int32) + ((64 : Int32) - NL)) + (32 : Int32))) ((0 : Int32) + ((64 : Int32) - NL)) (((1 : Int64) <<< ((32 : Int32) &&& 0x3f).toInt64) - (1 : Int64))))])) (fun tt_ kk_ => own_lvI (g := (mkF m 235 #[iv x0, iv x1, .val (.long x2), .second, .val (.long x4), .second, iv x6, iv x7, iv x8, iv x9, .val (.long x10), .second, iv x12, iv x13, rv b1000, rv b1004, rv b1009, rv b1016, rv b1025, rv b1033, rv b1043, iv 0, iv 0] [(.int 1), (.ref b1033)])) X1179 hx hZ e1179 f1179_0 (by decide) rfl rfl rfl (hb hby at_235) tt_ (XS.iload X1179.here hx rfl (hb hby at_236) rfl kk_)) ?_
      refine own_st (g' := (mkF m 244 #[iv x0, iv x1, .val (.long x2), .second, .val (.long x4), .second, iv x6, iv x7, iv x8, iv x9, .val (.long x10), .second, iv x12, iv x13, rv b1000, rv b1004, rv b1009, rv b1016, rv b1025, rv b1033, rv b1043, iv 0, iv 0] [(.int 2), (.ref b1033)])) (fun tt_ kk_ => XS.icmpNo X1179.here hx rfl (hb hby at_238) rfl (teq (by rw [eu0]; exact own_rA1 rfl (own_sh1' hzw hBw) (own_sh2 hzw hBw) own_mk1 (own_pz hzw hB hxw) own_min own_min)).2 (XS.aload X1179.here hx rfl (hb hby at_241) rfl rfl (XS.iconst X1179.here hx rfl (hb hby at_243) kk_))) ?_
      refine own_st (g' := (mkF m 247 #[iv x0, iv x1, .val (.long x2), .second, .val (.long x4), .second, iv x6, iv x7, iv x8, iv x9, .val (.long x10), .second, iv x12, iv x13, rv b1000, rv b1004, rv b1009, rv b1016, rv b1025, rv b1033, rv b1043, iv 0, iv 0] [(.int x6), (.int (own_gv (-2147483648 : Int32) (own_kA x12 x6 x7 x8 (-2147483648 : Int32) (-2147483648 : Int32) (0 : Int32) ((0 : Int32) + ((64 : Int32) - NL)) (((0 : Int32) + ((64 : Int32) - NL)) + (32 : Int32))) (((0 : Int32) + ((64 : Int32) - NL)) + (32 : Int32)) (((1 : Int64) <<< ((32 : Int32) &&& 0x3f).toInt64) - (1 : Int64))))])) (fun tt_ kk_ => own_lvI (g := (mkF m 244 #[iv x0, iv x1, .val (.long x2), .second, .val (.long x4), .second, iv x6, iv x7, iv x8, iv x9, .val (.long x10), .second, iv x12, iv x13, rv b1000, rv b1004, rv b1009, rv b1016, rv b1025, rv b1033, rv b1043, iv 0, iv 0] [(.int 2), (.ref b1033)])) X1179 hx hZ e1179 f1179_0 (by decide) rfl rfl rfl (hb hby at_244) tt_ (XS.iload X1179.here hx rfl (hb hby at_245) rfl kk_)) ?_
      refine own_st (g' := (mkF m 255 #[iv x0, iv x1, .val (.long x2), .second, .val (.long x4), .second, iv x6, iv x7, iv x8, iv x9, .val (.long x10), .second, iv x12, iv x13, rv b1000, rv b1004, rv b1009, rv b1016, rv b1025, rv b1033, rv b1043, iv 0, iv 0] [(.int 1)])) (fun tt_ kk_ => XS.icmpNo X1179.here hx rfl (hb hby at_247) rfl (teq (by rw [eu0]; exact own_rA2 rfl (own_sh1' hzw hBw) (own_sh2 hzw hBw) own_mk1 (own_pz hzw hB hxw) own_min own_min)).2 (XS.iconst X1179.here hx rfl (hb hby at_250) (XS.goto X1179.here hx rfl (pc0 := 251) (pc' := 255) rfl (hb hby at_251) (by decide) (by decide) kk_))) ?_
      exact own_retN X1179 hx hlk (t := .boolean) (Or.inl rfl) hret (hb hby at_255) (by omega) (by omega) ⟨rfl, N1179⟩
  · skip
    have F1181 := ((((((((((((((((((Q1000.wr W1001).wr W1002).wr W1003).ext E1004).wr W1006).wr W1007).wr W1008).ext E1009).wr W1013).wr W1014).wr W1015).ext E1016).wr W1022).wr W1023).wr W1024).ext E1025).ext E1033).ext E1043)
    have F1182 := (F1045.ext E1043)
    have F1183 := (F1047.ext E1043)
    have F1184 := (F1053.ext E1043)
    have F1185 := (V1033.ext E1043)
    have F1186 := (F1049.ext E1043)
    have F1187 := (F1051.ext E1043)
    obtain ⟨_, _, ⟨T1188, L1188, k1188, n1188⟩, -, X1188, ⟨Lc1188, hQ1188, l1188, y1188, z1188⟩, st1188⟩ := X1043.specialBack hx (y := (⟨own_z0, "<init>", "([I[II)V"⟩ : MethodName)) rfl hown (mvT hZ (own_w hw 14 rfl)) (mvT hZ (own_w hw 15 rfl)) (mvT hZ (own_w hw 16 rfl)) (by decide) (backOf (W := 1) (own_rminiB l Z a0 hw [] b1043 b1000 b1004 k1000 x8 k1004 x9 NL h1043 n0 Z1043 A1043 F_lows_b1043 F_spans_b1043 F_masks_b1043 F_words_b1043 F_shifts_b1043 F_wordCount_b1043 F_packed_b1043 F_slots_b1043 F_key_b1043 F_size_b1043 F1181 F1182 F1183 hNL (own_cs1 (Int.le_trans hA.1 hA.2)) (own_c2 hbw hBw) (own_c3 hbw hBw) (own_c4B hbw hzw hBw) ne1044 ne1046 gz1043) hZ (own_w hw 16 rfl) (own_w hw 13 rfl) (by decide) (by decide)) (g := (mkF m 155 #[iv x0, iv x1, .val (.long x2), .second, .val (.long x4), .second, iv x6, iv x7, iv x8, iv x9, .val (.long x10), .second, iv x12, iv x13, rv b1000, rv b1004, rv b1009, rv b1016, rv b1025, rv b1033, .unset, .unset, .unset] [(.int 0), (.ref b1004), (.ref b1000), (.ref b1043), (.ref b1043)])) rfl (by rw [hml]; rfl) (Steps.refl _) (a := b1043) (argsL := [(.ref b1000), (.ref b1004), (.int 0)]) (rest := [(.ref b1043)]) (lenOf own_pd12 rfl) rfl (by show 2 * 0 + _ ≤ _; exact Nat.le_of_eq rfl) (hb hby at_155) (fun _ _ => ⟨rfl, e1043, (show cells + 1 + 1 + 1 + 1 + 1 + 1 + 1 + 8 ≤ 40 by omega), (show slots + 3 + 3 + 3 + 3 + 3 + 3 + 10 + 3089 ≤ 6336 by omega)⟩)
    dsimp only [Pt.U, Pt.locs, Pt.cells, Pt.slots] at X1188 l1188 y1188 z1188 st1188 hQ1188
    rw [l1188, y1188, z1188] at X1188
    obtain ⟨rfl, N1188q, K1188q, aL_1188, aS_1188, aM_1188, aW_1188, aH_1188, aP_1188, aQ_1188, aK_1188, kaL_1188, kaS_1188, kaM_1188, kaW_1188, kaH_1188, kaP_1188, kaK_1188, f1188_0, f1188_1, f1188_2, f1188_3, f1188_4, f1188_5, f1188_6, f1188_7, f1188_8, f1188_9, f1188_10, f1188_11, f1188_12, f1188_13, f1188_14, f1188_15, f1188_16, f1188_17, f1188_18, f1188_19, f1188_20, f1188_21, f1188_22, f1188_23, f1188_24, f1188_25, f1188_26, f1188_27, f1188_28, f1188_29, f1188_30, f1188_31, f1188_32, f1188_33, f1188_34, f1188_35, f1188_36, f1188_37, f1188_38, f1188_39, f1188_40, f1188_41, f1188_42, f1188_43⟩ := hQ1188
    obtain ⟨h1188, e1188⟩ : ∃ z, T1188.heap = z := ⟨_, rfl⟩
    rw [e1188] at K1188q f1188_0 f1188_1 f1188_2 f1188_3 f1188_4 f1188_5 f1188_6 f1188_7 f1188_8 f1188_9 f1188_10 f1188_11 f1188_12 f1188_13 f1188_14 f1188_15 f1188_16 f1188_17
    have Z1188 : n0 ≤ h1188.size := Nat.le_trans Z1043 K1188q.1
    have ne1189 : b1000 ≠ aL_1188 := Nat.ne_of_lt (Nat.lt_of_lt_of_le F1182.lt f1188_36)
    have ne1190 : b1004 ≠ aL_1188 := Nat.ne_of_lt (Nat.lt_of_lt_of_le F1183.lt f1188_36)
    have ne1191 : b1009 ≠ aL_1188 := Nat.ne_of_lt (Nat.lt_of_lt_of_le F1186.lt f1188_36)
    have ne1192 : b1016 ≠ aL_1188 := Nat.ne_of_lt (Nat.lt_of_lt_of_le F1187.lt f1188_36)
    have ne1193 : b1025 ≠ aL_1188 := Nat.ne_of_lt (Nat.lt_of_lt_of_le F1184.lt f1188_36)
    have ne1194 : b1033 ≠ aL_1188 := Nat.ne_of_lt (Nat.lt_of_lt_of_le F1185.lt f1188_36)
    have ne1195 : b1043 ≠ aL_1188 := Nat.ne_of_lt (Nat.lt_of_lt_of_le A1043.lt f1188_36)
    have gx1196 : n0 ≤ aL_1188 := Nat.le_trans Z1043 f1188_36
    have ne1197 : b1000 ≠ aS_1188 := Nat.ne_of_lt (Nat.lt_of_lt_of_le F1182.lt f1188_37)
    have ne1198 : b1004 ≠ aS_1188 := Nat.ne_of_lt (Nat.lt_of_lt_of_le F1183.lt f1188_37)
    have ne1199 : b1009 ≠ aS_1188 := Nat.ne_of_lt (Nat.lt_of_lt_of_le F1186.lt f1188_37)
    have ne1200 : b1016 ≠ aS_1188 := Nat.ne_of_lt (Nat.lt_of_lt_of_le F1187.lt f1188_37)
    have ne1201 : b1025 ≠ aS_1188 := Nat.ne_of_lt (Nat.lt_of_lt_of_le F1184.lt f1188_37)
    have ne1202 : b1033 ≠ aS_1188 := Nat.ne_of_lt (Nat.lt_of_lt_of_le F1185.lt f1188_37)
    have ne1203 : b1043 ≠ aS_1188 := Nat.ne_of_lt (Nat.lt_of_lt_of_le A1043.lt f1188_37)
    have gx1204 : n0 ≤ aS_1188 := Nat.le_trans Z1043 f1188_37
    have ne1205 : b1000 ≠ aM_1188 := Nat.ne_of_lt (Nat.lt_of_lt_of_le F1182.lt f1188_38)
    have ne1206 : b1004 ≠ aM_1188 := Nat.ne_of_lt (Nat.lt_of_lt_of_le F1183.lt f1188_38)
    have ne1207 : b1009 ≠ aM_1188 := Nat.ne_of_lt (Nat.lt_of_lt_of_le F1186.lt f1188_38)
    have ne1208 : b1016 ≠ aM_1188 := Nat.ne_of_lt (Nat.lt_of_lt_of_le F1187.lt f1188_38)
    have ne1209 : b1025 ≠ aM_1188 := Nat.ne_of_lt (Nat.lt_of_lt_of_le F1184.lt f1188_38)
    have ne1210 : b1033 ≠ aM_1188 := Nat.ne_of_lt (Nat.lt_of_lt_of_le F1185.lt f1188_38)
    have ne1211 : b1043 ≠ aM_1188 := Nat.ne_of_lt (Nat.lt_of_lt_of_le A1043.lt f1188_38)
    have gx1212 : n0 ≤ aM_1188 := Nat.le_trans Z1043 f1188_38
    have ne1213 : b1000 ≠ aW_1188 := Nat.ne_of_lt (Nat.lt_of_lt_of_le F1182.lt f1188_39)
    have ne1214 : b1004 ≠ aW_1188 := Nat.ne_of_lt (Nat.lt_of_lt_of_le F1183.lt f1188_39)
    have ne1215 : b1009 ≠ aW_1188 := Nat.ne_of_lt (Nat.lt_of_lt_of_le F1186.lt f1188_39)
    have ne1216 : b1016 ≠ aW_1188 := Nat.ne_of_lt (Nat.lt_of_lt_of_le F1187.lt f1188_39)
    have ne1217 : b1025 ≠ aW_1188 := Nat.ne_of_lt (Nat.lt_of_lt_of_le F1184.lt f1188_39)
    have ne1218 : b1033 ≠ aW_1188 := Nat.ne_of_lt (Nat.lt_of_lt_of_le F1185.lt f1188_39)
    have ne1219 : b1043 ≠ aW_1188 := Nat.ne_of_lt (Nat.lt_of_lt_of_le A1043.lt f1188_39)
    have gx1220 : n0 ≤ aW_1188 := Nat.le_trans Z1043 f1188_39
    have ne1221 : b1000 ≠ aH_1188 := Nat.ne_of_lt (Nat.lt_of_lt_of_le F1182.lt f1188_40)
    have ne1222 : b1004 ≠ aH_1188 := Nat.ne_of_lt (Nat.lt_of_lt_of_le F1183.lt f1188_40)
    have ne1223 : b1009 ≠ aH_1188 := Nat.ne_of_lt (Nat.lt_of_lt_of_le F1186.lt f1188_40)
    have ne1224 : b1016 ≠ aH_1188 := Nat.ne_of_lt (Nat.lt_of_lt_of_le F1187.lt f1188_40)
    have ne1225 : b1025 ≠ aH_1188 := Nat.ne_of_lt (Nat.lt_of_lt_of_le F1184.lt f1188_40)
    have ne1226 : b1033 ≠ aH_1188 := Nat.ne_of_lt (Nat.lt_of_lt_of_le F1185.lt f1188_40)
    have ne1227 : b1043 ≠ aH_1188 := Nat.ne_of_lt (Nat.lt_of_lt_of_le A1043.lt f1188_40)
    have gx1228 : n0 ≤ aH_1188 := Nat.le_trans Z1043 f1188_40
    have ne1229 : b1000 ≠ aP_1188 := Nat.ne_of_lt (Nat.lt_of_lt_of_le F1182.lt f1188_41)
    have ne1230 : b1004 ≠ aP_1188 := Nat.ne_of_lt (Nat.lt_of_lt_of_le F1183.lt f1188_41)
    have ne1231 : b1009 ≠ aP_1188 := Nat.ne_of_lt (Nat.lt_of_lt_of_le F1186.lt f1188_41)
    have ne1232 : b1016 ≠ aP_1188 := Nat.ne_of_lt (Nat.lt_of_lt_of_le F1187.lt f1188_41)
    have ne1233 : b1025 ≠ aP_1188 := Nat.ne_of_lt (Nat.lt_of_lt_of_le F1184.lt f1188_41)
    have ne1234 : b1033 ≠ aP_1188 := Nat.ne_of_lt (Nat.lt_of_lt_of_le F1185.lt f1188_41)
    have ne1235 : b1043 ≠ aP_1188 := Nat.ne_of_lt (Nat.lt_of_lt_of_le A1043.lt f1188_41)
    have gx1236 : n0 ≤ aP_1188 := Nat.le_trans Z1043 f1188_41
    have ne1237 : b1000 ≠ aQ_1188 := Nat.ne_of_lt (Nat.lt_of_lt_of_le F1182.lt f1188_42)
    have ne1238 : b1004 ≠ aQ_1188 := Nat.ne_of_lt (Nat.lt_of_lt_of_le F1183.lt f1188_42)
    have ne1239 : b1009 ≠ aQ_1188 := Nat.ne_of_lt (Nat.lt_of_lt_of_le F1186.lt f1188_42)
    have ne1240 : b1016 ≠ aQ_1188 := Nat.ne_of_lt (Nat.lt_of_lt_of_le F1187.lt f1188_42)
    have ne1241 : b1025 ≠ aQ_1188 := Nat.ne_of_lt (Nat.lt_of_lt_of_le F1184.lt f1188_42)
    have ne1242 : b1033 ≠ aQ_1188 := Nat.ne_of_lt (Nat.lt_of_lt_of_le F1185.lt f1188_42)
    have ne1243 : b1043 ≠ aQ_1188 := Nat.ne_of_lt (Nat.lt_of_lt_of_le A1043.lt f1188_42)
    have gx1244 : n0 ≤ aQ_1188 := Nat.le_trans Z1043 f1188_42
    have ne1245 : b1000 ≠ aK_1188 := Nat.ne_of_lt (Nat.lt_of_lt_of_le F1182.lt f1188_43)
    have ne1246 : b1004 ≠ aK_1188 := Nat.ne_of_lt (Nat.lt_of_lt_of_le F1183.lt f1188_43)
    have ne1247 : b1009 ≠ aK_1188 := Nat.ne_of_lt (Nat.lt_of_lt_of_le F1186.lt f1188_43)
    have ne1248 : b1016 ≠ aK_1188 := Nat.ne_of_lt (Nat.lt_of_lt_of_le F1187.lt f1188_43)
    have ne1249 : b1025 ≠ aK_1188 := Nat.ne_of_lt (Nat.lt_of_lt_of_le F1184.lt f1188_43)
    have ne1250 : b1033 ≠ aK_1188 := Nat.ne_of_lt (Nat.lt_of_lt_of_le F1185.lt f1188_43)
    have ne1251 : b1043 ≠ aK_1188 := Nat.ne_of_lt (Nat.lt_of_lt_of_le A1043.lt f1188_43)
    have gx1252 : n0 ≤ aK_1188 := Nat.le_trans Z1043 f1188_43
    have N1188 := Fr.app N1024 N1188q
    refine own_st (fun t k => st1188.trans k) ?_
    refine own_st (g' := (mkF m 164 #[iv x0, iv x1, .val (.long x2), .second, .val (.long x4), .second, iv x6, iv x7, iv x8, iv x9, .val (.long x10), .second, iv x12, iv x13, rv b1000, rv b1004, rv b1009, rv b1016, rv b1025, rv b1033, rv b1043, .unset, .unset] [(.ref b1009), (.ref b1043)])) (fun tt_ kk_ => XS.astore X1188.here hx rfl (hb hby at_158) rfl rfl (l' := #[iv x0, iv x1, .val (.long x2), .second, .val (.long x4), .second, iv x6, iv x7, iv x8, iv x9, .val (.long x10), .second, iv x12, iv x13, rv b1000, rv b1004, rv b1009, rv b1016, rv b1025, rv b1033, rv b1043, .unset, .unset]) rfl (XS.aload X1188.here hx rfl (hb hby at_160) rfl rfl (XS.aload X1188.here hx rfl (hb hby at_162) rfl rfl kk_))) ?_
    have F1253 := (A1043.keep K1188q)
    have F1254 := (F1186.keep K1188q (ninS ne1048 nin0))
    obtain ⟨cq1255, kq1255, q1255a, q1255b, q1255c⟩ := isOf hZ e1188 F1253
    obtain ⟨_, _, ⟨T1255, L1255, k1255, n1255⟩, -, X1255, ⟨Lc1255, hQ1255, l1255, y1255, z1255⟩, st1255⟩ := X1188.virtualBack hx (y := (⟨own_z0, "add", "([I)I"⟩ : MethodName)) (z := (⟨own_z0, "add", "([I)I"⟩ : MethodName)) hown (mvT hZ (own_w hw 65 rfl)) (mvT hZ (own_w hw 66 rfl)) (notFace_of_selects (args := #[]) (mvT hZ (own_w hw 68 rfl))) (mvT hZ (own_w hw 68 rfl)) (mvT hZ (own_w hw 67 rfl)) (by decide) (backOf (W := 0) (own_rmaddB1 l Z a0 hw [] b1043 b1009 aL_1188 aS_1188 aM_1188 aW_1188 aH_1188 aP_1188 aQ_1188 aK_1188 kaL_1188 x8 (-2147483648 : Int32) (-2147483648 : Int32) kaS_1188 (((x9.toInt64) - (x8.toInt64)) + (1 : Int64)) (4294967296 : Int64) (4294967296 : Int64) kaW_1188 kaH_1188 (0 : Int32) ((0 : Int32) + ((64 : Int32) - NL)) (0 : Int32) k1009 x12 x6 x7 kaK_1188 (0 : Int64) (0 : Int64) kaP_1188 (0 : Int64) (0 : Int64) (0 : Int64) (0 : Int64) h1188 n0 Z1188 F1253 f1188_0 f1188_1 f1188_2 f1188_3 f1188_4 f1188_5 f1188_6 f1188_7 f1188_8 f1188_9 f1188_10 f1188_11 f1188_13 f1188_14 F1254 f1188_16 f1188_15 f1188_17 (own_hge hA.1) (own_lt0 hA) (own_g32 own_min) (own_h32 own_min) (own_g32 own_min) (own_h32 own_min) ne1251 ne1235 ne1243 f1188_18 f1188_19 f1188_21 f1188_22 ne1247 f1188_33 f1188_34 f1188_35 gz1043 gx1252 gx1236 gx1244) hZ (own_w hw 69 rfl) (own_w hw 13 rfl) (by decide) (by decide)) q1255a q1255c (g := (mkF m 164 #[iv x0, iv x1, .val (.long x2), .second, .val (.long x4), .second, iv x6, iv x7, iv x8, iv x9, .val (.long x10), .second, iv x12, iv x13, rv b1000, rv b1004, rv b1009, rv b1016, rv b1025, rv b1033, rv b1043, .unset, .unset] [(.ref b1009), (.ref b1043)])) rfl (by rw [hml]; rfl) (Steps.refl _) (argsL := [(.ref b1009)]) (rest := []) (lenOf own_pd13 rfl) rfl (by show 2 * 0 + _ ≤ _; exact Nat.le_of_eq rfl) (hb hby at_164) (fun _ _ => ⟨rfl, e1188, (show cells + 1 + 1 + 1 + 1 + 1 + 1 + 1 + 8 + 0 ≤ 40 by omega), (show slots + 3 + 3 + 3 + 3 + 3 + 3 + 10 + 3089 + 0 ≤ 6336 by omega)⟩)
    dsimp only [Pt.U, Pt.locs, Pt.cells, Pt.slots] at X1255 l1255 y1255 z1255 st1255 hQ1255
    rw [l1255, y1255, z1255] at X1255
    obtain ⟨hz_1255, rfl, N1255q, K1255q, f1255_0, f1255_1, f1255_2, f1255_3, f1255_4, f1255_5, f1255_6, f1255_7, f1255_8, f1255_9, f1255_10, f1255_11, f1255_12⟩ := hQ1255
    obtain ⟨h1255, e1255⟩ : ∃ z, T1255.heap = z := ⟨_, rfl⟩
    rw [e1255] at K1255q f1255_0 f1255_1 f1255_2 f1255_3 f1255_4 f1255_5 f1255_6 f1255_7 f1255_8 f1255_9 f1255_10 f1255_11 f1255_12
    have Z1255 : n0 ≤ h1255.size := Nat.le_trans Z1188 K1255q.1
    have N1255 := Fr.app N1188 N1255q
    refine own_st (fun t k => st1255.trans k) ?_
    refine own_st (g' := (mkF m 173 #[iv x0, iv x1, .val (.long x2), .second, .val (.long x4), .second, iv x6, iv x7, iv x8, iv x9, .val (.long x10), .second, iv x12, iv x13, rv b1000, rv b1004, rv b1009, rv b1016, rv b1025, rv b1033, rv b1043, iv 0, .unset] [(.ref b1016), (.ref b1043)])) (fun tt_ kk_ => XS.istore X1255.here hx rfl (hb hby at_167) rfl (l' := #[iv x0, iv x1, .val (.long x2), .second, .val (.long x4), .second, iv x6, iv x7, iv x8, iv x9, .val (.long x10), .second, iv x12, iv x13, rv b1000, rv b1004, rv b1009, rv b1016, rv b1025, rv b1033, rv b1043, iv 0, .unset]) rfl (XS.aload X1255.here hx rfl (hb hby at_169) rfl rfl (XS.aload X1255.here hx rfl (hb hby at_171) rfl rfl kk_))) ?_
    have F1256 := (F1253.keep K1255q)
    have F1257 := (f1188_10.keep K1255q (ninS (Ne.symm ne1195) (ninS f1188_18 (ninS f1188_23 (ninS f1188_28 nin0)))))
    have F1258 := (f1188_11.keep K1255q (ninS (Ne.symm ne1203) (ninS f1188_19 (ninS f1188_24 (ninS f1188_29 nin0)))))
    have F1259 := (f1188_13.keep K1255q (ninS (Ne.symm ne1219) (ninS f1188_21 (ninS f1188_26 (ninS f1188_31 nin0)))))
    have F1260 := (f1188_14.keep K1255q (ninS (Ne.symm ne1227) (ninS f1188_22 (ninS f1188_27 (ninS f1188_32 nin0)))))
    have F1261 := ((F1187.keep K1188q (ninS ne1050 nin0)).keep K1255q (ninS ne1050 (ninS ne1248 (ninS ne1232 (ninS ne1240 nin0)))))
    obtain ⟨cq1262, kq1262, q1262a, q1262b, q1262c⟩ := isOf hZ e1255 F1256
    obtain ⟨_, _, ⟨T1262, L1262, k1262, n1262⟩, -, X1262, ⟨Lc1262, hQ1262, l1262, y1262, z1262⟩, st1262⟩ := X1255.virtualBack hx (y := (⟨own_z0, "add", "([I)I"⟩ : MethodName)) (z := (⟨own_z0, "add", "([I)I"⟩ : MethodName)) hown (mvT hZ (own_w hw 65 rfl)) (mvT hZ (own_w hw 66 rfl)) (notFace_of_selects (args := #[]) (mvT hZ (own_w hw 68 rfl))) (mvT hZ (own_w hw 68 rfl)) (mvT hZ (own_w hw 67 rfl)) (by decide) (backOf (W := 0) (own_rmaddB2 l Z a0 hw [] b1043 b1016 aL_1188 aS_1188 aM_1188 aW_1188 aH_1188 aP_1188 aQ_1188 aK_1188 kaL_1188 x8 (-2147483648 : Int32) (-2147483648 : Int32) kaS_1188 (((x9.toInt64) - (x8.toInt64)) + (1 : Int64)) (4294967296 : Int64) (4294967296 : Int64) kaW_1188 kaH_1188 (0 : Int32) ((0 : Int32) + ((64 : Int32) - NL)) (0 : Int32) k1016 x13 x7 x6 kaK_1188 (own_kB x12 x6 x8 (-2147483648 : Int32) (0 : Int32) ((0 : Int32) + ((64 : Int32) - NL))) (own_kC x7 (-2147483648 : Int32) (0 : Int32)) kaP_1188 (own_kB x12 x6 x8 (-2147483648 : Int32) (0 : Int32) ((0 : Int32) + ((64 : Int32) - NL))) (own_kC x7 (-2147483648 : Int32) (0 : Int32)) (0 : Int64) (0 : Int64) hz_1255 h1255 n0 Z1255 F1256 f1255_0 f1255_1 f1255_2 f1255_3 f1255_4 f1255_5 f1255_6 f1255_7 f1255_8 f1255_9 F1257 F1258 F1259 F1260 F1261 f1255_10 f1255_11 f1255_12 (own_hge hB.1) (own_lt0 hB) (own_g32 own_min) (own_h32 own_min) (own_g32 own_min) (own_h32 own_min) ne1251 ne1235 ne1243 f1188_18 f1188_19 f1188_21 f1188_22 ne1248 f1188_33 f1188_34 f1188_35 gz1043 gx1252 gx1236 gx1244) hZ (own_w hw 69 rfl) (own_w hw 13 rfl) (by decide) (by decide)) q1262a q1262c (g := (mkF m 173 #[iv x0, iv x1, .val (.long x2), .second, .val (.long x4), .second, iv x6, iv x7, iv x8, iv x9, .val (.long x10), .second, iv x12, iv x13, rv b1000, rv b1004, rv b1009, rv b1016, rv b1025, rv b1033, rv b1043, iv 0, .unset] [(.ref b1016), (.ref b1043)])) rfl (by rw [hml]; rfl) (Steps.refl _) (argsL := [(.ref b1016)]) (rest := []) (lenOf own_pd13 rfl) rfl (by show 2 * 0 + _ ≤ _; exact Nat.le_of_eq rfl) (hb hby at_173) (fun _ _ => ⟨rfl, e1255, (show cells + 1 + 1 + 1 + 1 + 1 + 1 + 1 + 8 + 0 ≤ 40 by omega), (show slots + 3 + 3 + 3 + 3 + 3 + 3 + 10 + 3089 + 0 ≤ 6336 by omega)⟩)
    dsimp only [Pt.U, Pt.locs, Pt.cells, Pt.slots] at X1262 l1262 y1262 z1262 st1262 hQ1262
    rw [l1262, y1262, z1262] at X1262
    obtain ⟨rl_1262, u0_1262, u1_1262, rfl, N1262q, K1262q, f1262_0, f1262_1, f1262_2, f1262_3, f1262_4, f1262_5, f1262_6, f1262_7⟩ := hQ1262
    obtain ⟨h1262, e1262⟩ : ∃ z, T1262.heap = z := ⟨_, rfl⟩
    rw [e1262] at K1262q f1262_0 f1262_1 f1262_2 f1262_3 f1262_4 f1262_5 f1262_6
    have Z1262 : n0 ≤ h1262.size := Nat.le_trans Z1255 K1262q.1
    have N1262 := Fr.app N1255 N1262q
    refine own_st (fun t k => st1262.trans k) ?_
    rcases f1262_7 with ⟨rfl, eu0, eu1⟩ | ⟨rfl, eu0, eu1⟩
    · skip
      refine own_st (g' := (mkF m 184 #[iv x0, iv x1, .val (.long x2), .second, .val (.long x4), .second, iv x6, iv x7, iv x8, iv x9, .val (.long x10), .second, iv x12, iv x13, rv b1000, rv b1004, rv b1009, rv b1016, rv b1025, rv b1033, rv b1043, iv 0, iv 1] [(.ref b1025), (.int 0), (.ref b1043)])) (fun tt_ kk_ => XS.istore X1262.here hx rfl (hb hby at_176) rfl (l' := #[iv x0, iv x1, .val (.long x2), .second, .val (.long x4), .second, iv x6, iv x7, iv x8, iv x9, .val (.long x10), .second, iv x12, iv x13, rv b1000, rv b1004, rv b1009, rv b1016, rv b1025, rv b1033, rv b1043, iv 0, iv 1]) rfl (XS.aload X1262.here hx rfl (hb hby at_178) rfl rfl (XS.iload X1262.here hx rfl (hb hby at_180) rfl (XS.aload X1262.here hx rfl (hb hby at_182) rfl rfl kk_)))) ?_
      have F1263 := (F1256.keep K1262q)
      have F1264 := (F1257.keep K1262q (ninS (Ne.symm ne1195) (ninS f1188_18 (ninS f1188_23 (ninS f1188_28 nin0)))))
      have F1265 := ((f1188_12.keep K1255q (ninS (Ne.symm ne1211) (ninS f1188_20 (ninS f1188_25 (ninS f1188_30 nin0))))).keep K1262q (ninS (Ne.symm ne1211) (ninS f1188_20 (ninS f1188_25 (ninS f1188_30 nin0)))))
      have F1266 := (F1259.keep K1262q (ninS (Ne.symm ne1219) (ninS f1188_21 (ninS f1188_26 (ninS f1188_31 nin0)))))
      have F1267 := (F1260.keep K1262q (ninS (Ne.symm ne1227) (ninS f1188_22 (ninS f1188_27 (ninS f1188_32 nin0)))))
      have F1268 := (((F1184.keep K1188q (ninS ne1052 nin0)).keep K1255q (ninS ne1052 (ninS ne1249 (ninS ne1233 (ninS ne1241 nin0))))).keep K1262q (ninS ne1052 (ninS ne1249 (ninS ne1233 (ninS ne1241 nin0)))))
      obtain ⟨cq1269, kq1269, q1269a, q1269b, q1269c⟩ := isOf hZ e1262 F1263
      obtain ⟨_, _, ⟨T1269, L1269, k1269, n1269⟩, -, X1269, ⟨Lc1269, hQ1269, l1269, y1269, z1269⟩, st1269⟩ := X1262.virtualBack hx (y := (⟨own_z0, "get", "(I[I)V"⟩ : MethodName)) (z := (⟨own_z0, "get", "(I[I)V"⟩ : MethodName)) hown (mvT hZ (own_w hw 102 rfl)) (mvT hZ (own_w hw 103 rfl)) (notFace_of_selects (args := #[]) (mvT hZ (own_w hw 105 rfl))) (mvT hZ (own_w hw 105 rfl)) (mvT hZ (own_w hw 104 rfl)) (by decide) (backOf (W := 0) (own_rmgetB0 l Z a0 hw [] b1043 b1025 aL_1188 aM_1188 aW_1188 aH_1188 aP_1188 kaL_1188 x8 (-2147483648 : Int32) (-2147483648 : Int32) kaM_1188 (((1 : Int64) <<< (((64 : Int32) - NL) &&& 0x3f).toInt64) - (1 : Int64)) (((1 : Int64) <<< ((32 : Int32) &&& 0x3f).toInt64) - (1 : Int64)) (((1 : Int64) <<< ((32 : Int32) &&& 0x3f).toInt64) - (1 : Int64)) kaW_1188 kaH_1188 (0 : Int32) ((0 : Int32) + ((64 : Int32) - NL)) (0 : Int32) k1025 (0 : Int32) (0 : Int32) (0 : Int32) kaP_1188 (own_kB x12 x6 x8 (-2147483648 : Int32) (0 : Int32) ((0 : Int32) + ((64 : Int32) - NL))) (own_kC x7 (-2147483648 : Int32) (0 : Int32)) u0_1262 u1_1262 h1262 n0 Z1262 F1263 f1262_0 f1262_1 f1262_2 f1262_3 f1262_4 f1262_5 F1264 F1265 F1266 F1267 F1268 f1262_6 (Ne.symm ne1052) (Ne.symm ne1193) (Ne.symm ne1209) (Ne.symm ne1217) (Ne.symm ne1225) (Ne.symm ne1233) gz1025) hZ (own_w hw 106 rfl) (own_w hw 13 rfl) (by decide) (by decide)) q1269a q1269c (g := (mkF m 184 #[iv x0, iv x1, .val (.long x2), .second, .val (.long x4), .second, iv x6, iv x7, iv x8, iv x9, .val (.long x10), .second, iv x12, iv x13, rv b1000, rv b1004, rv b1009, rv b1016, rv b1025, rv b1033, rv b1043, iv 0, iv 1] [(.ref b1025), (.int 0), (.ref b1043)])) rfl (by rw [hml]; rfl) (Steps.refl _) (argsL := [(.int 0), (.ref b1025)]) (rest := []) (lenOf own_pd14 rfl) rfl (by show 2 * 0 + _ ≤ _; exact Nat.le_of_eq rfl) (hb hby at_184) (fun _ _ => ⟨rfl, e1262, (show cells + 1 + 1 + 1 + 1 + 1 + 1 + 1 + 8 + 0 ≤ 40 by omega), (show slots + 3 + 3 + 3 + 3 + 3 + 3 + 10 + 3089 + 0 ≤ 6336 by omega)⟩)
      dsimp only [Pt.U, Pt.locs, Pt.cells, Pt.slots] at X1269 l1269 y1269 z1269 st1269 hQ1269
      rw [l1269, y1269, z1269] at X1269
      obtain ⟨rfl, N1269q, K1269q, f1269_0⟩ := hQ1269
      obtain ⟨h1269, e1269⟩ : ∃ z, T1269.heap = z := ⟨_, rfl⟩
      rw [e1269] at K1269q f1269_0
      have Z1269 : n0 ≤ h1269.size := Nat.le_trans Z1262 K1269q.1
      have N1269 := Fr.app N1262 N1269q
      refine own_st (fun t k => st1269.trans k) ?_
      refine own_st (g' := (mkF m 193 #[iv x0, iv x1, .val (.long x2), .second, .val (.long x4), .second, iv x6, iv x7, iv x8, iv x9, .val (.long x10), .second, iv x12, iv x13, rv b1000, rv b1004, rv b1009, rv b1016, rv b1025, rv b1033, rv b1043, iv 0, iv 1] [(.ref b1033), (.int 1), (.ref b1043)])) (fun tt_ kk_ => XS.aload X1269.here hx rfl (hb hby at_187) rfl rfl (XS.iload X1269.here hx rfl (hb hby at_189) rfl (XS.aload X1269.here hx rfl (hb hby at_191) rfl rfl kk_))) ?_
      have F1270 := (F1263.keep K1269q)
      have F1271 := (f1262_0.keep K1269q (ninS (Ne.symm ne1052) nin0))
      have F1272 := (f1262_1.keep K1269q (ninS (Ne.symm ne1052) nin0))
      have F1273 := (f1262_2.keep K1269q (ninS (Ne.symm ne1052) nin0))
      have F1274 := (f1262_3.keep K1269q (ninS (Ne.symm ne1052) nin0))
      have F1275 := (f1262_4.keep K1269q (ninS (Ne.symm ne1052) nin0))
      have F1276 := (f1262_5.keep K1269q (ninS (Ne.symm ne1052) nin0))
      have F1277 := (F1264.keep K1269q (ninS (Ne.symm ne1193) nin0))
      have F1278 := (F1265.keep K1269q (ninS (Ne.symm ne1209) nin0))
      have F1279 := (F1266.keep K1269q (ninS (Ne.symm ne1217) nin0))
      have F1280 := (F1267.keep K1269q (ninS (Ne.symm ne1225) nin0))
      have F1281 := ((((F1185.keep K1188q (ninS ne1054 nin0)).keep K1255q (ninS ne1054 (ninS ne1250 (ninS ne1234 (ninS ne1242 nin0))))).keep K1262q (ninS ne1054 (ninS ne1250 (ninS ne1234 (ninS ne1242 nin0))))).keep K1269q (ninS (Ne.symm ne1042) nin0))
      have F1282 := (f1262_6.keep K1269q (ninS (Ne.symm ne1233) nin0))
      obtain ⟨cq1283, kq1283, q1283a, q1283b, q1283c⟩ := isOf hZ e1269 F1270
      obtain ⟨_, _, ⟨T1283, L1283, k1283, n1283⟩, -, X1283, ⟨Lc1283, hQ1283, l1283, y1283, z1283⟩, st1283⟩ := X1269.virtualBack hx (y := (⟨own_z0, "get", "(I[I)V"⟩ : MethodName)) (z := (⟨own_z0, "get", "(I[I)V"⟩ : MethodName)) hown (mvT hZ (own_w hw 102 rfl)) (mvT hZ (own_w hw 103 rfl)) (notFace_of_selects (args := #[]) (mvT hZ (own_w hw 105 rfl))) (mvT hZ (own_w hw 105 rfl)) (mvT hZ (own_w hw 104 rfl)) (by decide) (backOf (W := 0) (own_rmgetB1 l Z a0 hw [] b1043 b1033 aL_1188 aM_1188 aW_1188 aH_1188 aP_1188 kaL_1188 x8 (-2147483648 : Int32) (-2147483648 : Int32) kaM_1188 (((1 : Int64) <<< (((64 : Int32) - NL) &&& 0x3f).toInt64) - (1 : Int64)) (((1 : Int64) <<< ((32 : Int32) &&& 0x3f).toInt64) - (1 : Int64)) (((1 : Int64) <<< ((32 : Int32) &&& 0x3f).toInt64) - (1 : Int64)) kaW_1188 kaH_1188 (0 : Int32) ((0 : Int32) + ((64 : Int32) - NL)) (0 : Int32) k1033 (0 : Int32) (0 : Int32) (0 : Int32) kaP_1188 (own_kB x12 x6 x8 (-2147483648 : Int32) (0 : Int32) ((0 : Int32) + ((64 : Int32) - NL))) (own_kC x7 (-2147483648 : Int32) (0 : Int32)) u0_1262 u1_1262 h1269 n0 Z1269 F1270 F1271 F1272 F1273 F1274 F1275 F1276 F1277 F1278 F1279 F1280 F1281 F1282 (Ne.symm ne1054) (Ne.symm ne1194) (Ne.symm ne1210) (Ne.symm ne1218) (Ne.symm ne1226) (Ne.symm ne1234) gz1033) hZ (own_w hw 106 rfl) (own_w hw 13 rfl) (by decide) (by decide)) q1283a q1283c (g := (mkF m 193 #[iv x0, iv x1, .val (.long x2), .second, .val (.long x4), .second, iv x6, iv x7, iv x8, iv x9, .val (.long x10), .second, iv x12, iv x13, rv b1000, rv b1004, rv b1009, rv b1016, rv b1025, rv b1033, rv b1043, iv 0, iv 1] [(.ref b1033), (.int 1), (.ref b1043)])) rfl (by rw [hml]; rfl) (Steps.refl _) (argsL := [(.int 1), (.ref b1033)]) (rest := []) (lenOf own_pd14 rfl) rfl (by show 2 * 0 + _ ≤ _; exact Nat.le_of_eq rfl) (hb hby at_193) (fun _ _ => ⟨rfl, e1269, (show cells + 1 + 1 + 1 + 1 + 1 + 1 + 1 + 8 + 0 ≤ 40 by omega), (show slots + 3 + 3 + 3 + 3 + 3 + 3 + 10 + 3089 + 0 ≤ 6336 by omega)⟩)
      dsimp only [Pt.U, Pt.locs, Pt.cells, Pt.slots] at X1283 l1283 y1283 z1283 st1283 hQ1283
      rw [l1283, y1283, z1283] at X1283
      obtain ⟨rfl, N1283q, K1283q, f1283_0⟩ := hQ1283
      obtain ⟨h1283, e1283⟩ : ∃ z, T1283.heap = z := ⟨_, rfl⟩
      rw [e1283] at K1283q f1283_0
      have Z1283 : n0 ≤ h1283.size := Nat.le_trans Z1269 K1283q.1
      have N1283 := Fr.app N1269 N1283q
      refine own_st (fun t k => st1283.trans k) ?_
      refine own_st (g' := (mkF m 199 #[iv x0, iv x1, .val (.long x2), .second, .val (.long x4), .second, iv x6, iv x7, iv x8, iv x9, .val (.long x10), .second, iv x12, iv x13, rv b1000, rv b1004, rv b1009, rv b1016, rv b1025, rv b1033, rv b1043, iv 0, iv 1] [(.int 0), (.ref b1025)])) (fun tt_ kk_ => XS.aload X1283.here hx rfl (hb hby at_196) rfl rfl (XS.iconst X1283.here hx rfl (hb hby at_198) kk_)) ?_
      have F1284 := (f1269_0.keep K1283q (ninS ne1042 nin0))
      refine own_st (g' := (mkF m 202 #[iv x0, iv x1, .val (.long x2), .second, .val (.long x4), .second, iv x6, iv x7, iv x8, iv x9, .val (.long x10), .second, iv x12, iv x13, rv b1000, rv b1004, rv b1009, rv b1016, rv b1025, rv b1033, rv b1043, iv 0, iv 1] [(.int x12), (.int (own_gv x8 (own_kB x12 x6 x8 (-2147483648 : Int32) (0 : Int32) ((0 : Int32) + ((64 : Int32) - NL))) (0 : Int32) (((1 : Int64) <<< (((64 : Int32) - NL) &&& 0x3f).toInt64) - (1 : Int64))))])) (fun tt_ kk_ => own_lvI (g := (mkF m 199 #[iv x0, iv x1, .val (.long x2), .second, .val (.long x4), .second, iv x6, iv x7, iv x8, iv x9, .val (.long x10), .second, iv x12, iv x13, rv b1000, rv b1004, rv b1009, rv b1016, rv b1025, rv b1033, rv b1043, iv 0, iv 1] [(.int 0), (.ref b1025)])) X1283 hx hZ e1283 F1284 (by decide) rfl rfl rfl (hb hby at_199) tt_ (XS.iload X1283.here hx rfl (hb hby at_200) rfl kk_)) ?_
      refine own_st (g' := (mkF m 208 #[iv x0, iv x1, .val (.long x2), .second, .val (.long x4), .second, iv x6, iv x7, iv x8, iv x9, .val (.long x10), .second, iv x12, iv x13, rv b1000, rv b1004, rv b1009, rv b1016, rv b1025, rv b1033, rv b1043, iv 0, iv 1] [(.int 1), (.ref b1025)])) (fun tt_ kk_ => XS.icmpNo X1283.here hx rfl (hb hby at_202) rfl (teq (own_rB0 hbw rfl (own_sh1 hBw) (own_mk0 hBw) hA.1 (own_pb hA hxw) own_min)).2 (XS.aload X1283.here hx rfl (hb hby at_205) rfl rfl (XS.iconst X1283.here hx rfl (hb hby at_207) kk_))) ?_
      refine own_st (g' := (mkF m 211 #[iv x0, iv x1, .val (.long x2), .second, .val (.long x4), .second, iv x6, iv x7, iv x8, iv x9, .val (.long x10), .second, iv x12, iv x13, rv b1000, rv b1004, rv b1009, rv b1016, rv b1025, rv b1033, rv b1043, iv 0, iv 1] [(.int x6), (.int (own_gv (-2147483648 : Int32) (own_kB x12 x6 x8 (-2147483648 : Int32) (0 : Int32) ((0 : Int32) + ((64 : Int32) - NL))) ((0 : Int32) + ((64 : Int32) - NL)) (((1 : Int64) <<< ((32 : Int32) &&& 0x3f).toInt64) - (1 : Int64))))])) (fun tt_ kk_ => own_lvI (g := (mkF m 208 #[iv x0, iv x1, .val (.long x2), .second, .val (.long x4), .second, iv x6, iv x7, iv x8, iv x9, .val (.long x10), .second, iv x12, iv x13, rv b1000, rv b1004, rv b1009, rv b1016, rv b1025, rv b1033, rv b1043, iv 0, iv 1] [(.int 1), (.ref b1025)])) X1283 hx hZ e1283 F1284 (by decide) rfl rfl rfl (hb hby at_208) tt_ (XS.iload X1283.here hx rfl (hb hby at_209) rfl kk_)) ?_
      refine own_st (g' := (mkF m 217 #[iv x0, iv x1, .val (.long x2), .second, .val (.long x4), .second, iv x6, iv x7, iv x8, iv x9, .val (.long x10), .second, iv x12, iv x13, rv b1000, rv b1004, rv b1009, rv b1016, rv b1025, rv b1033, rv b1043, iv 0, iv 1] [(.int 2), (.ref b1025)])) (fun tt_ kk_ => XS.icmpNo X1283.here hx rfl (hb hby at_211) rfl (teq (own_rB1 hbw rfl (own_sh1 hBw) own_mk1 hA.1 (own_pb hA hxw) own_min)).2 (XS.aload X1283.here hx rfl (hb hby at_214) rfl rfl (XS.iconst X1283.here hx rfl (hb hby at_216) kk_))) ?_
      refine own_st (g' := (mkF m 220 #[iv x0, iv x1, .val (.long x2), .second, .val (.long x4), .second, iv x6, iv x7, iv x8, iv x9, .val (.long x10), .second, iv x12, iv x13, rv b1000, rv b1004, rv b1009, rv b1016, rv b1025, rv b1033, rv b1043, iv 0, iv 1] [(.int x7), (.int (own_gv (-2147483648 : Int32) (own_kC x7 (-2147483648 : Int32) (0 : Int32)) (0 : Int32) (((1 : Int64) <<< ((32 : Int32) &&& 0x3f).toInt64) - (1 : Int64))))])) (fun tt_ kk_ => own_lvI (g := (mkF m 217 #[iv x0, iv x1, .val (.long x2), .second, .val (.long x4), .second, iv x6, iv x7, iv x8, iv x9, .val (.long x10), .second, iv x12, iv x13, rv b1000, rv b1004, rv b1009, rv b1016, rv b1025, rv b1033, rv b1043, iv 0, iv 1] [(.int 2), (.ref b1025)])) X1283 hx hZ e1283 F1284 (by decide) rfl rfl rfl (hb hby at_217) tt_ (XS.iload X1283.here hx rfl (hb hby at_218) rfl kk_)) ?_
      refine own_st (g' := (mkF m 226 #[iv x0, iv x1, .val (.long x2), .second, .val (.long x4), .second, iv x6, iv x7, iv x8, iv x9, .val (.long x10), .second, iv x12, iv x13, rv b1000, rv b1004, rv b1009, rv b1016, rv b1025, rv b1033, rv b1043, iv 0, iv 1] [(.int 0), (.ref b1033)])) (fun tt_ kk_ => XS.icmpNo X1283.here hx rfl (hb hby at_220) rfl (teq (own_rC rfl own_mk1 own_min)).2 (XS.aload X1283.here hx rfl (hb hby at_223) rfl rfl (XS.iconst X1283.here hx rfl (hb hby at_225) kk_))) ?_
      refine own_st (g' := (mkF m 229 #[iv x0, iv x1, .val (.long x2), .second, .val (.long x4), .second, iv x6, iv x7, iv x8, iv x9, .val (.long x10), .second, iv x12, iv x13, rv b1000, rv b1004, rv b1009, rv b1016, rv b1025, rv b1033, rv b1043, iv 0, iv 1] [(.int x13), (.int (own_gv x8 u0_1262 (0 : Int32) (((1 : Int64) <<< (((64 : Int32) - NL) &&& 0x3f).toInt64) - (1 : Int64))))])) (fun tt_ kk_ => own_lvI (g := (mkF m 226 #[iv x0, iv x1, .val (.long x2), .second, .val (.long x4), .second, iv x6, iv x7, iv x8, iv x9, .val (.long x10), .second, iv x12, iv x13, rv b1000, rv b1004, rv b1009, rv b1016, rv b1025, rv b1033, rv b1043, iv 0, iv 1] [(.int 0), (.ref b1033)])) X1283 hx hZ e1283 f1283_0 (by decide) rfl rfl rfl (hb hby at_226) tt_ (XS.iload X1283.here hx rfl (hb hby at_227) rfl kk_)) ?_
      refine own_st (g' := (mkF m 235 #[iv x0, iv x1, .val (.long x2), .second, .val (.long x4), .second, iv x6, iv x7, iv x8, iv x9, .val (.long x10), .second, iv x12, iv x13, rv b1000, rv b1004, rv b1009, rv b1016, rv b1025, rv b1033, rv b1043, iv 0, iv 1] [(.int 1), (.ref b1033)])) (fun tt_ kk_ => XS.icmpNo X1283.here hx rfl (hb hby at_229) rfl (teq (by rw [eu0]; exact own_rB0 hbw rfl (own_sh1 hBw) (own_mk0 hBw) hB.1 (own_pb hB hxw) own_min)).2 (XS.aload X1283.here hx rfl (hb hby at_232) rfl rfl (XS.iconst X1283.here hx rfl (hb hby at_234) kk_))) ?_
      refine own_st (g' := (mkF m 238 #[iv x0, iv x1, .val (.long x2), .second, .val (.long x4), .second, iv x6, iv x7, iv x8, iv x9, .val (.long x10), .second, iv x12, iv x13, rv b1000, rv b1004, rv b1009, rv b1016, rv b1025, rv b1033, rv b1043, iv 0, iv 1] [(.int x7), (.int (own_gv (-2147483648 : Int32) u0_1262 ((0 : Int32) + ((64 : Int32) - NL)) (((1 : Int64) <<< ((32 : Int32) &&& 0x3f).toInt64) - (1 : Int64))))])) (fun tt_ kk_ => own_lvI (g := (mkF m 235 #[iv x0, iv x1, .val (.long x2), .second, .val (.long x4), .second, iv x6, iv x7, iv x8, iv x9, .val (.long x10), .second, iv x12, iv x13, rv b1000, rv b1004, rv b1009, rv b1016, rv b1025, rv b1033, rv b1043, iv 0, iv 1] [(.int 1), (.ref b1033)])) X1283 hx hZ e1283 f1283_0 (by decide) rfl rfl rfl (hb hby at_235) tt_ (XS.iload X1283.here hx rfl (hb hby at_236) rfl kk_)) ?_
      refine own_st (g' := (mkF m 244 #[iv x0, iv x1, .val (.long x2), .second, .val (.long x4), .second, iv x6, iv x7, iv x8, iv x9, .val (.long x10), .second, iv x12, iv x13, rv b1000, rv b1004, rv b1009, rv b1016, rv b1025, rv b1033, rv b1043, iv 0, iv 1] [(.int 2), (.ref b1033)])) (fun tt_ kk_ => XS.icmpNo X1283.here hx rfl (hb hby at_238) rfl (teq (by rw [eu0]; exact own_rB1 hbw rfl (own_sh1 hBw) own_mk1 hB.1 (own_pb hB hxw) own_min)).2 (XS.aload X1283.here hx rfl (hb hby at_241) rfl rfl (XS.iconst X1283.here hx rfl (hb hby at_243) kk_))) ?_
      refine own_st (g' := (mkF m 247 #[iv x0, iv x1, .val (.long x2), .second, .val (.long x4), .second, iv x6, iv x7, iv x8, iv x9, .val (.long x10), .second, iv x12, iv x13, rv b1000, rv b1004, rv b1009, rv b1016, rv b1025, rv b1033, rv b1043, iv 0, iv 1] [(.int x6), (.int (own_gv (-2147483648 : Int32) u1_1262 (0 : Int32) (((1 : Int64) <<< ((32 : Int32) &&& 0x3f).toInt64) - (1 : Int64))))])) (fun tt_ kk_ => own_lvI (g := (mkF m 244 #[iv x0, iv x1, .val (.long x2), .second, .val (.long x4), .second, iv x6, iv x7, iv x8, iv x9, .val (.long x10), .second, iv x12, iv x13, rv b1000, rv b1004, rv b1009, rv b1016, rv b1025, rv b1033, rv b1043, iv 0, iv 1] [(.int 2), (.ref b1033)])) X1283 hx hZ e1283 f1283_0 (by decide) rfl rfl rfl (hb hby at_244) tt_ (XS.iload X1283.here hx rfl (hb hby at_245) rfl kk_)) ?_
      refine own_st (g' := (mkF m 255 #[iv x0, iv x1, .val (.long x2), .second, .val (.long x4), .second, iv x6, iv x7, iv x8, iv x9, .val (.long x10), .second, iv x12, iv x13, rv b1000, rv b1004, rv b1009, rv b1016, rv b1025, rv b1033, rv b1043, iv 0, iv 1] [(.int 1)])) (fun tt_ kk_ => XS.icmpNo X1283.here hx rfl (hb hby at_247) rfl (teq (by rw [eu1]; exact own_rC rfl own_mk1 own_min)).2 (XS.iconst X1283.here hx rfl (hb hby at_250) (XS.goto X1283.here hx rfl (pc0 := 251) (pc' := 255) rfl (hb hby at_251) (by decide) (by decide) kk_))) ?_
      exact own_retN X1283 hx hlk (t := .boolean) (Or.inl rfl) hret (hb hby at_255) (by omega) (by omega) ⟨rfl, N1283⟩
    · skip
      refine own_st (g' := (mkF m 184 #[iv x0, iv x1, .val (.long x2), .second, .val (.long x4), .second, iv x6, iv x7, iv x8, iv x9, .val (.long x10), .second, iv x12, iv x13, rv b1000, rv b1004, rv b1009, rv b1016, rv b1025, rv b1033, rv b1043, iv 0, iv 0] [(.ref b1025), (.int 0), (.ref b1043)])) (fun tt_ kk_ => XS.istore X1262.here hx rfl (hb hby at_176) rfl (l' := #[iv x0, iv x1, .val (.long x2), .second, .val (.long x4), .second, iv x6, iv x7, iv x8, iv x9, .val (.long x10), .second, iv x12, iv x13, rv b1000, rv b1004, rv b1009, rv b1016, rv b1025, rv b1033, rv b1043, iv 0, iv 0]) rfl (XS.aload X1262.here hx rfl (hb hby at_178) rfl rfl (XS.iload X1262.here hx rfl (hb hby at_180) rfl (XS.aload X1262.here hx rfl (hb hby at_182) rfl rfl kk_)))) ?_
      have F1285 := (F1256.keep K1262q)
      have F1286 := (F1257.keep K1262q (ninS (Ne.symm ne1195) (ninS f1188_18 (ninS f1188_23 (ninS f1188_28 nin0)))))
      have F1287 := ((f1188_12.keep K1255q (ninS (Ne.symm ne1211) (ninS f1188_20 (ninS f1188_25 (ninS f1188_30 nin0))))).keep K1262q (ninS (Ne.symm ne1211) (ninS f1188_20 (ninS f1188_25 (ninS f1188_30 nin0)))))
      have F1288 := (F1259.keep K1262q (ninS (Ne.symm ne1219) (ninS f1188_21 (ninS f1188_26 (ninS f1188_31 nin0)))))
      have F1289 := (F1260.keep K1262q (ninS (Ne.symm ne1227) (ninS f1188_22 (ninS f1188_27 (ninS f1188_32 nin0)))))
      have F1290 := (((F1184.keep K1188q (ninS ne1052 nin0)).keep K1255q (ninS ne1052 (ninS ne1249 (ninS ne1233 (ninS ne1241 nin0))))).keep K1262q (ninS ne1052 (ninS ne1249 (ninS ne1233 (ninS ne1241 nin0)))))
      obtain ⟨cq1291, kq1291, q1291a, q1291b, q1291c⟩ := isOf hZ e1262 F1285
      obtain ⟨_, _, ⟨T1291, L1291, k1291, n1291⟩, -, X1291, ⟨Lc1291, hQ1291, l1291, y1291, z1291⟩, st1291⟩ := X1262.virtualBack hx (y := (⟨own_z0, "get", "(I[I)V"⟩ : MethodName)) (z := (⟨own_z0, "get", "(I[I)V"⟩ : MethodName)) hown (mvT hZ (own_w hw 102 rfl)) (mvT hZ (own_w hw 103 rfl)) (notFace_of_selects (args := #[]) (mvT hZ (own_w hw 105 rfl))) (mvT hZ (own_w hw 105 rfl)) (mvT hZ (own_w hw 104 rfl)) (by decide) (backOf (W := 0) (own_rmgetB0 l Z a0 hw [] b1043 b1025 aL_1188 aM_1188 aW_1188 aH_1188 aP_1188 kaL_1188 x8 (-2147483648 : Int32) (-2147483648 : Int32) kaM_1188 (((1 : Int64) <<< (((64 : Int32) - NL) &&& 0x3f).toInt64) - (1 : Int64)) (((1 : Int64) <<< ((32 : Int32) &&& 0x3f).toInt64) - (1 : Int64)) (((1 : Int64) <<< ((32 : Int32) &&& 0x3f).toInt64) - (1 : Int64)) kaW_1188 kaH_1188 (0 : Int32) ((0 : Int32) + ((64 : Int32) - NL)) (0 : Int32) k1025 (0 : Int32) (0 : Int32) (0 : Int32) kaP_1188 (own_kB x12 x6 x8 (-2147483648 : Int32) (0 : Int32) ((0 : Int32) + ((64 : Int32) - NL))) (own_kC x7 (-2147483648 : Int32) (0 : Int32)) u0_1262 u1_1262 h1262 n0 Z1262 F1285 f1262_0 f1262_1 f1262_2 f1262_3 f1262_4 f1262_5 F1286 F1287 F1288 F1289 F1290 f1262_6 (Ne.symm ne1052) (Ne.symm ne1193) (Ne.symm ne1209) (Ne.symm ne1217) (Ne.symm ne1225) (Ne.symm ne1233) gz1025) hZ (own_w hw 106 rfl) (own_w hw 13 rfl) (by decide) (by decide)) q1291a q1291c (g := (mkF m 184 #[iv x0, iv x1, .val (.long x2), .second, .val (.long x4), .second, iv x6, iv x7, iv x8, iv x9, .val (.long x10), .second, iv x12, iv x13, rv b1000, rv b1004, rv b1009, rv b1016, rv b1025, rv b1033, rv b1043, iv 0, iv 0] [(.ref b1025), (.int 0), (.ref b1043)])) rfl (by rw [hml]; rfl) (Steps.refl _) (argsL := [(.int 0), (.ref b1025)]) (rest := []) (lenOf own_pd14 rfl) rfl (by show 2 * 0 + _ ≤ _; exact Nat.le_of_eq rfl) (hb hby at_184) (fun _ _ => ⟨rfl, e1262, (show cells + 1 + 1 + 1 + 1 + 1 + 1 + 1 + 8 + 0 ≤ 40 by omega), (show slots + 3 + 3 + 3 + 3 + 3 + 3 + 10 + 3089 + 0 ≤ 6336 by omega)⟩)
      dsimp only [Pt.U, Pt.locs, Pt.cells, Pt.slots] at X1291 l1291 y1291 z1291 st1291 hQ1291
      rw [l1291, y1291, z1291] at X1291
      obtain ⟨rfl, N1291q, K1291q, f1291_0⟩ := hQ1291
      obtain ⟨h1291, e1291⟩ : ∃ z, T1291.heap = z := ⟨_, rfl⟩
      rw [e1291] at K1291q f1291_0
      have Z1291 : n0 ≤ h1291.size := Nat.le_trans Z1262 K1291q.1
      have N1291 := Fr.app N1262 N1291q
      refine own_st (fun t k => st1291.trans k) ?_
      refine own_st (g' := (mkF m 193 #[iv x0, iv x1, .val (.long x2), .second, .val (.long x4), .second, iv x6, iv x7, iv x8, iv x9, .val (.long x10), .second, iv x12, iv x13, rv b1000, rv b1004, rv b1009, rv b1016, rv b1025, rv b1033, rv b1043, iv 0, iv 0] [(.ref b1033), (.int 0), (.ref b1043)])) (fun tt_ kk_ => XS.aload X1291.here hx rfl (hb hby at_187) rfl rfl (XS.iload X1291.here hx rfl (hb hby at_189) rfl (XS.aload X1291.here hx rfl (hb hby at_191) rfl rfl kk_))) ?_
      have F1292 := (F1285.keep K1291q)
      have F1293 := (f1262_0.keep K1291q (ninS (Ne.symm ne1052) nin0))
      have F1294 := (f1262_1.keep K1291q (ninS (Ne.symm ne1052) nin0))
      have F1295 := (f1262_2.keep K1291q (ninS (Ne.symm ne1052) nin0))
      have F1296 := (f1262_3.keep K1291q (ninS (Ne.symm ne1052) nin0))
      have F1297 := (f1262_4.keep K1291q (ninS (Ne.symm ne1052) nin0))
      have F1298 := (f1262_5.keep K1291q (ninS (Ne.symm ne1052) nin0))
      have F1299 := (F1286.keep K1291q (ninS (Ne.symm ne1193) nin0))
      have F1300 := (F1287.keep K1291q (ninS (Ne.symm ne1209) nin0))
      have F1301 := (F1288.keep K1291q (ninS (Ne.symm ne1217) nin0))
      have F1302 := (F1289.keep K1291q (ninS (Ne.symm ne1225) nin0))
      have F1303 := ((((F1185.keep K1188q (ninS ne1054 nin0)).keep K1255q (ninS ne1054 (ninS ne1250 (ninS ne1234 (ninS ne1242 nin0))))).keep K1262q (ninS ne1054 (ninS ne1250 (ninS ne1234 (ninS ne1242 nin0))))).keep K1291q (ninS (Ne.symm ne1042) nin0))
      have F1304 := (f1262_6.keep K1291q (ninS (Ne.symm ne1233) nin0))
      obtain ⟨cq1305, kq1305, q1305a, q1305b, q1305c⟩ := isOf hZ e1291 F1292
      obtain ⟨_, _, ⟨T1305, L1305, k1305, n1305⟩, -, X1305, ⟨Lc1305, hQ1305, l1305, y1305, z1305⟩, st1305⟩ := X1291.virtualBack hx (y := (⟨own_z0, "get", "(I[I)V"⟩ : MethodName)) (z := (⟨own_z0, "get", "(I[I)V"⟩ : MethodName)) hown (mvT hZ (own_w hw 102 rfl)) (mvT hZ (own_w hw 103 rfl)) (notFace_of_selects (args := #[]) (mvT hZ (own_w hw 105 rfl))) (mvT hZ (own_w hw 105 rfl)) (mvT hZ (own_w hw 104 rfl)) (by decide) (backOf (W := 0) (own_rmgetB0 l Z a0 hw [] b1043 b1033 aL_1188 aM_1188 aW_1188 aH_1188 aP_1188 kaL_1188 x8 (-2147483648 : Int32) (-2147483648 : Int32) kaM_1188 (((1 : Int64) <<< (((64 : Int32) - NL) &&& 0x3f).toInt64) - (1 : Int64)) (((1 : Int64) <<< ((32 : Int32) &&& 0x3f).toInt64) - (1 : Int64)) (((1 : Int64) <<< ((32 : Int32) &&& 0x3f).toInt64) - (1 : Int64)) kaW_1188 kaH_1188 (0 : Int32) ((0 : Int32) + ((64 : Int32) - NL)) (0 : Int32) k1033 (0 : Int32) (0 : Int32) (0 : Int32) kaP_1188 (own_kB x12 x6 x8 (-2147483648 : Int32) (0 : Int32) ((0 : Int32) + ((64 : Int32) - NL))) (own_kC x7 (-2147483648 : Int32) (0 : Int32)) u0_1262 u1_1262 h1291 n0 Z1291 F1292 F1293 F1294 F1295 F1296 F1297 F1298 F1299 F1300 F1301 F1302 F1303 F1304 (Ne.symm ne1054) (Ne.symm ne1194) (Ne.symm ne1210) (Ne.symm ne1218) (Ne.symm ne1226) (Ne.symm ne1234) gz1033) hZ (own_w hw 106 rfl) (own_w hw 13 rfl) (by decide) (by decide)) q1305a q1305c (g := (mkF m 193 #[iv x0, iv x1, .val (.long x2), .second, .val (.long x4), .second, iv x6, iv x7, iv x8, iv x9, .val (.long x10), .second, iv x12, iv x13, rv b1000, rv b1004, rv b1009, rv b1016, rv b1025, rv b1033, rv b1043, iv 0, iv 0] [(.ref b1033), (.int 0), (.ref b1043)])) rfl (by rw [hml]; rfl) (Steps.refl _) (argsL := [(.int 0), (.ref b1033)]) (rest := []) (lenOf own_pd14 rfl) rfl (by show 2 * 0 + _ ≤ _; exact Nat.le_of_eq rfl) (hb hby at_193) (fun _ _ => ⟨rfl, e1291, (show cells + 1 + 1 + 1 + 1 + 1 + 1 + 1 + 8 + 0 ≤ 40 by omega), (show slots + 3 + 3 + 3 + 3 + 3 + 3 + 10 + 3089 + 0 ≤ 6336 by omega)⟩)
      dsimp only [Pt.U, Pt.locs, Pt.cells, Pt.slots] at X1305 l1305 y1305 z1305 st1305 hQ1305
      rw [l1305, y1305, z1305] at X1305
      obtain ⟨rfl, N1305q, K1305q, f1305_0⟩ := hQ1305
      obtain ⟨h1305, e1305⟩ : ∃ z, T1305.heap = z := ⟨_, rfl⟩
      rw [e1305] at K1305q f1305_0
      have Z1305 : n0 ≤ h1305.size := Nat.le_trans Z1291 K1305q.1
      have N1305 := Fr.app N1291 N1305q
      refine own_st (fun t k => st1305.trans k) ?_
      refine own_st (g' := (mkF m 199 #[iv x0, iv x1, .val (.long x2), .second, .val (.long x4), .second, iv x6, iv x7, iv x8, iv x9, .val (.long x10), .second, iv x12, iv x13, rv b1000, rv b1004, rv b1009, rv b1016, rv b1025, rv b1033, rv b1043, iv 0, iv 0] [(.int 0), (.ref b1025)])) (fun tt_ kk_ => XS.aload X1305.here hx rfl (hb hby at_196) rfl rfl (XS.iconst X1305.here hx rfl (hb hby at_198) kk_)) ?_
      have F1306 := (f1291_0.keep K1305q (ninS ne1042 nin0))
      refine own_st (g' := (mkF m 202 #[iv x0, iv x1, .val (.long x2), .second, .val (.long x4), .second, iv x6, iv x7, iv x8, iv x9, .val (.long x10), .second, iv x12, iv x13, rv b1000, rv b1004, rv b1009, rv b1016, rv b1025, rv b1033, rv b1043, iv 0, iv 0] [(.int x12), (.int (own_gv x8 (own_kB x12 x6 x8 (-2147483648 : Int32) (0 : Int32) ((0 : Int32) + ((64 : Int32) - NL))) (0 : Int32) (((1 : Int64) <<< (((64 : Int32) - NL) &&& 0x3f).toInt64) - (1 : Int64))))])) (fun tt_ kk_ => own_lvI (g := (mkF m 199 #[iv x0, iv x1, .val (.long x2), .second, .val (.long x4), .second, iv x6, iv x7, iv x8, iv x9, .val (.long x10), .second, iv x12, iv x13, rv b1000, rv b1004, rv b1009, rv b1016, rv b1025, rv b1033, rv b1043, iv 0, iv 0] [(.int 0), (.ref b1025)])) X1305 hx hZ e1305 F1306 (by decide) rfl rfl rfl (hb hby at_199) tt_ (XS.iload X1305.here hx rfl (hb hby at_200) rfl kk_)) ?_
      refine own_st (g' := (mkF m 208 #[iv x0, iv x1, .val (.long x2), .second, .val (.long x4), .second, iv x6, iv x7, iv x8, iv x9, .val (.long x10), .second, iv x12, iv x13, rv b1000, rv b1004, rv b1009, rv b1016, rv b1025, rv b1033, rv b1043, iv 0, iv 0] [(.int 1), (.ref b1025)])) (fun tt_ kk_ => XS.icmpNo X1305.here hx rfl (hb hby at_202) rfl (teq (own_rB0 hbw rfl (own_sh1 hBw) (own_mk0 hBw) hA.1 (own_pb hA hxw) own_min)).2 (XS.aload X1305.here hx rfl (hb hby at_205) rfl rfl (XS.iconst X1305.here hx rfl (hb hby at_207) kk_))) ?_
      refine own_st (g' := (mkF m 211 #[iv x0, iv x1, .val (.long x2), .second, .val (.long x4), .second, iv x6, iv x7, iv x8, iv x9, .val (.long x10), .second, iv x12, iv x13, rv b1000, rv b1004, rv b1009, rv b1016, rv b1025, rv b1033, rv b1043, iv 0, iv 0] [(.int x6), (.int (own_gv (-2147483648 : Int32) (own_kB x12 x6 x8 (-2147483648 : Int32) (0 : Int32) ((0 : Int32) + ((64 : Int32) - NL))) ((0 : Int32) + ((64 : Int32) - NL)) (((1 : Int64) <<< ((32 : Int32) &&& 0x3f).toInt64) - (1 : Int64))))])) (fun tt_ kk_ => own_lvI (g := (mkF m 208 #[iv x0, iv x1, .val (.long x2), .second, .val (.long x4), .second, iv x6, iv x7, iv x8, iv x9, .val (.long x10), .second, iv x12, iv x13, rv b1000, rv b1004, rv b1009, rv b1016, rv b1025, rv b1033, rv b1043, iv 0, iv 0] [(.int 1), (.ref b1025)])) X1305 hx hZ e1305 F1306 (by decide) rfl rfl rfl (hb hby at_208) tt_ (XS.iload X1305.here hx rfl (hb hby at_209) rfl kk_)) ?_
      refine own_st (g' := (mkF m 217 #[iv x0, iv x1, .val (.long x2), .second, .val (.long x4), .second, iv x6, iv x7, iv x8, iv x9, .val (.long x10), .second, iv x12, iv x13, rv b1000, rv b1004, rv b1009, rv b1016, rv b1025, rv b1033, rv b1043, iv 0, iv 0] [(.int 2), (.ref b1025)])) (fun tt_ kk_ => XS.icmpNo X1305.here hx rfl (hb hby at_211) rfl (teq (own_rB1 hbw rfl (own_sh1 hBw) own_mk1 hA.1 (own_pb hA hxw) own_min)).2 (XS.aload X1305.here hx rfl (hb hby at_214) rfl rfl (XS.iconst X1305.here hx rfl (hb hby at_216) kk_))) ?_
      refine own_st (g' := (mkF m 220 #[iv x0, iv x1, .val (.long x2), .second, .val (.long x4), .second, iv x6, iv x7, iv x8, iv x9, .val (.long x10), .second, iv x12, iv x13, rv b1000, rv b1004, rv b1009, rv b1016, rv b1025, rv b1033, rv b1043, iv 0, iv 0] [(.int x7), (.int (own_gv (-2147483648 : Int32) (own_kC x7 (-2147483648 : Int32) (0 : Int32)) (0 : Int32) (((1 : Int64) <<< ((32 : Int32) &&& 0x3f).toInt64) - (1 : Int64))))])) (fun tt_ kk_ => own_lvI (g := (mkF m 217 #[iv x0, iv x1, .val (.long x2), .second, .val (.long x4), .second, iv x6, iv x7, iv x8, iv x9, .val (.long x10), .second, iv x12, iv x13, rv b1000, rv b1004, rv b1009, rv b1016, rv b1025, rv b1033, rv b1043, iv 0, iv 0] [(.int 2), (.ref b1025)])) X1305 hx hZ e1305 F1306 (by decide) rfl rfl rfl (hb hby at_217) tt_ (XS.iload X1305.here hx rfl (hb hby at_218) rfl kk_)) ?_
      refine own_st (g' := (mkF m 226 #[iv x0, iv x1, .val (.long x2), .second, .val (.long x4), .second, iv x6, iv x7, iv x8, iv x9, .val (.long x10), .second, iv x12, iv x13, rv b1000, rv b1004, rv b1009, rv b1016, rv b1025, rv b1033, rv b1043, iv 0, iv 0] [(.int 0), (.ref b1033)])) (fun tt_ kk_ => XS.icmpNo X1305.here hx rfl (hb hby at_220) rfl (teq (own_rC rfl own_mk1 own_min)).2 (XS.aload X1305.here hx rfl (hb hby at_223) rfl rfl (XS.iconst X1305.here hx rfl (hb hby at_225) kk_))) ?_
      refine own_st (g' := (mkF m 229 #[iv x0, iv x1, .val (.long x2), .second, .val (.long x4), .second, iv x6, iv x7, iv x8, iv x9, .val (.long x10), .second, iv x12, iv x13, rv b1000, rv b1004, rv b1009, rv b1016, rv b1025, rv b1033, rv b1043, iv 0, iv 0] [(.int x13), (.int (own_gv x8 (own_kB x12 x6 x8 (-2147483648 : Int32) (0 : Int32) ((0 : Int32) + ((64 : Int32) - NL))) (0 : Int32) (((1 : Int64) <<< (((64 : Int32) - NL) &&& 0x3f).toInt64) - (1 : Int64))))])) (fun tt_ kk_ => own_lvI (g := (mkF m 226 #[iv x0, iv x1, .val (.long x2), .second, .val (.long x4), .second, iv x6, iv x7, iv x8, iv x9, .val (.long x10), .second, iv x12, iv x13, rv b1000, rv b1004, rv b1009, rv b1016, rv b1025, rv b1033, rv b1043, iv 0, iv 0] [(.int 0), (.ref b1033)])) X1305 hx hZ e1305 f1305_0 (by decide) rfl rfl rfl (hb hby at_226) tt_ (XS.iload X1305.here hx rfl (hb hby at_227) rfl kk_)) ?_
      refine own_st (g' := (mkF m 235 #[iv x0, iv x1, .val (.long x2), .second, .val (.long x4), .second, iv x6, iv x7, iv x8, iv x9, .val (.long x10), .second, iv x12, iv x13, rv b1000, rv b1004, rv b1009, rv b1016, rv b1025, rv b1033, rv b1043, iv 0, iv 0] [(.int 1), (.ref b1033)])) (fun tt_ kk_ => XS.icmpNo X1305.here hx rfl (hb hby at_229) rfl (teq (by rw [eu0]; exact own_rB0 hbw rfl (own_sh1 hBw) (own_mk0 hBw) hB.1 (own_pb hB hxw) own_min)).2 (XS.aload X1305.here hx rfl (hb hby at_232) rfl rfl (XS.iconst X1305.here hx rfl (hb hby at_234) kk_))) ?_
      refine own_st (g' := (mkF m 238 #[iv x0, iv x1, .val (.long x2), .second, .val (.long x4), .second, iv x6, iv x7, iv x8, iv x9, .val (.long x10), .second, iv x12, iv x13, rv b1000, rv b1004, rv b1009, rv b1016, rv b1025, rv b1033, rv b1043, iv 0, iv 0] [(.int x7), (.int (own_gv (-2147483648 : Int32) (own_kB x12 x6 x8 (-2147483648 : Int32) (0 : Int32) ((0 : Int32) + ((64 : Int32) - NL))) ((0 : Int32) + ((64 : Int32) - NL)) (((1 : Int64) <<< ((32 : Int32) &&& 0x3f).toInt64) - (1 : Int64))))])) (fun tt_ kk_ => own_lvI (g := (mkF m 235 #[iv x0, iv x1, .val (.long x2), .second, .val (.long x4), .second, iv x6, iv x7, iv x8, iv x9, .val (.long x10), .second, iv x12, iv x13, rv b1000, rv b1004, rv b1009, rv b1016, rv b1025, rv b1033, rv b1043, iv 0, iv 0] [(.int 1), (.ref b1033)])) X1305 hx hZ e1305 f1305_0 (by decide) rfl rfl rfl (hb hby at_235) tt_ (XS.iload X1305.here hx rfl (hb hby at_236) rfl kk_)) ?_
      refine own_st (g' := (mkF m 244 #[iv x0, iv x1, .val (.long x2), .second, .val (.long x4), .second, iv x6, iv x7, iv x8, iv x9, .val (.long x10), .second, iv x12, iv x13, rv b1000, rv b1004, rv b1009, rv b1016, rv b1025, rv b1033, rv b1043, iv 0, iv 0] [(.int 2), (.ref b1033)])) (fun tt_ kk_ => XS.icmpNo X1305.here hx rfl (hb hby at_238) rfl (teq (by rw [eu0]; exact own_rB1 hbw rfl (own_sh1 hBw) own_mk1 hB.1 (own_pb hB hxw) own_min)).2 (XS.aload X1305.here hx rfl (hb hby at_241) rfl rfl (XS.iconst X1305.here hx rfl (hb hby at_243) kk_))) ?_
      refine own_st (g' := (mkF m 247 #[iv x0, iv x1, .val (.long x2), .second, .val (.long x4), .second, iv x6, iv x7, iv x8, iv x9, .val (.long x10), .second, iv x12, iv x13, rv b1000, rv b1004, rv b1009, rv b1016, rv b1025, rv b1033, rv b1043, iv 0, iv 0] [(.int x6), (.int (own_gv (-2147483648 : Int32) (own_kC x7 (-2147483648 : Int32) (0 : Int32)) (0 : Int32) (((1 : Int64) <<< ((32 : Int32) &&& 0x3f).toInt64) - (1 : Int64))))])) (fun tt_ kk_ => own_lvI (g := (mkF m 244 #[iv x0, iv x1, .val (.long x2), .second, .val (.long x4), .second, iv x6, iv x7, iv x8, iv x9, .val (.long x10), .second, iv x12, iv x13, rv b1000, rv b1004, rv b1009, rv b1016, rv b1025, rv b1033, rv b1043, iv 0, iv 0] [(.int 2), (.ref b1033)])) X1305 hx hZ e1305 f1305_0 (by decide) rfl rfl rfl (hb hby at_244) tt_ (XS.iload X1305.here hx rfl (hb hby at_245) rfl kk_)) ?_
      refine own_st (g' := (mkF m 255 #[iv x0, iv x1, .val (.long x2), .second, .val (.long x4), .second, iv x6, iv x7, iv x8, iv x9, .val (.long x10), .second, iv x12, iv x13, rv b1000, rv b1004, rv b1009, rv b1016, rv b1025, rv b1033, rv b1043, iv 0, iv 0] [(.int 1)])) (fun tt_ kk_ => XS.icmpNo X1305.here hx rfl (hb hby at_247) rfl (teq (by rw [eu1]; exact own_rC rfl own_mk1 own_min)).2 (XS.iconst X1305.here hx rfl (hb hby at_250) (XS.goto X1305.here hx rfl (pc0 := 251) (pc' := 255) rfl (hb hby at_251) (by decide) (by decide) kk_))) ?_
      exact own_retN X1305 hx hlk (t := .boolean) (Or.inl rfl) hret (hb hby at_255) (by omega) (by omega) ⟨rfl, N1305⟩
set_option maxRecDepth 65536 in
set_option maxHeartbeats 8000000 in
theorem own_t0 {p : Program} {l : Launch} {e : Env} {s : State} {m : MethodId} {args : Array Value} {below : List Frame} {meth : Method} {c : Code} {T : State} {locs : List Loc} {cells slots : Nat} {Z : State} {a0 : Array Value} {h0 : Heap} {n0 : Nat} (X0 : Stand p l e room_1 s m args below meth c T locs cells slots) (hx : p.tables.exec = Jvm.exec) (hlk : meth.locks = false) (hby : c.code = code) (hml : c.maxLocals = 23) (hret : meth.sig.returnType = some .boolean) (hown : s.vm.findClass "com/example/weigh/weigh/models/explicit/StateTableGetPinLaw" = some m.cls) (hZ : Z.Warmed39 s.vm) (hw : own_HW Z a0) (e0 : T.heap = h0) (N0 : Fr n0 locs) (Z0 : n0 ≤ h0.size) (hcc : cells ≤ 0) (hss : slots ≤ 0) (x0 : Int32) (x1 : Int32) (x2 : Int64) (x4 : Int64) (x6 : Int32) (x7 : Int32) :
    own_Go p e below s T (mkF m 0 #[iv x0, iv x1, .val (.long x2), .second, .val (.long x4), .second, iv x6, iv x7, .unset, .unset, .unset, .unset, .unset, .unset, .unset, .unset, .unset, .unset, .unset, .unset, .unset, .unset, .unset] []) (own_Q0 n0) 40 6336 := by
  refine own_st (g' := (mkF m 2 #[iv x0, iv x1, .val (.long x2), .second, .val (.long x4), .second, iv x6, iv x7, .unset, .unset, .unset, .unset, .unset, .unset, .unset, .unset, .unset, .unset, .unset, .unset, .unset, .unset, .unset] [(.int x1), (.int x0)])) (fun tt_ kk_ => XS.iloadN X0.here hx rfl (hb hby at_0) rfl (XS.iloadN X0.here hx rfl (hb hby at_1) rfl kk_)) ?_
  obtain ⟨_, _, ⟨T998, L998, k998, n998⟩, -, X998, ⟨Lc998, hQ998, l998, y998, z998⟩, st998⟩ := Jvm.LawKit.callS X0 hx (y := (⟨own_z2, "min", "(II)I"⟩ : MethodName)) hown (mvT hZ (own_w hw 0 rfl)) (mvT hZ (own_w hw 1 rfl)) (mvT hZ (own_w hw 2 rfl)) (mvT hZ (own_w hw 3 rfl)) (by decide) (backOf (W := 0) (own_rm1 l Z a0 hw [] x0 x1 h0 n0) hZ (own_w hw 3 rfl) (own_w hw 2 rfl) (by decide) (by decide)) (g := (mkF m 2 #[iv x0, iv x1, .val (.long x2), .second, .val (.long x4), .second, iv x6, iv x7, .unset, .unset, .unset, .unset, .unset, .unset, .unset, .unset, .unset, .unset, .unset, .unset, .unset, .unset, .unset] [(.int x1), (.int x0)])) rfl (by rw [hml]; rfl) (argsL := [(.int x0), (.int x1)]) (rest := []) (lenOf own_pd11 rfl) rfl (by show 2 * 0 + _ ≤ _; exact Nat.le_of_eq rfl) (hb hby at_2) (fun _ _ => ⟨rfl, e0, (show cells + 0 ≤ 40 by omega), (show slots + 0 ≤ 6336 by omega)⟩)
  dsimp only [Pt.U, Pt.locs, Pt.cells, Pt.slots] at X998 l998 y998 z998 st998 hQ998
  rw [l998, y998, z998] at X998
  obtain ⟨rfl, N998q, e998⟩ := hQ998
  have N998 := Fr.app N0 N998q
  refine own_st st998 ?_
  refine own_st (g' := (mkF m 9 #[iv x0, iv x1, .val (.long x2), .second, .val (.long x4), .second, iv x6, iv x7, iv (own_f1_0 x0 x1), .unset, .unset, .unset, .unset, .unset, .unset, .unset, .unset, .unset, .unset, .unset, .unset, .unset, .unset] [(.int x1), (.int x0)])) (fun tt_ kk_ => XS.istore X998.here hx rfl (hb hby at_5) rfl (l' := #[iv x0, iv x1, .val (.long x2), .second, .val (.long x4), .second, iv x6, iv x7, iv (own_f1_0 x0 x1), .unset, .unset, .unset, .unset, .unset, .unset, .unset, .unset, .unset, .unset, .unset, .unset, .unset, .unset]) rfl (XS.iloadN X998.here hx rfl (hb hby at_7) rfl (XS.iloadN X998.here hx rfl (hb hby at_8) rfl kk_))) ?_
  obtain ⟨_, _, ⟨T999, L999, k999, n999⟩, -, X999, ⟨Lc999, hQ999, l999, y999, z999⟩, st999⟩ := Jvm.LawKit.callS X998 hx (y := (⟨own_z2, "max", "(II)I"⟩ : MethodName)) hown (mvT hZ (own_w hw 4 rfl)) (mvT hZ (own_w hw 5 rfl)) (mvT hZ (own_w hw 2 rfl)) (mvT hZ (own_w hw 6 rfl)) (by decide) (backOf (W := 0) (own_rm2 l Z a0 hw [] x0 x1 h0 n0) hZ (own_w hw 6 rfl) (own_w hw 2 rfl) (by decide) (by decide)) (g := (mkF m 9 #[iv x0, iv x1, .val (.long x2), .second, .val (.long x4), .second, iv x6, iv x7, iv (own_f1_0 x0 x1), .unset, .unset, .unset, .unset, .unset, .unset, .unset, .unset, .unset, .unset, .unset, .unset, .unset, .unset] [(.int x1), (.int x0)])) rfl (by rw [hml]; rfl) (argsL := [(.int x0), (.int x1)]) (rest := []) (lenOf own_pd11 rfl) rfl (by show 2 * 0 + _ ≤ _; exact Nat.le_of_eq rfl) (hb hby at_9) (fun _ _ => ⟨rfl, e998, (show cells + 0 ≤ 40 by omega), (show slots + 0 ≤ 6336 by omega)⟩)
  dsimp only [Pt.U, Pt.locs, Pt.cells, Pt.slots] at X999 l999 y999 z999 st999 hQ999
  rw [l999, y999, z999] at X999
  obtain ⟨rfl, N999q, e999⟩ := hQ999
  have N999 := Fr.app N998 N999q
  refine own_st st999 ?_
  refine own_st (g' := (mkF m 29 #[iv x0, iv x1, .val (.long x2), .second, .val (.long x4), .second, iv x6, iv x7, iv (own_f1_0 x0 x1), iv (own_f2_0 x0 x1), .val (.long ((((own_f2_0 x0 x1).toInt64) - ((own_f1_0 x0 x1).toInt64)) + (1 : Int64))), .second, .unset, .unset, .unset, .unset, .unset, .unset, .unset, .unset, .unset, .unset, .unset] [(.long x2), (.long ((own_f1_0 x0 x1).toInt64))])) (fun tt_ kk_ => XS.istore X999.here hx rfl (hb hby at_12) rfl (l' := #[iv x0, iv x1, .val (.long x2), .second, .val (.long x4), .second, iv x6, iv x7, iv (own_f1_0 x0 x1), iv (own_f2_0 x0 x1), .unset, .unset, .unset, .unset, .unset, .unset, .unset, .unset, .unset, .unset, .unset, .unset, .unset]) rfl (XS.iload X999.here hx rfl (hb hby at_14) rfl (XS.i2l X999.here hx rfl (hb hby at_16) rfl (XS.iload X999.here hx rfl (hb hby at_17) rfl (XS.i2l X999.here hx rfl (hb hby at_19) rfl (XS.lsub X999.here hx rfl (hb hby at_20) rfl (XS.lconst X999.here hx rfl (hb hby at_21) (XS.ladd X999.here hx rfl (hb hby at_22) rfl (XS.lstore X999.here hx rfl (hb hby at_23) rfl (l' := #[iv x0, iv x1, .val (.long x2), .second, .val (.long x4), .second, iv x6, iv x7, iv (own_f1_0 x0 x1), iv (own_f2_0 x0 x1), .val (.long ((((own_f2_0 x0 x1).toInt64) - ((own_f1_0 x0 x1).toInt64)) + (1 : Int64))), .second, .unset, .unset, .unset, .unset, .unset, .unset, .unset, .unset, .unset, .unset, .unset]) rfl (XS.iload X999.here hx rfl (hb hby at_25) rfl (XS.i2l X999.here hx rfl (hb hby at_27) rfl (XS.lloadN X999.here hx rfl (hb hby at_28) rfl kk_)))))))))))) ?_
  refine own_st (g' := (mkF m 49 #[iv x0, iv x1, .val (.long x2), .second, .val (.long x4), .second, iv x6, iv x7, iv (own_f1_0 x0 x1), iv (own_f2_0 x0 x1), .val (.long ((((own_f2_0 x0 x1).toInt64) - ((own_f1_0 x0 x1).toInt64)) + (1 : Int64))), .second, iv ((((own_f1_0 x0 x1).toInt64) + ((x2 &&& (9223372036854775807 : Int64)) - ((x2 &&& (9223372036854775807 : Int64)) / ((((own_f2_0 x0 x1).toInt64) - ((own_f1_0 x0 x1).toInt64)) + (1 : Int64))) * ((((own_f2_0 x0 x1).toInt64) - ((own_f1_0 x0 x1).toInt64)) + (1 : Int64)))).toInt32), .unset, .unset, .unset, .unset, .unset, .unset, .unset, .unset, .unset, .unset] [(.long (x4 &&& (9223372036854775807 : Int64))), (.long ((own_f1_0 x0 x1).toInt64))])) (fun tt_ kk_ => X999.ldc2Long hx hown (mvT hZ (own_w hw 7 rfl)) (g := (mkF m 29 #[iv x0, iv x1, .val (.long x2), .second, .val (.long x4), .second, iv x6, iv x7, iv (own_f1_0 x0 x1), iv (own_f2_0 x0 x1), .val (.long ((((own_f2_0 x0 x1).toInt64) - ((own_f1_0 x0 x1).toInt64)) + (1 : Int64))), .second, .unset, .unset, .unset, .unset, .unset, .unset, .unset, .unset, .unset, .unset, .unset] [(.long x2), (.long ((own_f1_0 x0 x1).toInt64))])) rfl (hb hby at_29) _ (XS.land X999.here hx rfl (hb hby at_32) rfl (XS.lload X999.here hx rfl (hb hby at_33) rfl (XS.lrem X999.here hx rfl (hb hby at_35) rfl (own_spz (own_lohi _ _)) (XS.ladd X999.here hx rfl (hb hby at_36) rfl (XS.l2i X999.here hx rfl (hb hby at_37) rfl (XS.istore X999.here hx rfl (hb hby at_38) rfl (l' := #[iv x0, iv x1, .val (.long x2), .second, .val (.long x4), .second, iv x6, iv x7, iv (own_f1_0 x0 x1), iv (own_f2_0 x0 x1), .val (.long ((((own_f2_0 x0 x1).toInt64) - ((own_f1_0 x0 x1).toInt64)) + (1 : Int64))), .second, iv ((((own_f1_0 x0 x1).toInt64) + ((x2 &&& (9223372036854775807 : Int64)) - ((x2 &&& (9223372036854775807 : Int64)) / ((((own_f2_0 x0 x1).toInt64) - ((own_f1_0 x0 x1).toInt64)) + (1 : Int64))) * ((((own_f2_0 x0 x1).toInt64) - ((own_f1_0 x0 x1).toInt64)) + (1 : Int64)))).toInt32), .unset, .unset, .unset, .unset, .unset, .unset, .unset, .unset, .unset, .unset]) rfl (XS.iload X999.here hx rfl (hb hby at_40) rfl (XS.i2l X999.here hx rfl (hb hby at_42) rfl (XS.lload X999.here hx rfl (hb hby at_43) rfl (X999.ldc2Long hx hown (mvT hZ (own_w hw 7 rfl)) (g := (mkF m 45 #[iv x0, iv x1, .val (.long x2), .second, .val (.long x4), .second, iv x6, iv x7, iv (own_f1_0 x0 x1), iv (own_f2_0 x0 x1), .val (.long ((((own_f2_0 x0 x1).toInt64) - ((own_f1_0 x0 x1).toInt64)) + (1 : Int64))), .second, iv ((((own_f1_0 x0 x1).toInt64) + ((x2 &&& (9223372036854775807 : Int64)) - ((x2 &&& (9223372036854775807 : Int64)) / ((((own_f2_0 x0 x1).toInt64) - ((own_f1_0 x0 x1).toInt64)) + (1 : Int64))) * ((((own_f2_0 x0 x1).toInt64) - ((own_f1_0 x0 x1).toInt64)) + (1 : Int64)))).toInt32), .unset, .unset, .unset, .unset, .unset, .unset, .unset, .unset, .unset, .unset] [(.long x4), (.long ((own_f1_0 x0 x1).toInt64))])) rfl (hb hby at_45) _ (XS.land X999.here hx rfl (hb hby at_48) rfl kk_)))))))))))) ?_
  refine own_st (g' := (mkF m 56 #[iv x0, iv x1, .val (.long x2), .second, .val (.long x4), .second, iv x6, iv x7, iv (own_f1_0 x0 x1), iv (own_f2_0 x0 x1), .val (.long ((((own_f2_0 x0 x1).toInt64) - ((own_f1_0 x0 x1).toInt64)) + (1 : Int64))), .second, iv ((((own_f1_0 x0 x1).toInt64) + ((x2 &&& (9223372036854775807 : Int64)) - ((x2 &&& (9223372036854775807 : Int64)) / ((((own_f2_0 x0 x1).toInt64) - ((own_f1_0 x0 x1).toInt64)) + (1 : Int64))) * ((((own_f2_0 x0 x1).toInt64) - ((own_f1_0 x0 x1).toInt64)) + (1 : Int64)))).toInt32), iv ((((own_f1_0 x0 x1).toInt64) + ((x4 &&& (9223372036854775807 : Int64)) - ((x4 &&& (9223372036854775807 : Int64)) / ((((own_f2_0 x0 x1).toInt64) - ((own_f1_0 x0 x1).toInt64)) + (1 : Int64))) * ((((own_f2_0 x0 x1).toInt64) - ((own_f1_0 x0 x1).toInt64)) + (1 : Int64)))).toInt32), .unset, .unset, .unset, .unset, .unset, .unset, .unset, .unset, .unset] [])) (fun tt_ kk_ => XS.lload X999.here hx rfl (hb hby at_49) rfl (XS.lrem X999.here hx rfl (hb hby at_51) rfl (own_spz (own_lohi _ _)) (XS.ladd X999.here hx rfl (hb hby at_52) rfl (XS.l2i X999.here hx rfl (hb hby at_53) rfl (XS.istore X999.here hx rfl (hb hby at_54) rfl (l' := #[iv x0, iv x1, .val (.long x2), .second, .val (.long x4), .second, iv x6, iv x7, iv (own_f1_0 x0 x1), iv (own_f2_0 x0 x1), .val (.long ((((own_f2_0 x0 x1).toInt64) - ((own_f1_0 x0 x1).toInt64)) + (1 : Int64))), .second, iv ((((own_f1_0 x0 x1).toInt64) + ((x2 &&& (9223372036854775807 : Int64)) - ((x2 &&& (9223372036854775807 : Int64)) / ((((own_f2_0 x0 x1).toInt64) - ((own_f1_0 x0 x1).toInt64)) + (1 : Int64))) * ((((own_f2_0 x0 x1).toInt64) - ((own_f1_0 x0 x1).toInt64)) + (1 : Int64)))).toInt32), iv ((((own_f1_0 x0 x1).toInt64) + ((x4 &&& (9223372036854775807 : Int64)) - ((x4 &&& (9223372036854775807 : Int64)) / ((((own_f2_0 x0 x1).toInt64) - ((own_f1_0 x0 x1).toInt64)) + (1 : Int64))) * ((((own_f2_0 x0 x1).toInt64) - ((own_f1_0 x0 x1).toInt64)) + (1 : Int64)))).toInt32), .unset, .unset, .unset, .unset, .unset, .unset, .unset, .unset, .unset]) rfl kk_))))) ?_
  exact own_t56 X999 hx hlk hby hml hret hown hZ hw e999 N999 Z0 (by omega) (by omega) x0 x1 x2 x4 x6 x7 (own_f1_0 x0 x1) (own_f2_0 x0 x1) ((((own_f2_0 x0 x1).toInt64) - ((own_f1_0 x0 x1).toInt64)) + (1 : Int64)) ((((own_f1_0 x0 x1).toInt64) + ((x2 &&& (9223372036854775807 : Int64)) - ((x2 &&& (9223372036854775807 : Int64)) / ((((own_f2_0 x0 x1).toInt64) - ((own_f1_0 x0 x1).toInt64)) + (1 : Int64))) * ((((own_f2_0 x0 x1).toInt64) - ((own_f1_0 x0 x1).toInt64)) + (1 : Int64)))).toInt32) ((((own_f1_0 x0 x1).toInt64) + ((x4 &&& (9223372036854775807 : Int64)) - ((x4 &&& (9223372036854775807 : Int64)) / ((((own_f2_0 x0 x1).toInt64) - ((own_f1_0 x0 x1).toInt64)) + (1 : Int64))) * ((((own_f2_0 x0 x1).toInt64) - ((own_f1_0 x0 x1).toInt64)) + (1 : Int64)))).toInt32) (own_in (own_lohi _ _) (own_msk _)) (own_in (own_lohi _ _) (own_msk _))
theorem own_ef0 (m : MethodId) (x0 : Int32) (x1 : Int32) (x2 : Int64) (x4 : Int64) (x6 : Int32) (x7 : Int32) : entryFrame m #[(.int x0), (.int x1), (.long x2), (.long x4), (.int x6), (.int x7)] maxLocals = mkF m 0 #[iv x0, iv x1, .val (.long x2), .second, .val (.long x4), .second, iv x6, iv x7, .unset, .unset, .unset, .unset, .unset, .unset, .unset, .unset, .unset, .unset, .unset, .unset, .unset, .unset, .unset] [] := by first | (simp [entryFrame, mkF, argsToLocals, Value.category, maxLocals]; done) | rfl
set_option maxRecDepth 65536 in
set_option maxHeartbeats 4000000 in
theorem own_rm0 (l : Launch) (Z : State) (a0 : Array Value) (hw : own_HW Z a0) (ws : List Jvm.Cond) (x0 : Int32) (x1 : Int32) (x2 : Int64) (x4 : Int64) (x6 : Int32) (x7 : Int32) (h0 : Heap) (n0 : Nat) (Z0 : n0 ≤ h0.size) :
    MetFree l x (head1 (Jvm.Cond.code x code maxLocals ret :: ws) room_1) (fun aa UU => aa = #[(.int x0), (.int x1), (.long x2), (.long x4), (.int x6), (.int x7)] ∧ Z.Warmed39 UU.vm ∧ UU.heap = h0) (fun _ _ _ _ _ => True) (fun _ U o U' => ∃ v L, o = .returned v ∧ own_Q0 n0 v U'.heap L ∧ FrameEnd U o U' L 40 6336) := by
  refine MetFree.of_bodySF (plainFor_of_name own_pn4) hisR ?_
  intro p e s m args below meth c s₁ Bd hml0 hP hK
  obtain ⟨rfl, hZ, hh⟩ := hP
  have X0 : Stand p l e room_1 s m #[(.int x0), (.int x1), (.long x2), (.long x4), (.int x6), (.int x7)] below meth c s₁ [] 0 0 := Stand.of_body Bd
  have e0 : s₁.heap = h0 := by rw [← hh, Bd.state]; rfl
  refine own_cast (own_ef0 m x0 x1 x2 x4 x6 x7) ?_
  exact own_t0 X0 Bd.exec Bd.notSynchronized Bd.bytes hml0 Bd.returns (findClass_of_methodNamed Bd.named) hZ hw e0 (Fr.nil n0) Z0 (by decide) (by decide) x0 x1 x2 x4 x6 x7
set_option maxRecDepth 65536 in
set_option maxHeartbeats 4000000 in
theorem own_comes_1 {Post : Tables → Env → Array Value → State → Outcome → State → Prop} (hpost : ∀ tb e args s v u, (limb_1_1.after args s (.returned v) u = true ∧ limb_1_2.after args s (.returned v) u = true ∧ True) → FrameEnd s (.returned v) u (Jvm.fieldLocs frame_1_writes args s ++ Jvm.arrayLocs frame_1_arrays args s ++ Jvm.staticLocs frame_1_statics s) 40 6336 → Post tb e args s (.returned v) u) :
    ArmFor flags0 classFile x code maxLocals ret World_1 tables_1 room_1 Calls_1 rest_1 Pre_1 Post := by
  intro l hfl _ _ p e ha hc hk s m args below hf hA hF happ hP
  obtain ⟨hcalls, hrest, hpre⟩ := hP
  obtain ⟨-, -, -, hnamed, -, -, -, hat⟩ := (Spec.applies_iff hf).mp happ
  obtain ⟨hg, hn⟩ := and_e (Cond.before_iff.mp (show (Jvm.Cond.and given_1 narrow_1).before args s = true from hpre))
  obtain ⟨gg1, gg2⟩ := and_e hg
  obtain ⟨gg3, gg4⟩ := and_e gg2
  obtain ⟨gg5, gg6⟩ := and_e gg4
  obtain ⟨gg7, gg8⟩ := and_e gg6
  obtain ⟨gg9, gg10⟩ := and_e gg8
  obtain ⟨gg11, gg12⟩ := and_e gg10
  obtain ⟨w0, w1, w2, w3, w4, w5, rfl⟩ : ∃ w0 w1 w2 w3 w4 w5 : Value, args = #[w0, w1, w2, w3, w4, w5] := by
    have hs : args.size = 6 := by simpa [Cond.value, given_1] using gg1
    obtain ⟨L⟩ := args
    match L, hs with
    | [w0, w1, w2, w3, w4, w5], _ => exact ⟨w0, w1, w2, w3, w4, w5, rfl⟩
  have hw := fun d (hd : d ∈ tables_1) => atoms_spec (ws := Jvm.Cond.code x code maxLocals ret :: tables_1) hat d (List.mem_cons_of_mem _ hd)
  have hfit : Fit s := fun {y c} hc i hi => by
    obtain ⟨ha, rfl⟩ := Array.getElem?_eq_some_iff.mp hc
    have q := List.all_eq_true.mp ((Array.all_eq_true_iff_forall_mem.mp hF) _ (Array.getElem_mem ha)) i (List.mem_range.mpr hi)
    simpa [Array.getElem?_eq_getElem hi] using q
  obtain ⟨i0, ei0⟩ := is_v gg3
  obtain rfl : w0 = (.int i0) := Option.some.inj ei0
  obtain ⟨i1, ei1⟩ := is_v gg5
  obtain rfl : w1 = (.int i1) := Option.some.inj ei1
  obtain ⟨i2, ei2⟩ := isL_v gg7
  obtain rfl : w2 = (.long i2) := Option.some.inj ei2
  obtain ⟨i3, ei3⟩ := isL_v gg9
  obtain rfl : w3 = (.long i3) := Option.some.inj ei3
  obtain ⟨i4, ei4⟩ := is_v gg11
  obtain rfl : w4 = (.int i4) := Option.some.inj ei4
  obtain ⟨i5, ei5⟩ := is_v gg12
  obtain rfl : w5 = (.int i5) := Option.some.inj ei5
  obtain ⟨n, o, h1, h2, h3, _, L, rfl, ⟨rfl, N⟩, hq⟩ := own_rm0 l s _ hw tables_1 i0 i1 i2 i3 i4 i5 s.heap s.heap.size (Nat.le_refl _) p e ha hc hk s m _ below hf ((Spec.applies_iff_loose hf).mp happ).1 ⟨rfl, State.Warmed39.refl s, rfl⟩ trivial
  refine ⟨n, _, h1, h2, h3, hpost _ _ _ _ _ _ ⟨Cond.after_iff.mpr rfl, Cond.after_iff.mpr (eq_i res_at (Term.int_eval (1)) rfl), trivial⟩ ⟨hq.1, hq.2.1, (hq.2.2.sift fun y hy => Or.inr (N y hy)).mono (by decide) (by decide)⟩⟩
theorem main_1_1 : Claimed_1_1 := own_comes_1 fun _ _ _ _ _ _ h hF => ⟨h.1, hF⟩
theorem main_1_2 : Claimed_1_2 := own_comes_1 fun _ _ _ _ _ _ h hF => ⟨h.2.1, hF⟩
end Jvm.Pilot.@@N@@
namespace Jvm.Pilot.@@N@@
open Jvm Jvm.ClassFile Sem Op Lib Jvm.Free Jvm.Stand Jvm.Pilot.@@N@@.Jvm.D
/-! MADE BY PROGRAM (witnessworld.py) out of the Statement's table words and the real class files: 20 classes; the members and pool entries that the words name. The judged class is class 1, her method 1. -/
namespace start1
open Jvm.ClassFile
def u (s : String) : CpInfo := .utf8 (stringToUtf16 s)
/-- a pool by its gaps: so many unusable entries, then the entry; so many at the end -/
def gap : Nat → List CpInfo → List CpInfo
  | 0, r => r
  | n + 1, r => .unusable :: gap n r
def poolList (es : List (Nat × CpInfo)) (last : Nat) : List CpInfo := es.foldr (fun e r => gap e.1 (e.2 :: r)) (gap last [])
def pool (es : List (Nat × CpInfo)) (last : Nat) : Array CpInfo := ⟨poolList es last⟩
def fileOf (pool : Array CpInfo) (this : Nat) (attrs : Array Attribute := #[]) (ms : Array MethodInfo := #[]) (fl : Nat := 33) (sup : Nat := 0) (ifs : Array Nat := #[]) (fds : Array FieldInfo := #[]) : ClassFile where
  minorVersion := 0
  majorVersion := 65
  constantPool := pool
  accessFlags := fl
  thisClass := this
  superClass := sup
  interfaces := ifs
  fields := fds
  methods := ms
  attributes := attrs
def plain (name : String) (sup : Option ClassId) : Class where
  name := name
  kind := .ordinary
  loader := none
  accessFlags := 33
  super := sup
  interfaces := #[]
  cf := none
  fields := #[]
  methods := #[]
  instanceTypes := #[]
  staticTypes := #[]
  resolved := #[]
  callSites := []
  init := .initialized
  statics := none
  mirror := none

def pool0 : Array CpInfo := pool [(5, u "<init>"), (0, u "()V"), (1, .class_ 10), (1, u "java/lang/Object"), (85, u "clone"), (0, u "()Ljava/lang/Object;")] 26

def k0c0 : Code := { maxStack := 0, maxLocals := 1, code := object_method_1_code, exceptionTable := #[], attributes := #[] }
def k0m0 : Method := { name := "<init>", desc := "()V", sig := { parameters := [], returnType := none }, accessFlags := 1, code := some k0c0 }
def k0m1 : Method := { name := "clone", desc := "()Ljava/lang/Object;", sig := { parameters := [], returnType := some (.object "java/lang/Object") }, accessFlags := 260, code := none }
/-- java/lang/Object -/
def k0 : Class := { plain "java/lang/Object" none with
  accessFlags := 33
  interfaces := #[]
  cf := some (fileOf pool0 8 #[] #[{ accessFlags := 1, nameIndex := 5, descriptorIndex := 6, attributes := #[] }, { accessFlags := 260, nameIndex := 96, descriptorIndex := 97, attributes := #[] }] 33 0 #[] #[])
  fields := #[]
  methods := #[k0m0, k0m1]
  instanceTypes := #[]
  staticTypes := #[]
  resolved := Array.replicate 124 none
  statics := none }

def pool1 : Array CpInfo := pool [(2, .class_ 4), (1, u "java/lang/Object"), (0, u "<init>"), (0, u "()V"), (0, .methodref 8 9), (0, .class_ 10), (0, .nameAndType 11 12), (0, u "java/lang/Math"), (0, u "min"), (0, u "(II)I"), (0, .methodref 8 14), (0, .nameAndType 15 12), (0, u "max"), (2, .long 9223372036854775807), (3, .integer 2147483648), (0, .integer 2147483647), (0, .class_ 25), (0, u "com/example/weigh/weigh/models/explicit/StateTable"), (0, .methodref 24 27), (0, .nameAndType 5 28), (0, u "([I[II)V"), (0, .methodref 24 30), (0, .nameAndType 31 32), (0, u "add"), (0, u "([I)I"), (0, .methodref 24 34), (0, .nameAndType 35 36), (0, u "get"), (0, u "(I[I)V"), (0, .class_ 38), (0, u "com/example/weigh/weigh/models/explicit/StateTableGetPinLaw"), (2, u "law"), (0, u "(IIJJII)Z")] 5

def k1m0 : Method := { name := "<init>", desc := "()V", sig := { parameters := [], returnType := none }, accessFlags := 1, code := none }
def k1c1 : Code := { maxStack := 6, maxLocals := 23, code := code, exceptionTable := #[], attributes := #[] }
def k1m1 : Method := { name := "law", desc := "(IIJJII)Z", sig := { parameters := [.int, .int, .long, .long, .int, .int], returnType := some .boolean }, accessFlags := 9, code := some k1c1 }
/-- com/example/weigh/weigh/models/explicit/StateTableGetPinLaw -/
def k1 : Class := { plain "com/example/weigh/weigh/models/explicit/StateTableGetPinLaw" (some 0) with
  accessFlags := 49
  interfaces := #[]
  cf := some (fileOf pool1 37 #[] #[{ accessFlags := 1, nameIndex := 5, descriptorIndex := 6, attributes := #[] }, { accessFlags := 9, nameIndex := 41, descriptorIndex := 42, attributes := #[] }] 49 2 #[] #[])
  fields := #[]
  methods := #[k1m0, k1m1]
  instanceTypes := #[]
  staticTypes := #[]
  resolved := Array.replicate 48 none
  statics := none }

def pool2 : Array CpInfo := pool [(1, .class_ 2), (0, u "java/lang/Math"), (1, .class_ 6), (1, u "java/lang/Object"), (0, u "<init>"), (0, u "()V"), (89, .class_ 100), (1, u "java/lang/Math$RandomNumberGeneratorHolder"), (20, u "(JJ)J"), (50, u "negativeZeroFloatBits"), (0, u "J"), (2, u "negativeZeroDoubleBits"), (21, u "max"), (2, u "min"), (43, u "$assertionsDisabled"), (0, u "Z"), (88, u "(II)I"), (2, u "twoToTheDoubleScaleDown"), (0, u "D"), (4, u "twoToTheDoubleScaleUp"), (9, u "E"), (3, u "PI"), (2, u "TAU"), (2, u "DEGREES_TO_RADIANS"), (0, u "RADIANS_TO_DEGREES")] 94

def k2m0 : Method := { name := "<init>", desc := "()V", sig := { parameters := [], returnType := none }, accessFlags := 2, code := none }
def k2c1 : Code := { maxStack := 2, maxLocals := 2, code := jdk_29_method_65_code, exceptionTable := #[], attributes := #[] }
def k2m1 : Method := { name := "max", desc := "(II)I", sig := { parameters := [.int, .int], returnType := some .int }, accessFlags := 9, code := some k2c1 }
def k2c2 : Code := { maxStack := 2, maxLocals := 2, code := jdk_29_method_69_code, exceptionTable := #[], attributes := #[] }
def k2m2 : Method := { name := "min", desc := "(II)I", sig := { parameters := [.int, .int], returnType := some .int }, accessFlags := 9, code := some k2c2 }
def k2c3 : Code := { maxStack := 4, maxLocals := 4, code := jdk_29_method_70_code, exceptionTable := #[], attributes := #[] }
def k2m3 : Method := { name := "min", desc := "(JJ)J", sig := { parameters := [.long, .long], returnType := some .long }, accessFlags := 9, code := some k2c3 }
/-- java/lang/Math -/
def k2 : Class := { plain "java/lang/Math" (some 0) with
  accessFlags := 49
  interfaces := #[]
  cf := some (fileOf pool2 1 #[.nestMembers #[98]] #[{ accessFlags := 2, nameIndex := 7, descriptorIndex := 8, attributes := #[] }, { accessFlags := 9, nameIndex := 198, descriptorIndex := 335, attributes := #[] }, { accessFlags := 9, nameIndex := 201, descriptorIndex := 335, attributes := #[] }, { accessFlags := 9, nameIndex := 201, descriptorIndex := 121, attributes := #[] }] 49 4 #[] #[{ accessFlags := 25, nameIndex := 354, descriptorIndex := 339, attributes := #[] }, { accessFlags := 25, nameIndex := 358, descriptorIndex := 339, attributes := #[] }, { accessFlags := 25, nameIndex := 361, descriptorIndex := 339, attributes := #[] }, { accessFlags := 26, nameIndex := 364, descriptorIndex := 339, attributes := #[] }, { accessFlags := 26, nameIndex := 365, descriptorIndex := 339, attributes := #[] }, { accessFlags := 26, nameIndex := 172, descriptorIndex := 173, attributes := #[] }, { accessFlags := 26, nameIndex := 176, descriptorIndex := 173, attributes := #[] }, { accessFlags := 8, nameIndex := 344, descriptorIndex := 339, attributes := #[] }, { accessFlags := 8, nameIndex := 338, descriptorIndex := 339, attributes := #[] }, { accessFlags := 4120, nameIndex := 245, descriptorIndex := 246, attributes := #[] }])
  fields := #[{ name := "E", type := .double, accessFlags := 25, slot := 0, constantValue := 0 }, { name := "PI", type := .double, accessFlags := 25, slot := 1, constantValue := 0 }, { name := "TAU", type := .double, accessFlags := 25, slot := 2, constantValue := 0 }, { name := "DEGREES_TO_RADIANS", type := .double, accessFlags := 26, slot := 3, constantValue := 0 }, { name := "RADIANS_TO_DEGREES", type := .double, accessFlags := 26, slot := 4, constantValue := 0 }, { name := "negativeZeroFloatBits", type := .long, accessFlags := 26, slot := 5, constantValue := 0 }, { name := "negativeZeroDoubleBits", type := .long, accessFlags := 26, slot := 6, constantValue := 0 }, { name := "twoToTheDoubleScaleUp", type := .double, accessFlags := 8, slot := 7, constantValue := 0 }, { name := "twoToTheDoubleScaleDown", type := .double, accessFlags := 8, slot := 8, constantValue := 0 }, { name := "$assertionsDisabled", type := .boolean, accessFlags := 4120, slot := 9, constantValue := 0 }]
  methods := #[k2m0, k2m1, k2m2, k2m3]
  instanceTypes := #[]
  staticTypes := #[.double, .double, .double, .double, .double, .long, .long, .double, .double, .boolean]
  resolved := Array.replicate 460 none
  statics := none }

def pool3 : Array CpInfo := pool [(4, .class_ 6), (1, u "com/example/weigh/weigh/models/explicit/StateTable"), (0, u "<init>"), (0, u "([I[II)V"), (0, .methodref 10 11), (0, .class_ 12), (0, .nameAndType 7 13), (0, u "java/lang/Object"), (0, u "()V"), (9, .methodref 24 25), (0, .class_ 26), (0, .nameAndType 27 28), (0, u "[I"), (0, u "clone"), (0, u "()Ljava/lang/Object;"), (0, .fieldref 4 30), (0, .nameAndType 31 26), (0, u "lows"), (0, .fieldref 4 33), (0, .nameAndType 34 35), (0, u "spans"), (0, u "[J"), (0, .fieldref 4 37), (0, .nameAndType 38 35), (0, u "masks"), (0, .fieldref 4 40), (0, .nameAndType 41 26), (0, u "words"), (0, .fieldref 4 43), (0, .nameAndType 44 26), (0, u "shifts"), (3, .class_ 49), (0, u "java/lang/Long"), (0, .methodref 48 51), (0, .nameAndType 52 53), (0, u "numberOfLeadingZeros"), (0, u "(J)I"), (0, .fieldref 4 55), (0, .nameAndType 56 57), (0, u "wordCount"), (0, u "I"), (0, .methodref 59 60), (0, .class_ 61), (0, .nameAndType 62 63), (0, u "java/lang/Math"), (0, u "max"), (0, u "(II)I"), (0, .long 2147483639), (1, .methodref 59 67), (0, .nameAndType 68 69), (0, u "min"), (0, u "(JJ)J"), (0, .fieldref 4 71), (0, .nameAndType 72 35), (0, u "packed"), (0, .methodref 4 74), (0, .nameAndType 75 76), (0, u "slotsFor"), (0, u "(I)I"), (0, .fieldref 4 78), (0, .nameAndType 79 26), (0, u "slots"), (0, .fieldref 4 81), (0, .nameAndType 82 35), (0, u "key"), (0, .integer 1073741824), (0, .fieldref 4 85), (0, .nameAndType 86 57), (0, u "size"), (1, .class_ 90), (1, u "java/util/Arrays"), (2, .methodref 4 94), (0, .nameAndType 95 96), (0, u "pack"), (0, u "([I)V"), (0, .methodref 4 98), (0, .nameAndType 99 100), (0, u "hash"), (0, u "([JI)I"), (0, .methodref 4 102), (0, .nameAndType 103 76), (0, u "lookUp"), (0, .methodref 4 105), (0, .nameAndType 106 76), (0, u "append"), (4, .methodref 4 112), (0, .nameAndType 113 114), (0, u "matches"), (0, u "(I)Z"), (0, .methodref 88 116), (0, .nameAndType 117 118), (0, u "fill"), (0, u "([JJ)V"), (1, .integer 2147483646), (5, .long 2), (3, .methodref 131 132), (0, .class_ 133), (0, .nameAndType 134 135), (0, u "java/lang/System"), (0, u "arraycopy"), (0, u "(Ljava/lang/Object;ILjava/lang/Object;II)V"), (0, .methodref 4 137), (0, .nameAndType 138 139), (0, u "place"), (0, u "(II[I)V"), (0, .long 11400714819323198485), (1, .long 13787848793156543929), (1, u "FIRST_CAPACITY"), (2, u "MAX_LENGTH"), (7, u "add"), (0, u "([I)I"), (1, u "get"), (0, u "(I[I)V")] 21

def k3c0 : Code := { maxStack := 6, maxLocals := 10, code := prog_160_method_2_code, exceptionTable := #[], attributes := #[] }
def k3m0 : Method := { name := "<init>", desc := "([I[II)V", sig := { parameters := [(.array .int), (.array .int), .int], returnType := none }, accessFlags := 1, code := some k3c0 }
def k3c1 : Code := { maxStack := 2, maxLocals := 2, code := prog_160_method_3_code, exceptionTable := #[], attributes := #[] }
def k3m1 : Method := { name := "slotsFor", desc := "(I)I", sig := { parameters := [.int], returnType := some .int }, accessFlags := 10, code := some k3c1 }
def k3c2 : Code := { maxStack := 3, maxLocals := 4, code := prog_160_method_6_code, exceptionTable := #[], attributes := #[] }
def k3m2 : Method := { name := "add", desc := "([I)I", sig := { parameters := [(.array .int)], returnType := some .int }, accessFlags := 1, code := some k3c2 }
def k3c3 : Code := { maxStack := 4, maxLocals := 6, code := prog_160_method_8_code, exceptionTable := #[], attributes := #[] }
def k3m3 : Method := { name := "lookUp", desc := "(I)I", sig := { parameters := [.int], returnType := some .int }, accessFlags := 2, code := some k3c3 }
def k3c4 : Code := { maxStack := 8, maxLocals := 7, code := prog_160_method_9_code, exceptionTable := #[], attributes := #[] }
def k3m4 : Method := { name := "get", desc := "(I[I)V", sig := { parameters := [.int, (.array .int)], returnType := none }, accessFlags := 1, code := some k3c4 }
def k3c5 : Code := { maxStack := 8, maxLocals := 5, code := prog_160_method_10_code, exceptionTable := #[], attributes := #[] }
def k3m5 : Method := { name := "pack", desc := "([I)V", sig := { parameters := [(.array .int)], returnType := none }, accessFlags := 2, code := some k3c5 }
def k3c6 : Code := { maxStack := 4, maxLocals := 5, code := prog_160_method_11_code, exceptionTable := #[], attributes := #[] }
def k3m6 : Method := { name := "matches", desc := "(I)Z", sig := { parameters := [.int], returnType := some .boolean }, accessFlags := 2, code := some k3c6 }
def k3c7 : Code := { maxStack := 6, maxLocals := 5, code := prog_160_method_12_code, exceptionTable := #[], attributes := #[] }
def k3m7 : Method := { name := "append", desc := "(I)I", sig := { parameters := [.int], returnType := some .int }, accessFlags := 2, code := some k3c7 }
def k3c8 : Code := { maxStack := 5, maxLocals := 5, code := prog_160_method_14_code, exceptionTable := #[], attributes := #[] }
def k3m8 : Method := { name := "place", desc := "(II[I)V", sig := { parameters := [.int, .int, (.array .int)], returnType := none }, accessFlags := 10, code := some k3c8 }
def k3c9 : Code := { maxStack := 5, maxLocals := 6, code := prog_160_method_15_code, exceptionTable := #[], attributes := #[] }
def k3m9 : Method := { name := "hash", desc := "([JI)I", sig := { parameters := [(.array .long), .int], returnType := some .int }, accessFlags := 2, code := some k3c9 }
/-- com/example/weigh/weigh/models/explicit/StateTable -/
def k3 : Class := { plain "com/example/weigh/weigh/models/explicit/StateTable" (some 0) with
  accessFlags := 33
  interfaces := #[]
  cf := some (fileOf pool3 4 #[] #[{ accessFlags := 1, nameIndex := 7, descriptorIndex := 8, attributes := #[] }, { accessFlags := 10, nameIndex := 75, descriptorIndex := 76, attributes := #[] }, { accessFlags := 1, nameIndex := 155, descriptorIndex := 156, attributes := #[] }, { accessFlags := 2, nameIndex := 103, descriptorIndex := 76, attributes := #[] }, { accessFlags := 1, nameIndex := 158, descriptorIndex := 159, attributes := #[] }, { accessFlags := 2, nameIndex := 95, descriptorIndex := 96, attributes := #[] }, { accessFlags := 2, nameIndex := 113, descriptorIndex := 114, attributes := #[] }, { accessFlags := 2, nameIndex := 106, descriptorIndex := 76, attributes := #[] }, { accessFlags := 10, nameIndex := 138, descriptorIndex := 139, attributes := #[] }, { accessFlags := 2, nameIndex := 99, descriptorIndex := 100, attributes := #[] }] 33 10 #[] #[{ accessFlags := 26, nameIndex := 144, descriptorIndex := 57, attributes := #[] }, { accessFlags := 26, nameIndex := 147, descriptorIndex := 57, attributes := #[] }, { accessFlags := 18, nameIndex := 31, descriptorIndex := 26, attributes := #[] }, { accessFlags := 18, nameIndex := 34, descriptorIndex := 35, attributes := #[] }, { accessFlags := 18, nameIndex := 38, descriptorIndex := 35, attributes := #[] }, { accessFlags := 18, nameIndex := 41, descriptorIndex := 26, attributes := #[] }, { accessFlags := 18, nameIndex := 44, descriptorIndex := 26, attributes := #[] }, { accessFlags := 18, nameIndex := 56, descriptorIndex := 57, attributes := #[] }, { accessFlags := 2, nameIndex := 72, descriptorIndex := 35, attributes := #[] }, { accessFlags := 2, nameIndex := 86, descriptorIndex := 57, attributes := #[] }, { accessFlags := 2, nameIndex := 79, descriptorIndex := 26, attributes := #[] }, { accessFlags := 18, nameIndex := 82, descriptorIndex := 35, attributes := #[] }])
  fields := #[{ name := "FIRST_CAPACITY", type := .int, accessFlags := 26, slot := 0, constantValue := 0 }, { name := "MAX_LENGTH", type := .int, accessFlags := 26, slot := 1, constantValue := 0 }, { name := "lows", type := (.array .int), accessFlags := 18, slot := 0, constantValue := 0 }, { name := "spans", type := (.array .long), accessFlags := 18, slot := 1, constantValue := 0 }, { name := "masks", type := (.array .long), accessFlags := 18, slot := 2, constantValue := 0 }, { name := "words", type := (.array .int), accessFlags := 18, slot := 3, constantValue := 0 }, { name := "shifts", type := (.array .int), accessFlags := 18, slot := 4, constantValue := 0 }, { name := "wordCount", type := .int, accessFlags := 18, slot := 5, constantValue := 0 }, { name := "packed", type := (.array .long), accessFlags := 2, slot := 6, constantValue := 0 }, { name := "size", type := .int, accessFlags := 2, slot := 7, constantValue := 0 }, { name := "slots", type := (.array .int), accessFlags := 2, slot := 8, constantValue := 0 }, { name := "key", type := (.array .long), accessFlags := 18, slot := 9, constantValue := 0 }]
  methods := #[k3m0, k3m1, k3m2, k3m3, k3m4, k3m5, k3m6, k3m7, k3m8, k3m9]
  instanceTypes := #[(.array .int), (.array .long), (.array .long), (.array .int), (.array .int), .int, (.array .long), .int, (.array .int), (.array .long)]
  staticTypes := #[.int, .int]
  resolved := Array.replicate 181 none
  statics := none }

def pool4 : Array CpInfo := pool [(1, .class_ 2), (0, u "java/lang/Cloneable"), (0, .class_ 4), (0, u "java/lang/Object")] 2

/-- java/lang/Cloneable -/
def k4 : Class := { plain "java/lang/Cloneable" (some 0) with
  accessFlags := 1537
  interfaces := #[]
  cf := some (fileOf pool4 1 #[] #[] 1537 3 #[] #[])
  fields := #[]
  methods := #[]
  instanceTypes := #[]
  staticTypes := #[]
  resolved := Array.replicate 7 none
  statics := none }

def pool5 : Array CpInfo := pool [(1, .class_ 2), (0, u "java/io/Serializable"), (0, .class_ 4), (0, u "java/lang/Object")] 2

/-- java/io/Serializable -/
def k5 : Class := { plain "java/io/Serializable" (some 0) with
  accessFlags := 1537
  interfaces := #[]
  cf := some (fileOf pool5 1 #[] #[] 1537 3 #[] #[])
  fields := #[]
  methods := #[]
  instanceTypes := #[]
  staticTypes := #[]
  resolved := Array.replicate 7 none
  statics := none }

def pool6 : Array CpInfo := pool [(2, .class_ 4), (1, u "java/lang/Object"), (0, u "<init>"), (0, u "()V"), (1, .class_ 10), (1, u "java/lang/Number"), (2, .class_ 14), (0, u "java/io/Serializable"), (0, u "serialVersionUID"), (0, u "J")] 20

def k6m0 : Method := { name := "<init>", desc := "()V", sig := { parameters := [], returnType := none }, accessFlags := 1, code := none }
/-- java/lang/Number -/
def k6 : Class := { plain "java/lang/Number" (some 0) with
  accessFlags := 1057
  interfaces := #[5]
  cf := some (fileOf pool6 8 #[] #[{ accessFlags := 1, nameIndex := 5, descriptorIndex := 6, attributes := #[] }] 1057 2 #[13] #[{ accessFlags := 26, nameIndex := 15, descriptorIndex := 16, attributes := #[] }])
  fields := #[{ name := "serialVersionUID", type := .long, accessFlags := 26, slot := 0, constantValue := 0 }]
  methods := #[k6m0]
  instanceTypes := #[]
  staticTypes := #[.long]
  resolved := Array.replicate 37 none
  statics := none }

def pool7 : Array CpInfo := pool [(1, .class_ 2), (0, u "java/lang/Comparable"), (0, .class_ 4), (0, u "java/lang/Object")] 7

/-- java/lang/Comparable -/
def k7 : Class := { plain "java/lang/Comparable" (some 0) with
  accessFlags := 1537
  interfaces := #[]
  cf := some (fileOf pool7 1 #[] #[] 1537 3 #[] #[])
  fields := #[]
  methods := #[]
  instanceTypes := #[]
  staticTypes := #[]
  resolved := Array.replicate 12 none
  statics := none }

def pool8 : Array CpInfo := pool [(1, .class_ 2), (0, u "java/lang/constant/Constable"), (0, .class_ 4), (0, u "java/lang/Object")] 6

/-- java/lang/constant/Constable -/
def k8 : Class := { plain "java/lang/constant/Constable" (some 0) with
  accessFlags := 1537
  interfaces := #[]
  cf := some (fileOf pool8 1 #[] #[] 1537 3 #[] #[])
  fields := #[]
  methods := #[]
  instanceTypes := #[]
  staticTypes := #[]
  resolved := Array.replicate 11 none
  statics := none }

def pool9 : Array CpInfo := pool [(1, .class_ 2), (0, u "java/lang/constant/ConstantDesc"), (0, .class_ 4), (0, u "java/lang/Object")] 32

/-- java/lang/constant/ConstantDesc -/
def k9 : Class := { plain "java/lang/constant/ConstantDesc" (some 0) with
  accessFlags := 1537
  interfaces := #[]
  cf := some (fileOf pool9 1 #[] #[] 1537 3 #[] #[])
  fields := #[]
  methods := #[]
  instanceTypes := #[]
  staticTypes := #[]
  resolved := Array.replicate 37 none
  statics := none }

def pool10 : Array CpInfo := pool [(1, .class_ 2), (0, u "java/lang/Long"), (15, .class_ 20), (1, u "java/lang/Integer"), (79, u "numberOfLeadingZeros"), (0, u "(J)I"), (133, .class_ 237), (1, u "java/lang/Long$LongCache"), (33, .class_ 272), (0, u "java/lang/Number"), (2, u "value"), (0, u "J"), (31, .methodref 18 309), (0, .nameAndType 100 310), (0, u "(I)I"), (50, u "TYPE"), (0, u "Ljava/lang/Class;"), (0, .class_ 364), (0, u "java/lang/Comparable"), (0, .class_ 366), (0, u "java/lang/constant/Constable"), (0, .class_ 368), (0, u "java/lang/constant/ConstantDesc"), (0, u "MIN_VALUE"), (1, u "MAX_VALUE"), (4, u "SIZE"), (0, u "I"), (1, u "BYTES"), (1, u "serialVersionUID")] 142

def k10c0 : Code := { maxStack := 3, maxLocals := 3, code := jdk_35_method_48_code, exceptionTable := #[], attributes := #[] }
def k10m0 : Method := { name := "numberOfLeadingZeros", desc := "(J)I", sig := { parameters := [.long], returnType := some .int }, accessFlags := 9, code := some k10c0 }
/-- java/lang/Long -/
def k10 : Class := { plain "java/lang/Long" (some 6) with
  accessFlags := 49
  interfaces := #[7, 8, 9]
  cf := some (fileOf pool10 1 #[.nestMembers #[235]] #[{ accessFlags := 9, nameIndex := 100, descriptorIndex := 101, attributes := #[] }] 49 271 #[363, 365, 367] #[{ accessFlags := 25, nameIndex := 369, descriptorIndex := 276, attributes := #[] }, { accessFlags := 25, nameIndex := 371, descriptorIndex := 276, attributes := #[] }, { accessFlags := 25, nameIndex := 361, descriptorIndex := 362, attributes := #[] }, { accessFlags := 18, nameIndex := 275, descriptorIndex := 276, attributes := #[] }, { accessFlags := 25, nameIndex := 376, descriptorIndex := 377, attributes := #[] }, { accessFlags := 25, nameIndex := 379, descriptorIndex := 377, attributes := #[] }, { accessFlags := 26, nameIndex := 381, descriptorIndex := 276, attributes := #[] }])
  fields := #[{ name := "MIN_VALUE", type := .long, accessFlags := 25, slot := 0, constantValue := 0 }, { name := "MAX_VALUE", type := .long, accessFlags := 25, slot := 1, constantValue := 0 }, { name := "TYPE", type := (.object "java/lang/Class"), accessFlags := 25, slot := 2, constantValue := 0 }, { name := "value", type := .long, accessFlags := 18, slot := 0, constantValue := 0 }, { name := "SIZE", type := .int, accessFlags := 25, slot := 3, constantValue := 0 }, { name := "BYTES", type := .int, accessFlags := 25, slot := 4, constantValue := 0 }, { name := "serialVersionUID", type := .long, accessFlags := 26, slot := 5, constantValue := 0 }]
  methods := #[k10m0]
  instanceTypes := #[.long]
  staticTypes := #[.long, .long, (.object "java/lang/Class"), .int, .int, .long]
  resolved := Array.replicate 524 none
  statics := none }

def pool11 : Array CpInfo := pool [(1, .class_ 2), (0, u "java/lang/Integer"), (16, u "digits"), (0, u "[C"), (32, u "numberOfLeadingZeros"), (0, u "(I)I"), (30, u "DigitOnes"), (0, u "[B"), (2, u "DigitTens"), (99, .class_ 190), (0, u "java/lang/Integer$IntegerCache"), (3, u "I"), (8, .class_ 204), (0, u "java/lang/Number"), (2, u "value"), (56, .integer 65536), (37, u "TYPE"), (0, u "Ljava/lang/Class;"), (0, .class_ 305), (0, u "java/lang/Comparable"), (0, .class_ 307), (0, u "java/lang/constant/Constable"), (0, .class_ 309), (0, u "java/lang/constant/ConstantDesc"), (0, u "MIN_VALUE"), (1, u "MAX_VALUE"), (3, u "SIZE"), (1, u "BYTES"), (1, u "serialVersionUID"), (0, u "J")] 131

def k11c0 : Code := { maxStack := 3, maxLocals := 2, code := jdk_33_method_47_code, exceptionTable := #[], attributes := #[] }
def k11m0 : Method := { name := "numberOfLeadingZeros", desc := "(I)I", sig := { parameters := [.int], returnType := some .int }, accessFlags := 9, code := some k11c0 }
/-- java/lang/Integer -/
def k11 : Class := { plain "java/lang/Integer" (some 6) with
  accessFlags := 49
  interfaces := #[7, 8, 9]
  cf := some (fileOf pool11 1 #[.nestMembers #[189]] #[{ accessFlags := 9, nameIndex := 53, descriptorIndex := 54, attributes := #[] }] 49 203 #[304, 306, 308] #[{ accessFlags := 25, nameIndex := 310, descriptorIndex := 194, attributes := #[] }, { accessFlags := 25, nameIndex := 312, descriptorIndex := 194, attributes := #[] }, { accessFlags := 25, nameIndex := 302, descriptorIndex := 303, attributes := #[] }, { accessFlags := 24, nameIndex := 19, descriptorIndex := 20, attributes := #[] }, { accessFlags := 24, nameIndex := 89, descriptorIndex := 86, attributes := #[] }, { accessFlags := 24, nameIndex := 85, descriptorIndex := 86, attributes := #[] }, { accessFlags := 18, nameIndex := 207, descriptorIndex := 194, attributes := #[] }, { accessFlags := 25, nameIndex := 316, descriptorIndex := 194, attributes := #[] }, { accessFlags := 25, nameIndex := 318, descriptorIndex := 194, attributes := #[] }, { accessFlags := 26, nameIndex := 320, descriptorIndex := 321, attributes := #[] }])
  fields := #[{ name := "MIN_VALUE", type := .int, accessFlags := 25, slot := 0, constantValue := 0 }, { name := "MAX_VALUE", type := .int, accessFlags := 25, slot := 1, constantValue := 0 }, { name := "TYPE", type := (.object "java/lang/Class"), accessFlags := 25, slot := 2, constantValue := 0 }, { name := "digits", type := (.array .char), accessFlags := 24, slot := 3, constantValue := 0 }, { name := "DigitTens", type := (.array .byte), accessFlags := 24, slot := 4, constantValue := 0 }, { name := "DigitOnes", type := (.array .byte), accessFlags := 24, slot := 5, constantValue := 0 }, { name := "value", type := .int, accessFlags := 18, slot := 0, constantValue := 0 }, { name := "SIZE", type := .int, accessFlags := 25, slot := 6, constantValue := 0 }, { name := "BYTES", type := .int, accessFlags := 25, slot := 7, constantValue := 0 }, { name := "serialVersionUID", type := .long, accessFlags := 26, slot := 8, constantValue := 0 }]
  methods := #[k11m0]
  instanceTypes := #[.int]
  staticTypes := #[.int, .int, (.object "java/lang/Class"), (.array .char), (.array .byte), (.array .byte), .int, .int, .long]
  resolved := Array.replicate 453 none
  statics := none }

def pool12 : Array CpInfo := pool [(2, .class_ 4), (1, u "java/lang/Object"), (0, u "<init>"), (0, u "()V"), (7, .class_ 16), (1, u "java/util/Arrays"), (57, .class_ 76), (1, u "java/util/Arrays$NaturalOrder"), (36, .class_ 115), (1, u "java/util/Arrays$LegacyMergeSort"), (1, u "Z"), (257, .class_ 376), (0, u "java/util/Arrays$ArrayList"), (68, u "$assertionsDisabled"), (269, u "MIN_ARRAY_SORT_GRAN"), (0, u "I"), (2, u "INSERTIONSORT_THRESHOLD"), (120, u "fill"), (0, u "([JJ)V"), (133, .class_ 976), (0, u "java/util/Arrays$ArrayItr")] 52

def k12m0 : Method := { name := "<init>", desc := "()V", sig := { parameters := [], returnType := none }, accessFlags := 2, code := none }
def k12c1 : Code := { maxStack := 4, maxLocals := 5, code := jdk_65_method_101_code, exceptionTable := #[], attributes := #[] }
def k12m1 : Method := { name := "fill", desc := "([JJ)V", sig := { parameters := [(.array .long), .long], returnType := none }, accessFlags := 9, code := some k12c1 }
/-- java/util/Arrays -/
def k12 : Class := { plain "java/util/Arrays" (some 0) with
  accessFlags := 49
  interfaces := #[]
  cf := some (fileOf pool12 14 #[.nestMembers #[975, 375, 113, 74]] #[{ accessFlags := 2, nameIndex := 5, descriptorIndex := 6, attributes := #[] }, { accessFlags := 9, nameIndex := 840, descriptorIndex := 841, attributes := #[] }] 49 2 #[] #[{ accessFlags := 26, nameIndex := 715, descriptorIndex := 716, attributes := #[] }, { accessFlags := 26, nameIndex := 719, descriptorIndex := 716, attributes := #[] }, { accessFlags := 4120, nameIndex := 445, descriptorIndex := 117, attributes := #[] }])
  fields := #[{ name := "MIN_ARRAY_SORT_GRAN", type := .int, accessFlags := 26, slot := 0, constantValue := 0 }, { name := "INSERTIONSORT_THRESHOLD", type := .int, accessFlags := 26, slot := 1, constantValue := 0 }, { name := "$assertionsDisabled", type := .boolean, accessFlags := 4120, slot := 2, constantValue := 0 }]
  methods := #[k12m0, k12m1]
  instanceTypes := #[]
  staticTypes := #[.int, .int, .boolean]
  resolved := Array.replicate 1029 none
  statics := none }

def pool13 : Array CpInfo := pool [(2, .class_ 4), (1, u "java/lang/Object"), (0, u "<init>"), (0, u "()V"), (1, .class_ 10), (1, u "java/lang/System"), (0, u "allowSecurityManager"), (0, u "I"), (16, u "cons"), (0, u "Ljava/io/Console;"), (77, .class_ 110), (1, u "java/lang/System$CallersHolder"), (43, u "initialErrStream"), (0, u "Ljava/io/PrintStream;"), (19, u "security"), (0, u "Ljava/lang/SecurityManager;"), (31, .class_ 209), (0, u "java/lang/System$1"), (7, u "props"), (0, u "Ljava/util/Properties;"), (2, u "lineSeparator"), (0, u "Ljava/lang/String;"), (96, .class_ 321), (1, u "java/lang/System$LoggerFinder"), (5, .class_ 328), (0, u "java/lang/System$Logger"), (67, u "err"), (2, u "out"), (91, u "notSupportedJnuEncoding"), (15, u "in"), (17, u "initialIn"), (0, u "Ljava/io/InputStream;"), (35, u "bootLayer"), (0, u "Ljava/lang/ModuleLayer;"), (99, .class_ 664), (0, u "java/lang/System$2"), (9, u "NEVER"), (2, u "MAYBE"), (49, u "arraycopy"), (0, u "(Ljava/lang/Object;ILjava/lang/Object;II)V"), (72, .class_ 802), (0, u "java/lang/System$Logger$Level")] 31

def k13m0 : Method := { name := "<init>", desc := "()V", sig := { parameters := [], returnType := none }, accessFlags := 2, code := none }
def k13m1 : Method := { name := "arraycopy", desc := "(Ljava/lang/Object;ILjava/lang/Object;II)V", sig := { parameters := [(.object "java/lang/Object"), .int, (.object "java/lang/Object"), .int, .int], returnType := none }, accessFlags := 265, code := none }
/-- java/lang/System -/
def k13 : Class := { plain "java/lang/System" (some 0) with
  accessFlags := 49
  interfaces := #[]
  cf := some (fileOf pool13 8 #[.nestMembers #[319, 327, 801, 108, 663, 208]] #[{ accessFlags := 2, nameIndex := 5, descriptorIndex := 6, attributes := #[] }, { accessFlags := 265, nameIndex := 727, descriptorIndex := 728, attributes := #[] }] 49 2 #[] #[{ accessFlags := 25, nameIndex := 507, descriptorIndex := 526, attributes := #[] }, { accessFlags := 25, nameIndex := 399, descriptorIndex := 155, attributes := #[] }, { accessFlags := 25, nameIndex := 396, descriptorIndex := 155, attributes := #[] }, { accessFlags := 10, nameIndex := 525, descriptorIndex := 526, attributes := #[] }, { accessFlags := 26, nameIndex := 674, descriptorIndex := 12, attributes := #[] }, { accessFlags := 26, nameIndex := 677, descriptorIndex := 12, attributes := #[] }, { accessFlags := 10, nameIndex := 11, descriptorIndex := 12, attributes := #[] }, { accessFlags := 74, nameIndex := 175, descriptorIndex := 176, attributes := #[] }, { accessFlags := 10, nameIndex := 491, descriptorIndex := 222, attributes := #[] }, { accessFlags := 74, nameIndex := 29, descriptorIndex := 30, attributes := #[] }, { accessFlags := 74, nameIndex := 154, descriptorIndex := 155, attributes := #[] }, { accessFlags := 10, nameIndex := 217, descriptorIndex := 218, attributes := #[] }, { accessFlags := 10, nameIndex := 221, descriptorIndex := 222, attributes := #[] }, { accessFlags := 8, nameIndex := 562, descriptorIndex := 563, attributes := #[] }])
  fields := #[{ name := "in", type := (.object "java/io/InputStream"), accessFlags := 25, slot := 0, constantValue := 0 }, { name := "out", type := (.object "java/io/PrintStream"), accessFlags := 25, slot := 1, constantValue := 0 }, { name := "err", type := (.object "java/io/PrintStream"), accessFlags := 25, slot := 2, constantValue := 0 }, { name := "initialIn", type := (.object "java/io/InputStream"), accessFlags := 10, slot := 3, constantValue := 0 }, { name := "NEVER", type := .int, accessFlags := 26, slot := 4, constantValue := 0 }, { name := "MAYBE", type := .int, accessFlags := 26, slot := 5, constantValue := 0 }, { name := "allowSecurityManager", type := .int, accessFlags := 10, slot := 6, constantValue := 0 }, { name := "security", type := (.object "java/lang/SecurityManager"), accessFlags := 74, slot := 7, constantValue := 0 }, { name := "notSupportedJnuEncoding", type := (.object "java/lang/String"), accessFlags := 10, slot := 8, constantValue := 0 }, { name := "cons", type := (.object "java/io/Console"), accessFlags := 74, slot := 9, constantValue := 0 }, { name := "initialErrStream", type := (.object "java/io/PrintStream"), accessFlags := 74, slot := 10, constantValue := 0 }, { name := "props", type := (.object "java/util/Properties"), accessFlags := 10, slot := 11, constantValue := 0 }, { name := "lineSeparator", type := (.object "java/lang/String"), accessFlags := 10, slot := 12, constantValue := 0 }, { name := "bootLayer", type := (.object "java/lang/ModuleLayer"), accessFlags := 8, slot := 13, constantValue := 0 }]
  methods := #[k13m0, k13m1]
  instanceTypes := #[]
  staticTypes := #[(.object "java/io/InputStream"), (.object "java/io/PrintStream"), (.object "java/io/PrintStream"), (.object "java/io/InputStream"), .int, .int, .int, (.object "java/lang/SecurityManager"), (.object "java/lang/String"), (.object "java/io/Console"), (.object "java/io/PrintStream"), (.object "java/util/Properties"), (.object "java/lang/String"), (.object "java/lang/ModuleLayer")]
  resolved := Array.replicate 834 none
  statics := none }

/-- the primitive byte -/
def k14 : Class := { plain "byte" none with kind := .primitive 'B', accessFlags := 0x411 }
/-- [B -/
def k15 : Class := { plain "[B" (some 0) with kind := .array 14 .byte, interfaces := #[4, 5], accessFlags := 1041 }

/-- the primitive int -/
def k16 : Class := { plain "int" none with kind := .primitive 'I', accessFlags := 0x411 }
/-- [I -/
def k17 : Class := { plain "[I" (some 0) with kind := .array 16 .int, interfaces := #[4, 5], accessFlags := 1041 }

/-- the primitive long -/
def k18 : Class := { plain "long" none with kind := .primitive 'J', accessFlags := 0x411 }
/-- [J -/
def k19 : Class := { plain "[J" (some 0) with kind := .array 18 .long, interfaces := #[4, 5], accessFlags := 1041 }

def heap : Heap := #[]
def classes : Array Class := #[k0, k1, k2, k3, k4, k5, k6, k7, k8, k9, k10, k11, k12, k13, k14, k15, k16, k17, k18, k19]
def interned : List (Array UInt16 × Addr) := []
def slotsUsed : Nat := 0
def theMethod : MethodId := ⟨1, 1⟩
def args0 : Array Value := #[.int 5, .int 3, .long 1, .long 7, .int 3, .int 9]
def aboutOver (below : List Frame) : State where
  vm := { classes := classes, interned := interned.toArray }
  heap := heap
  slotsUsed := slotsUsed
  threads := #[{ frames := .invoking theMethod args0 :: below }]
def below0 : List Frame := [.native { method := ⟨0, 0⟩, args := #[] }]
def about1 : State := aboutOver below0
def p0 : Program := .bare "" "" ""
def e0 : Env := launch0.env 0 0 0
theorem w_frames : about1.frames = Frame.invoking theMethod args0 :: below0 := rfl
set_option maxRecDepth 65536 in
theorem w_args : argsFit about1.vm theMethod args0 = true := by decide +kernel
set_option maxRecDepth 65536 in
theorem w_heap : heapFits about1 = true := by decide +kernel
set_option maxRecDepth 65536 in
theorem w_runnable : about1.curStatus? = some .runnable := by decide +kernel
set_option maxRecDepth 65536 in
theorem w_alone : about1.alone = true := by decide +kernel
set_option maxRecDepth 65536 in
theorem w_named : about1.methodNamed? x = some theMethod := by decide +kernel
set_option maxRecDepth 65536 in
theorem w_hears : about1.hears theMethod below0 = true := by decide +kernel
set_option maxRecDepth 65536 in
theorem w_ripe : about1.ripe theMethod args0 below0 = true := by decide +kernel
theorem w_running : about1.status = .running := rfl
set_option maxRecDepth 65536 in
theorem w_room : about1.hasRoom e0.platform room_1 = true :=
  launch0.hasRoom_least _ room_1 (by decide +kernel) (by decide +kernel) (by decide +kernel) (by decide +kernel) (by decide +kernel) (by decide +kernel)
theorem allAtoms_all (ts : List Jvm.Cond) (a : Array Jvm.Value) (st : Jvm.State) : (allAtoms ts).before a st = ts.all (fun c => c.before a st) := by
  induction ts with
  | nil => rfl
  | cons c t ih =>
    show (Jvm.Cond.and c (allAtoms t)).before a st = _
    rw [Jvm.Cond.before_and, ih, List.all_cons]
def words1 : List Jvm.Cond := Jvm.Cond.code x code maxLocals ret :: tables_1
/-- a 'code' word, met by the world's own term for the bytes: nothing is compared byte by byte -/
theorem code_word {y : MethodName} {bytes : ByteArray} {mx : Nat} {rt : Option FieldType} {a : Array Value} {s : State} {m : MethodId} {meth : Method} {c : Code} (h1 : s.methodNamed? y = some m) (h2 : s.vm.method? m = some meth) (h3 : meth.code = some c) (h4 : c.code = bytes)
    (h5 : (c.maxLocals == mx && c.exceptionTable.isEmpty && decide (c.maxStack ≤ mostOperands) && decide (meth.sig.returnType = rt) && !meth.locks && decide (parseMethodDescriptor y.desc = some meth.sig)) = true) : (Jvm.Cond.code y bytes mx rt).before a s = true := by
  simp only [Bool.and_eq_true, beq_iff_eq, Bool.not_eq_true', decide_eq_true_eq] at h5
  obtain ⟨⟨⟨⟨⟨g1, g2⟩, g3⟩, g4⟩, g5⟩, g6⟩ := h5
  simp [Cond.before, Cond.holds, Cond.value, h1, h2, h3, h4, g1, g2, g3, g4, g5, g6]
def isCode : Jvm.Cond → Bool
  | .code _ _ _ _ => true
  | _ => false
theorem all_split {L : List Jvm.Cond} {P : Jvm.Cond → Bool} (h1 : L.all (fun c => isCode c || P c) = true) (h2 : ∀ c ∈ L.filter isCode, P c = true) : L.all P = true := by
  refine List.all_eq_true.mpr fun c hc => ?_
  have h := List.all_eq_true.mp h1 c hc
  rcases Bool.eq_false_or_eq_true (isCode c) with hi | hi
  · exact h2 c (List.mem_filter.mpr ⟨hc, hi⟩)
  · simpa [hi] using h
set_option maxRecDepth 65536 in
theorem w_c0 : (Jvm.Cond.code x code maxLocals ret).before args0 about1 = true := code_word (m := ⟨1, 1⟩) (meth := k1m1) (c := k1c1) (by decide +kernel) rfl rfl rfl (by decide +kernel)
set_option maxRecDepth 65536 in
theorem w_c1 : (Jvm.Cond.code ({ cls := "java/lang/Math", name := "min", desc := "(II)I" } : Jvm.MethodName) jdk_29_method_69_code (2 : Nat) (Option.some Jvm.ClassFile.FieldType.int)).before args0 about1 = true := code_word (m := ⟨2, 2⟩) (meth := k2m2) (c := k2c2) (by decide +kernel) rfl rfl rfl (by decide +kernel)
set_option maxRecDepth 65536 in
theorem w_c2 : (Jvm.Cond.code ({ cls := "java/lang/Math", name := "max", desc := "(II)I" } : Jvm.MethodName) jdk_29_method_65_code (2 : Nat) (Option.some Jvm.ClassFile.FieldType.int)).before args0 about1 = true := code_word (m := ⟨2, 1⟩) (meth := k2m1) (c := k2c1) (by decide +kernel) rfl rfl rfl (by decide +kernel)
set_option maxRecDepth 65536 in
theorem w_c3 : (Jvm.Cond.code ({ cls := "com/example/weigh/weigh/models/explicit/StateTable", name := "<init>", desc := "([I[II)V" } : Jvm.MethodName) prog_160_method_2_code (10 : Nat) (Option.none : Option Jvm.ClassFile.FieldType)).before args0 about1 = true := code_word (m := ⟨3, 0⟩) (meth := k3m0) (c := k3c0) (by decide +kernel) rfl rfl rfl (by decide +kernel)
set_option maxRecDepth 65536 in
theorem w_c4 : (Jvm.Cond.code ({ cls := "java/lang/Object", name := "<init>", desc := "()V" } : Jvm.MethodName) object_method_1_code (1 : Nat) (Option.none : Option Jvm.ClassFile.FieldType)).before args0 about1 = true := code_word (m := ⟨0, 0⟩) (meth := k0m0) (c := k0c0) (by decide +kernel) rfl rfl rfl (by decide +kernel)
set_option maxRecDepth 65536 in
theorem w_c5 : (Jvm.Cond.code ({ cls := "java/lang/Long", name := "numberOfLeadingZeros", desc := "(J)I" } : Jvm.MethodName) jdk_35_method_48_code (3 : Nat) (Option.some Jvm.ClassFile.FieldType.int)).before args0 about1 = true := code_word (m := ⟨10, 0⟩) (meth := k10m0) (c := k10c0) (by decide +kernel) rfl rfl rfl (by decide +kernel)
set_option maxRecDepth 65536 in
theorem w_c6 : (Jvm.Cond.code ({ cls := "java/lang/Integer", name := "numberOfLeadingZeros", desc := "(I)I" } : Jvm.MethodName) jdk_33_method_47_code (2 : Nat) (Option.some Jvm.ClassFile.FieldType.int)).before args0 about1 = true := code_word (m := ⟨11, 0⟩) (meth := k11m0) (c := k11c0) (by decide +kernel) rfl rfl rfl (by decide +kernel)
set_option maxRecDepth 65536 in
theorem w_c7 : (Jvm.Cond.code ({ cls := "java/lang/Math", name := "min", desc := "(JJ)J" } : Jvm.MethodName) jdk_29_method_70_code (4 : Nat) (Option.some Jvm.ClassFile.FieldType.long)).before args0 about1 = true := code_word (m := ⟨2, 3⟩) (meth := k2m3) (c := k2c3) (by decide +kernel) rfl rfl rfl (by decide +kernel)
set_option maxRecDepth 65536 in
theorem w_c8 : (Jvm.Cond.code ({ cls := "com/example/weigh/weigh/models/explicit/StateTable", name := "slotsFor", desc := "(I)I" } : Jvm.MethodName) prog_160_method_3_code (2 : Nat) (Option.some Jvm.ClassFile.FieldType.int)).before args0 about1 = true := code_word (m := ⟨3, 1⟩) (meth := k3m1) (c := k3c1) (by decide +kernel) rfl rfl rfl (by decide +kernel)
set_option maxRecDepth 65536 in
theorem w_c9 : (Jvm.Cond.code ({ cls := "com/example/weigh/weigh/models/explicit/StateTable", name := "add", desc := "([I)I" } : Jvm.MethodName) prog_160_method_6_code (4 : Nat) (Option.some Jvm.ClassFile.FieldType.int)).before args0 about1 = true := code_word (m := ⟨3, 2⟩) (meth := k3m2) (c := k3c2) (by decide +kernel) rfl rfl rfl (by decide +kernel)
set_option maxRecDepth 65536 in
theorem w_c10 : (Jvm.Cond.code ({ cls := "com/example/weigh/weigh/models/explicit/StateTable", name := "pack", desc := "([I)V" } : Jvm.MethodName) prog_160_method_10_code (5 : Nat) (Option.none : Option Jvm.ClassFile.FieldType)).before args0 about1 = true := code_word (m := ⟨3, 5⟩) (meth := k3m5) (c := k3c5) (by decide +kernel) rfl rfl rfl (by decide +kernel)
set_option maxRecDepth 65536 in
theorem w_c11 : (Jvm.Cond.code ({ cls := "java/util/Arrays", name := "fill", desc := "([JJ)V" } : Jvm.MethodName) jdk_65_method_101_code (5 : Nat) (Option.none : Option Jvm.ClassFile.FieldType)).before args0 about1 = true := code_word (m := ⟨12, 1⟩) (meth := k12m1) (c := k12c1) (by decide +kernel) rfl rfl rfl (by decide +kernel)
set_option maxRecDepth 65536 in
theorem w_c12 : (Jvm.Cond.code ({ cls := "com/example/weigh/weigh/models/explicit/StateTable", name := "hash", desc := "([JI)I" } : Jvm.MethodName) prog_160_method_15_code (6 : Nat) (Option.some Jvm.ClassFile.FieldType.int)).before args0 about1 = true := code_word (m := ⟨3, 9⟩) (meth := k3m9) (c := k3c9) (by decide +kernel) rfl rfl rfl (by decide +kernel)
set_option maxRecDepth 65536 in
theorem w_c13 : (Jvm.Cond.code ({ cls := "com/example/weigh/weigh/models/explicit/StateTable", name := "lookUp", desc := "(I)I" } : Jvm.MethodName) prog_160_method_8_code (6 : Nat) (Option.some Jvm.ClassFile.FieldType.int)).before args0 about1 = true := code_word (m := ⟨3, 3⟩) (meth := k3m3) (c := k3c3) (by decide +kernel) rfl rfl rfl (by decide +kernel)
set_option maxRecDepth 65536 in
theorem w_c14 : (Jvm.Cond.code ({ cls := "com/example/weigh/weigh/models/explicit/StateTable", name := "append", desc := "(I)I" } : Jvm.MethodName) prog_160_method_12_code (5 : Nat) (Option.some Jvm.ClassFile.FieldType.int)).before args0 about1 = true := code_word (m := ⟨3, 7⟩) (meth := k3m7) (c := k3c7) (by decide +kernel) rfl rfl rfl (by decide +kernel)
set_option maxRecDepth 65536 in
theorem w_c15 : (Jvm.Cond.code ({ cls := "com/example/weigh/weigh/models/explicit/StateTable", name := "place", desc := "(II[I)V" } : Jvm.MethodName) prog_160_method_14_code (5 : Nat) (Option.none : Option Jvm.ClassFile.FieldType)).before args0 about1 = true := code_word (m := ⟨3, 8⟩) (meth := k3m8) (c := k3c8) (by decide +kernel) rfl rfl rfl (by decide +kernel)
set_option maxRecDepth 65536 in
theorem w_c16 : (Jvm.Cond.code ({ cls := "com/example/weigh/weigh/models/explicit/StateTable", name := "get", desc := "(I[I)V" } : Jvm.MethodName) prog_160_method_9_code (7 : Nat) (Option.none : Option Jvm.ClassFile.FieldType)).before args0 about1 = true := code_word (m := ⟨3, 4⟩) (meth := k3m4) (c := k3c4) (by decide +kernel) rfl rfl rfl (by decide +kernel)
set_option maxRecDepth 65536 in
theorem w_c17 : (Jvm.Cond.code ({ cls := "com/example/weigh/weigh/models/explicit/StateTable", name := "matches", desc := "(I)Z" } : Jvm.MethodName) prog_160_method_11_code (5 : Nat) (Option.some Jvm.ClassFile.FieldType.boolean)).before args0 about1 = true := code_word (m := ⟨3, 6⟩) (meth := k3m6) (c := k3c6) (by decide +kernel) rfl rfl rfl (by decide +kernel)
def codes1 : List Jvm.Cond := [Jvm.Cond.code x code maxLocals ret, Jvm.Cond.code ({ cls := "java/lang/Math", name := "min", desc := "(II)I" } : Jvm.MethodName) jdk_29_method_69_code (2 : Nat) (Option.some Jvm.ClassFile.FieldType.int), Jvm.Cond.code ({ cls := "java/lang/Math", name := "max", desc := "(II)I" } : Jvm.MethodName) jdk_29_method_65_code (2 : Nat) (Option.some Jvm.ClassFile.FieldType.int), Jvm.Cond.code ({ cls := "com/example/weigh/weigh/models/explicit/StateTable", name := "<init>", desc := "([I[II)V" } : Jvm.MethodName) prog_160_method_2_code (10 : Nat) (Option.none : Option Jvm.ClassFile.FieldType), Jvm.Cond.code ({ cls := "java/lang/Object", name := "<init>", desc := "()V" } : Jvm.MethodName) object_method_1_code (1 : Nat) (Option.none : Option Jvm.ClassFile.FieldType), Jvm.Cond.code ({ cls := "java/lang/Long", name := "numberOfLeadingZeros", desc := "(J)I" } : Jvm.MethodName) jdk_35_method_48_code (3 : Nat) (Option.some Jvm.ClassFile.FieldType.int), Jvm.Cond.code ({ cls := "java/lang/Integer", name := "numberOfLeadingZeros", desc := "(I)I" } : Jvm.MethodName) jdk_33_method_47_code (2 : Nat) (Option.some Jvm.ClassFile.FieldType.int), Jvm.Cond.code ({ cls := "java/lang/Math", name := "min", desc := "(JJ)J" } : Jvm.MethodName) jdk_29_method_70_code (4 : Nat) (Option.some Jvm.ClassFile.FieldType.long), Jvm.Cond.code ({ cls := "com/example/weigh/weigh/models/explicit/StateTable", name := "slotsFor", desc := "(I)I" } : Jvm.MethodName) prog_160_method_3_code (2 : Nat) (Option.some Jvm.ClassFile.FieldType.int), Jvm.Cond.code ({ cls := "com/example/weigh/weigh/models/explicit/StateTable", name := "add", desc := "([I)I" } : Jvm.MethodName) prog_160_method_6_code (4 : Nat) (Option.some Jvm.ClassFile.FieldType.int), Jvm.Cond.code ({ cls := "com/example/weigh/weigh/models/explicit/StateTable", name := "pack", desc := "([I)V" } : Jvm.MethodName) prog_160_method_10_code (5 : Nat) (Option.none : Option Jvm.ClassFile.FieldType), Jvm.Cond.code ({ cls := "java/util/Arrays", name := "fill", desc := "([JJ)V" } : Jvm.MethodName) jdk_65_method_101_code (5 : Nat) (Option.none : Option Jvm.ClassFile.FieldType), Jvm.Cond.code ({ cls := "com/example/weigh/weigh/models/explicit/StateTable", name := "hash", desc := "([JI)I" } : Jvm.MethodName) prog_160_method_15_code (6 : Nat) (Option.some Jvm.ClassFile.FieldType.int), Jvm.Cond.code ({ cls := "com/example/weigh/weigh/models/explicit/StateTable", name := "lookUp", desc := "(I)I" } : Jvm.MethodName) prog_160_method_8_code (6 : Nat) (Option.some Jvm.ClassFile.FieldType.int), Jvm.Cond.code ({ cls := "com/example/weigh/weigh/models/explicit/StateTable", name := "append", desc := "(I)I" } : Jvm.MethodName) prog_160_method_12_code (5 : Nat) (Option.some Jvm.ClassFile.FieldType.int), Jvm.Cond.code ({ cls := "com/example/weigh/weigh/models/explicit/StateTable", name := "place", desc := "(II[I)V" } : Jvm.MethodName) prog_160_method_14_code (5 : Nat) (Option.none : Option Jvm.ClassFile.FieldType), Jvm.Cond.code ({ cls := "com/example/weigh/weigh/models/explicit/StateTable", name := "get", desc := "(I[I)V" } : Jvm.MethodName) prog_160_method_9_code (7 : Nat) (Option.none : Option Jvm.ClassFile.FieldType), Jvm.Cond.code ({ cls := "com/example/weigh/weigh/models/explicit/StateTable", name := "matches", desc := "(I)Z" } : Jvm.MethodName) prog_160_method_11_code (5 : Nat) (Option.some Jvm.ClassFile.FieldType.boolean)]
set_option maxRecDepth 65536 in
theorem codes_eq : words1.filter isCode = codes1 := rfl
theorem w_codes : ∀ c ∈ words1.filter isCode, c.before args0 about1 = true := by
  rw [codes_eq]
  intro c hc
  simp only [codes1, List.mem_cons, List.not_mem_nil, or_false] at hc
  rcases hc with rfl | rfl | rfl | rfl | rfl | rfl | rfl | rfl | rfl | rfl | rfl | rfl | rfl | rfl | rfl | rfl | rfl | rfl
  · exact w_c0
  · exact w_c1
  · exact w_c2
  · exact w_c3
  · exact w_c4
  · exact w_c5
  · exact w_c6
  · exact w_c7
  · exact w_c8
  · exact w_c9
  · exact w_c10
  · exact w_c11
  · exact w_c12
  · exact w_c13
  · exact w_c14
  · exact w_c15
  · exact w_c16
  · exact w_c17
set_option maxRecDepth 65536 in
theorem w_t1 : (words1.take 24).all (fun c => isCode c || c.before args0 about1) = true := by decide +kernel
set_option maxRecDepth 65536 in
theorem w_t2 : ((words1.drop 24).take 24).all (fun c => isCode c || c.before args0 about1) = true := by decide +kernel
set_option maxRecDepth 65536 in
theorem w_t3 : (((words1.drop 24).drop 24).take 24).all (fun c => isCode c || c.before args0 about1) = true := by decide +kernel
set_option maxRecDepth 65536 in
theorem w_t4 : ((((words1.drop 24).drop 24).drop 24).take 24).all (fun c => isCode c || c.before args0 about1) = true := by decide +kernel
set_option maxRecDepth 65536 in
theorem w_t5 : ((((words1.drop 24).drop 24).drop 24).drop 24).all (fun c => isCode c || c.before args0 about1) = true := by decide +kernel
theorem w_tables : (allAtoms (Jvm.Cond.code x code maxLocals ret :: tables_1)).before args0 about1 = true := by
  rw [allAtoms_all]
  show words1.all (fun c => c.before args0 about1) = true
  refine all_split ?_ w_codes
  rw [← List.take_append_drop 24 words1, List.all_append, w_t1, ← List.take_append_drop 24 (words1.drop 24), List.all_append, w_t2, ← List.take_append_drop 24 ((words1.drop 24).drop 24), List.all_append, w_t3, ← List.take_append_drop 24 (((words1.drop 24).drop 24).drop 24), List.all_append, w_t4, w_t5]
  rfl
set_option maxRecDepth 65536 in
theorem w_case : (Jvm.Cond.and given_1 narrow_1).before args0 about1 = true := by decide +kernel
theorem w_applies : (headSpec (Jvm.Cond.code x code maxLocals ret :: tables_1) room_1).applies x e0.platform about1 = true :=
  (Spec.applies_iff w_frames).mpr ⟨w_running, w_runnable, w_alone, w_named, w_hears, w_ripe, w_room, w_tables⟩
theorem atStart : AtStart classFile x code maxLocals ret World_1 tables_1 room_1 Calls_1 rest_1 Pre_1 launch0 p0 e0 about1 theMethod args0 below0 :=
  ⟨lists_1, trivial, launch0.admits_env _ _ _, launch0.least_env, fairChoices_fair.cas, fairChoices_fair.clock, w_frames, w_args, w_heap, w_applies, trivial, trivial, w_case⟩
end start1
theorem witness_1 : WitnessClaimed_1 := ⟨start1.p0, start1.e0, start1.about1, start1.theMethod, start1.args0, start1.below0, start1.atStart⟩
end Jvm.Pilot.@@N@@
