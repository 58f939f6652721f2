import JvmDerived
import JvmDerived.Pilot.@@N@@Statement
import JvmDerived.Pilot.@@N@@Code
set_option linter.unusedVariables false
set_option linter.unusedSimpArgs false
@@BLOCK:NumsL.lean.txt@@
namespace Jvm.Pilot.@@N@@
open Jvm Jvm.ClassFile Sem Op Lib Jvm.Free Jvm.Stand Jvm.LawKit Jvm.RoadKit Bundle Jvm.Pilot.@@N@@.Jvm.D
/-- the sheet's words hold -/
abbrev own_HW (Z : State) (a0 : Array Value) : Prop := ∀ d ∈ tables_1, d.before a0 Z = true
/-- the i-th word of the sheet -/
theorem own_w {Z : State} {a0 : Array Value} (hw : own_HW Z a0) (i : Nat) {d : Jvm.Cond} (h : tables_1[i]? = some d) : d.before a0 Z = true := hw _ (List.mem_of_getElem? h)
theorem own_slne {Z : State} {a0 : Array Value} {C O n d O' n' d' : String} (L : Laid Z a0 C O n d) (L' : Laid Z a0 C O' n' d') (hn : n ≠ n' := by decide) (ht : (parseFieldDescriptor d).isSome = true := by decide) (ht' : (parseFieldDescriptor d').isSome = true := by decide) : RoadKit.slotOf Z O n d ≠ RoadKit.slotOf Z O' n' d' :=
  slot_ne L L' hn (Option.some_get ht).symm (Option.some_get ht').symm
section Own
variable {p : Program} {l : Launch} {e : Env} {R : Room} {s : State} {m : MethodId} {args : Array Value} {below : List Frame} {meth : Method} {c : Code} {T T' : State} {locs : List Loc} {cells slots kc ks : Nat} {g g' : JFrame} {Q : Option Value → Heap → List Loc → Prop}
/-- from here the run goes on to its return, with Q of what it returns, the heap and the places written -/
def own_Go (p : Program) (e : Env) (below : List Frame) (s T : State) (g : JFrame) (Q : Option Value → Heap → List Loc → Prop) (kc ks : Nat) : Prop :=
  ∃ s₂ o, Steps p.tables e below (T.setTop g) s₂ ∧ s₂.status = .running ∧ Ended s₂ below o ∧ ∃ v L, o = .returned v ∧ Q v s₂.heap L ∧ FrameEnd s o s₂ L kc ks
theorem own_st (st : ∀ t, Steps p.tables e below (T'.setTop g') t → Steps p.tables e below (T.setTop g) t) (k : own_Go p e below s T' g' Q kc ks) : own_Go p e below s T g Q kc ks := by
  obtain ⟨s₂, o, h1, h2⟩ := k
  exact ⟨s₂, o, st _ h1, h2⟩
theorem own_stt (st : Steps p.tables e below (T.setTop g) (T'.setTop g')) (k : own_Go p e below s T' g' Q kc ks) : own_Go p e below s T g Q kc ks := own_st (fun _ k => st.trans k) k
theorem own_cast (q : g = g') (k : own_Go p e below s T g' Q kc ks) : own_Go p e below s T g Q kc ks := q ▸ k
theorem own_retN (X : Stand p l e R s m args below meth c T locs cells slots) (hx : p.tables.exec = Jvm.exec) (hlk : meth.locks = false) {t : FieldType} (ht : t = .boolean ∨ t = .byte ∨ t = .char ∨ t = .short) (hret : meth.sig.returnType = some t)
    {pc : Nat} {Ls : Array Slot} {z : Int32} {rest : List Value} (hd : decode c.code pc = .ok (.ireturn, 1)) (hc : cells ≤ kc) (hs : slots ≤ ks) (hq : Q (some (.int (nar t z))) T.heap locs) :
    own_Go p e below s T (mkF m pc Ls (.int z :: rest)) Q kc ks := by
  obtain ⟨fs, hr, hrun, hended, hW, hsame⟩ := X.leave (v := some (.int (nar t z))) (fun h => by rw [hret] at h; cases h) hlk
  exact ⟨_, _, retN X hx hret ht hd hr, hrun, hended, _, _, rfl, hq, ⟨_, rfl⟩, hW, hsame.mono hc hs⟩
theorem own_retI (X : Stand p l e R s m args below meth c T locs cells slots) (hx : p.tables.exec = Jvm.exec) (hlk : meth.locks = false) (hret : meth.sig.returnType = some .int)
    {pc : Nat} {Ls : Array Slot} {z : Int32} {rest : List Value} (hd : decode c.code pc = .ok (.ireturn, 1)) (hc : cells ≤ kc) (hs : slots ≤ ks) (hq : Q (some (.int z)) T.heap locs) :
    own_Go p e below s T (mkF m pc Ls (.int z :: rest)) Q kc ks := by
  obtain ⟨fs, hr, hrun, hended, hW, hsame⟩ := X.leave (v := some (.int z)) (fun h => by rw [hret] at h; cases h) hlk
  exact ⟨_, _, retOut X hx hret rfl (Or.inl ⟨rfl, Or.inl rfl, _, rfl⟩) hd hr, hrun, hended, _, _, rfl, hq, ⟨_, rfl⟩, hW, hsame.mono hc hs⟩
theorem own_retJ (X : Stand p l e R s m args below meth c T locs cells slots) (hx : p.tables.exec = Jvm.exec) (hlk : meth.locks = false) (hret : meth.sig.returnType = some .long)
    {pc : Nat} {Ls : Array Slot} {z : Int64} {rest : List Value} (hd : decode c.code pc = .ok (.lreturn, 1)) (hc : cells ≤ kc) (hs : slots ≤ ks) (hq : Q (some (.long z)) T.heap locs) :
    own_Go p e below s T (mkF m pc Ls (.long z :: rest)) Q kc ks := by
  obtain ⟨fs, hr, hrun, hended, hW, hsame⟩ := X.leave (v := some (.long z)) (fun h => by rw [hret] at h; cases h) hlk
  exact ⟨_, _, retOut X hx hret rfl (Or.inr (Or.inl ⟨rfl, rfl, _, rfl⟩)) hd hr, hrun, hended, _, _, rfl, hq, ⟨_, rfl⟩, hW, hsame.mono hc hs⟩
theorem own_retR (X : Stand p l e R s m args below meth c T locs cells slots) (hx : p.tables.exec = Jvm.exec) (hlk : meth.locks = false) {t : FieldType} (ht : t.isReference = true) (hret : meth.sig.returnType = some t)
    {pc : Nat} {Ls : Array Slot} {a : Addr} {rest : List Value} (hd : decode c.code pc = .ok (.areturn, 1)) (hc : cells ≤ kc) (hs : slots ≤ ks) (hq : Q (some (.ref a)) T.heap locs) :
    own_Go p e below s T (mkF m pc Ls (.ref a :: rest)) Q kc ks := by
  obtain ⟨fs, hr, hrun, hended, hW, hsame⟩ := X.leave (v := some (.ref a)) (fun h => by rw [hret] at h; cases h) hlk
  exact ⟨_, _, retOut X hx hret (by cases t <;> first | rfl | cases ht) (Or.inr (Or.inr (Or.inr (Or.inr ⟨rfl, ht, rfl⟩)))) hd hr, hrun, hended, _, _, rfl, hq, ⟨_, rfl⟩, hW, hsame.mono hc hs⟩
theorem own_retV (X : Stand p l e R s m args below meth c T locs cells slots) (hx : p.tables.exec = Jvm.exec) (hlk : meth.locks = false) (hret : meth.sig.returnType = none)
    {pc : Nat} {Ls : Array Slot} (hd : decode c.code pc = .ok (.return_, 1)) (hc : cells ≤ kc) (hs : slots ≤ ks) (hq : Q none T.heap locs) :
    own_Go p e below s T (mkF m pc Ls []) Q kc ks := by
  obtain ⟨fs, hr, hrun, hended, hW, hsame⟩ := X.leave (v := none) (fun _ => rfl) hlk
  exact ⟨_, _, X.returnOut hx hret hd hr, hrun, hended, _, _, rfl, hq, ⟨_, rfl⟩, hW, hsame.mono hc hs⟩
/-- getfield, and on -/
theorem own_gG {Z : State} {a0 : Array Value} {h : Heap} {own O n d : String} {index : Nat} {a : Addr} {v : Value} {rest : List Value} {s0 : State} (X : Stand p l e R s m args below meth c T locs cells slots) (hx : p.tables.exec = Jvm.exec) (hZ : Z.Warmed39 s.vm) (hown : s.vm.findClass own = some m.cls) (w : (Jvm.Cond.fieldLink own index O n d).before a0 Z = true) (eT : T.heap = h) (F : Fld Z h a O n d v) (hg : g.method = m) (hs : g.stack = .ref a :: rest) (hd : decode c.code g.pc = .ok (.getfield index, 3))
    (k : ∀ {T' : State}, Stand p l e R s m args below meth c T' locs cells slots → T'.heap = h → own_Go p e below s0 T' { g with pc := g.pc + 3, stack := v :: rest } Q kc ks) : own_Go p e below s0 T g Q kc ks := by
  obtain ⟨T', X', e', st⟩ := getF X hx hZ hown (host := "") (Or.inl w) Via.refl eT F hg hs hd
  exact own_st st (k X' e')
end Own
/-- what a body that writes nothing leaves: its value, nothing old written, the heap as it was -/
def own_QP (w : Value) (h0 : Heap) (n0 : Nat) (v : Option Value) (h : Heap) (L : List Loc) : Prop := v = some w ∧ Fr n0 L ∧ h = h0
abbrev own_D (c : ByteArray) (i : Nat) (x : Instr) (k : Nat) : Prop := decode c i = .ok (x, k)
abbrev own_NE (Z : State) (O n d O' n' d' : String) : Prop := RoadKit.slotOf Z O n d ≠ RoadKit.slotOf Z O' n' d'
abbrev own_b5 : ByteArray := jdk_22_method_1_code
abbrev own_b4 : ByteArray := jdk_39_method_1_code
abbrev own_b3 : ByteArray := jdk_38_method_2_code
abbrev own_b6 : ByteArray := prog_75_method_1_code
abbrev own_b1 : ByteArray := prog_46_method_1_code
abbrev own_b21 : ByteArray := jdk_29_method_69_code
abbrev own_b7 : ByteArray := prog_37_method_1_code
abbrev own_b9 : ByteArray := prog_37_method_4_code
abbrev own_b10 : ByteArray := prog_37_method_5_code
abbrev own_b11 : ByteArray := prog_37_method_6_code
abbrev own_b12 : ByteArray := prog_37_method_16_code
abbrev own_b19 : ByteArray := prog_37_method_13_code
abbrev own_b17 : ByteArray := prog_75_method_2_code
abbrev own_b16 : ByteArray := prog_46_method_10_code
abbrev own_b8 : ByteArray := prog_37_method_35_code
abbrev own_b13 : ByteArray := prog_37_method_8_code
abbrev own_b25 : ByteArray := prog_37_method_39_code
abbrev own_b20 : ByteArray := prog_37_method_40_code
abbrev own_b18 : ByteArray := prog_75_method_7_code
abbrev own_b15 : ByteArray := prog_37_method_36_code
abbrev own_b24 : ByteArray := prog_46_method_19_code
abbrev own_b23 : ByteArray := prog_37_method_37_code
abbrev own_b22 : ByteArray := prog_37_method_38_code
abbrev own_b14 : ByteArray := prog_37_method_31_code
theorem own_sll {Z : State} {a0 : Array Value} (hw : own_HW Z a0) (i j : Nat) {C O n d O' n' d' : String} (h : tables_1[i]? = some (.lays C O n d)) (h' : tables_1[j]? = some (.lays C O' n' d')) (hn : n ≠ n' := by decide) (ht : (parseFieldDescriptor d).isSome = true := by decide) (ht' : (parseFieldDescriptor d').isSome = true := by decide) : RoadKit.slotOf Z O n d ≠ RoadKit.slotOf Z O' n' d' := own_slne (Or.inl (own_w hw i h)) (Or.inl (own_w hw j h')) hn ht ht'
theorem own_slr {Z : State} {a0 : Array Value} (hw : own_HW Z a0) (i j : Nat) {C O n d O' n' d' : String} (h : tables_1[i]? = some (.lays C O n d)) (h' : tables_1[j]? = some (.laysFinal C O' n' d')) (hn : n ≠ n' := by decide) (ht : (parseFieldDescriptor d).isSome = true := by decide) (ht' : (parseFieldDescriptor d').isSome = true := by decide) : RoadKit.slotOf Z O n d ≠ RoadKit.slotOf Z O' n' d' := own_slne (Or.inl (own_w hw i h)) (Or.inr (own_w hw j h')) hn ht ht'
theorem own_srl {Z : State} {a0 : Array Value} (hw : own_HW Z a0) (i j : Nat) {C O n d O' n' d' : String} (h : tables_1[i]? = some (.laysFinal C O n d)) (h' : tables_1[j]? = some (.lays C O' n' d')) (hn : n ≠ n' := by decide) (ht : (parseFieldDescriptor d).isSome = true := by decide) (ht' : (parseFieldDescriptor d').isSome = true := by decide) : RoadKit.slotOf Z O n d ≠ RoadKit.slotOf Z O' n' d' := own_slne (Or.inr (own_w hw i h)) (Or.inl (own_w hw j h')) hn ht ht'
theorem own_srr {Z : State} {a0 : Array Value} (hw : own_HW Z a0) (i j : Nat) {C O n d O' n' d' : String} (h : tables_1[i]? = some (.laysFinal C O n d)) (h' : tables_1[j]? = some (.laysFinal C O' n' d')) (hn : n ≠ n' := by decide) (ht : (parseFieldDescriptor d).isSome = true := by decide) (ht' : (parseFieldDescriptor d').isSome = true := by decide) : RoadKit.slotOf Z O n d ≠ RoadKit.slotOf Z O' n' d' := own_slne (Or.inr (own_w hw i h)) (Or.inr (own_w hw j h')) hn ht ht'
abbrev own_z0 : String := "com/example/propagule/propagule/IntVar"
abbrev own_z1 : String := "com/example/propagule/propagule/Trail"
abbrev own_z2 : String := "com/example/propagule/propagule/Model"
abbrev own_z3 : String := "[Lcom/example/propagule/propagule/Constraint;"
abbrev own_z4 : String := "Lcom/example/propagule/propagule/Model;"
abbrev own_z5 : String := "Lcom/example/propagule/propagule/Event;"
abbrev own_z6 : String := "com/example/propagule/propagule/Event"
abbrev own_z7 : String := "Lcom/example/propagule/propagule/Trail;"
abbrev own_z8 : String := "[Lcom/example/propagule/propagule/ReversibleLongs;"
abbrev own_z9 : String := "watcherCount"
abbrev own_z10 : String := "Ljava/util/List;"
abbrev own_z11 : String := "(Lcom/example/propagule/propagule/Event;)V"
abbrev own_z12 : String := "Ljava/lang/String;"
abbrev own_z13 : String := "Lcom/example/propagule/propagule/Deadline;"
abbrev own_z14 : String := "([Lcom/example/propagule/propagule/Constraint;II)V"
abbrev own_z15 : String := "(Lcom/example/propagule/propagule/Model;ILjava/lang/String;II)V"
abbrev own_z16 : String := "java/util/ArrayList"
abbrev own_z17 : String := "com/example/propagule/propagule/IntVarRestorePinLaw"
abbrev own_z18 : String := "removeAbove"
abbrev own_z19 : String := "intervalAtOrAfter"
abbrev own_z20 : String := "intervalAtOrBefore"
abbrev own_z21 : String := "(Lcom/example/propagule/propagule/IntVar;IIJJ[III)V"
abbrev own_z22 : String := "[Ljava/lang/Object;"
abbrev own_z23 : String := "worldNumbers"
abbrev own_z24 : String := "cellIndexes"
abbrev own_z25 : String := "java/util/AbstractList"
abbrev own_z26 : String := "com/example/propagule/propagule/Constraint"
abbrev own_z27 : String := "()Lcom/example/propagule/propagule/Trail;"
abbrev own_z28 : String := "com/example/propagule/propagule/Deadline"
abbrev own_c0 : String := "java/util/ArrayList"
abbrev own_c1 : String := "java/util/AbstractList"
theorem own_sn0 {Z a0} (hw : own_HW Z a0) : own_NE Z own_c0 "elementData" own_z22 own_c1 "modCount" "I" := own_sll hw 32 29 rfl rfl
abbrev own_c2 : String := "com/example/propagule/propagule/Trail"
theorem own_sn1 {Z a0} (hw : own_HW Z a0) : own_NE Z own_c2 "longs" "[J" own_c2 "ints" "[I" := own_sll hw 49 46 rfl rfl
theorem own_sn2 {Z a0} (hw : own_HW Z a0) : own_NE Z own_c2 "ranges" "[[I" own_c2 "ints" "[I" := own_sll hw 53 46 rfl rfl
theorem own_sn3 {Z a0} (hw : own_HW Z a0) : own_NE Z own_c2 "ranges" "[[I" own_c2 "longs" "[J" := own_sll hw 53 49 rfl rfl
theorem own_sn4 {Z a0} (hw : own_HW Z a0) : own_NE Z own_c2 "cellOwners" own_z8 own_c2 "ints" "[I" := own_sll hw 57 46 rfl rfl
theorem own_sn5 {Z a0} (hw : own_HW Z a0) : own_NE Z own_c2 "cellOwners" own_z8 own_c2 "longs" "[J" := own_sll hw 57 49 rfl rfl
theorem own_sn6 {Z a0} (hw : own_HW Z a0) : own_NE Z own_c2 "cellOwners" own_z8 own_c2 "ranges" "[[I" := own_sll hw 57 53 rfl rfl
theorem own_sn7 {Z a0} (hw : own_HW Z a0) : own_NE Z own_c2 own_z24 "[I" own_c2 "ints" "[I" := own_sll hw 59 46 rfl rfl
theorem own_sn8 {Z a0} (hw : own_HW Z a0) : own_NE Z own_c2 own_z24 "[I" own_c2 "longs" "[J" := own_sll hw 59 49 rfl rfl
theorem own_sn9 {Z a0} (hw : own_HW Z a0) : own_NE Z own_c2 own_z24 "[I" own_c2 "ranges" "[[I" := own_sll hw 59 53 rfl rfl
theorem own_sn10 {Z a0} (hw : own_HW Z a0) : own_NE Z own_c2 own_z24 "[I" own_c2 "cellOwners" own_z8 := own_sll hw 59 57 rfl rfl
theorem own_sn11 {Z a0} (hw : own_HW Z a0) : own_NE Z own_c2 "cellValues" "[J" own_c2 "ints" "[I" := own_sll hw 61 46 rfl rfl
theorem own_sn12 {Z a0} (hw : own_HW Z a0) : own_NE Z own_c2 "cellValues" "[J" own_c2 "longs" "[J" := own_sll hw 61 49 rfl rfl
theorem own_sn13 {Z a0} (hw : own_HW Z a0) : own_NE Z own_c2 "cellValues" "[J" own_c2 "ranges" "[[I" := own_sll hw 61 53 rfl rfl
theorem own_sn14 {Z a0} (hw : own_HW Z a0) : own_NE Z own_c2 "cellValues" "[J" own_c2 "cellOwners" own_z8 := own_sll hw 61 57 rfl rfl
theorem own_sn15 {Z a0} (hw : own_HW Z a0) : own_NE Z own_c2 "cellValues" "[J" own_c2 own_z24 "[I" := own_sll hw 61 59 rfl rfl
theorem own_sn16 {Z a0} (hw : own_HW Z a0) : own_NE Z own_c2 "cellStamps" "[I" own_c2 "ints" "[I" := own_sll hw 63 46 rfl rfl
theorem own_sn17 {Z a0} (hw : own_HW Z a0) : own_NE Z own_c2 "cellStamps" "[I" own_c2 "longs" "[J" := own_sll hw 63 49 rfl rfl
theorem own_sn18 {Z a0} (hw : own_HW Z a0) : own_NE Z own_c2 "cellStamps" "[I" own_c2 "ranges" "[[I" := own_sll hw 63 53 rfl rfl
theorem own_sn19 {Z a0} (hw : own_HW Z a0) : own_NE Z own_c2 "cellStamps" "[I" own_c2 "cellOwners" own_z8 := own_sll hw 63 57 rfl rfl
theorem own_sn20 {Z a0} (hw : own_HW Z a0) : own_NE Z own_c2 "cellStamps" "[I" own_c2 own_z24 "[I" := own_sll hw 63 59 rfl rfl
theorem own_sn21 {Z a0} (hw : own_HW Z a0) : own_NE Z own_c2 "cellStamps" "[I" own_c2 "cellValues" "[J" := own_sll hw 63 61 rfl rfl
theorem own_sn22 {Z a0} (hw : own_HW Z a0) : own_NE Z own_c2 "worldMarks" "[I" own_c2 "ints" "[I" := own_sll hw 65 46 rfl rfl
theorem own_sn23 {Z a0} (hw : own_HW Z a0) : own_NE Z own_c2 "worldMarks" "[I" own_c2 "longs" "[J" := own_sll hw 65 49 rfl rfl
theorem own_sn24 {Z a0} (hw : own_HW Z a0) : own_NE Z own_c2 "worldMarks" "[I" own_c2 "ranges" "[[I" := own_sll hw 65 53 rfl rfl
theorem own_sn25 {Z a0} (hw : own_HW Z a0) : own_NE Z own_c2 "worldMarks" "[I" own_c2 "cellOwners" own_z8 := own_sll hw 65 57 rfl rfl
theorem own_sn26 {Z a0} (hw : own_HW Z a0) : own_NE Z own_c2 "worldMarks" "[I" own_c2 own_z24 "[I" := own_sll hw 65 59 rfl rfl
theorem own_sn27 {Z a0} (hw : own_HW Z a0) : own_NE Z own_c2 "worldMarks" "[I" own_c2 "cellValues" "[J" := own_sll hw 65 61 rfl rfl
theorem own_sn28 {Z a0} (hw : own_HW Z a0) : own_NE Z own_c2 "worldMarks" "[I" own_c2 "cellStamps" "[I" := own_sll hw 65 63 rfl rfl
theorem own_sn29 {Z a0} (hw : own_HW Z a0) : own_NE Z own_c2 "cellMarks" "[I" own_c2 "ints" "[I" := own_sll hw 67 46 rfl rfl
theorem own_sn30 {Z a0} (hw : own_HW Z a0) : own_NE Z own_c2 "cellMarks" "[I" own_c2 "longs" "[J" := own_sll hw 67 49 rfl rfl
theorem own_sn31 {Z a0} (hw : own_HW Z a0) : own_NE Z own_c2 "cellMarks" "[I" own_c2 "ranges" "[[I" := own_sll hw 67 53 rfl rfl
theorem own_sn32 {Z a0} (hw : own_HW Z a0) : own_NE Z own_c2 "cellMarks" "[I" own_c2 "cellOwners" own_z8 := own_sll hw 67 57 rfl rfl
theorem own_sn33 {Z a0} (hw : own_HW Z a0) : own_NE Z own_c2 "cellMarks" "[I" own_c2 own_z24 "[I" := own_sll hw 67 59 rfl rfl
theorem own_sn34 {Z a0} (hw : own_HW Z a0) : own_NE Z own_c2 "cellMarks" "[I" own_c2 "cellValues" "[J" := own_sll hw 67 61 rfl rfl
theorem own_sn35 {Z a0} (hw : own_HW Z a0) : own_NE Z own_c2 "cellMarks" "[I" own_c2 "cellStamps" "[I" := own_sll hw 67 63 rfl rfl
theorem own_sn36 {Z a0} (hw : own_HW Z a0) : own_NE Z own_c2 "cellMarks" "[I" own_c2 "worldMarks" "[I" := own_sll hw 67 65 rfl rfl
theorem own_sn37 {Z a0} (hw : own_HW Z a0) : own_NE Z own_c2 own_z23 "[J" own_c2 "ints" "[I" := own_sll hw 69 46 rfl rfl
theorem own_sn38 {Z a0} (hw : own_HW Z a0) : own_NE Z own_c2 own_z23 "[J" own_c2 "longs" "[J" := own_sll hw 69 49 rfl rfl
theorem own_sn39 {Z a0} (hw : own_HW Z a0) : own_NE Z own_c2 own_z23 "[J" own_c2 "ranges" "[[I" := own_sll hw 69 53 rfl rfl
theorem own_sn40 {Z a0} (hw : own_HW Z a0) : own_NE Z own_c2 own_z23 "[J" own_c2 "cellOwners" own_z8 := own_sll hw 69 57 rfl rfl
theorem own_sn41 {Z a0} (hw : own_HW Z a0) : own_NE Z own_c2 own_z23 "[J" own_c2 own_z24 "[I" := own_sll hw 69 59 rfl rfl
theorem own_sn42 {Z a0} (hw : own_HW Z a0) : own_NE Z own_c2 own_z23 "[J" own_c2 "cellValues" "[J" := own_sll hw 69 61 rfl rfl
theorem own_sn43 {Z a0} (hw : own_HW Z a0) : own_NE Z own_c2 own_z23 "[J" own_c2 "cellStamps" "[I" := own_sll hw 69 63 rfl rfl
theorem own_sn44 {Z a0} (hw : own_HW Z a0) : own_NE Z own_c2 own_z23 "[J" own_c2 "worldMarks" "[I" := own_sll hw 69 65 rfl rfl
theorem own_sn45 {Z a0} (hw : own_HW Z a0) : own_NE Z own_c2 own_z23 "[J" own_c2 "cellMarks" "[I" := own_sll hw 69 67 rfl rfl
theorem own_sn46 {Z a0} (hw : own_HW Z a0) : own_NE Z own_c2 "variables" own_z10 own_c2 "ints" "[I" := own_srl hw 71 46 rfl rfl
theorem own_sn47 {Z a0} (hw : own_HW Z a0) : own_NE Z own_c2 "variables" own_z10 own_c2 "longs" "[J" := own_srl hw 71 49 rfl rfl
theorem own_sn48 {Z a0} (hw : own_HW Z a0) : own_NE Z own_c2 "variables" own_z10 own_c2 "ranges" "[[I" := own_srl hw 71 53 rfl rfl
theorem own_sn49 {Z a0} (hw : own_HW Z a0) : own_NE Z own_c2 "variables" own_z10 own_c2 "cellOwners" own_z8 := own_srl hw 71 57 rfl rfl
theorem own_sn50 {Z a0} (hw : own_HW Z a0) : own_NE Z own_c2 "variables" own_z10 own_c2 own_z24 "[I" := own_srl hw 71 59 rfl rfl
theorem own_sn51 {Z a0} (hw : own_HW Z a0) : own_NE Z own_c2 "variables" own_z10 own_c2 "cellValues" "[J" := own_srl hw 71 61 rfl rfl
theorem own_sn52 {Z a0} (hw : own_HW Z a0) : own_NE Z own_c2 "variables" own_z10 own_c2 "cellStamps" "[I" := own_srl hw 71 63 rfl rfl
theorem own_sn53 {Z a0} (hw : own_HW Z a0) : own_NE Z own_c2 "variables" own_z10 own_c2 "worldMarks" "[I" := own_srl hw 71 65 rfl rfl
theorem own_sn54 {Z a0} (hw : own_HW Z a0) : own_NE Z own_c2 "variables" own_z10 own_c2 "cellMarks" "[I" := own_srl hw 71 67 rfl rfl
theorem own_sn55 {Z a0} (hw : own_HW Z a0) : own_NE Z own_c2 "variables" own_z10 own_c2 own_z23 "[J" := own_srl hw 71 69 rfl rfl
theorem own_sn56 {Z a0} (hw : own_HW Z a0) : own_NE Z own_c2 "depth" "I" own_c2 "ints" "[I" := own_sll hw 187 46 rfl rfl
theorem own_sn57 {Z a0} (hw : own_HW Z a0) : own_NE Z own_c2 "depth" "I" own_c2 "longs" "[J" := own_sll hw 187 49 rfl rfl
theorem own_sn58 {Z a0} (hw : own_HW Z a0) : own_NE Z own_c2 "depth" "I" own_c2 "ranges" "[[I" := own_sll hw 187 53 rfl rfl
theorem own_sn59 {Z a0} (hw : own_HW Z a0) : own_NE Z own_c2 "depth" "I" own_c2 "cellOwners" own_z8 := own_sll hw 187 57 rfl rfl
theorem own_sn60 {Z a0} (hw : own_HW Z a0) : own_NE Z own_c2 "depth" "I" own_c2 own_z24 "[I" := own_sll hw 187 59 rfl rfl
theorem own_sn61 {Z a0} (hw : own_HW Z a0) : own_NE Z own_c2 "depth" "I" own_c2 "cellValues" "[J" := own_sll hw 187 61 rfl rfl
theorem own_sn62 {Z a0} (hw : own_HW Z a0) : own_NE Z own_c2 "depth" "I" own_c2 "cellStamps" "[I" := own_sll hw 187 63 rfl rfl
theorem own_sn63 {Z a0} (hw : own_HW Z a0) : own_NE Z own_c2 "depth" "I" own_c2 "worldMarks" "[I" := own_sll hw 187 65 rfl rfl
theorem own_sn64 {Z a0} (hw : own_HW Z a0) : own_NE Z own_c2 "depth" "I" own_c2 "cellMarks" "[I" := own_sll hw 187 67 rfl rfl
theorem own_sn65 {Z a0} (hw : own_HW Z a0) : own_NE Z own_c2 "depth" "I" own_c2 own_z23 "[J" := own_sll hw 187 69 rfl rfl
theorem own_sn66 {Z a0} (hw : own_HW Z a0) : own_NE Z own_c2 "depth" "I" own_c2 "variables" own_z10 := own_slr hw 187 71 rfl rfl
theorem own_sn67 {Z a0} (hw : own_HW Z a0) : own_NE Z own_c2 "entries" "I" own_c2 "ints" "[I" := own_sll hw 194 46 rfl rfl
theorem own_sn68 {Z a0} (hw : own_HW Z a0) : own_NE Z own_c2 "entries" "I" own_c2 "longs" "[J" := own_sll hw 194 49 rfl rfl
theorem own_sn69 {Z a0} (hw : own_HW Z a0) : own_NE Z own_c2 "entries" "I" own_c2 "ranges" "[[I" := own_sll hw 194 53 rfl rfl
theorem own_sn70 {Z a0} (hw : own_HW Z a0) : own_NE Z own_c2 "entries" "I" own_c2 "cellOwners" own_z8 := own_sll hw 194 57 rfl rfl
theorem own_sn71 {Z a0} (hw : own_HW Z a0) : own_NE Z own_c2 "entries" "I" own_c2 own_z24 "[I" := own_sll hw 194 59 rfl rfl
theorem own_sn72 {Z a0} (hw : own_HW Z a0) : own_NE Z own_c2 "entries" "I" own_c2 "cellValues" "[J" := own_sll hw 194 61 rfl rfl
theorem own_sn73 {Z a0} (hw : own_HW Z a0) : own_NE Z own_c2 "entries" "I" own_c2 "cellStamps" "[I" := own_sll hw 194 63 rfl rfl
theorem own_sn74 {Z a0} (hw : own_HW Z a0) : own_NE Z own_c2 "entries" "I" own_c2 "worldMarks" "[I" := own_sll hw 194 65 rfl rfl
theorem own_sn75 {Z a0} (hw : own_HW Z a0) : own_NE Z own_c2 "entries" "I" own_c2 "cellMarks" "[I" := own_sll hw 194 67 rfl rfl
theorem own_sn76 {Z a0} (hw : own_HW Z a0) : own_NE Z own_c2 "entries" "I" own_c2 own_z23 "[J" := own_sll hw 194 69 rfl rfl
theorem own_sn77 {Z a0} (hw : own_HW Z a0) : own_NE Z own_c2 "entries" "I" own_c2 "variables" own_z10 := own_slr hw 194 71 rfl rfl
abbrev own_c3 : String := "com/example/propagule/propagule/Model"
theorem own_sn78 {Z a0} (hw : own_HW Z a0) : own_NE Z own_c3 "constraints" own_z10 own_c3 "variables" own_z10 := own_srr hw 36 34 rfl rfl
theorem own_sn79 {Z a0} (hw : own_HW Z a0) : own_NE Z own_c3 "trail" own_z7 own_c3 "variables" own_z10 := own_srr hw 73 34 rfl rfl
theorem own_sn80 {Z a0} (hw : own_HW Z a0) : own_NE Z own_c3 "trail" own_z7 own_c3 "constraints" own_z10 := own_srr hw 73 36 rfl rfl
theorem own_sn81 {Z a0} (hw : own_HW Z a0) : own_NE Z own_c3 "queue" "[I" own_c3 "variables" own_z10 := own_slr hw 75 34 rfl rfl
theorem own_sn82 {Z a0} (hw : own_HW Z a0) : own_NE Z own_c3 "queue" "[I" own_c3 "constraints" own_z10 := own_slr hw 75 36 rfl rfl
theorem own_sn83 {Z a0} (hw : own_HW Z a0) : own_NE Z own_c3 "queue" "[I" own_c3 "trail" own_z7 := own_slr hw 75 73 rfl rfl
theorem own_sn84 {Z a0} (hw : own_HW Z a0) : own_NE Z own_c3 "running" "I" own_c3 "variables" own_z10 := own_slr hw 77 34 rfl rfl
theorem own_sn85 {Z a0} (hw : own_HW Z a0) : own_NE Z own_c3 "running" "I" own_c3 "constraints" own_z10 := own_slr hw 77 36 rfl rfl
theorem own_sn86 {Z a0} (hw : own_HW Z a0) : own_NE Z own_c3 "running" "I" own_c3 "trail" own_z7 := own_slr hw 77 73 rfl rfl
theorem own_sn87 {Z a0} (hw : own_HW Z a0) : own_NE Z own_c3 "running" "I" own_c3 "queue" "[I" := own_sll hw 77 75 rfl rfl
theorem own_sn88 {Z a0} (hw : own_HW Z a0) : own_NE Z own_c3 "deadline" own_z13 own_c3 "variables" own_z10 := own_slr hw 82 34 rfl rfl
theorem own_sn89 {Z a0} (hw : own_HW Z a0) : own_NE Z own_c3 "deadline" own_z13 own_c3 "constraints" own_z10 := own_slr hw 82 36 rfl rfl
theorem own_sn90 {Z a0} (hw : own_HW Z a0) : own_NE Z own_c3 "deadline" own_z13 own_c3 "trail" own_z7 := own_slr hw 82 73 rfl rfl
theorem own_sn91 {Z a0} (hw : own_HW Z a0) : own_NE Z own_c3 "deadline" own_z13 own_c3 "queue" "[I" := own_sll hw 82 75 rfl rfl
theorem own_sn92 {Z a0} (hw : own_HW Z a0) : own_NE Z own_c3 "deadline" own_z13 own_c3 "running" "I" := own_sll hw 82 77 rfl rfl
abbrev own_c4 : String := "com/example/propagule/propagule/IntVar"
theorem own_sn93 {Z a0} (hw : own_HW Z a0) : own_NE Z own_c4 "tags" "[I" own_c4 "watchers" own_z3 := own_sll hw 103 101 rfl rfl
theorem own_sn94 {Z a0} (hw : own_HW Z a0) : own_NE Z own_c4 "model" own_z4 own_c4 "watchers" own_z3 := own_srl hw 105 101 rfl rfl
theorem own_sn95 {Z a0} (hw : own_HW Z a0) : own_NE Z own_c4 "model" own_z4 own_c4 "tags" "[I" := own_srl hw 105 103 rfl rfl
theorem own_sn96 {Z a0} (hw : own_HW Z a0) : own_NE Z own_c4 "index" "I" own_c4 "watchers" own_z3 := own_srl hw 107 101 rfl rfl
theorem own_sn97 {Z a0} (hw : own_HW Z a0) : own_NE Z own_c4 "index" "I" own_c4 "tags" "[I" := own_srl hw 107 103 rfl rfl
theorem own_sn98 {Z a0} (hw : own_HW Z a0) : own_NE Z own_c4 "index" "I" own_c4 "model" own_z4 := own_srr hw 107 105 rfl rfl
theorem own_sn99 {Z a0} (hw : own_HW Z a0) : own_NE Z own_c4 "name" own_z12 own_c4 "watchers" own_z3 := own_srl hw 109 101 rfl rfl
theorem own_sn100 {Z a0} (hw : own_HW Z a0) : own_NE Z own_c4 "name" own_z12 own_c4 "tags" "[I" := own_srl hw 109 103 rfl rfl
theorem own_sn101 {Z a0} (hw : own_HW Z a0) : own_NE Z own_c4 "name" own_z12 own_c4 "model" own_z4 := own_srr hw 109 105 rfl rfl
theorem own_sn102 {Z a0} (hw : own_HW Z a0) : own_NE Z own_c4 "name" own_z12 own_c4 "index" "I" := own_srr hw 109 107 rfl rfl
theorem own_sn103 {Z a0} (hw : own_HW Z a0) : own_NE Z own_c4 "min" "I" own_c4 "watchers" own_z3 := own_sll hw 111 101 rfl rfl
theorem own_sn104 {Z a0} (hw : own_HW Z a0) : own_NE Z own_c4 "min" "I" own_c4 "tags" "[I" := own_sll hw 111 103 rfl rfl
theorem own_sn105 {Z a0} (hw : own_HW Z a0) : own_NE Z own_c4 "min" "I" own_c4 "model" own_z4 := own_slr hw 111 105 rfl rfl
theorem own_sn106 {Z a0} (hw : own_HW Z a0) : own_NE Z own_c4 "min" "I" own_c4 "index" "I" := own_slr hw 111 107 rfl rfl
theorem own_sn107 {Z a0} (hw : own_HW Z a0) : own_NE Z own_c4 "min" "I" own_c4 "name" own_z12 := own_slr hw 111 109 rfl rfl
theorem own_sn108 {Z a0} (hw : own_HW Z a0) : own_NE Z own_c4 "max" "I" own_c4 "watchers" own_z3 := own_sll hw 113 101 rfl rfl
theorem own_sn109 {Z a0} (hw : own_HW Z a0) : own_NE Z own_c4 "max" "I" own_c4 "tags" "[I" := own_sll hw 113 103 rfl rfl
theorem own_sn110 {Z a0} (hw : own_HW Z a0) : own_NE Z own_c4 "max" "I" own_c4 "model" own_z4 := own_slr hw 113 105 rfl rfl
theorem own_sn111 {Z a0} (hw : own_HW Z a0) : own_NE Z own_c4 "max" "I" own_c4 "index" "I" := own_slr hw 113 107 rfl rfl
theorem own_sn112 {Z a0} (hw : own_HW Z a0) : own_NE Z own_c4 "max" "I" own_c4 "name" own_z12 := own_slr hw 113 109 rfl rfl
theorem own_sn113 {Z a0} (hw : own_HW Z a0) : own_NE Z own_c4 "max" "I" own_c4 "min" "I" := own_sll hw 113 111 rfl rfl
theorem own_sn114 {Z a0} (hw : own_HW Z a0) : own_NE Z own_c4 "initialMin" "I" own_c4 "watchers" own_z3 := own_srl hw 115 101 rfl rfl
theorem own_sn115 {Z a0} (hw : own_HW Z a0) : own_NE Z own_c4 "initialMin" "I" own_c4 "tags" "[I" := own_srl hw 115 103 rfl rfl
theorem own_sn116 {Z a0} (hw : own_HW Z a0) : own_NE Z own_c4 "initialMin" "I" own_c4 "model" own_z4 := own_srr hw 115 105 rfl rfl
theorem own_sn117 {Z a0} (hw : own_HW Z a0) : own_NE Z own_c4 "initialMin" "I" own_c4 "index" "I" := own_srr hw 115 107 rfl rfl
theorem own_sn118 {Z a0} (hw : own_HW Z a0) : own_NE Z own_c4 "initialMin" "I" own_c4 "name" own_z12 := own_srr hw 115 109 rfl rfl
theorem own_sn119 {Z a0} (hw : own_HW Z a0) : own_NE Z own_c4 "initialMin" "I" own_c4 "min" "I" := own_srl hw 115 111 rfl rfl
theorem own_sn120 {Z a0} (hw : own_HW Z a0) : own_NE Z own_c4 "initialMin" "I" own_c4 "max" "I" := own_srl hw 115 113 rfl rfl
theorem own_sn121 {Z a0} (hw : own_HW Z a0) : own_NE Z own_c4 "initialMax" "I" own_c4 "watchers" own_z3 := own_srl hw 117 101 rfl rfl
theorem own_sn122 {Z a0} (hw : own_HW Z a0) : own_NE Z own_c4 "initialMax" "I" own_c4 "tags" "[I" := own_srl hw 117 103 rfl rfl
theorem own_sn123 {Z a0} (hw : own_HW Z a0) : own_NE Z own_c4 "initialMax" "I" own_c4 "model" own_z4 := own_srr hw 117 105 rfl rfl
theorem own_sn124 {Z a0} (hw : own_HW Z a0) : own_NE Z own_c4 "initialMax" "I" own_c4 "index" "I" := own_srr hw 117 107 rfl rfl
theorem own_sn125 {Z a0} (hw : own_HW Z a0) : own_NE Z own_c4 "initialMax" "I" own_c4 "name" own_z12 := own_srr hw 117 109 rfl rfl
theorem own_sn126 {Z a0} (hw : own_HW Z a0) : own_NE Z own_c4 "initialMax" "I" own_c4 "min" "I" := own_srl hw 117 111 rfl rfl
theorem own_sn127 {Z a0} (hw : own_HW Z a0) : own_NE Z own_c4 "initialMax" "I" own_c4 "max" "I" := own_srl hw 117 113 rfl rfl
theorem own_sn128 {Z a0} (hw : own_HW Z a0) : own_NE Z own_c4 "initialMax" "I" own_c4 "initialMin" "I" := own_srr hw 117 115 rfl rfl
theorem own_sn129 {Z a0} (hw : own_HW Z a0) : own_NE Z own_c4 "size" "J" own_c4 "watchers" own_z3 := own_sll hw 119 101 rfl rfl
theorem own_sn130 {Z a0} (hw : own_HW Z a0) : own_NE Z own_c4 "size" "J" own_c4 "tags" "[I" := own_sll hw 119 103 rfl rfl
theorem own_sn131 {Z a0} (hw : own_HW Z a0) : own_NE Z own_c4 "size" "J" own_c4 "model" own_z4 := own_slr hw 119 105 rfl rfl
theorem own_sn132 {Z a0} (hw : own_HW Z a0) : own_NE Z own_c4 "size" "J" own_c4 "index" "I" := own_slr hw 119 107 rfl rfl
theorem own_sn133 {Z a0} (hw : own_HW Z a0) : own_NE Z own_c4 "size" "J" own_c4 "name" own_z12 := own_slr hw 119 109 rfl rfl
theorem own_sn134 {Z a0} (hw : own_HW Z a0) : own_NE Z own_c4 "size" "J" own_c4 "min" "I" := own_sll hw 119 111 rfl rfl
theorem own_sn135 {Z a0} (hw : own_HW Z a0) : own_NE Z own_c4 "size" "J" own_c4 "max" "I" := own_sll hw 119 113 rfl rfl
theorem own_sn136 {Z a0} (hw : own_HW Z a0) : own_NE Z own_c4 "size" "J" own_c4 "initialMin" "I" := own_slr hw 119 115 rfl rfl
theorem own_sn137 {Z a0} (hw : own_HW Z a0) : own_NE Z own_c4 "size" "J" own_c4 "initialMax" "I" := own_slr hw 119 117 rfl rfl
theorem own_sn138 {Z a0} (hw : own_HW Z a0) : own_NE Z own_c4 "small" "Z" own_c4 "watchers" own_z3 := own_srl hw 122 101 rfl rfl
theorem own_sn139 {Z a0} (hw : own_HW Z a0) : own_NE Z own_c4 "small" "Z" own_c4 "tags" "[I" := own_srl hw 122 103 rfl rfl
theorem own_sn140 {Z a0} (hw : own_HW Z a0) : own_NE Z own_c4 "small" "Z" own_c4 "model" own_z4 := own_srr hw 122 105 rfl rfl
theorem own_sn141 {Z a0} (hw : own_HW Z a0) : own_NE Z own_c4 "small" "Z" own_c4 "index" "I" := own_srr hw 122 107 rfl rfl
theorem own_sn142 {Z a0} (hw : own_HW Z a0) : own_NE Z own_c4 "small" "Z" own_c4 "name" own_z12 := own_srr hw 122 109 rfl rfl
theorem own_sn143 {Z a0} (hw : own_HW Z a0) : own_NE Z own_c4 "small" "Z" own_c4 "min" "I" := own_srl hw 122 111 rfl rfl
theorem own_sn144 {Z a0} (hw : own_HW Z a0) : own_NE Z own_c4 "small" "Z" own_c4 "max" "I" := own_srl hw 122 113 rfl rfl
theorem own_sn145 {Z a0} (hw : own_HW Z a0) : own_NE Z own_c4 "small" "Z" own_c4 "initialMin" "I" := own_srr hw 122 115 rfl rfl
theorem own_sn146 {Z a0} (hw : own_HW Z a0) : own_NE Z own_c4 "small" "Z" own_c4 "initialMax" "I" := own_srr hw 122 117 rfl rfl
theorem own_sn147 {Z a0} (hw : own_HW Z a0) : own_NE Z own_c4 "small" "Z" own_c4 "size" "J" := own_srl hw 122 119 rfl rfl
theorem own_sn148 {Z a0} (hw : own_HW Z a0) : own_NE Z own_c4 "bits" "J" own_c4 "watchers" own_z3 := own_sll hw 125 101 rfl rfl
theorem own_sn149 {Z a0} (hw : own_HW Z a0) : own_NE Z own_c4 "bits" "J" own_c4 "tags" "[I" := own_sll hw 125 103 rfl rfl
theorem own_sn150 {Z a0} (hw : own_HW Z a0) : own_NE Z own_c4 "bits" "J" own_c4 "model" own_z4 := own_slr hw 125 105 rfl rfl
theorem own_sn151 {Z a0} (hw : own_HW Z a0) : own_NE Z own_c4 "bits" "J" own_c4 "index" "I" := own_slr hw 125 107 rfl rfl
theorem own_sn152 {Z a0} (hw : own_HW Z a0) : own_NE Z own_c4 "bits" "J" own_c4 "name" own_z12 := own_slr hw 125 109 rfl rfl
theorem own_sn153 {Z a0} (hw : own_HW Z a0) : own_NE Z own_c4 "bits" "J" own_c4 "min" "I" := own_sll hw 125 111 rfl rfl
theorem own_sn154 {Z a0} (hw : own_HW Z a0) : own_NE Z own_c4 "bits" "J" own_c4 "max" "I" := own_sll hw 125 113 rfl rfl
theorem own_sn155 {Z a0} (hw : own_HW Z a0) : own_NE Z own_c4 "bits" "J" own_c4 "initialMin" "I" := own_slr hw 125 115 rfl rfl
theorem own_sn156 {Z a0} (hw : own_HW Z a0) : own_NE Z own_c4 "bits" "J" own_c4 "initialMax" "I" := own_slr hw 125 117 rfl rfl
theorem own_sn157 {Z a0} (hw : own_HW Z a0) : own_NE Z own_c4 "bits" "J" own_c4 "size" "J" := own_sll hw 125 119 rfl rfl
theorem own_sn158 {Z a0} (hw : own_HW Z a0) : own_NE Z own_c4 "bits" "J" own_c4 "small" "Z" := own_slr hw 125 122 rfl rfl
theorem own_sn159 {Z a0} (hw : own_HW Z a0) : own_NE Z own_c4 "ranges" "[I" own_c4 "watchers" own_z3 := own_sll hw 132 101 rfl rfl
theorem own_sn160 {Z a0} (hw : own_HW Z a0) : own_NE Z own_c4 "ranges" "[I" own_c4 "tags" "[I" := own_sll hw 132 103 rfl rfl
theorem own_sn161 {Z a0} (hw : own_HW Z a0) : own_NE Z own_c4 "ranges" "[I" own_c4 "model" own_z4 := own_slr hw 132 105 rfl rfl
theorem own_sn162 {Z a0} (hw : own_HW Z a0) : own_NE Z own_c4 "ranges" "[I" own_c4 "index" "I" := own_slr hw 132 107 rfl rfl
theorem own_sn163 {Z a0} (hw : own_HW Z a0) : own_NE Z own_c4 "ranges" "[I" own_c4 "name" own_z12 := own_slr hw 132 109 rfl rfl
theorem own_sn164 {Z a0} (hw : own_HW Z a0) : own_NE Z own_c4 "ranges" "[I" own_c4 "min" "I" := own_sll hw 132 111 rfl rfl
theorem own_sn165 {Z a0} (hw : own_HW Z a0) : own_NE Z own_c4 "ranges" "[I" own_c4 "max" "I" := own_sll hw 132 113 rfl rfl
theorem own_sn166 {Z a0} (hw : own_HW Z a0) : own_NE Z own_c4 "ranges" "[I" own_c4 "initialMin" "I" := own_slr hw 132 115 rfl rfl
theorem own_sn167 {Z a0} (hw : own_HW Z a0) : own_NE Z own_c4 "ranges" "[I" own_c4 "initialMax" "I" := own_slr hw 132 117 rfl rfl
theorem own_sn168 {Z a0} (hw : own_HW Z a0) : own_NE Z own_c4 "ranges" "[I" own_c4 "size" "J" := own_sll hw 132 119 rfl rfl
theorem own_sn169 {Z a0} (hw : own_HW Z a0) : own_NE Z own_c4 "ranges" "[I" own_c4 "small" "Z" := own_slr hw 132 122 rfl rfl
theorem own_sn170 {Z a0} (hw : own_HW Z a0) : own_NE Z own_c4 "ranges" "[I" own_c4 "bits" "J" := own_sll hw 132 125 rfl rfl
theorem own_sn171 {Z a0} (hw : own_HW Z a0) : own_NE Z own_c4 "first" "I" own_c4 "watchers" own_z3 := own_sll hw 134 101 rfl rfl
theorem own_sn172 {Z a0} (hw : own_HW Z a0) : own_NE Z own_c4 "first" "I" own_c4 "tags" "[I" := own_sll hw 134 103 rfl rfl
theorem own_sn173 {Z a0} (hw : own_HW Z a0) : own_NE Z own_c4 "first" "I" own_c4 "model" own_z4 := own_slr hw 134 105 rfl rfl
theorem own_sn174 {Z a0} (hw : own_HW Z a0) : own_NE Z own_c4 "first" "I" own_c4 "index" "I" := own_slr hw 134 107 rfl rfl
theorem own_sn175 {Z a0} (hw : own_HW Z a0) : own_NE Z own_c4 "first" "I" own_c4 "name" own_z12 := own_slr hw 134 109 rfl rfl
theorem own_sn176 {Z a0} (hw : own_HW Z a0) : own_NE Z own_c4 "first" "I" own_c4 "min" "I" := own_sll hw 134 111 rfl rfl
theorem own_sn177 {Z a0} (hw : own_HW Z a0) : own_NE Z own_c4 "first" "I" own_c4 "max" "I" := own_sll hw 134 113 rfl rfl
theorem own_sn178 {Z a0} (hw : own_HW Z a0) : own_NE Z own_c4 "first" "I" own_c4 "initialMin" "I" := own_slr hw 134 115 rfl rfl
theorem own_sn179 {Z a0} (hw : own_HW Z a0) : own_NE Z own_c4 "first" "I" own_c4 "initialMax" "I" := own_slr hw 134 117 rfl rfl
theorem own_sn180 {Z a0} (hw : own_HW Z a0) : own_NE Z own_c4 "first" "I" own_c4 "size" "J" := own_sll hw 134 119 rfl rfl
theorem own_sn181 {Z a0} (hw : own_HW Z a0) : own_NE Z own_c4 "first" "I" own_c4 "small" "Z" := own_slr hw 134 122 rfl rfl
theorem own_sn182 {Z a0} (hw : own_HW Z a0) : own_NE Z own_c4 "first" "I" own_c4 "bits" "J" := own_sll hw 134 125 rfl rfl
theorem own_sn183 {Z a0} (hw : own_HW Z a0) : own_NE Z own_c4 "last" "I" own_c4 "watchers" own_z3 := own_sll hw 136 101 rfl rfl
theorem own_sn184 {Z a0} (hw : own_HW Z a0) : own_NE Z own_c4 "last" "I" own_c4 "tags" "[I" := own_sll hw 136 103 rfl rfl
theorem own_sn185 {Z a0} (hw : own_HW Z a0) : own_NE Z own_c4 "last" "I" own_c4 "model" own_z4 := own_slr hw 136 105 rfl rfl
theorem own_sn186 {Z a0} (hw : own_HW Z a0) : own_NE Z own_c4 "last" "I" own_c4 "index" "I" := own_slr hw 136 107 rfl rfl
theorem own_sn187 {Z a0} (hw : own_HW Z a0) : own_NE Z own_c4 "last" "I" own_c4 "name" own_z12 := own_slr hw 136 109 rfl rfl
theorem own_sn188 {Z a0} (hw : own_HW Z a0) : own_NE Z own_c4 "last" "I" own_c4 "min" "I" := own_sll hw 136 111 rfl rfl
theorem own_sn189 {Z a0} (hw : own_HW Z a0) : own_NE Z own_c4 "last" "I" own_c4 "max" "I" := own_sll hw 136 113 rfl rfl
theorem own_sn190 {Z a0} (hw : own_HW Z a0) : own_NE Z own_c4 "last" "I" own_c4 "initialMin" "I" := own_slr hw 136 115 rfl rfl
theorem own_sn191 {Z a0} (hw : own_HW Z a0) : own_NE Z own_c4 "last" "I" own_c4 "initialMax" "I" := own_slr hw 136 117 rfl rfl
theorem own_sn192 {Z a0} (hw : own_HW Z a0) : own_NE Z own_c4 "last" "I" own_c4 "size" "J" := own_sll hw 136 119 rfl rfl
theorem own_sn193 {Z a0} (hw : own_HW Z a0) : own_NE Z own_c4 "last" "I" own_c4 "small" "Z" := own_slr hw 136 122 rfl rfl
theorem own_sn194 {Z a0} (hw : own_HW Z a0) : own_NE Z own_c4 "last" "I" own_c4 "bits" "J" := own_sll hw 136 125 rfl rfl
theorem own_sn195 {Z a0} (hw : own_HW Z a0) : own_NE Z own_c4 "stamp" "I" own_c4 "watchers" own_z3 := own_sll hw 138 101 rfl rfl
theorem own_sn196 {Z a0} (hw : own_HW Z a0) : own_NE Z own_c4 "stamp" "I" own_c4 "tags" "[I" := own_sll hw 138 103 rfl rfl
theorem own_sn197 {Z a0} (hw : own_HW Z a0) : own_NE Z own_c4 "stamp" "I" own_c4 "model" own_z4 := own_slr hw 138 105 rfl rfl
theorem own_sn198 {Z a0} (hw : own_HW Z a0) : own_NE Z own_c4 "stamp" "I" own_c4 "index" "I" := own_slr hw 138 107 rfl rfl
theorem own_sn199 {Z a0} (hw : own_HW Z a0) : own_NE Z own_c4 "stamp" "I" own_c4 "name" own_z12 := own_slr hw 138 109 rfl rfl
theorem own_sn200 {Z a0} (hw : own_HW Z a0) : own_NE Z own_c4 "stamp" "I" own_c4 "min" "I" := own_sll hw 138 111 rfl rfl
theorem own_sn201 {Z a0} (hw : own_HW Z a0) : own_NE Z own_c4 "stamp" "I" own_c4 "max" "I" := own_sll hw 138 113 rfl rfl
theorem own_sn202 {Z a0} (hw : own_HW Z a0) : own_NE Z own_c4 "stamp" "I" own_c4 "initialMin" "I" := own_slr hw 138 115 rfl rfl
theorem own_sn203 {Z a0} (hw : own_HW Z a0) : own_NE Z own_c4 "stamp" "I" own_c4 "initialMax" "I" := own_slr hw 138 117 rfl rfl
theorem own_sn204 {Z a0} (hw : own_HW Z a0) : own_NE Z own_c4 "stamp" "I" own_c4 "size" "J" := own_sll hw 138 119 rfl rfl
theorem own_sn205 {Z a0} (hw : own_HW Z a0) : own_NE Z own_c4 "stamp" "I" own_c4 "small" "Z" := own_slr hw 138 122 rfl rfl
theorem own_sn206 {Z a0} (hw : own_HW Z a0) : own_NE Z own_c4 "stamp" "I" own_c4 "bits" "J" := own_sll hw 138 125 rfl rfl
theorem own_sn207 {Z a0} (hw : own_HW Z a0) : own_NE Z own_c4 own_z9 "I" own_c4 "watchers" own_z3 := own_sll hw 228 101 rfl rfl
theorem own_sn208 {Z a0} (hw : own_HW Z a0) : own_NE Z own_c4 own_z9 "I" own_c4 "tags" "[I" := own_sll hw 228 103 rfl rfl
theorem own_sn209 {Z a0} (hw : own_HW Z a0) : own_NE Z own_c4 own_z9 "I" own_c4 "model" own_z4 := own_slr hw 228 105 rfl rfl
theorem own_sn210 {Z a0} (hw : own_HW Z a0) : own_NE Z own_c4 own_z9 "I" own_c4 "index" "I" := own_slr hw 228 107 rfl rfl
theorem own_sn211 {Z a0} (hw : own_HW Z a0) : own_NE Z own_c4 own_z9 "I" own_c4 "name" own_z12 := own_slr hw 228 109 rfl rfl
theorem own_sn212 {Z a0} (hw : own_HW Z a0) : own_NE Z own_c4 own_z9 "I" own_c4 "min" "I" := own_sll hw 228 111 rfl rfl
theorem own_sn213 {Z a0} (hw : own_HW Z a0) : own_NE Z own_c4 own_z9 "I" own_c4 "max" "I" := own_sll hw 228 113 rfl rfl
theorem own_sn214 {Z a0} (hw : own_HW Z a0) : own_NE Z own_c4 own_z9 "I" own_c4 "initialMin" "I" := own_slr hw 228 115 rfl rfl
theorem own_sn215 {Z a0} (hw : own_HW Z a0) : own_NE Z own_c4 own_z9 "I" own_c4 "initialMax" "I" := own_slr hw 228 117 rfl rfl
theorem own_sn216 {Z a0} (hw : own_HW Z a0) : own_NE Z own_c4 own_z9 "I" own_c4 "size" "J" := own_sll hw 228 119 rfl rfl
theorem own_sn217 {Z a0} (hw : own_HW Z a0) : own_NE Z own_c4 own_z9 "I" own_c4 "small" "Z" := own_slr hw 228 122 rfl rfl
theorem own_sn218 {Z a0} (hw : own_HW Z a0) : own_NE Z own_c4 own_z9 "I" own_c4 "bits" "J" := own_sll hw 228 125 rfl rfl
theorem own_sn219 {Z a0} (hw : own_HW Z a0) : own_NE Z own_c4 "boundsFrom" "I" own_c4 "watchers" own_z3 := own_sll hw 224 101 rfl rfl
theorem own_sn220 {Z a0} (hw : own_HW Z a0) : own_NE Z own_c4 "boundsFrom" "I" own_c4 "tags" "[I" := own_sll hw 224 103 rfl rfl
theorem own_sn221 {Z a0} (hw : own_HW Z a0) : own_NE Z own_c4 "boundsFrom" "I" own_c4 "model" own_z4 := own_slr hw 224 105 rfl rfl
theorem own_sn222 {Z a0} (hw : own_HW Z a0) : own_NE Z own_c4 "boundsFrom" "I" own_c4 "index" "I" := own_slr hw 224 107 rfl rfl
theorem own_sn223 {Z a0} (hw : own_HW Z a0) : own_NE Z own_c4 "boundsFrom" "I" own_c4 "name" own_z12 := own_slr hw 224 109 rfl rfl
theorem own_sn224 {Z a0} (hw : own_HW Z a0) : own_NE Z own_c4 "boundsFrom" "I" own_c4 "min" "I" := own_sll hw 224 111 rfl rfl
theorem own_sn225 {Z a0} (hw : own_HW Z a0) : own_NE Z own_c4 "boundsFrom" "I" own_c4 "max" "I" := own_sll hw 224 113 rfl rfl
theorem own_sn226 {Z a0} (hw : own_HW Z a0) : own_NE Z own_c4 "boundsFrom" "I" own_c4 "initialMin" "I" := own_slr hw 224 115 rfl rfl
theorem own_sn227 {Z a0} (hw : own_HW Z a0) : own_NE Z own_c4 "boundsFrom" "I" own_c4 "initialMax" "I" := own_slr hw 224 117 rfl rfl
theorem own_sn228 {Z a0} (hw : own_HW Z a0) : own_NE Z own_c4 "boundsFrom" "I" own_c4 "size" "J" := own_sll hw 224 119 rfl rfl
theorem own_sn229 {Z a0} (hw : own_HW Z a0) : own_NE Z own_c4 "boundsFrom" "I" own_c4 "small" "Z" := own_slr hw 224 122 rfl rfl
theorem own_sn230 {Z a0} (hw : own_HW Z a0) : own_NE Z own_c4 "boundsFrom" "I" own_c4 "bits" "J" := own_sll hw 224 125 rfl rfl
theorem own_sn231 {Z a0} (hw : own_HW Z a0) : own_NE Z own_c4 "toldFrom" "I" own_c4 "watchers" own_z3 := own_sll hw 226 101 rfl rfl
theorem own_sn232 {Z a0} (hw : own_HW Z a0) : own_NE Z own_c4 "toldFrom" "I" own_c4 "tags" "[I" := own_sll hw 226 103 rfl rfl
theorem own_sn233 {Z a0} (hw : own_HW Z a0) : own_NE Z own_c4 "toldFrom" "I" own_c4 "model" own_z4 := own_slr hw 226 105 rfl rfl
theorem own_sn234 {Z a0} (hw : own_HW Z a0) : own_NE Z own_c4 "toldFrom" "I" own_c4 "index" "I" := own_slr hw 226 107 rfl rfl
theorem own_sn235 {Z a0} (hw : own_HW Z a0) : own_NE Z own_c4 "toldFrom" "I" own_c4 "name" own_z12 := own_slr hw 226 109 rfl rfl
theorem own_sn236 {Z a0} (hw : own_HW Z a0) : own_NE Z own_c4 "toldFrom" "I" own_c4 "min" "I" := own_sll hw 226 111 rfl rfl
theorem own_sn237 {Z a0} (hw : own_HW Z a0) : own_NE Z own_c4 "toldFrom" "I" own_c4 "max" "I" := own_sll hw 226 113 rfl rfl
theorem own_sn238 {Z a0} (hw : own_HW Z a0) : own_NE Z own_c4 "toldFrom" "I" own_c4 "initialMin" "I" := own_slr hw 226 115 rfl rfl
theorem own_sn239 {Z a0} (hw : own_HW Z a0) : own_NE Z own_c4 "toldFrom" "I" own_c4 "initialMax" "I" := own_slr hw 226 117 rfl rfl
theorem own_sn240 {Z a0} (hw : own_HW Z a0) : own_NE Z own_c4 "toldFrom" "I" own_c4 "size" "J" := own_sll hw 226 119 rfl rfl
theorem own_sn241 {Z a0} (hw : own_HW Z a0) : own_NE Z own_c4 "toldFrom" "I" own_c4 "small" "Z" := own_slr hw 226 122 rfl rfl
theorem own_sn242 {Z a0} (hw : own_HW Z a0) : own_NE Z own_c4 "toldFrom" "I" own_c4 "bits" "J" := own_sll hw 226 125 rfl rfl
theorem own_sn243 {Z a0} (hw : own_HW Z a0) : own_NE Z own_c4 "first" "I" own_c4 "ranges" "[I" := own_sll hw 134 132 rfl rfl
theorem own_sn244 {Z a0} (hw : own_HW Z a0) : own_NE Z own_c4 "last" "I" own_c4 "ranges" "[I" := own_sll hw 136 132 rfl rfl
theorem own_sn245 {Z a0} (hw : own_HW Z a0) : own_NE Z own_c4 "last" "I" own_c4 "first" "I" := own_sll hw 136 134 rfl rfl
theorem own_sn246 {Z a0} (hw : own_HW Z a0) : own_NE Z own_c4 "stamp" "I" own_c4 "ranges" "[I" := own_sll hw 138 132 rfl rfl
theorem own_sn247 {Z a0} (hw : own_HW Z a0) : own_NE Z own_c4 "stamp" "I" own_c4 "first" "I" := own_sll hw 138 134 rfl rfl
theorem own_sn248 {Z a0} (hw : own_HW Z a0) : own_NE Z own_c4 "stamp" "I" own_c4 "last" "I" := own_sll hw 138 136 rfl rfl
theorem own_sn249 {Z a0} (hw : own_HW Z a0) : own_NE Z own_c4 own_z9 "I" own_c4 "ranges" "[I" := own_sll hw 228 132 rfl rfl
theorem own_sn250 {Z a0} (hw : own_HW Z a0) : own_NE Z own_c4 own_z9 "I" own_c4 "first" "I" := own_sll hw 228 134 rfl rfl
theorem own_sn251 {Z a0} (hw : own_HW Z a0) : own_NE Z own_c4 own_z9 "I" own_c4 "last" "I" := own_sll hw 228 136 rfl rfl
theorem own_sn252 {Z a0} (hw : own_HW Z a0) : own_NE Z own_c4 own_z9 "I" own_c4 "stamp" "I" := own_sll hw 228 138 rfl rfl
theorem own_sn253 {Z a0} (hw : own_HW Z a0) : own_NE Z own_c4 "boundsFrom" "I" own_c4 "ranges" "[I" := own_sll hw 224 132 rfl rfl
theorem own_sn254 {Z a0} (hw : own_HW Z a0) : own_NE Z own_c4 "boundsFrom" "I" own_c4 "first" "I" := own_sll hw 224 134 rfl rfl
theorem own_sn255 {Z a0} (hw : own_HW Z a0) : own_NE Z own_c4 "boundsFrom" "I" own_c4 "last" "I" := own_sll hw 224 136 rfl rfl
theorem own_sn256 {Z a0} (hw : own_HW Z a0) : own_NE Z own_c4 "boundsFrom" "I" own_c4 "stamp" "I" := own_sll hw 224 138 rfl rfl
theorem own_sn257 {Z a0} (hw : own_HW Z a0) : own_NE Z own_c4 "toldFrom" "I" own_c4 "ranges" "[I" := own_sll hw 226 132 rfl rfl
theorem own_sn258 {Z a0} (hw : own_HW Z a0) : own_NE Z own_c4 "toldFrom" "I" own_c4 "first" "I" := own_sll hw 226 134 rfl rfl
theorem own_sn259 {Z a0} (hw : own_HW Z a0) : own_NE Z own_c4 "toldFrom" "I" own_c4 "last" "I" := own_sll hw 226 136 rfl rfl
theorem own_sn260 {Z a0} (hw : own_HW Z a0) : own_NE Z own_c4 "toldFrom" "I" own_c4 "stamp" "I" := own_sll hw 226 138 rfl rfl
section OwnArr
variable {p : Program} {l : Launch} {e : Env} {R : Room} {s : State} {m : MethodId} {args : Array Value} {below : List Frame} {meth : Method} {c : Code} {T T' : State} {locs : List Loc} {cells slots : Nat} {Z : State} {h h' : Heap} {a b : Addr} {n : Nat}
theorem own_nb {j : Int32} {n : Nat} (h0 : ¬ j < 0) (hj : j.toInt < n) : j.toNatClampNeg < n := by have := nat_of h0; omega
/-- an array of ints: its length, its elements -/
def own_AI (Z : State) (h : Heap) (a : Addr) (n : Nat) (f : Nat → Int32) : Prop := ∃ c : Cell, Arr Z h a c .int ∧ c.slots.size = n ∧ n < 2 ^ 31 ∧ ∀ i, i < n → c.slots[i]? = some (.int (f i))
theorem own_AI.lt {f : Nat → Int32} (F : own_AI Z h a n f) : a < h.size := by obtain ⟨c, A, -⟩ := F; exact A.lt
theorem own_AI.ext {f : Nat → Int32} (F : own_AI Z h a n f) (E : Ext h h') : own_AI Z h' a n f := by obtain ⟨c, A, r⟩ := F; exact ⟨c, A.ext E, r⟩
theorem own_AI.other {f : Nat → Int32} {sl : Nat} {v : Value} (F : own_AI Z h b n f) (W : Wr h h' a sl v) (q : b ≠ a) : own_AI Z h' b n f := by obtain ⟨c, A, r⟩ := F; exact ⟨c, A.other W q, r⟩
theorem own_AI.keep {f : Nat → Int32} {ws : List Addr} (F : own_AI Z h a n f) (K : Keep h h' ws) (q : a ∉ ws) : own_AI Z h' a n f := by obtain ⟨c, A, r⟩ := F; exact ⟨c, ⟨K.2.1 a c A.1 q, A.2⟩, r⟩
theorem own_AI.new {k : ClassId} {z : Int32} (A : Arr Z h a (newA k .int z) .int) (q : ¬ z < 0) : own_AI Z h a z.toNatClampNeg (fun _ => 0) := by
  refine ⟨_, A, sz_new _ _ _, (back32 q).2, fun i hi => ?_⟩
  have := (newA k .int z).slots.size
  simp [newA, hi, defaultValue]
theorem own_AI.congr {f g : Nat → Int32} (F : own_AI Z h a n f) (q : ∀ i, i < n → f i = g i) : own_AI Z h a n g := by obtain ⟨c, A, r1, r2, r3⟩ := F; exact ⟨c, A, r1, r2, fun i hi => by rw [← q i hi]; exact r3 i hi⟩
theorem own_AI.set {f : Nat → Int32} {c : Cell} {j x : Int32} (A : Arr Z h a c .int) (S : c.slots.size = n) (N : n < 2 ^ 31) (H : ∀ i, i < n → c.slots[i]? = some (.int (f i))) (W : Wr h h' a j.toNatClampNeg (.int x)) : own_AI Z h' a n (fun i => if i = j.toNatClampNeg then x else f i) := by
  refine ⟨_, A.same W, by rw [sz_set, S], N, fun i hi => ?_⟩
  by_cases q : i = j.toNatClampNeg
  · subst q; simp [Cell.setSlot, S, hi]
  · simp only [if_neg q, Cell.setSlot]
    rw [Array.getElem?_setIfInBounds_ne (Ne.symm q)]
    exact H i hi
theorem own_ldI {f : Nat → Int32} {g : JFrame} {j : Int32} {rest : List Value} (X : Stand p l e R s m args below meth c T locs cells slots) (hx : p.tables.exec = Jvm.exec) (hZ : Z.Warmed39 s.vm) (eT : T.heap = h) (F : own_AI Z h a n f) (h0 : ¬ j < 0) (hj : j.toInt < n) (hg : g.method = m) (hs : g.stack = .int j :: .ref a :: rest) (hd : decode c.code g.pc = .ok (.iaload, 1)) :
    ∀ target, Steps p.tables e below (T.setTop { g with pc := g.pc + 1, stack := .int (f j.toNatClampNeg) :: rest }) target → Steps p.tables e below (T.setTop g) target := by
  obtain ⟨c, A, S, N, H⟩ := F
  have hb := own_nb h0 hj
  exact X.iaload hx (by rw [eT]; exact A.1) (State.isArrayOf_alike hZ.alike A.2.1) A.2.2 (fun q => q.elim h0 (fun q => by omega)) (H _ hb) hg hs hd
theorem own_stI {f : Nat → Int32} {g : JFrame} {j x : Int32} {rest : List Value} (X : Stand p l e R s m args below meth c T locs cells slots) (hx : p.tables.exec = Jvm.exec) (hZ : Z.Warmed39 s.vm) (eT : T.heap = h) (F : own_AI Z h a n f) (h0 : ¬ j < 0) (hj : j.toInt < n) (hg : g.method = m) (hs : g.stack = .int x :: .int j :: .ref a :: rest) (hd : decode c.code g.pc = .ok (.iastore, 1)) :
    ∃ T' h', Stand p l e R s m args below meth c T' (locs ++ [⟨a, j.toNatClampNeg⟩]) cells slots ∧ T'.heap = h' ∧ Wr h h' a j.toNatClampNeg (.int x) ∧ own_AI Z h' a n (fun i => if i = j.toNatClampNeg then x else f i) ∧ ∀ target, Steps p.tables e below (T'.setTop { g with pc := g.pc + 1, stack := rest }) target → Steps p.tables e below (T.setTop g) target := by
  obtain ⟨c, A, S, N, H⟩ := F
  have hb := own_nb h0 hj
  obtain ⟨T', h', X', e', W, st⟩ := stI X hx hZ eT A (fun q => q.elim h0 (fun q => by omega)) hg hs hd
  exact ⟨T', h', X', e', W, own_AI.set A S N H W, st⟩
theorem own_lenI {f : Nat → Int32} {g : JFrame} {rest : List Value} (X : Stand p l e R s m args below meth c T locs cells slots) (hx : p.tables.exec = Jvm.exec) (hZ : Z.Warmed39 s.vm) (eT : T.heap = h) (F : own_AI Z h a n f) {z : Int32} (hz : z.toInt = n) (hg : g.method = m) (hs : g.stack = .ref a :: rest) (hd : decode c.code g.pc = .ok (.arraylength, 1)) :
    ∀ target, Steps p.tables e below (T.setTop { g with pc := g.pc + 1, stack := .int z :: rest }) target → Steps p.tables e below (T.setTop g) target := by
  obtain ⟨c, A, S, N, H⟩ := F
  have q : c.slots.size.toInt32 = z := by
    apply Int32.toInt_inj.mp
    rw [len_toInt (by omega), S, hz]
  have := X.arraylength hx (by rw [eT]; exact A.1) (State.isArrayOf_alike hZ.alike A.2.1) hg hs hd
  rw [q] at this
  exact this
/-- an array of longs: its length, its elements -/
def own_AJ (Z : State) (h : Heap) (a : Addr) (n : Nat) (f : Nat → Int64) : Prop := ∃ c : Cell, Arr Z h a c .long ∧ c.slots.size = n ∧ n < 2 ^ 31 ∧ ∀ i, i < n → c.slots[i]? = some (.long (f i))
theorem own_AJ.lt {f : Nat → Int64} (F : own_AJ Z h a n f) : a < h.size := by obtain ⟨c, A, -⟩ := F; exact A.lt
theorem own_AJ.ext {f : Nat → Int64} (F : own_AJ Z h a n f) (E : Ext h h') : own_AJ Z h' a n f := by obtain ⟨c, A, r⟩ := F; exact ⟨c, A.ext E, r⟩
theorem own_AJ.other {f : Nat → Int64} {sl : Nat} {v : Value} (F : own_AJ Z h b n f) (W : Wr h h' a sl v) (q : b ≠ a) : own_AJ Z h' b n f := by obtain ⟨c, A, r⟩ := F; exact ⟨c, A.other W q, r⟩
theorem own_AJ.keep {f : Nat → Int64} {ws : List Addr} (F : own_AJ Z h a n f) (K : Keep h h' ws) (q : a ∉ ws) : own_AJ Z h' a n f := by obtain ⟨c, A, r⟩ := F; exact ⟨c, ⟨K.2.1 a c A.1 q, A.2⟩, r⟩
theorem own_AJ.new {k : ClassId} {z : Int32} (A : Arr Z h a (newA k .long z) .long) (q : ¬ z < 0) : own_AJ Z h a z.toNatClampNeg (fun _ => 0) := by
  refine ⟨_, A, sz_new _ _ _, (back32 q).2, fun i hi => ?_⟩
  simp [newA, hi, defaultValue]
theorem own_AJ.congr {f g : Nat → Int64} (F : own_AJ Z h a n f) (q : ∀ i, i < n → f i = g i) : own_AJ Z h a n g := by obtain ⟨c, A, r1, r2, r3⟩ := F; exact ⟨c, A, r1, r2, fun i hi => by rw [← q i hi]; exact r3 i hi⟩
theorem own_AJ.set {f : Nat → Int64} {c : Cell} {j : Int32} {x : Int64} (A : Arr Z h a c .long) (S : c.slots.size = n) (N : n < 2 ^ 31) (H : ∀ i, i < n → c.slots[i]? = some (.long (f i))) (W : Wr h h' a j.toNatClampNeg (.long x)) : own_AJ Z h' a n (fun i => if i = j.toNatClampNeg then x else f i) := by
  refine ⟨_, A.same W, by rw [sz_set, S], N, fun i hi => ?_⟩
  by_cases q : i = j.toNatClampNeg
  · subst q; simp [Cell.setSlot, S, hi]
  · simp only [if_neg q, Cell.setSlot]
    rw [Array.getElem?_setIfInBounds_ne (Ne.symm q)]
    exact H i hi
theorem own_ldJ {f : Nat → Int64} {g : JFrame} {j : Int32} {rest : List Value} (X : Stand p l e R s m args below meth c T locs cells slots) (hx : p.tables.exec = Jvm.exec) (hZ : Z.Warmed39 s.vm) (eT : T.heap = h) (F : own_AJ Z h a n f) (h0 : ¬ j < 0) (hj : j.toInt < n) (hg : g.method = m) (hs : g.stack = .int j :: .ref a :: rest) (hd : decode c.code g.pc = .ok (.laload, 1)) :
    ∀ target, Steps p.tables e below (T.setTop { g with pc := g.pc + 1, stack := .long (f j.toNatClampNeg) :: rest }) target → Steps p.tables e below (T.setTop g) target := by
  obtain ⟨c, A, S, N, H⟩ := F
  have hb := own_nb h0 hj
  exact X.laload hx (by rw [eT]; exact A.1) (State.isArrayOf_alike hZ.alike A.2.1) A.2.2 (fun q => q.elim h0 (fun q => by omega)) (H _ hb) hg hs hd
theorem own_stJ {f : Nat → Int64} {g : JFrame} {j : Int32} {x : Int64} {rest : List Value} (X : Stand p l e R s m args below meth c T locs cells slots) (hx : p.tables.exec = Jvm.exec) (hZ : Z.Warmed39 s.vm) (eT : T.heap = h) (F : own_AJ Z h a n f) (h0 : ¬ j < 0) (hj : j.toInt < n) (hg : g.method = m) (hs : g.stack = .long x :: .int j :: .ref a :: rest) (hd : decode c.code g.pc = .ok (.lastore, 1)) :
    ∃ T' h', Stand p l e R s m args below meth c T' (locs ++ [⟨a, j.toNatClampNeg⟩]) cells slots ∧ T'.heap = h' ∧ Wr h h' a j.toNatClampNeg (.long x) ∧ own_AJ Z h' a n (fun i => if i = j.toNatClampNeg then x else f i) ∧ ∀ target, Steps p.tables e below (T'.setTop { g with pc := g.pc + 1, stack := rest }) target → Steps p.tables e below (T.setTop g) target := by
  obtain ⟨c, A, S, N, H⟩ := F
  have hb := own_nb h0 hj
  obtain ⟨T', h', X', e', W, st⟩ := stJ X hx hZ eT A (fun q => q.elim h0 (fun q => by omega)) hg hs hd
  exact ⟨T', h', X', e', W, own_AJ.set A S N H W, st⟩
end OwnArr
theorem own_Sta_keep {Z : State} {h h' : Heap} {a : Addr} {K0 C n d : String} {v : Value} (F : Sta Z h C n d v) (E : Exa Z h a K0) (K : Keep h h' [a]) : Sta Z h' C n d v := by
  obtain ⟨cf, i, k, f, st, cell, h1, h2, h3, h4, h5, h6, h7⟩ := F
  obtain ⟨ce, ke, q1, -, -, q4, -⟩ := E
  refine ⟨cf, i, k, f, st, cell, h1, h2, h3, h4, K.2.1 st cell h5 ?_, h6, h7⟩
  intro q
  cases List.mem_singleton.mp q
  cases h5.symm.trans q1
  rw [h6] at q4
  cases q4
theorem own_Sta_keepN {Z : State} {h h' : Heap} {ws : List Addr} {C n d : String} {v : Value} (F : Sta Z h C n d v) (K : Keep h h' ws) (q : ∀ x ∈ ws, ∃ c : Cell, h[x]? = some c ∧ c.vm.isStatics = false) : Sta Z h' C n d v := by
  obtain ⟨cf, i, k, f, st, cell, h1, h2, h3, h4, h5, h6, h7⟩ := F
  refine ⟨cf, i, k, f, st, cell, h1, h2, h3, h4, K.2.1 st cell h5 ?_, h6, h7⟩
  intro z
  obtain ⟨c, q1, q2⟩ := q st z
  cases h5.symm.trans q1
  rw [h6] at q2
  cases q2
theorem own_plE {Z : State} {h : Heap} {a : Addr} {K0 : String} (E : Exa Z h a K0) : ∃ c : Cell, h[a]? = some c ∧ c.vm.isStatics = false := by
  obtain ⟨ce, ke, q1, -, -, q4, -⟩ := E
  exact ⟨ce, q1, q4⟩
theorem own_plI {Z : State} {h : Heap} {a : Addr} {n : Nat} {f : Nat → Int32} (E : own_AI Z h a n f) : ∃ c : Cell, h[a]? = some c ∧ c.vm.isStatics = false := by
  obtain ⟨c, A, -⟩ := E
  exact ⟨c, A.1, A.plain⟩
theorem own_plJ {Z : State} {h : Heap} {a : Addr} {n : Nat} {f : Nat → Int64} (E : own_AJ Z h a n f) : ∃ c : Cell, h[a]? = some c ∧ c.vm.isStatics = false := by
  obtain ⟨c, A, -⟩ := E
  exact ⟨c, A.1, A.plain⟩
theorem own_sel {s : State} {args : Array Value} {y : MethodName} {n : Nat} (hinst : (Jvm.Cond.instanceMethod y).before args s = true) (hp : (Jvm.Cond.privateMethod y).before args s = true) (hi : (Jvm.Cond.instantiable y.cls n).before args s = true)
    (hy : y.cls ≠ "java/lang/invoke/MethodHandle" ∧ y.cls ≠ "java/lang/invoke/VarHandle") : (Jvm.Cond.selects y.cls y y).before args s = true := by
  obtain ⟨m, meth, h1, h2, h3, h4⟩ := Cond.instanceMethod_spec hinst
  obtain ⟨c, k, i1, i2, i3, i4, -⟩ := Cond.instantiable_spec hi
  have hc := findClass_of_methodNamed h1
  cases i1.symm.trans hc
  have hf := State.methodFound?_of_named h1 hy
  have hs : selectMethod {} s.vm m.cls m = .method m := selectMethod_private h2 (Cond.privateMethod_at hp m meth h1 h2)
  have hk : k.isInterface = false := (Bool.or_eq_false_iff.mp i4).1
  simp [Cond.before, Cond.holds, Cond.value, hc, hf, h1, hs, i2, hk]
section OwnRef
variable {p : Program} {l : Launch} {e : Env} {R : Room} {s : State} {m : MethodId} {args : Array Value} {below : List Frame} {meth : Method} {c : Code} {T T' : State} {locs : List Loc} {cells slots : Nat} {Z : State} {h h' : Heap} {a b : Addr} {n : Nat}
/-- an array of arrays of ints: its length -/
def own_AR (Z : State) (h : Heap) (a : Addr) (n : Nat) : Prop := ∃ c : Cell, Arr Z h a c (.array .int) ∧ OvrA Z c.cls .int "[I" ∧ c.slots.size = n ∧ n < 2 ^ 31
theorem own_AR.lt (F : own_AR Z h a n) : a < h.size := by obtain ⟨c, A, -⟩ := F; exact A.lt
theorem own_AR.ext (F : own_AR Z h a n) (E : Ext h h') : own_AR Z h' a n := by obtain ⟨c, A, r⟩ := F; exact ⟨c, A.ext E, r⟩
theorem own_AR.other {sl : Nat} {v : Value} (F : own_AR Z h b n) (W : Wr h h' a sl v) (q : b ≠ a) : own_AR Z h' b n := by obtain ⟨c, A, r⟩ := F; exact ⟨c, A.other W q, r⟩
theorem own_AR.keep {ws : List Addr} (F : own_AR Z h a n) (K : Keep h h' ws) (q : a ∉ ws) : own_AR Z h' a n := by obtain ⟨c, A, r⟩ := F; exact ⟨c, ⟨K.2.1 a c A.1 q, A.2⟩, r⟩
theorem own_AR.new {k : ClassId} {z : Int32} (A : Arr Z h a (newA k (.array .int) z) (.array .int)) (O : OvrA Z k .int "[I") (q : ¬ z < 0) : own_AR Z h a z.toNatClampNeg := ⟨_, A, O, sz_new _ _ _, (back32 q).2⟩
theorem own_lenR {g : JFrame} {rest : List Value} (X : Stand p l e R s m args below meth c T locs cells slots) (hx : p.tables.exec = Jvm.exec) (hZ : Z.Warmed39 s.vm) (eT : T.heap = h) (F : own_AR Z h a n) {z : Int32} (hz : z.toInt = n) (hg : g.method = m) (hs : g.stack = .ref a :: rest) (hd : decode c.code g.pc = .ok (.arraylength, 1)) :
    ∀ target, Steps p.tables e below (T.setTop { g with pc := g.pc + 1, stack := .int z :: rest }) target → Steps p.tables e below (T.setTop g) target := by
  obtain ⟨c, A, O, S, N⟩ := F
  have q : c.slots.size.toInt32 = z := by
    apply Int32.toInt_inj.mp
    rw [len_toInt (by omega), S, hz]
  have := X.arraylength hx (by rw [eT]; exact A.1) (State.isArrayOf_alike hZ.alike A.2.1) hg hs hd
  rw [q] at this
  exact this
theorem own_stR {g : JFrame} {j : Int32} {y : Addr} {rest : List Value} (X : Stand p l e R s m args below meth c T locs cells slots) (hx : p.tables.exec = Jvm.exec) (hZ : Z.Warmed39 s.vm) (eT : T.heap = h) (F : own_AR Z h a n) (I : Ins Z h y "[I" true) (h0 : ¬ j < 0) (hj : j.toInt < n) (hg : g.method = m) (hs : g.stack = .ref y :: .int j :: .ref a :: rest) (hd : decode c.code g.pc = .ok (.aastore, 1)) :
    ∃ T' h', Stand p l e R s m args below meth c T' (locs ++ [⟨a, j.toNatClampNeg⟩]) cells slots ∧ T'.heap = h' ∧ Wr h h' a j.toNatClampNeg (.ref y) ∧ ∀ target, Steps p.tables e below (T'.setTop { g with pc := g.pc + 1, stack := rest }) target → Steps p.tables e below (T.setTop g) target := by
  obtain ⟨c, A, O, S, N⟩ := F
  have hb := own_nb h0 hj
  exact stR X hx hZ eT A (fun q => q.elim h0 (fun q => by omega)) rfl (Sto.ofVA A rfl O I) hg hs hd
end OwnRef
theorem own_plR {Z : State} {h : Heap} {a : Addr} {n : Nat} (E : own_AR Z h a n) : ∃ c : Cell, h[a]? = some c ∧ c.vm.isStatics = false := by
  obtain ⟨c, A, -⟩ := E
  exact ⟨c, A.1, A.plain⟩
theorem own_d5_0 : own_D own_b5 0 (.aload_n 0) 1 := by decide +kernel
theorem own_d5_1 : own_D own_b5 1 (.invokespecial 1) 3 := by decide +kernel
theorem own_d5_4 : own_D own_b5 4 .return_ 1 := by decide +kernel
theorem own_pd0 : parseMethodDescriptor "()V" = some ⟨[], none⟩ := by decide +kernel
theorem own_pn0 : plainName "java/util/AbstractCollection" = true := by first | (simp [plainName, overriddenIn]; done) | decide +kernel
def own_Qacol (Z : State) (a : Addr) (h0 : Heap) (n0 : Nat) (v : Option Value) (h : Heap) (L : List Loc) : Prop := v = none ∧ Fr n0 L ∧ h = h0
theorem own_efacol (m : MethodId) (a : Addr) : entryFrame m #[(.ref a)] 1 = mkF m 0 #[rv a] [] := by first | (simp [entryFrame, mkF, argsToLocals, Value.category]; done) | rfl
set_option maxRecDepth 65536 in
set_option maxHeartbeats 16000000 in
theorem own_rmacol (l : Launch) (Z : State) (a0 : Array Value) (hw : own_HW Z a0) (ws : List Jvm.Cond) (a : Addr) (h0 : Heap) (n0 : Nat) (Z0 : n0 ≤ h0.size) :
    MetFree l (⟨"java/util/AbstractCollection", "<init>", "()V"⟩ : MethodName) (head1 (Jvm.Cond.code (⟨"java/util/AbstractCollection", "<init>", "()V"⟩ : MethodName) jdk_22_method_1_code 1 none :: ws) ({ frames := 1, cells := 0, slots := 0, locals := 12 } : Room)) (fun aa UU => aa = #[(.ref a)] ∧ Z.Warmed39 UU.vm ∧ UU.heap = h0) (fun _ _ _ _ _ => True) (fun _ U o U' => ∃ v L, o = .returned v ∧ own_Qacol Z a h0 n0 v U'.heap L ∧ FrameEnd U o U' L ({ frames := 1, cells := 0, slots := 0, locals := 12 } : Room).cells ({ frames := 1, cells := 0, slots := 0, locals := 12 } : Room).slots) := by
  refine MetFree.of_bodySF (plainFor_of_name own_pn0) hisR ?_
  intro p e s m args below meth c s₁ Bd hml hP hK
  obtain ⟨rfl, hZ, hh⟩ := hP
  have hx := Bd.exec
  have hlk := Bd.notSynchronized
  have hby := Bd.bytes
  have hret := Bd.returns
  have hown := findClass_of_methodNamed Bd.named
  have hnm := (name_of_methodNamed Bd.named Bd.method).1
  have X0 : Stand p l e ({ frames := 1, cells := 0, slots := 0, locals := 12 } : Room) s m #[(.ref a)] below meth c s₁ [] 0 0 := Stand.of_body Bd
  have e0 : s₁.heap = h0 := by rw [← hh, Bd.state]; rfl
  have N0 := Fr.nil n0
  refine own_cast (own_efacol m a) ?_
  show own_Go p e below s s₁ _ (own_Qacol Z a h0 n0) 0 0
  refine own_st (g' := (mkF m 1 #[rv a] [(.ref a)])) (fun tt_ kk_ => XS.aloadN X0.here hx rfl (hb hby own_d5_0) rfl rfl kk_) ?_
  obtain ⟨T1, X1, e1, st1⟩ := initO X0 hx hZ hown (own_w hw 27 rfl) (own_w hw 7 rfl) (own_w hw 8 rfl) e0 (g := (mkF m 1 #[rv a] [(.ref a)])) rfl (by rw [hml]; rfl) rfl (hb hby own_d5_1) (by decide) (W := 0) (by show 2 * 0 + _ ≤ _; exact Nat.le_of_eq rfl) (by decide)
  refine own_st st1 ?_
  exact own_retV X1 hx hlk hret (hb hby own_d5_4) (by decide) (by decide) (by rw [e1]; exact ⟨rfl, N0, rfl⟩)
theorem own_d4_0 : own_D own_b4 0 (.aload_n 0) 1 := by decide +kernel
theorem own_d4_1 : own_D own_b4 1 (.invokespecial 1) 3 := by decide +kernel
theorem own_d4_4 : own_D own_b4 4 (.aload_n 0) 1 := by decide +kernel
theorem own_d4_5 : own_D own_b4 5 (.iconst 0) 1 := by decide +kernel
theorem own_d4_6 : own_D own_b4 6 (.putfield 7) 3 := by decide +kernel
theorem own_d4_9 : own_D own_b4 9 .return_ 1 := by decide +kernel
theorem own_pn1 : plainName "java/util/AbstractList" = true := by first | (simp [plainName, overriddenIn]; done) | decide +kernel
def own_Qalist (Z : State) (a : Addr) (h0 : Heap) (n0 : Nat) (v : Option Value) (h : Heap) (L : List Loc) : Prop := v = none ∧ Fr n0 L ∧ Keep h0 h [a] ∧ Exa Z h a own_z16 ∧ Fld Z h a own_z16 "elementData" own_z22 .null
theorem own_efalist (m : MethodId) (a : Addr) : entryFrame m #[(.ref a)] 1 = mkF m 0 #[rv a] [] := by first | (simp [entryFrame, mkF, argsToLocals, Value.category]; done) | rfl
set_option maxRecDepth 65536 in
set_option maxHeartbeats 16000000 in
theorem own_rmalist (l : Launch) (Z : State) (a0 : Array Value) (hw : own_HW Z a0) (ws : List Jvm.Cond) (a : Addr) (h0 : Heap) (n0 : Nat) (Z0 : n0 ≤ h0.size) (E_a : Exa Z h0 a own_z16) (F_modCount_a : Fld Z h0 a own_z25 "modCount" "I" (.int (0 : Int32))) (F_elementData_a : Fld Z h0 a own_z16 "elementData" own_z22 .null) (g_a : n0 ≤ a) :
    MetFree l (⟨own_z25, "<init>", "()V"⟩ : MethodName) (head1 (Jvm.Cond.code (⟨own_z25, "<init>", "()V"⟩ : MethodName) jdk_39_method_1_code 1 none :: ws) ({ frames := 2, cells := 0, slots := 0, locals := 24 } : Room)) (fun aa UU => aa = #[(.ref a)] ∧ Z.Warmed39 UU.vm ∧ UU.heap = h0) (fun _ _ _ _ _ => True) (fun _ U o U' => ∃ v L, o = .returned v ∧ own_Qalist Z a h0 n0 v U'.heap L ∧ FrameEnd U o U' L ({ frames := 2, cells := 0, slots := 0, locals := 24 } : Room).cells ({ frames := 2, cells := 0, slots := 0, locals := 24 } : Room).slots) := by
  refine MetFree.of_bodySF (plainFor_of_name own_pn1) hisR ?_
  intro p e s m args below meth c s₁ Bd hml hP hK
  obtain ⟨rfl, hZ, hh⟩ := hP
  have hx := Bd.exec
  have hlk := Bd.notSynchronized
  have hby := Bd.bytes
  have hret := Bd.returns
  have hown := findClass_of_methodNamed Bd.named
  have hnm := (name_of_methodNamed Bd.named Bd.method).1
  have X0 : Stand p l e ({ frames := 2, cells := 0, slots := 0, locals := 24 } : Room) s m #[(.ref a)] below meth c s₁ [] 0 0 := Stand.of_body Bd
  have e0 : s₁.heap = h0 := by rw [← hh, Bd.state]; rfl
  have N0 := Fr.nil n0
  refine own_cast (own_efalist m a) ?_
  show own_Go p e below s s₁ _ (own_Qalist Z a h0 n0) 0 0
  have K0 : Keep h0 h0 [a] := Keep.refl _ _
  refine own_st (g' := (mkF m 1 #[rv a] [(.ref a)])) (fun tt_ kk_ => XS.aloadN X0.here hx rfl (hb hby own_d4_0) rfl rfl kk_) ?_
  obtain ⟨_, _, ⟨T2, L2, k2, n2⟩, -, X2, ⟨Lc2, hQ2, l2, y2, z2⟩, st2⟩ := X0.specialBack hx (y := (⟨"java/util/AbstractCollection", "<init>", "()V"⟩ : MethodName)) rfl hown (mvT hZ (own_w hw 21 rfl)) (mvT hZ (own_w hw 22 rfl)) (mvT hZ (own_w hw 26 rfl)) (by decide) (backOf (W := 0) (own_rmacol l Z a0 hw [] a h0 n0 Z0 ) hZ (own_w hw 26 rfl) (own_w hw 25 rfl) (by decide) (by decide)) (g := (mkF m 1 #[rv a] [(.ref a)])) rfl (by rw [hml]; rfl) (Steps.refl _) (a := a) (argsL := []) (rest := []) (lenOf own_pd0 rfl) rfl (by show 2 * 0 + _ ≤ _; exact Nat.le_of_eq rfl) (hb hby own_d4_1) (fun _ _ => ⟨rfl, e0, (by decide : 0 + 0 ≤ _), (by decide : 0 + 0 ≤ _)⟩)
  dsimp only [Pt.U, Pt.locs, Pt.cells, Pt.slots] at X2 l2 y2 z2 st2 hQ2
  rw [l2, y2, z2] at X2
  obtain ⟨rfl, N2q, e2⟩ := hQ2
  have N2 := Fr.app N0 N2q
  refine own_st (fun t k => st2.trans k) ?_
  refine own_st (g' := (mkF m 6 #[rv a] [(.int (0 : Int32)), (.ref a)])) (fun tt_ kk_ => XS.aloadN X2.here hx rfl (hb hby own_d4_4) rfl rfl (XS.iconst X2.here hx rfl (hb hby own_d4_5) kk_)) ?_
  obtain ⟨T3, h3, X3, e3, W3, st3⟩ := putF X2 hx hZ hown (host := "") (Or.inl (own_w hw 28 rfl)) Via.refl e2 F_modCount_a E_a (Or.inl (own_w hw 29 rfl)) (own_w hw 10 rfl) (ty := .int) (by decide) rfl rfl (g := (mkF m 6 #[rv a] [(.int (0 : Int32)), (.ref a)])) rfl rfl (hb hby own_d4_6)
  have N3 := Fr.snoc X3 N2 g_a
  have Z3 : n0 ≤ h3.size := Nat.le_trans Z0 (Keep.of_wr W3).1
  have K3 : Keep h0 h3 [a] := K0.wr W3 (Or.inl (List.mem_of_getElem? (i := 0) rfl))
  have F3 : Fld Z h3 a own_z25 "modCount" "I" (.int (0 : Int32)) := F_modCount_a.same W3
  refine own_st st3 ?_
  have F4 := (E_a.wr W3)
  have F5 := (F_elementData_a.other W3 (Or.inr (own_sn0 hw)))
  exact own_retV X3 hx hlk hret (hb hby own_d4_9) (by decide) (by decide) (by rw [e3]; exact ⟨rfl, N3, K3, F4, F5⟩)
theorem own_d3_0 : own_D own_b3 0 (.aload_n 0) 1 := by decide +kernel
theorem own_d3_1 : own_D own_b3 1 (.invokespecial 1) 3 := by decide +kernel
theorem own_d3_4 : own_D own_b3 4 (.aload_n 0) 1 := by decide +kernel
theorem own_d3_5 : own_D own_b3 5 (.getstatic 39) 3 := by decide +kernel
theorem own_d3_8 : own_D own_b3 8 (.putfield 9) 3 := by decide +kernel
theorem own_d3_11 : own_D own_b3 11 .return_ 1 := by decide +kernel
theorem own_pn2 : plainName "java/util/ArrayList" = true := by first | (simp [plainName, overriddenIn]; done) | decide +kernel
def own_Qarl (Z : State) (a : Addr) (dA : Addr) (h0 : Heap) (n0 : Nat) (v : Option Value) (h : Heap) (L : List Loc) : Prop := v = none ∧ Fr n0 L ∧ Keep h0 h [a]
theorem own_efarl (m : MethodId) (a : Addr) : entryFrame m #[(.ref a)] 1 = mkF m 0 #[rv a] [] := by first | (simp [entryFrame, mkF, argsToLocals, Value.category]; done) | rfl
set_option maxRecDepth 65536 in
set_option maxHeartbeats 16000000 in
theorem own_rmarl (l : Launch) (Z : State) (a0 : Array Value) (hw : own_HW Z a0) (ws : List Jvm.Cond) (a : Addr) (dA : Addr) (h0 : Heap) (n0 : Nat) (Z0 : n0 ≤ h0.size) (E_a : Exa Z h0 a own_z16) (F_modCount_a : Fld Z h0 a own_z25 "modCount" "I" (.int (0 : Int32))) (F_elementData_a : Fld Z h0 a own_z16 "elementData" own_z22 .null) (S_d : Sta Z h0 own_z16 "DEFAULTCAPACITY_EMPTY_ELEMENTDATA" own_z22 (.ref dA)) (g_a : n0 ≤ a) :
    MetFree l (⟨own_z16, "<init>", "()V"⟩ : MethodName) (head1 (Jvm.Cond.code (⟨own_z16, "<init>", "()V"⟩ : MethodName) jdk_38_method_2_code 1 none :: ws) ({ frames := 3, cells := 0, slots := 0, locals := 36 } : Room)) (fun aa UU => aa = #[(.ref a)] ∧ Z.Warmed39 UU.vm ∧ UU.heap = h0) (fun _ _ _ _ _ => True) (fun _ U o U' => ∃ v L, o = .returned v ∧ own_Qarl Z a dA h0 n0 v U'.heap L ∧ FrameEnd U o U' L ({ frames := 3, cells := 0, slots := 0, locals := 36 } : Room).cells ({ frames := 3, cells := 0, slots := 0, locals := 36 } : Room).slots) := by
  refine MetFree.of_bodySF (plainFor_of_name own_pn2) hisR ?_
  intro p e s m args below meth c s₁ Bd hml hP hK
  obtain ⟨rfl, hZ, hh⟩ := hP
  have hx := Bd.exec
  have hlk := Bd.notSynchronized
  have hby := Bd.bytes
  have hret := Bd.returns
  have hown := findClass_of_methodNamed Bd.named
  have hnm := (name_of_methodNamed Bd.named Bd.method).1
  have X0 : Stand p l e ({ frames := 3, cells := 0, slots := 0, locals := 36 } : Room) s m #[(.ref a)] below meth c s₁ [] 0 0 := Stand.of_body Bd
  have e0 : s₁.heap = h0 := by rw [← hh, Bd.state]; rfl
  have N0 := Fr.nil n0
  refine own_cast (own_efarl m a) ?_
  show own_Go p e below s s₁ _ (own_Qarl Z a dA h0 n0) 0 0
  have K0 : Keep h0 h0 [a] := Keep.refl _ _
  refine own_st (g' := (mkF m 1 #[rv a] [(.ref a)])) (fun tt_ kk_ => XS.aloadN X0.here hx rfl (hb hby own_d3_0) rfl rfl kk_) ?_
  obtain ⟨_, _, ⟨T6, L6, k6, n6⟩, -, X6, ⟨Lc6, hQ6, l6, y6, z6⟩, st6⟩ := X0.specialBack hx (y := (⟨own_z25, "<init>", "()V"⟩ : MethodName)) rfl hown (mvT hZ (own_w hw 15 rfl)) (mvT hZ (own_w hw 16 rfl)) (mvT hZ (own_w hw 20 rfl)) (by decide) (backOf (W := 0) (own_rmalist l Z a0 hw [] a h0 n0 Z0 E_a F_modCount_a F_elementData_a g_a) hZ (own_w hw 20 rfl) (own_w hw 19 rfl) (by decide) (by decide)) (g := (mkF m 1 #[rv a] [(.ref a)])) rfl (by rw [hml]; rfl) (Steps.refl _) (a := a) (argsL := []) (rest := []) (lenOf own_pd0 rfl) rfl (by show 2 * 0 + _ ≤ _; exact Nat.le_of_eq rfl) (hb hby own_d3_1) (fun _ _ => ⟨rfl, e0, (by decide : 0 + 0 ≤ _), (by decide : 0 + 0 ≤ _)⟩)
  dsimp only [Pt.U, Pt.locs, Pt.cells, Pt.slots] at X6 l6 y6 z6 st6 hQ6
  rw [l6, y6, z6] at X6
  obtain ⟨rfl, N6q, K6q, f6_0, f6_1⟩ := hQ6
  obtain ⟨h6, e6⟩ : ∃ z, T6.heap = z := ⟨_, rfl⟩
  rw [e6] at K6q f6_0 f6_1
  have Z6 : n0 ≤ h6.size := Nat.le_trans Z0 K6q.1
  have K6 : Keep h0 h6 [a] := K0.trans K6q (allS (P := fun x => x ∈ [a] ∨ h0.size ≤ x) (Or.inl (List.mem_of_getElem? (i := 0) rfl)) all0)
  have N6 := Fr.app N0 N6q
  refine own_st (fun t k => st6.trans k) ?_
  refine own_st (g' := (mkF m 5 #[rv a] [(.ref a)])) (fun tt_ kk_ => XS.aloadN X6.here hx rfl (hb hby own_d3_4) rfl rfl kk_) ?_
  have F8 := (own_Sta_keep S_d E_a K6q)
  obtain ⟨T7, X7, e7, st7⟩ := getS2 X6 hx hZ hown (host := "") (Or.inl (own_w hw 30 rfl)) Via.refl e6 F8 (g := (mkF m 5 #[rv a] [(.ref a)])) rfl (hb hby own_d3_5)
  refine own_st st7 ?_
  obtain ⟨T9, h9, X9, e9, W9, st9⟩ := putF X7 hx hZ hown (host := "") (Or.inl (own_w hw 31 rfl)) Via.refl e7 f6_1 f6_0 (Or.inl (own_w hw 32 rfl)) (own_w hw 10 rfl) (ty := (.array (.object "java/lang/Object"))) (by decide) rfl rfl (g := (mkF m 8 #[rv a] [(.ref dA), (.ref a)])) rfl rfl (hb hby own_d3_8)
  have N9 := Fr.snoc X9 N6 g_a
  have Z9 : n0 ≤ h9.size := Nat.le_trans Z6 (Keep.of_wr W9).1
  have K9 : Keep h0 h9 [a] := K6.wr W9 (Or.inl (List.mem_of_getElem? (i := 0) rfl))
  have F9 : Fld Z h9 a own_z16 "elementData" own_z22 (.ref dA) := f6_1.same W9
  refine own_st st9 ?_
  exact own_retV X9 hx hlk hret (hb hby own_d3_11) (by decide) (by decide) (by rw [e9]; exact ⟨rfl, N9, K9⟩)
theorem own_d6_0 : own_D own_b6 0 (.aload_n 0) 1 := by decide +kernel
theorem own_d6_1 : own_D own_b6 1 (.invokespecial 1) 3 := by decide +kernel
theorem own_d6_4 : own_D own_b6 4 (.aload_n 0) 1 := by decide +kernel
theorem own_d6_5 : own_D own_b6 5 (.sipush 384) 3 := by decide +kernel
theorem own_d6_8 : own_D own_b6 8 (.newarray .int) 2 := by decide +kernel
theorem own_d6_10 : own_D own_b6 10 (.putfield 9) 3 := by decide +kernel
theorem own_d6_13 : own_D own_b6 13 (.aload_n 0) 1 := by decide +kernel
theorem own_d6_14 : own_D own_b6 14 (.sipush 128) 3 := by decide +kernel
theorem own_d6_17 : own_D own_b6 17 (.newarray .long) 2 := by decide +kernel
theorem own_d6_19 : own_D own_b6 19 (.putfield 13) 3 := by decide +kernel
theorem own_d6_22 : own_D own_b6 22 (.aload_n 0) 1 := by decide +kernel
theorem own_d6_23 : own_D own_b6 23 (.bipush 64) 2 := by decide +kernel
theorem own_d6_25 : own_D own_b6 25 (.anewarray 17) 3 := by decide +kernel
theorem own_d6_28 : own_D own_b6 28 (.putfield 18) 3 := by decide +kernel
theorem own_d6_31 : own_D own_b6 31 (.aload_n 0) 1 := by decide +kernel
theorem own_d6_32 : own_D own_b6 32 (.bipush 64) 2 := by decide +kernel
theorem own_d6_34 : own_D own_b6 34 (.anewarray 22) 3 := by decide +kernel
theorem own_d6_37 : own_D own_b6 37 (.putfield 24) 3 := by decide +kernel
theorem own_d6_40 : own_D own_b6 40 (.aload_n 0) 1 := by decide +kernel
theorem own_d6_41 : own_D own_b6 41 (.bipush 64) 2 := by decide +kernel
theorem own_d6_43 : own_D own_b6 43 (.newarray .int) 2 := by decide +kernel
theorem own_d6_45 : own_D own_b6 45 (.putfield 28) 3 := by decide +kernel
theorem own_d6_48 : own_D own_b6 48 (.aload_n 0) 1 := by decide +kernel
theorem own_d6_49 : own_D own_b6 49 (.bipush 64) 2 := by decide +kernel
theorem own_d6_51 : own_D own_b6 51 (.newarray .long) 2 := by decide +kernel
theorem own_d6_53 : own_D own_b6 53 (.putfield 31) 3 := by decide +kernel
theorem own_d6_56 : own_D own_b6 56 (.aload_n 0) 1 := by decide +kernel
theorem own_d6_57 : own_D own_b6 57 (.bipush 64) 2 := by decide +kernel
theorem own_d6_59 : own_D own_b6 59 (.newarray .int) 2 := by decide +kernel
theorem own_d6_61 : own_D own_b6 61 (.putfield 34) 3 := by decide +kernel
theorem own_d6_64 : own_D own_b6 64 (.aload_n 0) 1 := by decide +kernel
theorem own_d6_65 : own_D own_b6 65 (.bipush 64) 2 := by decide +kernel
theorem own_d6_67 : own_D own_b6 67 (.newarray .int) 2 := by decide +kernel
theorem own_d6_69 : own_D own_b6 69 (.putfield 37) 3 := by decide +kernel
theorem own_d6_72 : own_D own_b6 72 (.aload_n 0) 1 := by decide +kernel
theorem own_d6_73 : own_D own_b6 73 (.bipush 64) 2 := by decide +kernel
theorem own_d6_75 : own_D own_b6 75 (.newarray .int) 2 := by decide +kernel
theorem own_d6_77 : own_D own_b6 77 (.putfield 40) 3 := by decide +kernel
theorem own_d6_80 : own_D own_b6 80 (.aload_n 0) 1 := by decide +kernel
theorem own_d6_81 : own_D own_b6 81 (.bipush 65) 2 := by decide +kernel
theorem own_d6_83 : own_D own_b6 83 (.newarray .long) 2 := by decide +kernel
theorem own_d6_85 : own_D own_b6 85 (.putfield 43) 3 := by decide +kernel
theorem own_d6_88 : own_D own_b6 88 (.aload_n 0) 1 := by decide +kernel
theorem own_d6_89 : own_D own_b6 89 (.aload_n 1) 1 := by decide +kernel
theorem own_d6_90 : own_D own_b6 90 (.putfield 46) 3 := by decide +kernel
theorem own_d6_93 : own_D own_b6 93 .return_ 1 := by decide +kernel
theorem own_pn3 : plainName "com/example/propagule/propagule/Trail" = true := by first | (simp [plainName, overriddenIn]; done) | decide +kernel
def own_Qtri (Z : State) (t : Addr) (li : Addr) (h0 : Heap) (n0 : Nat) (v : Option Value) (h : Heap) (L : List Loc) : Prop := v = none ∧ Fr n0 L ∧ Keep h0 h [t] ∧ ∃ it lt rt : Addr, Exa Z h t own_z1 ∧ Fld Z h t own_z1 "depth" "I" (.int (0 : Int32)) ∧ Fld Z h t own_z1 "entries" "I" (.int (0 : Int32)) ∧ Fld Z h t own_z1 "ints" "[I" (.ref it) ∧ Fld Z h t own_z1 "longs" "[J" (.ref lt) ∧ Fld Z h t own_z1 "ranges" "[[I" (.ref rt) ∧ own_AI Z h it 384 (fun _ => 0) ∧ own_AJ Z h lt 128 (fun _ => 0) ∧ own_AR Z h rt 64 ∧ t ≠ it ∧ t ≠ lt ∧ t ≠ rt ∧ it ≠ lt ∧ it ≠ rt ∧ lt ≠ rt ∧ h0.size ≤ it ∧ h0.size ≤ lt ∧ h0.size ≤ rt
theorem own_eftri (m : MethodId) (t : Addr) (li : Addr) : entryFrame m #[(.ref t), (.ref li)] 2 = mkF m 0 #[rv t, rv li] [] := by first | (simp [entryFrame, mkF, argsToLocals, Value.category]; done) | rfl
set_option maxRecDepth 65536 in
set_option maxHeartbeats 16000000 in
theorem own_rmtri (l : Launch) (Z : State) (a0 : Array Value) (hw : own_HW Z a0) (ws : List Jvm.Cond) (t : Addr) (li : Addr) (h0 : Heap) (n0 : Nat) (Z0 : n0 ≤ h0.size) (E_t : Exa Z h0 t own_z1) (F_ints_t : Fld Z h0 t own_z1 "ints" "[I" .null) (F_longs_t : Fld Z h0 t own_z1 "longs" "[J" .null) (F_ranges_t : Fld Z h0 t own_z1 "ranges" "[[I" .null) (F_cellOwners_t : Fld Z h0 t own_z1 "cellOwners" own_z8 .null) (F_cellIndexes_t : Fld Z h0 t own_z1 own_z24 "[I" .null) (F_cellValues_t : Fld Z h0 t own_z1 "cellValues" "[J" .null) (F_cellStamps_t : Fld Z h0 t own_z1 "cellStamps" "[I" .null) (F_worldMarks_t : Fld Z h0 t own_z1 "worldMarks" "[I" .null) (F_cellMarks_t : Fld Z h0 t own_z1 "cellMarks" "[I" .null) (F_worldNumbers_t : Fld Z h0 t own_z1 own_z23 "[J" .null) (F_variables_t : Fld Z h0 t own_z1 "variables" own_z10 .null) (F_depth_t : Fld Z h0 t own_z1 "depth" "I" (.int (0 : Int32))) (F_entries_t : Fld Z h0 t own_z1 "entries" "I" (.int (0 : Int32))) (g_t : n0 ≤ t) :
    MetFree l (⟨own_z1, "<init>", "(Ljava/util/List;)V"⟩ : MethodName) (head1 (Jvm.Cond.code (⟨own_z1, "<init>", "(Ljava/util/List;)V"⟩ : MethodName) prog_75_method_1_code 2 none :: ws) ({ frames := 1, cells := 10, slots := 1025, locals := 12 } : Room)) (fun aa UU => aa = #[(.ref t), (.ref li)] ∧ Z.Warmed39 UU.vm ∧ UU.heap = h0) (fun _ _ _ _ _ => True) (fun _ U o U' => ∃ v L, o = .returned v ∧ own_Qtri Z t li h0 n0 v U'.heap L ∧ FrameEnd U o U' L ({ frames := 1, cells := 10, slots := 1025, locals := 12 } : Room).cells ({ frames := 1, cells := 10, slots := 1025, locals := 12 } : Room).slots) := by
  refine MetFree.of_bodySF (plainFor_of_name own_pn3) hisR ?_
  intro p e s m args below meth c s₁ Bd hml hP hK
  obtain ⟨rfl, hZ, hh⟩ := hP
  have hx := Bd.exec
  have hlk := Bd.notSynchronized
  have hby := Bd.bytes
  have hret := Bd.returns
  have hown := findClass_of_methodNamed Bd.named
  have hnm := (name_of_methodNamed Bd.named Bd.method).1
  have X0 : Stand p l e ({ frames := 1, cells := 10, slots := 1025, locals := 12 } : Room) s m #[(.ref t), (.ref li)] below meth c s₁ [] 0 0 := Stand.of_body Bd
  have e0 : s₁.heap = h0 := by rw [← hh, Bd.state]; rfl
  have N0 := Fr.nil n0
  refine own_cast (own_eftri m t li) ?_
  show own_Go p e below s s₁ _ (own_Qtri Z t li h0 n0) 10 1025
  have K0 : Keep h0 h0 [t] := Keep.refl _ _
  refine own_st (g' := (mkF m 1 #[rv t, rv li] [(.ref t)])) (fun tt_ kk_ => XS.aloadN X0.here hx rfl (hb hby own_d6_0) rfl rfl kk_) ?_
  obtain ⟨T10, X10, e10, st10⟩ := initO X0 hx hZ hown (own_w hw 43 rfl) (own_w hw 7 rfl) (own_w hw 8 rfl) e0 (g := (mkF m 1 #[rv t, rv li] [(.ref t)])) rfl (by rw [hml]; rfl) rfl (hb hby own_d6_1) (by decide) (W := 0) (by show 2 * 0 + _ ≤ _; exact Nat.le_of_eq rfl) (by decide)
  refine own_st st10 ?_
  refine own_st (g' := (mkF m 8 #[rv t, rv li] [(.int (384 : Int32)), (.ref t)])) (fun tt_ kk_ => XS.aloadN X10.here hx rfl (hb hby own_d6_4) rfl rfl (XS.sipush X10.here hx rfl (hb hby own_d6_5) kk_)) ?_
  obtain ⟨T11, h11, k11, X11, e11, E11, A11, st11⟩ := newP X10 hx hZ (own_w hw 44 rfl) e10 (g := (mkF m 8 #[rv t, rv li] [(.int (384 : Int32)), (.ref t)])) rfl (hb hby own_d6_8) rfl (by decide) (cap := 384) (by decide) (by decide) (by decide) (by decide)
  obtain ⟨b11, g11⟩ : ∃ z, z = h0.size := ⟨_, rfl⟩
  rw [← g11] at A11 st11
  have ne12 : t ≠ b11 := Nat.ne_of_lt (Nat.lt_of_lt_of_le E_t.lt (Nat.le_of_eq g11.symm))
  have gz11 : n0 ≤ b11 := Nat.le_trans Z0 (Nat.le_of_eq g11.symm)
  have Z11 : n0 ≤ h11.size := Nat.le_trans Z0 E11.1
  have sz11 : h0.size ≤ b11 := Nat.le_trans K0.1 (Nat.le_of_eq g11.symm)
  have K11 : Keep h0 h11 [t] := K0.ext E11
  have P11 : own_AI Z h11 b11 384 (fun _ => 0) := own_AI.new A11 (by decide)
  refine own_st st11 ?_
  have F14 := (F_ints_t.ext E11)
  have F15 := (E_t.ext E11)
  obtain ⟨T13, h13, X13, e13, W13, st13⟩ := putF X11 hx hZ hown (host := "") (Or.inl (own_w hw 45 rfl)) Via.refl e11 F14 F15 (Or.inl (own_w hw 46 rfl)) (own_w hw 38 rfl) (ty := (.array .int)) (by decide) rfl rfl (g := (mkF m 10 #[rv t, rv li] [(.ref b11), (.ref t)])) rfl rfl (hb hby own_d6_10)
  have N13 := Fr.snoc X13 N0 g_t
  have Z13 : n0 ≤ h13.size := Nat.le_trans Z11 (Keep.of_wr W13).1
  have K13 : Keep h0 h13 [t] := K11.wr W13 (Or.inl (List.mem_of_getElem? (i := 0) rfl))
  have F13 : Fld Z h13 t own_z1 "ints" "[I" (.ref b11) := F14.same W13
  refine own_st st13 ?_
  refine own_st (g' := (mkF m 17 #[rv t, rv li] [(.int (128 : Int32)), (.ref t)])) (fun tt_ kk_ => XS.aloadN X13.here hx rfl (hb hby own_d6_13) rfl rfl (XS.sipush X13.here hx rfl (hb hby own_d6_14) kk_)) ?_
  obtain ⟨T16, h16, k16, X16, e16, E16, A16, st16⟩ := newP X13 hx hZ (own_w hw 47 rfl) e13 (g := (mkF m 17 #[rv t, rv li] [(.int (128 : Int32)), (.ref t)])) rfl (hb hby own_d6_17) rfl (by decide) (cap := 128) (by decide) (by decide) (by decide) (by decide)
  obtain ⟨b16, g16⟩ : ∃ z, z = h13.size := ⟨_, rfl⟩
  rw [← g16] at A16 st16
  have F18 := (F15.wr W13)
  have ne17 : t ≠ b16 := Nat.ne_of_lt (Nat.lt_of_lt_of_le F18.lt (Nat.le_of_eq g16.symm))
  have F20 := (P11.other W13 (Ne.symm ne12))
  have ne19 : b11 ≠ b16 := Nat.ne_of_lt (Nat.lt_of_lt_of_le F20.lt (Nat.le_of_eq g16.symm))
  have gz16 : n0 ≤ b16 := Nat.le_trans Z13 (Nat.le_of_eq g16.symm)
  have Z16 : n0 ≤ h16.size := Nat.le_trans Z13 E16.1
  have sz16 : h0.size ≤ b16 := Nat.le_trans K13.1 (Nat.le_of_eq g16.symm)
  have K16 : Keep h0 h16 [t] := K13.ext E16
  have P16 : own_AJ Z h16 b16 128 (fun _ => 0) := own_AJ.new A16 (by decide)
  refine own_st st16 ?_
  have F22 := (((F_longs_t.ext E11).other W13 (Or.inr (own_sn1 hw))).ext E16)
  have F23 := (F18.ext E16)
  obtain ⟨T21, h21, X21, e21, W21, st21⟩ := putF X16 hx hZ hown (host := "") (Or.inl (own_w hw 48 rfl)) Via.refl e16 F22 F23 (Or.inl (own_w hw 49 rfl)) (own_w hw 38 rfl) (ty := (.array .long)) (by decide) rfl rfl (g := (mkF m 19 #[rv t, rv li] [(.ref b16), (.ref t)])) rfl rfl (hb hby own_d6_19)
  have N21 := Fr.snoc X21 N13 g_t
  have Z21 : n0 ≤ h21.size := Nat.le_trans Z16 (Keep.of_wr W21).1
  have K21 : Keep h0 h21 [t] := K16.wr W21 (Or.inl (List.mem_of_getElem? (i := 0) rfl))
  have F21 : Fld Z h21 t own_z1 "longs" "[J" (.ref b16) := F22.same W21
  refine own_st st21 ?_
  refine own_st (g' := (mkF m 25 #[rv t, rv li] [(.int (64 : Int32)), (.ref t)])) (fun tt_ kk_ => XS.aloadN X21.here hx rfl (hb hby own_d6_22) rfl rfl (XS.bipush X21.here hx rfl (hb hby own_d6_23) kk_)) ?_
  obtain ⟨T24, h24, k24, X24, e24, E24, A24, -, O24, st24⟩ := newRA X21 hx hZ hown (C := "[I") (by decide) (own_w hw 50 rfl) (own_w hw 51 rfl) e21 (g := (mkF m 25 #[rv t, rv li] [(.int (64 : Int32)), (.ref t)])) rfl (hb hby own_d6_25) rfl (by decide) (cap := 64) (by decide) (by decide) (by decide) (by decide) (ad := "[[I") (by decide)
  obtain ⟨b24, g24⟩ : ∃ z, z = h21.size := ⟨_, rfl⟩
  rw [← g24] at A24 st24
  have F26 := (F23.wr W21)
  have ne25 : t ≠ b24 := Nat.ne_of_lt (Nat.lt_of_lt_of_le F26.lt (Nat.le_of_eq g24.symm))
  have F28 := ((F20.ext E16).other W21 (Ne.symm ne12))
  have ne27 : b11 ≠ b24 := Nat.ne_of_lt (Nat.lt_of_lt_of_le F28.lt (Nat.le_of_eq g24.symm))
  have F30 := (P16.other W21 (Ne.symm ne17))
  have ne29 : b16 ≠ b24 := Nat.ne_of_lt (Nat.lt_of_lt_of_le F30.lt (Nat.le_of_eq g24.symm))
  have gz24 : n0 ≤ b24 := Nat.le_trans Z21 (Nat.le_of_eq g24.symm)
  have Z24 : n0 ≤ h24.size := Nat.le_trans Z21 E24.1
  have sz24 : h0.size ≤ b24 := Nat.le_trans K21.1 (Nat.le_of_eq g24.symm)
  have K24 : Keep h0 h24 [t] := K21.ext E24
  have P24 : own_AR Z h24 b24 64 := own_AR.new A24 O24 (by decide)
  refine own_st st24 ?_
  have F32 := (((((F_ranges_t.ext E11).other W13 (Or.inr (own_sn2 hw))).ext E16).other W21 (Or.inr (own_sn3 hw))).ext E24)
  have F33 := (F26.ext E24)
  obtain ⟨T31, h31, X31, e31, W31, st31⟩ := putF X24 hx hZ hown (host := "") (Or.inl (own_w hw 52 rfl)) Via.refl e24 F32 F33 (Or.inl (own_w hw 53 rfl)) (own_w hw 38 rfl) (ty := (.array (.array .int))) (by decide) rfl rfl (g := (mkF m 28 #[rv t, rv li] [(.ref b24), (.ref t)])) rfl rfl (hb hby own_d6_28)
  have N31 := Fr.snoc X31 N21 g_t
  have Z31 : n0 ≤ h31.size := Nat.le_trans Z24 (Keep.of_wr W31).1
  have K31 : Keep h0 h31 [t] := K24.wr W31 (Or.inl (List.mem_of_getElem? (i := 0) rfl))
  have F31 : Fld Z h31 t own_z1 "ranges" "[[I" (.ref b24) := F32.same W31
  refine own_st st31 ?_
  refine own_st (g' := (mkF m 34 #[rv t, rv li] [(.int (64 : Int32)), (.ref t)])) (fun tt_ kk_ => XS.aloadN X31.here hx rfl (hb hby own_d6_31) rfl rfl (XS.bipush X31.here hx rfl (hb hby own_d6_32) kk_)) ?_
  obtain ⟨T34, h34, k34, X34, e34, E34, A34, -, st34⟩ := newR X31 hx hZ hown (own_w hw 54 rfl) (own_w hw 55 rfl) e31 (g := (mkF m 34 #[rv t, rv li] [(.int (64 : Int32)), (.ref t)])) rfl (hb hby own_d6_34) rfl (by decide) (cap := 64) (by decide) (by decide) (by decide) (by decide)
  obtain ⟨b34, g34⟩ : ∃ z, z = h31.size := ⟨_, rfl⟩
  rw [← g34] at A34 st34
  have F36 := (F33.wr W31)
  have ne35 : t ≠ b34 := Nat.ne_of_lt (Nat.lt_of_lt_of_le F36.lt (Nat.le_of_eq g34.symm))
  have F38 := ((F28.ext E24).other W31 (Ne.symm ne12))
  have ne37 : b11 ≠ b34 := Nat.ne_of_lt (Nat.lt_of_lt_of_le F38.lt (Nat.le_of_eq g34.symm))
  have F40 := ((F30.ext E24).other W31 (Ne.symm ne17))
  have ne39 : b16 ≠ b34 := Nat.ne_of_lt (Nat.lt_of_lt_of_le F40.lt (Nat.le_of_eq g34.symm))
  have F42 := (P24.other W31 (Ne.symm ne25))
  have ne41 : b24 ≠ b34 := Nat.ne_of_lt (Nat.lt_of_lt_of_le F42.lt (Nat.le_of_eq g34.symm))
  have gz34 : n0 ≤ b34 := Nat.le_trans Z31 (Nat.le_of_eq g34.symm)
  have Z34 : n0 ≤ h34.size := Nat.le_trans Z31 E34.1
  have sz34 : h0.size ≤ b34 := Nat.le_trans K31.1 (Nat.le_of_eq g34.symm)
  have K34 : Keep h0 h34 [t] := K31.ext E34
  refine own_st st34 ?_
  have F44 := (((((((F_cellOwners_t.ext E11).other W13 (Or.inr (own_sn4 hw))).ext E16).other W21 (Or.inr (own_sn5 hw))).ext E24).other W31 (Or.inr (own_sn6 hw))).ext E34)
  have F45 := (F36.ext E34)
  obtain ⟨T43, h43, X43, e43, W43, st43⟩ := putF X34 hx hZ hown (host := "") (Or.inl (own_w hw 56 rfl)) Via.refl e34 F44 F45 (Or.inl (own_w hw 57 rfl)) (own_w hw 38 rfl) (ty := (.array (.object "com/example/propagule/propagule/ReversibleLongs"))) (by decide) rfl rfl (g := (mkF m 37 #[rv t, rv li] [(.ref b34), (.ref t)])) rfl rfl (hb hby own_d6_37)
  have N43 := Fr.snoc X43 N31 g_t
  have Z43 : n0 ≤ h43.size := Nat.le_trans Z34 (Keep.of_wr W43).1
  have K43 : Keep h0 h43 [t] := K34.wr W43 (Or.inl (List.mem_of_getElem? (i := 0) rfl))
  have F43 : Fld Z h43 t own_z1 "cellOwners" own_z8 (.ref b34) := F44.same W43
  refine own_st st43 ?_
  refine own_st (g' := (mkF m 43 #[rv t, rv li] [(.int (64 : Int32)), (.ref t)])) (fun tt_ kk_ => XS.aloadN X43.here hx rfl (hb hby own_d6_40) rfl rfl (XS.bipush X43.here hx rfl (hb hby own_d6_41) kk_)) ?_
  obtain ⟨T46, h46, k46, X46, e46, E46, A46, st46⟩ := newP X43 hx hZ (own_w hw 44 rfl) e43 (g := (mkF m 43 #[rv t, rv li] [(.int (64 : Int32)), (.ref t)])) rfl (hb hby own_d6_43) rfl (by decide) (cap := 64) (by decide) (by decide) (by decide) (by decide)
  obtain ⟨b46, g46⟩ : ∃ z, z = h43.size := ⟨_, rfl⟩
  rw [← g46] at A46 st46
  have F48 := (A34.other W43 (Ne.symm ne35))
  have ne47 : b34 ≠ b46 := Nat.ne_of_lt (Nat.lt_of_lt_of_le F48.lt (Nat.le_of_eq g46.symm))
  have F50 := (F45.wr W43)
  have ne49 : t ≠ b46 := Nat.ne_of_lt (Nat.lt_of_lt_of_le F50.lt (Nat.le_of_eq g46.symm))
  have F52 := ((F38.ext E34).other W43 (Ne.symm ne12))
  have ne51 : b11 ≠ b46 := Nat.ne_of_lt (Nat.lt_of_lt_of_le F52.lt (Nat.le_of_eq g46.symm))
  have F54 := ((F40.ext E34).other W43 (Ne.symm ne17))
  have ne53 : b16 ≠ b46 := Nat.ne_of_lt (Nat.lt_of_lt_of_le F54.lt (Nat.le_of_eq g46.symm))
  have F56 := ((F42.ext E34).other W43 (Ne.symm ne25))
  have ne55 : b24 ≠ b46 := Nat.ne_of_lt (Nat.lt_of_lt_of_le F56.lt (Nat.le_of_eq g46.symm))
  have gz46 : n0 ≤ b46 := Nat.le_trans Z43 (Nat.le_of_eq g46.symm)
  have Z46 : n0 ≤ h46.size := Nat.le_trans Z43 E46.1
  have sz46 : h0.size ≤ b46 := Nat.le_trans K43.1 (Nat.le_of_eq g46.symm)
  have K46 : Keep h0 h46 [t] := K43.ext E46
  have P46 : own_AI Z h46 b46 64 (fun _ => 0) := own_AI.new A46 (by decide)
  refine own_st st46 ?_
  have F58 := (((((((((F_cellIndexes_t.ext E11).other W13 (Or.inr (own_sn7 hw))).ext E16).other W21 (Or.inr (own_sn8 hw))).ext E24).other W31 (Or.inr (own_sn9 hw))).ext E34).other W43 (Or.inr (own_sn10 hw))).ext E46)
  have F59 := (F50.ext E46)
  obtain ⟨T57, h57, X57, e57, W57, st57⟩ := putF X46 hx hZ hown (host := "") (Or.inl (own_w hw 58 rfl)) Via.refl e46 F58 F59 (Or.inl (own_w hw 59 rfl)) (own_w hw 38 rfl) (ty := (.array .int)) (by decide) rfl rfl (g := (mkF m 45 #[rv t, rv li] [(.ref b46), (.ref t)])) rfl rfl (hb hby own_d6_45)
  have N57 := Fr.snoc X57 N43 g_t
  have Z57 : n0 ≤ h57.size := Nat.le_trans Z46 (Keep.of_wr W57).1
  have K57 : Keep h0 h57 [t] := K46.wr W57 (Or.inl (List.mem_of_getElem? (i := 0) rfl))
  have F57 : Fld Z h57 t own_z1 own_z24 "[I" (.ref b46) := F58.same W57
  refine own_st st57 ?_
  refine own_st (g' := (mkF m 51 #[rv t, rv li] [(.int (64 : Int32)), (.ref t)])) (fun tt_ kk_ => XS.aloadN X57.here hx rfl (hb hby own_d6_48) rfl rfl (XS.bipush X57.here hx rfl (hb hby own_d6_49) kk_)) ?_
  obtain ⟨T60, h60, k60, X60, e60, E60, A60, st60⟩ := newP X57 hx hZ (own_w hw 47 rfl) e57 (g := (mkF m 51 #[rv t, rv li] [(.int (64 : Int32)), (.ref t)])) rfl (hb hby own_d6_51) rfl (by decide) (cap := 64) (by decide) (by decide) (by decide) (by decide)
  obtain ⟨b60, g60⟩ : ∃ z, z = h57.size := ⟨_, rfl⟩
  rw [← g60] at A60 st60
  have F62 := ((F48.ext E46).other W57 (Ne.symm ne35))
  have ne61 : b34 ≠ b60 := Nat.ne_of_lt (Nat.lt_of_lt_of_le F62.lt (Nat.le_of_eq g60.symm))
  have F64 := (F59.wr W57)
  have ne63 : t ≠ b60 := Nat.ne_of_lt (Nat.lt_of_lt_of_le F64.lt (Nat.le_of_eq g60.symm))
  have F66 := ((F52.ext E46).other W57 (Ne.symm ne12))
  have ne65 : b11 ≠ b60 := Nat.ne_of_lt (Nat.lt_of_lt_of_le F66.lt (Nat.le_of_eq g60.symm))
  have F68 := ((F54.ext E46).other W57 (Ne.symm ne17))
  have ne67 : b16 ≠ b60 := Nat.ne_of_lt (Nat.lt_of_lt_of_le F68.lt (Nat.le_of_eq g60.symm))
  have F70 := ((F56.ext E46).other W57 (Ne.symm ne25))
  have ne69 : b24 ≠ b60 := Nat.ne_of_lt (Nat.lt_of_lt_of_le F70.lt (Nat.le_of_eq g60.symm))
  have F72 := (P46.other W57 (Ne.symm ne49))
  have ne71 : b46 ≠ b60 := Nat.ne_of_lt (Nat.lt_of_lt_of_le F72.lt (Nat.le_of_eq g60.symm))
  have gz60 : n0 ≤ b60 := Nat.le_trans Z57 (Nat.le_of_eq g60.symm)
  have Z60 : n0 ≤ h60.size := Nat.le_trans Z57 E60.1
  have sz60 : h0.size ≤ b60 := Nat.le_trans K57.1 (Nat.le_of_eq g60.symm)
  have K60 : Keep h0 h60 [t] := K57.ext E60
  have P60 : own_AJ Z h60 b60 64 (fun _ => 0) := own_AJ.new A60 (by decide)
  refine own_st st60 ?_
  have F74 := (((((((((((F_cellValues_t.ext E11).other W13 (Or.inr (own_sn11 hw))).ext E16).other W21 (Or.inr (own_sn12 hw))).ext E24).other W31 (Or.inr (own_sn13 hw))).ext E34).other W43 (Or.inr (own_sn14 hw))).ext E46).other W57 (Or.inr (own_sn15 hw))).ext E60)
  have F75 := (F64.ext E60)
  obtain ⟨T73, h73, X73, e73, W73, st73⟩ := putF X60 hx hZ hown (host := "") (Or.inl (own_w hw 60 rfl)) Via.refl e60 F74 F75 (Or.inl (own_w hw 61 rfl)) (own_w hw 38 rfl) (ty := (.array .long)) (by decide) rfl rfl (g := (mkF m 53 #[rv t, rv li] [(.ref b60), (.ref t)])) rfl rfl (hb hby own_d6_53)
  have N73 := Fr.snoc X73 N57 g_t
  have Z73 : n0 ≤ h73.size := Nat.le_trans Z60 (Keep.of_wr W73).1
  have K73 : Keep h0 h73 [t] := K60.wr W73 (Or.inl (List.mem_of_getElem? (i := 0) rfl))
  have F73 : Fld Z h73 t own_z1 "cellValues" "[J" (.ref b60) := F74.same W73
  refine own_st st73 ?_
  refine own_st (g' := (mkF m 59 #[rv t, rv li] [(.int (64 : Int32)), (.ref t)])) (fun tt_ kk_ => XS.aloadN X73.here hx rfl (hb hby own_d6_56) rfl rfl (XS.bipush X73.here hx rfl (hb hby own_d6_57) kk_)) ?_
  obtain ⟨T76, h76, k76, X76, e76, E76, A76, st76⟩ := newP X73 hx hZ (own_w hw 44 rfl) e73 (g := (mkF m 59 #[rv t, rv li] [(.int (64 : Int32)), (.ref t)])) rfl (hb hby own_d6_59) rfl (by decide) (cap := 64) (by decide) (by decide) (by decide) (by decide)
  obtain ⟨b76, g76⟩ : ∃ z, z = h73.size := ⟨_, rfl⟩
  rw [← g76] at A76 st76
  have F78 := ((F62.ext E60).other W73 (Ne.symm ne35))
  have ne77 : b34 ≠ b76 := Nat.ne_of_lt (Nat.lt_of_lt_of_le F78.lt (Nat.le_of_eq g76.symm))
  have F80 := (F75.wr W73)
  have ne79 : t ≠ b76 := Nat.ne_of_lt (Nat.lt_of_lt_of_le F80.lt (Nat.le_of_eq g76.symm))
  have F82 := ((F66.ext E60).other W73 (Ne.symm ne12))
  have ne81 : b11 ≠ b76 := Nat.ne_of_lt (Nat.lt_of_lt_of_le F82.lt (Nat.le_of_eq g76.symm))
  have F84 := ((F68.ext E60).other W73 (Ne.symm ne17))
  have ne83 : b16 ≠ b76 := Nat.ne_of_lt (Nat.lt_of_lt_of_le F84.lt (Nat.le_of_eq g76.symm))
  have F86 := ((F70.ext E60).other W73 (Ne.symm ne25))
  have ne85 : b24 ≠ b76 := Nat.ne_of_lt (Nat.lt_of_lt_of_le F86.lt (Nat.le_of_eq g76.symm))
  have F88 := ((F72.ext E60).other W73 (Ne.symm ne49))
  have ne87 : b46 ≠ b76 := Nat.ne_of_lt (Nat.lt_of_lt_of_le F88.lt (Nat.le_of_eq g76.symm))
  have F90 := (P60.other W73 (Ne.symm ne63))
  have ne89 : b60 ≠ b76 := Nat.ne_of_lt (Nat.lt_of_lt_of_le F90.lt (Nat.le_of_eq g76.symm))
  have gz76 : n0 ≤ b76 := Nat.le_trans Z73 (Nat.le_of_eq g76.symm)
  have Z76 : n0 ≤ h76.size := Nat.le_trans Z73 E76.1
  have sz76 : h0.size ≤ b76 := Nat.le_trans K73.1 (Nat.le_of_eq g76.symm)
  have K76 : Keep h0 h76 [t] := K73.ext E76
  have P76 : own_AI Z h76 b76 64 (fun _ => 0) := own_AI.new A76 (by decide)
  refine own_st st76 ?_
  have F92 := (((((((((((((F_cellStamps_t.ext E11).other W13 (Or.inr (own_sn16 hw))).ext E16).other W21 (Or.inr (own_sn17 hw))).ext E24).other W31 (Or.inr (own_sn18 hw))).ext E34).other W43 (Or.inr (own_sn19 hw))).ext E46).other W57 (Or.inr (own_sn20 hw))).ext E60).other W73 (Or.inr (own_sn21 hw))).ext E76)
  have F93 := (F80.ext E76)
  obtain ⟨T91, h91, X91, e91, W91, st91⟩ := putF X76 hx hZ hown (host := "") (Or.inl (own_w hw 62 rfl)) Via.refl e76 F92 F93 (Or.inl (own_w hw 63 rfl)) (own_w hw 38 rfl) (ty := (.array .int)) (by decide) rfl rfl (g := (mkF m 61 #[rv t, rv li] [(.ref b76), (.ref t)])) rfl rfl (hb hby own_d6_61)
  have N91 := Fr.snoc X91 N73 g_t
  have Z91 : n0 ≤ h91.size := Nat.le_trans Z76 (Keep.of_wr W91).1
  have K91 : Keep h0 h91 [t] := K76.wr W91 (Or.inl (List.mem_of_getElem? (i := 0) rfl))
  have F91 : Fld Z h91 t own_z1 "cellStamps" "[I" (.ref b76) := F92.same W91
  refine own_st st91 ?_
  refine own_st (g' := (mkF m 67 #[rv t, rv li] [(.int (64 : Int32)), (.ref t)])) (fun tt_ kk_ => XS.aloadN X91.here hx rfl (hb hby own_d6_64) rfl rfl (XS.bipush X91.here hx rfl (hb hby own_d6_65) kk_)) ?_
  obtain ⟨T94, h94, k94, X94, e94, E94, A94, st94⟩ := newP X91 hx hZ (own_w hw 44 rfl) e91 (g := (mkF m 67 #[rv t, rv li] [(.int (64 : Int32)), (.ref t)])) rfl (hb hby own_d6_67) rfl (by decide) (cap := 64) (by decide) (by decide) (by decide) (by decide)
  obtain ⟨b94, g94⟩ : ∃ z, z = h91.size := ⟨_, rfl⟩
  rw [← g94] at A94 st94
  have F96 := ((F78.ext E76).other W91 (Ne.symm ne35))
  have ne95 : b34 ≠ b94 := Nat.ne_of_lt (Nat.lt_of_lt_of_le F96.lt (Nat.le_of_eq g94.symm))
  have F98 := (F93.wr W91)
  have ne97 : t ≠ b94 := Nat.ne_of_lt (Nat.lt_of_lt_of_le F98.lt (Nat.le_of_eq g94.symm))
  have F100 := ((F82.ext E76).other W91 (Ne.symm ne12))
  have ne99 : b11 ≠ b94 := Nat.ne_of_lt (Nat.lt_of_lt_of_le F100.lt (Nat.le_of_eq g94.symm))
  have F102 := ((F84.ext E76).other W91 (Ne.symm ne17))
  have ne101 : b16 ≠ b94 := Nat.ne_of_lt (Nat.lt_of_lt_of_le F102.lt (Nat.le_of_eq g94.symm))
  have F104 := ((F86.ext E76).other W91 (Ne.symm ne25))
  have ne103 : b24 ≠ b94 := Nat.ne_of_lt (Nat.lt_of_lt_of_le F104.lt (Nat.le_of_eq g94.symm))
  have F106 := ((F88.ext E76).other W91 (Ne.symm ne49))
  have ne105 : b46 ≠ b94 := Nat.ne_of_lt (Nat.lt_of_lt_of_le F106.lt (Nat.le_of_eq g94.symm))
  have F108 := ((F90.ext E76).other W91 (Ne.symm ne63))
  have ne107 : b60 ≠ b94 := Nat.ne_of_lt (Nat.lt_of_lt_of_le F108.lt (Nat.le_of_eq g94.symm))
  have F110 := (P76.other W91 (Ne.symm ne79))
  have ne109 : b76 ≠ b94 := Nat.ne_of_lt (Nat.lt_of_lt_of_le F110.lt (Nat.le_of_eq g94.symm))
  have gz94 : n0 ≤ b94 := Nat.le_trans Z91 (Nat.le_of_eq g94.symm)
  have Z94 : n0 ≤ h94.size := Nat.le_trans Z91 E94.1
  have sz94 : h0.size ≤ b94 := Nat.le_trans K91.1 (Nat.le_of_eq g94.symm)
  have K94 : Keep h0 h94 [t] := K91.ext E94
  have P94 : own_AI Z h94 b94 64 (fun _ => 0) := own_AI.new A94 (by decide)
  refine own_st st94 ?_
  have F112 := (((((((((((((((F_worldMarks_t.ext E11).other W13 (Or.inr (own_sn22 hw))).ext E16).other W21 (Or.inr (own_sn23 hw))).ext E24).other W31 (Or.inr (own_sn24 hw))).ext E34).other W43 (Or.inr (own_sn25 hw))).ext E46).other W57 (Or.inr (own_sn26 hw))).ext E60).other W73 (Or.inr (own_sn27 hw))).ext E76).other W91 (Or.inr (own_sn28 hw))).ext E94)
  have F113 := (F98.ext E94)
  obtain ⟨T111, h111, X111, e111, W111, st111⟩ := putF X94 hx hZ hown (host := "") (Or.inl (own_w hw 64 rfl)) Via.refl e94 F112 F113 (Or.inl (own_w hw 65 rfl)) (own_w hw 38 rfl) (ty := (.array .int)) (by decide) rfl rfl (g := (mkF m 69 #[rv t, rv li] [(.ref b94), (.ref t)])) rfl rfl (hb hby own_d6_69)
  have N111 := Fr.snoc X111 N91 g_t
  have Z111 : n0 ≤ h111.size := Nat.le_trans Z94 (Keep.of_wr W111).1
  have K111 : Keep h0 h111 [t] := K94.wr W111 (Or.inl (List.mem_of_getElem? (i := 0) rfl))
  have F111 : Fld Z h111 t own_z1 "worldMarks" "[I" (.ref b94) := F112.same W111
  refine own_st st111 ?_
  refine own_st (g' := (mkF m 75 #[rv t, rv li] [(.int (64 : Int32)), (.ref t)])) (fun tt_ kk_ => XS.aloadN X111.here hx rfl (hb hby own_d6_72) rfl rfl (XS.bipush X111.here hx rfl (hb hby own_d6_73) kk_)) ?_
  obtain ⟨T114, h114, k114, X114, e114, E114, A114, st114⟩ := newP X111 hx hZ (own_w hw 44 rfl) e111 (g := (mkF m 75 #[rv t, rv li] [(.int (64 : Int32)), (.ref t)])) rfl (hb hby own_d6_75) rfl (by decide) (cap := 64) (by decide) (by decide) (by decide) (by decide)
  obtain ⟨b114, g114⟩ : ∃ z, z = h111.size := ⟨_, rfl⟩
  rw [← g114] at A114 st114
  have F116 := ((F96.ext E94).other W111 (Ne.symm ne35))
  have ne115 : b34 ≠ b114 := Nat.ne_of_lt (Nat.lt_of_lt_of_le F116.lt (Nat.le_of_eq g114.symm))
  have F118 := (F113.wr W111)
  have ne117 : t ≠ b114 := Nat.ne_of_lt (Nat.lt_of_lt_of_le F118.lt (Nat.le_of_eq g114.symm))
  have F120 := ((F100.ext E94).other W111 (Ne.symm ne12))
  have ne119 : b11 ≠ b114 := Nat.ne_of_lt (Nat.lt_of_lt_of_le F120.lt (Nat.le_of_eq g114.symm))
  have F122 := ((F102.ext E94).other W111 (Ne.symm ne17))
  have ne121 : b16 ≠ b114 := Nat.ne_of_lt (Nat.lt_of_lt_of_le F122.lt (Nat.le_of_eq g114.symm))
  have F124 := ((F104.ext E94).other W111 (Ne.symm ne25))
  have ne123 : b24 ≠ b114 := Nat.ne_of_lt (Nat.lt_of_lt_of_le F124.lt (Nat.le_of_eq g114.symm))
  have F126 := ((F106.ext E94).other W111 (Ne.symm ne49))
  have ne125 : b46 ≠ b114 := Nat.ne_of_lt (Nat.lt_of_lt_of_le F126.lt (Nat.le_of_eq g114.symm))
  have F128 := ((F108.ext E94).other W111 (Ne.symm ne63))
  have ne127 : b60 ≠ b114 := Nat.ne_of_lt (Nat.lt_of_lt_of_le F128.lt (Nat.le_of_eq g114.symm))
  have F130 := ((F110.ext E94).other W111 (Ne.symm ne79))
  have ne129 : b76 ≠ b114 := Nat.ne_of_lt (Nat.lt_of_lt_of_le F130.lt (Nat.le_of_eq g114.symm))
  have F132 := (P94.other W111 (Ne.symm ne97))
  have ne131 : b94 ≠ b114 := Nat.ne_of_lt (Nat.lt_of_lt_of_le F132.lt (Nat.le_of_eq g114.symm))
  have gz114 : n0 ≤ b114 := Nat.le_trans Z111 (Nat.le_of_eq g114.symm)
  have Z114 : n0 ≤ h114.size := Nat.le_trans Z111 E114.1
  have sz114 : h0.size ≤ b114 := Nat.le_trans K111.1 (Nat.le_of_eq g114.symm)
  have K114 : Keep h0 h114 [t] := K111.ext E114
  have P114 : own_AI Z h114 b114 64 (fun _ => 0) := own_AI.new A114 (by decide)
  refine own_st st114 ?_
  have F134 := (((((((((((((((((F_cellMarks_t.ext E11).other W13 (Or.inr (own_sn29 hw))).ext E16).other W21 (Or.inr (own_sn30 hw))).ext E24).other W31 (Or.inr (own_sn31 hw))).ext E34).other W43 (Or.inr (own_sn32 hw))).ext E46).other W57 (Or.inr (own_sn33 hw))).ext E60).other W73 (Or.inr (own_sn34 hw))).ext E76).other W91 (Or.inr (own_sn35 hw))).ext E94).other W111 (Or.inr (own_sn36 hw))).ext E114)
  have F135 := (F118.ext E114)
  obtain ⟨T133, h133, X133, e133, W133, st133⟩ := putF X114 hx hZ hown (host := "") (Or.inl (own_w hw 66 rfl)) Via.refl e114 F134 F135 (Or.inl (own_w hw 67 rfl)) (own_w hw 38 rfl) (ty := (.array .int)) (by decide) rfl rfl (g := (mkF m 77 #[rv t, rv li] [(.ref b114), (.ref t)])) rfl rfl (hb hby own_d6_77)
  have N133 := Fr.snoc X133 N111 g_t
  have Z133 : n0 ≤ h133.size := Nat.le_trans Z114 (Keep.of_wr W133).1
  have K133 : Keep h0 h133 [t] := K114.wr W133 (Or.inl (List.mem_of_getElem? (i := 0) rfl))
  have F133 : Fld Z h133 t own_z1 "cellMarks" "[I" (.ref b114) := F134.same W133
  refine own_st st133 ?_
  refine own_st (g' := (mkF m 83 #[rv t, rv li] [(.int (65 : Int32)), (.ref t)])) (fun tt_ kk_ => XS.aloadN X133.here hx rfl (hb hby own_d6_80) rfl rfl (XS.bipush X133.here hx rfl (hb hby own_d6_81) kk_)) ?_
  obtain ⟨T136, h136, k136, X136, e136, E136, A136, st136⟩ := newP X133 hx hZ (own_w hw 47 rfl) e133 (g := (mkF m 83 #[rv t, rv li] [(.int (65 : Int32)), (.ref t)])) rfl (hb hby own_d6_83) rfl (by decide) (cap := 65) (by decide) (by decide) (by decide) (by decide)
  obtain ⟨b136, g136⟩ : ∃ z, z = h133.size := ⟨_, rfl⟩
  rw [← g136] at A136 st136
  have F138 := ((F116.ext E114).other W133 (Ne.symm ne35))
  have ne137 : b34 ≠ b136 := Nat.ne_of_lt (Nat.lt_of_lt_of_le F138.lt (Nat.le_of_eq g136.symm))
  have F140 := (F135.wr W133)
  have ne139 : t ≠ b136 := Nat.ne_of_lt (Nat.lt_of_lt_of_le F140.lt (Nat.le_of_eq g136.symm))
  have F142 := ((F120.ext E114).other W133 (Ne.symm ne12))
  have ne141 : b11 ≠ b136 := Nat.ne_of_lt (Nat.lt_of_lt_of_le F142.lt (Nat.le_of_eq g136.symm))
  have F144 := (P114.other W133 (Ne.symm ne117))
  have ne143 : b114 ≠ b136 := Nat.ne_of_lt (Nat.lt_of_lt_of_le F144.lt (Nat.le_of_eq g136.symm))
  have F146 := ((F122.ext E114).other W133 (Ne.symm ne17))
  have ne145 : b16 ≠ b136 := Nat.ne_of_lt (Nat.lt_of_lt_of_le F146.lt (Nat.le_of_eq g136.symm))
  have F148 := ((F124.ext E114).other W133 (Ne.symm ne25))
  have ne147 : b24 ≠ b136 := Nat.ne_of_lt (Nat.lt_of_lt_of_le F148.lt (Nat.le_of_eq g136.symm))
  have F150 := ((F126.ext E114).other W133 (Ne.symm ne49))
  have ne149 : b46 ≠ b136 := Nat.ne_of_lt (Nat.lt_of_lt_of_le F150.lt (Nat.le_of_eq g136.symm))
  have F152 := ((F128.ext E114).other W133 (Ne.symm ne63))
  have ne151 : b60 ≠ b136 := Nat.ne_of_lt (Nat.lt_of_lt_of_le F152.lt (Nat.le_of_eq g136.symm))
  have F154 := ((F130.ext E114).other W133 (Ne.symm ne79))
  have ne153 : b76 ≠ b136 := Nat.ne_of_lt (Nat.lt_of_lt_of_le F154.lt (Nat.le_of_eq g136.symm))
  have F156 := ((F132.ext E114).other W133 (Ne.symm ne97))
  have ne155 : b94 ≠ b136 := Nat.ne_of_lt (Nat.lt_of_lt_of_le F156.lt (Nat.le_of_eq g136.symm))
  have gz136 : n0 ≤ b136 := Nat.le_trans Z133 (Nat.le_of_eq g136.symm)
  have Z136 : n0 ≤ h136.size := Nat.le_trans Z133 E136.1
  have sz136 : h0.size ≤ b136 := Nat.le_trans K133.1 (Nat.le_of_eq g136.symm)
  have K136 : Keep h0 h136 [t] := K133.ext E136
  have P136 : own_AJ Z h136 b136 65 (fun _ => 0) := own_AJ.new A136 (by decide)
  refine own_st st136 ?_
  have F158 := (((((((((((((((((((F_worldNumbers_t.ext E11).other W13 (Or.inr (own_sn37 hw))).ext E16).other W21 (Or.inr (own_sn38 hw))).ext E24).other W31 (Or.inr (own_sn39 hw))).ext E34).other W43 (Or.inr (own_sn40 hw))).ext E46).other W57 (Or.inr (own_sn41 hw))).ext E60).other W73 (Or.inr (own_sn42 hw))).ext E76).other W91 (Or.inr (own_sn43 hw))).ext E94).other W111 (Or.inr (own_sn44 hw))).ext E114).other W133 (Or.inr (own_sn45 hw))).ext E136)
  have F159 := (F140.ext E136)
  obtain ⟨T157, h157, X157, e157, W157, st157⟩ := putF X136 hx hZ hown (host := "") (Or.inl (own_w hw 68 rfl)) Via.refl e136 F158 F159 (Or.inl (own_w hw 69 rfl)) (own_w hw 38 rfl) (ty := (.array .long)) (by decide) rfl rfl (g := (mkF m 85 #[rv t, rv li] [(.ref b136), (.ref t)])) rfl rfl (hb hby own_d6_85)
  have N157 := Fr.snoc X157 N133 g_t
  have Z157 : n0 ≤ h157.size := Nat.le_trans Z136 (Keep.of_wr W157).1
  have K157 : Keep h0 h157 [t] := K136.wr W157 (Or.inl (List.mem_of_getElem? (i := 0) rfl))
  have F157 : Fld Z h157 t own_z1 own_z23 "[J" (.ref b136) := F158.same W157
  refine own_st st157 ?_
  refine own_st (g' := (mkF m 90 #[rv t, rv li] [(.ref li), (.ref t)])) (fun tt_ kk_ => XS.aloadN X157.here hx rfl (hb hby own_d6_88) rfl rfl (XS.aloadN X157.here hx rfl (hb hby own_d6_89) rfl rfl kk_)) ?_
  have F161 := ((((((((((((((((((((F_variables_t.ext E11).other W13 (Or.inr (own_sn46 hw))).ext E16).other W21 (Or.inr (own_sn47 hw))).ext E24).other W31 (Or.inr (own_sn48 hw))).ext E34).other W43 (Or.inr (own_sn49 hw))).ext E46).other W57 (Or.inr (own_sn50 hw))).ext E60).other W73 (Or.inr (own_sn51 hw))).ext E76).other W91 (Or.inr (own_sn52 hw))).ext E94).other W111 (Or.inr (own_sn53 hw))).ext E114).other W133 (Or.inr (own_sn54 hw))).ext E136).other W157 (Or.inr (own_sn55 hw)))
  have F162 := (F159.wr W157)
  obtain ⟨T160, h160, X160, e160, W160, st160⟩ := putF X157 hx hZ hown (host := "") (Or.inl (own_w hw 70 rfl)) Via.refl e157 F161 F162 (Or.inr ⟨(own_w hw 71 rfl), rfl, hnm⟩) (own_w hw 38 rfl) (ty := (.object "java/util/List")) (by decide) rfl rfl (g := (mkF m 90 #[rv t, rv li] [(.ref li), (.ref t)])) rfl rfl (hb hby own_d6_90)
  have N160 := Fr.snoc X160 N157 g_t
  have Z160 : n0 ≤ h160.size := Nat.le_trans Z157 (Keep.of_wr W160).1
  have K160 : Keep h0 h160 [t] := K157.wr W160 (Or.inl (List.mem_of_getElem? (i := 0) rfl))
  have F160 : Fld Z h160 t own_z1 "variables" own_z10 (.ref li) := F161.same W160
  refine own_st st160 ?_
  have F163 := (F162.wr W160)
  have F164 := (((((((((((((((((((((F_depth_t.ext E11).other W13 (Or.inr (own_sn56 hw))).ext E16).other W21 (Or.inr (own_sn57 hw))).ext E24).other W31 (Or.inr (own_sn58 hw))).ext E34).other W43 (Or.inr (own_sn59 hw))).ext E46).other W57 (Or.inr (own_sn60 hw))).ext E60).other W73 (Or.inr (own_sn61 hw))).ext E76).other W91 (Or.inr (own_sn62 hw))).ext E94).other W111 (Or.inr (own_sn63 hw))).ext E114).other W133 (Or.inr (own_sn64 hw))).ext E136).other W157 (Or.inr (own_sn65 hw))).other W160 (Or.inr (own_sn66 hw)))
  have F165 := (((((((((((((((((((((F_entries_t.ext E11).other W13 (Or.inr (own_sn67 hw))).ext E16).other W21 (Or.inr (own_sn68 hw))).ext E24).other W31 (Or.inr (own_sn69 hw))).ext E34).other W43 (Or.inr (own_sn70 hw))).ext E46).other W57 (Or.inr (own_sn71 hw))).ext E60).other W73 (Or.inr (own_sn72 hw))).ext E76).other W91 (Or.inr (own_sn73 hw))).ext E94).other W111 (Or.inr (own_sn74 hw))).ext E114).other W133 (Or.inr (own_sn75 hw))).ext E136).other W157 (Or.inr (own_sn76 hw))).other W160 (Or.inr (own_sn77 hw)))
  have F166 := (((((((((((((((((((F13.ext E16).other W21 (Or.inr (Ne.symm (own_sn1 hw)))).ext E24).other W31 (Or.inr (Ne.symm (own_sn2 hw)))).ext E34).other W43 (Or.inr (Ne.symm (own_sn4 hw)))).ext E46).other W57 (Or.inr (Ne.symm (own_sn7 hw)))).ext E60).other W73 (Or.inr (Ne.symm (own_sn11 hw)))).ext E76).other W91 (Or.inr (Ne.symm (own_sn16 hw)))).ext E94).other W111 (Or.inr (Ne.symm (own_sn22 hw)))).ext E114).other W133 (Or.inr (Ne.symm (own_sn29 hw)))).ext E136).other W157 (Or.inr (Ne.symm (own_sn37 hw)))).other W160 (Or.inr (Ne.symm (own_sn46 hw))))
  have F167 := (((((((((((((((((F21.ext E24).other W31 (Or.inr (Ne.symm (own_sn3 hw)))).ext E34).other W43 (Or.inr (Ne.symm (own_sn5 hw)))).ext E46).other W57 (Or.inr (Ne.symm (own_sn8 hw)))).ext E60).other W73 (Or.inr (Ne.symm (own_sn12 hw)))).ext E76).other W91 (Or.inr (Ne.symm (own_sn17 hw)))).ext E94).other W111 (Or.inr (Ne.symm (own_sn23 hw)))).ext E114).other W133 (Or.inr (Ne.symm (own_sn30 hw)))).ext E136).other W157 (Or.inr (Ne.symm (own_sn38 hw)))).other W160 (Or.inr (Ne.symm (own_sn47 hw))))
  have F168 := (((((((((((((((F31.ext E34).other W43 (Or.inr (Ne.symm (own_sn6 hw)))).ext E46).other W57 (Or.inr (Ne.symm (own_sn9 hw)))).ext E60).other W73 (Or.inr (Ne.symm (own_sn13 hw)))).ext E76).other W91 (Or.inr (Ne.symm (own_sn18 hw)))).ext E94).other W111 (Or.inr (Ne.symm (own_sn24 hw)))).ext E114).other W133 (Or.inr (Ne.symm (own_sn31 hw)))).ext E136).other W157 (Or.inr (Ne.symm (own_sn39 hw)))).other W160 (Or.inr (Ne.symm (own_sn48 hw))))
  have F169 := (((F142.ext E136).other W157 (Ne.symm ne12)).other W160 (Ne.symm ne12))
  have F170 := (((F146.ext E136).other W157 (Ne.symm ne17)).other W160 (Ne.symm ne17))
  have F171 := (((F148.ext E136).other W157 (Ne.symm ne25)).other W160 (Ne.symm ne25))
  exact own_retV X160 hx hlk hret (hb hby own_d6_93) (by decide) (by decide) (by rw [e160]; exact ⟨rfl, N160, K160, b11, b16, b24, F163, F164, F165, F166, F167, F168, F169, F170, F171, ne12, ne17, ne25, ne19, ne27, ne29, sz11, sz16, sz24⟩)
theorem own_d1_0 : own_D own_b1 0 (.aload_n 0) 1 := by decide +kernel
theorem own_d1_1 : own_D own_b1 1 (.invokespecial 1) 3 := by decide +kernel
theorem own_d1_4 : own_D own_b1 4 (.aload_n 0) 1 := by decide +kernel
theorem own_d1_5 : own_D own_b1 5 (.new 7) 3 := by decide +kernel
theorem own_d1_8 : own_D own_b1 8 .dup 1 := by decide +kernel
theorem own_d1_9 : own_D own_b1 9 (.invokespecial 9) 3 := by decide +kernel
theorem own_d1_12 : own_D own_b1 12 (.putfield 10) 3 := by decide +kernel
theorem own_d1_15 : own_D own_b1 15 (.aload_n 0) 1 := by decide +kernel
theorem own_d1_16 : own_D own_b1 16 (.new 7) 3 := by decide +kernel
theorem own_d1_19 : own_D own_b1 19 .dup 1 := by decide +kernel
theorem own_d1_20 : own_D own_b1 20 (.invokespecial 9) 3 := by decide +kernel
theorem own_d1_23 : own_D own_b1 23 (.putfield 16) 3 := by decide +kernel
theorem own_d1_26 : own_D own_b1 26 (.aload_n 0) 1 := by decide +kernel
theorem own_d1_27 : own_D own_b1 27 (.new 19) 3 := by decide +kernel
theorem own_d1_30 : own_D own_b1 30 .dup 1 := by decide +kernel
theorem own_d1_31 : own_D own_b1 31 (.aload_n 0) 1 := by decide +kernel
theorem own_d1_32 : own_D own_b1 32 (.getfield 10) 3 := by decide +kernel
theorem own_d1_35 : own_D own_b1 35 (.invokespecial 21) 3 := by decide +kernel
theorem own_d1_38 : own_D own_b1 38 (.putfield 24) 3 := by decide +kernel
theorem own_d1_41 : own_D own_b1 41 (.aload_n 0) 1 := by decide +kernel
theorem own_d1_42 : own_D own_b1 42 (.iconst 1) 1 := by decide +kernel
theorem own_d1_43 : own_D own_b1 43 (.newarray .int) 2 := by decide +kernel
theorem own_d1_45 : own_D own_b1 45 (.putfield 28) 3 := by decide +kernel
theorem own_d1_48 : own_D own_b1 48 (.aload_n 0) 1 := by decide +kernel
theorem own_d1_49 : own_D own_b1 49 (.iconst (-1)) 1 := by decide +kernel
theorem own_d1_50 : own_D own_b1 50 (.putfield 32) 3 := by decide +kernel
theorem own_d1_53 : own_D own_b1 53 (.aload_n 0) 1 := by decide +kernel
theorem own_d1_54 : own_D own_b1 54 (.getstatic 36) 3 := by decide +kernel
theorem own_d1_57 : own_D own_b1 57 (.putfield 42) 3 := by decide +kernel
theorem own_d1_60 : own_D own_b1 60 .return_ 1 := by decide +kernel
theorem own_pd1 : parseMethodDescriptor "(Ljava/util/List;)V" = some ⟨[(.object "java/util/List")], none⟩ := by decide +kernel
theorem own_pn4 : plainName "com/example/propagule/propagule/Model" = true := by first | (simp [plainName, overriddenIn]; done) | decide +kernel
def own_Qmod (Z : State) (mo : Addr) (dA : Addr) (dn : Addr) (h0 : Heap) (n0 : Nat) (v : Option Value) (h : Heap) (L : List Loc) : Prop := v = none ∧ Fr n0 L ∧ Keep h0 h [mo] ∧ ∃ tr it lt rt : Addr, Exa Z h mo own_z2 ∧ Fld Z h mo own_z2 "trail" own_z7 (.ref tr) ∧ Exa Z h tr own_z1 ∧ Fld Z h tr own_z1 "depth" "I" (.int (0 : Int32)) ∧ Fld Z h tr own_z1 "entries" "I" (.int (0 : Int32)) ∧ Fld Z h tr own_z1 "ints" "[I" (.ref it) ∧ Fld Z h tr own_z1 "longs" "[J" (.ref lt) ∧ Fld Z h tr own_z1 "ranges" "[[I" (.ref rt) ∧ own_AI Z h it 384 (fun _ => 0) ∧ own_AJ Z h lt 128 (fun _ => 0) ∧ own_AR Z h rt 64 ∧ tr ≠ it ∧ tr ≠ lt ∧ tr ≠ rt ∧ it ≠ lt ∧ it ≠ rt ∧ lt ≠ rt ∧ h0.size ≤ it ∧ h0.size ≤ lt ∧ h0.size ≤ rt ∧ h0.size ≤ tr
theorem own_efmod (m : MethodId) (mo : Addr) : entryFrame m #[(.ref mo)] 1 = mkF m 0 #[rv mo] [] := by first | (simp [entryFrame, mkF, argsToLocals, Value.category]; done) | rfl
set_option maxRecDepth 65536 in
set_option maxHeartbeats 16000000 in
theorem own_rmmod (l : Launch) (Z : State) (a0 : Array Value) (hw : own_HW Z a0) (ws : List Jvm.Cond) (mo : Addr) (dA : Addr) (dn : Addr) (h0 : Heap) (n0 : Nat) (Z0 : n0 ≤ h0.size) (E_mo : Exa Z h0 mo own_z2) (F_variables_mo : Fld Z h0 mo own_z2 "variables" own_z10 .null) (F_constraints_mo : Fld Z h0 mo own_z2 "constraints" own_z10 .null) (F_trail_mo : Fld Z h0 mo own_z2 "trail" own_z7 .null) (F_queue_mo : Fld Z h0 mo own_z2 "queue" "[I" .null) (F_running_mo : Fld Z h0 mo own_z2 "running" "I" (.int (0 : Int32))) (F_deadline_mo : Fld Z h0 mo own_z2 "deadline" own_z13 .null) (S_d : Sta Z h0 own_z16 "DEFAULTCAPACITY_EMPTY_ELEMENTDATA" own_z22 (.ref dA)) (S_n : Sta Z h0 own_z28 "NONE" own_z13 (.ref dn)) (g_mo : n0 ≤ mo) :
    MetFree l (⟨own_z2, "<init>", "()V"⟩ : MethodName) (head1 (Jvm.Cond.code (⟨own_z2, "<init>", "()V"⟩ : MethodName) prog_46_method_1_code 1 none :: ws) ({ frames := 4, cells := 14, slots := 1047, locals := 50 } : Room)) (fun aa UU => aa = #[(.ref mo)] ∧ Z.Warmed39 UU.vm ∧ UU.heap = h0) (fun _ _ _ _ _ => True) (fun _ U o U' => ∃ v L, o = .returned v ∧ own_Qmod Z mo dA dn h0 n0 v U'.heap L ∧ FrameEnd U o U' L ({ frames := 4, cells := 14, slots := 1047, locals := 50 } : Room).cells ({ frames := 4, cells := 14, slots := 1047, locals := 50 } : Room).slots) := by
  refine MetFree.of_bodySF (plainFor_of_name own_pn4) hisR ?_
  intro p e s m args below meth c s₁ Bd hml hP hK
  obtain ⟨rfl, hZ, hh⟩ := hP
  have hx := Bd.exec
  have hlk := Bd.notSynchronized
  have hby := Bd.bytes
  have hret := Bd.returns
  have hown := findClass_of_methodNamed Bd.named
  have hnm := (name_of_methodNamed Bd.named Bd.method).1
  have X0 : Stand p l e ({ frames := 4, cells := 14, slots := 1047, locals := 50 } : Room) s m #[(.ref mo)] below meth c s₁ [] 0 0 := Stand.of_body Bd
  have e0 : s₁.heap = h0 := by rw [← hh, Bd.state]; rfl
  have N0 := Fr.nil n0
  refine own_cast (own_efmod m mo) ?_
  show own_Go p e below s s₁ _ (own_Qmod Z mo dA dn h0 n0) 14 1047
  have K0 : Keep h0 h0 [mo] := Keep.refl _ _
  refine own_st (g' := (mkF m 1 #[rv mo] [(.ref mo)])) (fun tt_ kk_ => XS.aloadN X0.here hx rfl (hb hby own_d1_0) rfl rfl kk_) ?_
  obtain ⟨T172, X172, e172, st172⟩ := initO X0 hx hZ hown (own_w hw 6 rfl) (own_w hw 7 rfl) (own_w hw 8 rfl) e0 (g := (mkF m 1 #[rv mo] [(.ref mo)])) rfl (by rw [hml]; rfl) rfl (hb hby own_d1_1) (by decide) (W := 0) (by show 2 * 0 + _ ≤ _; exact Nat.le_of_eq rfl) (by decide)
  refine own_st st172 ?_
  refine own_st (g' := (mkF m 5 #[rv mo] [(.ref mo)])) (fun tt_ kk_ => XS.aloadN X172.here hx rfl (hb hby own_d1_4) rfl rfl kk_) ?_
  obtain ⟨T173, h173, X173, e173, E173, A173, D173, -, st173⟩ := newO X172 hx hZ hown (own_w hw 9 rfl) (own_w hw 10 rfl) (own_w hw 11 rfl) e172 (g := (mkF m 5 #[rv mo] [(.ref mo)])) rfl (hb hby own_d1_5) (by decide) (by decide)
  obtain ⟨b173, g173⟩ : ∃ z, z = h0.size := ⟨_, rfl⟩
  rw [← g173] at A173 D173 st173
  have ne174 : mo ≠ b173 := Nat.ne_of_lt (Nat.lt_of_lt_of_le E_mo.lt (Nat.le_of_eq g173.symm))
  have gz173 : n0 ≤ b173 := Nat.le_trans Z0 (Nat.le_of_eq g173.symm)
  have Z173 : n0 ≤ h173.size := Nat.le_trans Z0 E173.1
  have sz173 : h0.size ≤ b173 := Nat.le_trans K0.1 (Nat.le_of_eq g173.symm)
  have K173 : Keep h0 h173 [mo] := K0.ext E173
  have F_modCount_b173 : Fld Z h173 b173 own_z25 "modCount" "I" (.int (0 : Int32)) := D173 (Or.inl (own_w hw 29 rfl)) (ty := .int) (by decide)
  have F_elementData_b173 : Fld Z h173 b173 own_z16 "elementData" own_z22 .null := D173 (Or.inl (own_w hw 32 rfl)) (ty := (.array (.object "java/lang/Object"))) (by decide)
  refine own_st st173 ?_
  refine own_st (g' := (mkF m 9 #[rv mo] [(.ref b173), (.ref b173), (.ref mo)])) (fun tt_ kk_ => XS.dup X173.here hx rfl (hb hby own_d1_8) rfl rfl kk_) ?_
  have F175 := (S_d.ext E173)
  obtain ⟨_, _, ⟨T176, L176, k176, n176⟩, -, X176, ⟨Lc176, hQ176, l176, y176, z176⟩, st176⟩ := X173.specialBack hx (y := (⟨own_z16, "<init>", "()V"⟩ : MethodName)) rfl hown (mvT hZ (own_w hw 12 rfl)) (mvT hZ (own_w hw 13 rfl)) (mvT hZ (own_w hw 14 rfl)) (by decide) (backOf (W := 2) (own_rmarl l Z a0 hw [] b173 dA h173 n0 Z173 A173 F_modCount_b173 F_elementData_b173 F175 gz173) hZ (own_w hw 14 rfl) (own_w hw 11 rfl) (by decide) (by decide)) (g := (mkF m 9 #[rv mo] [(.ref b173), (.ref b173), (.ref mo)])) rfl (by rw [hml]; rfl) (Steps.refl _) (a := b173) (argsL := []) (rest := [(.ref b173), (.ref mo)]) (lenOf own_pd0 rfl) rfl (by show 2 * 0 + _ ≤ _; exact Nat.le_of_eq rfl) (hb hby own_d1_9) (fun _ _ => ⟨rfl, e173, (by decide : 1 + 0 ≤ _), (by decide : 3 + 0 ≤ _)⟩)
  dsimp only [Pt.U, Pt.locs, Pt.cells, Pt.slots] at X176 l176 y176 z176 st176 hQ176
  rw [l176, y176, z176] at X176
  obtain ⟨rfl, N176q, K176q⟩ := hQ176
  obtain ⟨h176, e176⟩ : ∃ z, T176.heap = z := ⟨_, rfl⟩
  rw [e176] at K176q
  have Z176 : n0 ≤ h176.size := Nat.le_trans Z173 K176q.1
  have K176 : Keep h0 h176 [mo] := K173.trans K176q (allS (P := fun x => x ∈ [mo] ∨ h0.size ≤ x) (Or.inr sz173) all0)
  have N176 := Fr.app N0 N176q
  refine own_st (fun t k => st176.trans k) ?_
  have F178 := ((F_variables_mo.ext E173).keep K176q (ninS ne174 nin0))
  have F179 := ((E_mo.ext E173).keep K176q)
  obtain ⟨T177, h177, X177, e177, W177, st177⟩ := putF X176 hx hZ hown (host := "") (Or.inl (own_w hw 33 rfl)) Via.refl e176 F178 F179 (Or.inr ⟨(own_w hw 34 rfl), rfl, hnm⟩) (own_w hw 1 rfl) (ty := (.object "java/util/List")) (by decide) rfl rfl (g := (mkF m 12 #[rv mo] [(.ref b173), (.ref mo)])) rfl rfl (hb hby own_d1_12)
  have N177 := Fr.snoc X177 N176 g_mo
  have Z177 : n0 ≤ h177.size := Nat.le_trans Z176 (Keep.of_wr W177).1
  have K177 : Keep h0 h177 [mo] := K176.wr W177 (Or.inl (List.mem_of_getElem? (i := 0) rfl))
  have F177 : Fld Z h177 mo own_z2 "variables" own_z10 (.ref b173) := F178.same W177
  refine own_st st177 ?_
  refine own_st (g' := (mkF m 16 #[rv mo] [(.ref mo)])) (fun tt_ kk_ => XS.aloadN X177.here hx rfl (hb hby own_d1_15) rfl rfl kk_) ?_
  obtain ⟨T180, h180, X180, e180, E180, A180, D180, -, st180⟩ := newO X177 hx hZ hown (own_w hw 9 rfl) (own_w hw 10 rfl) (own_w hw 11 rfl) e177 (g := (mkF m 16 #[rv mo] [(.ref mo)])) rfl (hb hby own_d1_16) (by decide) (by decide)
  obtain ⟨b180, g180⟩ : ∃ z, z = h177.size := ⟨_, rfl⟩
  rw [← g180] at A180 D180 st180
  have F182 := ((A173.keep K176q).wr W177)
  have ne181 : b173 ≠ b180 := Nat.ne_of_lt (Nat.lt_of_lt_of_le F182.lt (Nat.le_of_eq g180.symm))
  have F184 := (F179.wr W177)
  have ne183 : mo ≠ b180 := Nat.ne_of_lt (Nat.lt_of_lt_of_le F184.lt (Nat.le_of_eq g180.symm))
  have gz180 : n0 ≤ b180 := Nat.le_trans Z177 (Nat.le_of_eq g180.symm)
  have Z180 : n0 ≤ h180.size := Nat.le_trans Z177 E180.1
  have sz180 : h0.size ≤ b180 := Nat.le_trans K177.1 (Nat.le_of_eq g180.symm)
  have K180 : Keep h0 h180 [mo] := K177.ext E180
  have F_modCount_b180 : Fld Z h180 b180 own_z25 "modCount" "I" (.int (0 : Int32)) := D180 (Or.inl (own_w hw 29 rfl)) (ty := .int) (by decide)
  have F_elementData_b180 : Fld Z h180 b180 own_z16 "elementData" own_z22 .null := D180 (Or.inl (own_w hw 32 rfl)) (ty := (.array (.object "java/lang/Object"))) (by decide)
  refine own_st st180 ?_
  refine own_st (g' := (mkF m 20 #[rv mo] [(.ref b180), (.ref b180), (.ref mo)])) (fun tt_ kk_ => XS.dup X180.here hx rfl (hb hby own_d1_19) rfl rfl kk_) ?_
  have F185 := (((own_Sta_keep F175 A173 K176q).wr W177).ext E180)
  obtain ⟨_, _, ⟨T186, L186, k186, n186⟩, -, X186, ⟨Lc186, hQ186, l186, y186, z186⟩, st186⟩ := X180.specialBack hx (y := (⟨own_z16, "<init>", "()V"⟩ : MethodName)) rfl hown (mvT hZ (own_w hw 12 rfl)) (mvT hZ (own_w hw 13 rfl)) (mvT hZ (own_w hw 14 rfl)) (by decide) (backOf (W := 2) (own_rmarl l Z a0 hw [] b180 dA h180 n0 Z180 A180 F_modCount_b180 F_elementData_b180 F185 gz180) hZ (own_w hw 14 rfl) (own_w hw 11 rfl) (by decide) (by decide)) (g := (mkF m 20 #[rv mo] [(.ref b180), (.ref b180), (.ref mo)])) rfl (by rw [hml]; rfl) (Steps.refl _) (a := b180) (argsL := []) (rest := [(.ref b180), (.ref mo)]) (lenOf own_pd0 rfl) rfl (by show 2 * 0 + _ ≤ _; exact Nat.le_of_eq rfl) (hb hby own_d1_20) (fun _ _ => ⟨rfl, e180, (by decide : 2 + 0 ≤ _), (by decide : 6 + 0 ≤ _)⟩)
  dsimp only [Pt.U, Pt.locs, Pt.cells, Pt.slots] at X186 l186 y186 z186 st186 hQ186
  rw [l186, y186, z186] at X186
  obtain ⟨rfl, N186q, K186q⟩ := hQ186
  obtain ⟨h186, e186⟩ : ∃ z, T186.heap = z := ⟨_, rfl⟩
  rw [e186] at K186q
  have Z186 : n0 ≤ h186.size := Nat.le_trans Z180 K186q.1
  have K186 : Keep h0 h186 [mo] := K180.trans K186q (allS (P := fun x => x ∈ [mo] ∨ h0.size ≤ x) (Or.inr sz180) all0)
  have N186 := Fr.app N177 N186q
  refine own_st (fun t k => st186.trans k) ?_
  have F188 := (((((F_constraints_mo.ext E173).keep K176q (ninS ne174 nin0)).other W177 (Or.inr (own_sn78 hw))).ext E180).keep K186q (ninS ne183 nin0))
  have F189 := ((F184.ext E180).keep K186q)
  obtain ⟨T187, h187, X187, e187, W187, st187⟩ := putF X186 hx hZ hown (host := "") (Or.inl (own_w hw 35 rfl)) Via.refl e186 F188 F189 (Or.inr ⟨(own_w hw 36 rfl), rfl, hnm⟩) (own_w hw 1 rfl) (ty := (.object "java/util/List")) (by decide) rfl rfl (g := (mkF m 23 #[rv mo] [(.ref b180), (.ref mo)])) rfl rfl (hb hby own_d1_23)
  have N187 := Fr.snoc X187 N186 g_mo
  have Z187 : n0 ≤ h187.size := Nat.le_trans Z186 (Keep.of_wr W187).1
  have K187 : Keep h0 h187 [mo] := K186.wr W187 (Or.inl (List.mem_of_getElem? (i := 0) rfl))
  have F187 : Fld Z h187 mo own_z2 "constraints" own_z10 (.ref b180) := F188.same W187
  refine own_st st187 ?_
  refine own_st (g' := (mkF m 27 #[rv mo] [(.ref mo)])) (fun tt_ kk_ => XS.aloadN X187.here hx rfl (hb hby own_d1_26) rfl rfl kk_) ?_
  obtain ⟨T190, h190, X190, e190, E190, A190, D190, -, st190⟩ := newO X187 hx hZ hown (own_w hw 37 rfl) (own_w hw 38 rfl) (own_w hw 39 rfl) e187 (g := (mkF m 27 #[rv mo] [(.ref mo)])) rfl (hb hby own_d1_27) (by decide) (by decide)
  obtain ⟨b190, g190⟩ : ∃ z, z = h187.size := ⟨_, rfl⟩
  rw [← g190] at A190 D190 st190
  have F192 := (((F182.ext E180).keep K186q).wr W187)
  have ne191 : b173 ≠ b190 := Nat.ne_of_lt (Nat.lt_of_lt_of_le F192.lt (Nat.le_of_eq g190.symm))
  have F194 := ((A180.keep K186q).wr W187)
  have ne193 : b180 ≠ b190 := Nat.ne_of_lt (Nat.lt_of_lt_of_le F194.lt (Nat.le_of_eq g190.symm))
  have F196 := (F189.wr W187)
  have ne195 : mo ≠ b190 := Nat.ne_of_lt (Nat.lt_of_lt_of_le F196.lt (Nat.le_of_eq g190.symm))
  have gz190 : n0 ≤ b190 := Nat.le_trans Z187 (Nat.le_of_eq g190.symm)
  have Z190 : n0 ≤ h190.size := Nat.le_trans Z187 E190.1
  have sz190 : h0.size ≤ b190 := Nat.le_trans K187.1 (Nat.le_of_eq g190.symm)
  have K190 : Keep h0 h190 [mo] := K187.ext E190
  have F_ints_b190 : Fld Z h190 b190 own_z1 "ints" "[I" .null := D190 (Or.inl (own_w hw 46 rfl)) (ty := (.array .int)) (by decide)
  have F_longs_b190 : Fld Z h190 b190 own_z1 "longs" "[J" .null := D190 (Or.inl (own_w hw 49 rfl)) (ty := (.array .long)) (by decide)
  have F_ranges_b190 : Fld Z h190 b190 own_z1 "ranges" "[[I" .null := D190 (Or.inl (own_w hw 53 rfl)) (ty := (.array (.array .int))) (by decide)
  have F_cellOwners_b190 : Fld Z h190 b190 own_z1 "cellOwners" own_z8 .null := D190 (Or.inl (own_w hw 57 rfl)) (ty := (.array (.object "com/example/propagule/propagule/ReversibleLongs"))) (by decide)
  have F_cellIndexes_b190 : Fld Z h190 b190 own_z1 own_z24 "[I" .null := D190 (Or.inl (own_w hw 59 rfl)) (ty := (.array .int)) (by decide)
  have F_cellValues_b190 : Fld Z h190 b190 own_z1 "cellValues" "[J" .null := D190 (Or.inl (own_w hw 61 rfl)) (ty := (.array .long)) (by decide)
  have F_cellStamps_b190 : Fld Z h190 b190 own_z1 "cellStamps" "[I" .null := D190 (Or.inl (own_w hw 63 rfl)) (ty := (.array .int)) (by decide)
  have F_worldMarks_b190 : Fld Z h190 b190 own_z1 "worldMarks" "[I" .null := D190 (Or.inl (own_w hw 65 rfl)) (ty := (.array .int)) (by decide)
  have F_cellMarks_b190 : Fld Z h190 b190 own_z1 "cellMarks" "[I" .null := D190 (Or.inl (own_w hw 67 rfl)) (ty := (.array .int)) (by decide)
  have F_worldNumbers_b190 : Fld Z h190 b190 own_z1 own_z23 "[J" .null := D190 (Or.inl (own_w hw 69 rfl)) (ty := (.array .long)) (by decide)
  have F_variables_b190 : Fld Z h190 b190 own_z1 "variables" own_z10 .null := D190 (Or.inr (own_w hw 71 rfl)) (ty := (.object "java/util/List")) (by decide)
  have F_depth_b190 : Fld Z h190 b190 own_z1 "depth" "I" (.int (0 : Int32)) := D190 (Or.inl (own_w hw 187 rfl)) (ty := .int) (by decide)
  have F_entries_b190 : Fld Z h190 b190 own_z1 "entries" "I" (.int (0 : Int32)) := D190 (Or.inl (own_w hw 194 rfl)) (ty := .int) (by decide)
  refine own_st st190 ?_
  refine own_st (g' := (mkF m 32 #[rv mo] [(.ref mo), (.ref b190), (.ref b190), (.ref mo)])) (fun tt_ kk_ => XS.dup X190.here hx rfl (hb hby own_d1_30) rfl rfl (XS.aloadN X190.here hx rfl (hb hby own_d1_31) rfl rfl kk_)) ?_
  have F198 := ((((F177.ext E180).keep K186q (ninS ne183 nin0)).other W187 (Or.inr (Ne.symm (own_sn78 hw)))).ext E190)
  refine own_gG X190 hx hZ hown (own_w hw 33 rfl) e190 F198 rfl rfl (hb hby own_d1_32) (fun {T197} X197 e197 => ?_)
  have F199 := (F196.ext E190)
  have F200 := (F194.ext E190)
  have F201 := (F192.ext E190)
  obtain ⟨_, _, ⟨T202, L202, k202, n202⟩, -, X202, ⟨Lc202, hQ202, l202, y202, z202⟩, st202⟩ := X197.specialBack hx (y := (⟨own_z1, "<init>", "(Ljava/util/List;)V"⟩ : MethodName)) rfl hown (mvT hZ (own_w hw 40 rfl)) (mvT hZ (own_w hw 41 rfl)) (mvT hZ (own_w hw 42 rfl)) (by decide) (backOf (W := 2) (own_rmtri l Z a0 hw [] b190 b173 h190 n0 Z190 A190 F_ints_b190 F_longs_b190 F_ranges_b190 F_cellOwners_b190 F_cellIndexes_b190 F_cellValues_b190 F_cellStamps_b190 F_worldMarks_b190 F_cellMarks_b190 F_worldNumbers_b190 F_variables_b190 F_depth_b190 F_entries_b190 gz190) hZ (own_w hw 42 rfl) (own_w hw 39 rfl) (by decide) (by decide)) (g := (mkF m 35 #[rv mo] [(.ref b173), (.ref b190), (.ref b190), (.ref mo)])) rfl (by rw [hml]; rfl) (Steps.refl _) (a := b190) (argsL := [(.ref b173)]) (rest := [(.ref b190), (.ref mo)]) (lenOf own_pd1 rfl) rfl (by show 2 * 0 + _ ≤ _; exact Nat.le_of_eq rfl) (hb hby own_d1_35) (fun _ _ => ⟨rfl, e197, (by decide : 3 + 10 ≤ _), (by decide : 21 + 1025 ≤ _)⟩)
  dsimp only [Pt.U, Pt.locs, Pt.cells, Pt.slots] at X202 l202 y202 z202 st202 hQ202
  rw [l202, y202, z202] at X202
  obtain ⟨rfl, N202q, K202q, it_202, lt_202, rt_202, f202_0, f202_1, f202_2, f202_3, f202_4, f202_5, f202_6, f202_7, f202_8, f202_9, f202_10, f202_11, f202_12, f202_13, f202_14, f202_15, f202_16, f202_17⟩ := hQ202
  obtain ⟨h202, e202⟩ : ∃ z, T202.heap = z := ⟨_, rfl⟩
  rw [e202] at K202q f202_0 f202_1 f202_2 f202_3 f202_4 f202_5 f202_6 f202_7 f202_8
  have Z202 : n0 ≤ h202.size := Nat.le_trans Z190 K202q.1
  have K202 : Keep h0 h202 [mo] := K190.trans K202q (allS (P := fun x => x ∈ [mo] ∨ h0.size ≤ x) (Or.inr sz190) all0)
  have ne203 : b173 ≠ it_202 := Nat.ne_of_lt (Nat.lt_of_lt_of_le F201.lt f202_15)
  have ne204 : b180 ≠ it_202 := Nat.ne_of_lt (Nat.lt_of_lt_of_le F200.lt f202_15)
  have ne205 : b190 ≠ it_202 := Nat.ne_of_lt (Nat.lt_of_lt_of_le A190.lt f202_15)
  have ne206 : mo ≠ it_202 := Nat.ne_of_lt (Nat.lt_of_lt_of_le F199.lt f202_15)
  have gx207 : n0 ≤ it_202 := Nat.le_trans Z190 f202_15
  have sx208 : h0.size ≤ it_202 := Nat.le_trans K190.1 f202_15
  have ne209 : b173 ≠ lt_202 := Nat.ne_of_lt (Nat.lt_of_lt_of_le F201.lt f202_16)
  have ne210 : b180 ≠ lt_202 := Nat.ne_of_lt (Nat.lt_of_lt_of_le F200.lt f202_16)
  have ne211 : b190 ≠ lt_202 := Nat.ne_of_lt (Nat.lt_of_lt_of_le A190.lt f202_16)
  have ne212 : mo ≠ lt_202 := Nat.ne_of_lt (Nat.lt_of_lt_of_le F199.lt f202_16)
  have gx213 : n0 ≤ lt_202 := Nat.le_trans Z190 f202_16
  have sx214 : h0.size ≤ lt_202 := Nat.le_trans K190.1 f202_16
  have ne215 : b173 ≠ rt_202 := Nat.ne_of_lt (Nat.lt_of_lt_of_le F201.lt f202_17)
  have ne216 : b180 ≠ rt_202 := Nat.ne_of_lt (Nat.lt_of_lt_of_le F200.lt f202_17)
  have ne217 : b190 ≠ rt_202 := Nat.ne_of_lt (Nat.lt_of_lt_of_le A190.lt f202_17)
  have ne218 : mo ≠ rt_202 := Nat.ne_of_lt (Nat.lt_of_lt_of_le F199.lt f202_17)
  have gx219 : n0 ≤ rt_202 := Nat.le_trans Z190 f202_17
  have sx220 : h0.size ≤ rt_202 := Nat.le_trans K190.1 f202_17
  have N202 := Fr.app N187 N202q
  refine own_st (fun t k => st202.trans k) ?_
  have F222 := ((((((((F_trail_mo.ext E173).keep K176q (ninS ne174 nin0)).other W177 (Or.inr (own_sn79 hw))).ext E180).keep K186q (ninS ne183 nin0)).other W187 (Or.inr (own_sn80 hw))).ext E190).keep K202q (ninS ne195 nin0))
  have F223 := (F199.keep K202q)
  obtain ⟨T221, h221, X221, e221, W221, st221⟩ := putF X202 hx hZ hown (host := "") (Or.inl (own_w hw 72 rfl)) Via.refl e202 F222 F223 (Or.inr ⟨(own_w hw 73 rfl), rfl, hnm⟩) (own_w hw 1 rfl) (ty := (.object own_z1)) (by decide) rfl rfl (g := (mkF m 38 #[rv mo] [(.ref b190), (.ref mo)])) rfl rfl (hb hby own_d1_38)
  have N221 := Fr.snoc X221 N202 g_mo
  have Z221 : n0 ≤ h221.size := Nat.le_trans Z202 (Keep.of_wr W221).1
  have K221 : Keep h0 h221 [mo] := K202.wr W221 (Or.inl (List.mem_of_getElem? (i := 0) rfl))
  have F221 : Fld Z h221 mo own_z2 "trail" own_z7 (.ref b190) := F222.same W221
  refine own_st st221 ?_
  refine own_st (g' := (mkF m 43 #[rv mo] [(.int (1 : Int32)), (.ref mo)])) (fun tt_ kk_ => XS.aloadN X221.here hx rfl (hb hby own_d1_41) rfl rfl (XS.iconst X221.here hx rfl (hb hby own_d1_42) kk_)) ?_
  obtain ⟨T224, h224, k224, X224, e224, E224, A224, st224⟩ := newP X221 hx hZ (own_w hw 44 rfl) e221 (g := (mkF m 43 #[rv mo] [(.int (1 : Int32)), (.ref mo)])) rfl (hb hby own_d1_43) rfl (by decide) (cap := 1) (by decide) (by decide) (by decide) (by decide)
  obtain ⟨b224, g224⟩ : ∃ z, z = h221.size := ⟨_, rfl⟩
  rw [← g224] at A224 st224
  have F226 := ((F201.keep K202q).wr W221)
  have ne225 : b173 ≠ b224 := Nat.ne_of_lt (Nat.lt_of_lt_of_le F226.lt (Nat.le_of_eq g224.symm))
  have F228 := ((F200.keep K202q).wr W221)
  have ne227 : b180 ≠ b224 := Nat.ne_of_lt (Nat.lt_of_lt_of_le F228.lt (Nat.le_of_eq g224.symm))
  have F230 := (f202_0.wr W221)
  have ne229 : b190 ≠ b224 := Nat.ne_of_lt (Nat.lt_of_lt_of_le F230.lt (Nat.le_of_eq g224.symm))
  have F232 := (F223.wr W221)
  have ne231 : mo ≠ b224 := Nat.ne_of_lt (Nat.lt_of_lt_of_le F232.lt (Nat.le_of_eq g224.symm))
  have F234 := (f202_6.other W221 (Ne.symm ne206))
  have ne233 : it_202 ≠ b224 := Nat.ne_of_lt (Nat.lt_of_lt_of_le F234.lt (Nat.le_of_eq g224.symm))
  have F236 := (f202_7.other W221 (Ne.symm ne212))
  have ne235 : lt_202 ≠ b224 := Nat.ne_of_lt (Nat.lt_of_lt_of_le F236.lt (Nat.le_of_eq g224.symm))
  have F238 := (f202_8.other W221 (Ne.symm ne218))
  have ne237 : rt_202 ≠ b224 := Nat.ne_of_lt (Nat.lt_of_lt_of_le F238.lt (Nat.le_of_eq g224.symm))
  have gz224 : n0 ≤ b224 := Nat.le_trans Z221 (Nat.le_of_eq g224.symm)
  have Z224 : n0 ≤ h224.size := Nat.le_trans Z221 E224.1
  have sz224 : h0.size ≤ b224 := Nat.le_trans K221.1 (Nat.le_of_eq g224.symm)
  have K224 : Keep h0 h224 [mo] := K221.ext E224
  have P224 : own_AI Z h224 b224 1 (fun _ => 0) := own_AI.new A224 (by decide)
  refine own_st st224 ?_
  have F240 := ((((((((((F_queue_mo.ext E173).keep K176q (ninS ne174 nin0)).other W177 (Or.inr (own_sn81 hw))).ext E180).keep K186q (ninS ne183 nin0)).other W187 (Or.inr (own_sn82 hw))).ext E190).keep K202q (ninS ne195 nin0)).other W221 (Or.inr (own_sn83 hw))).ext E224)
  have F241 := (F232.ext E224)
  obtain ⟨T239, h239, X239, e239, W239, st239⟩ := putF X224 hx hZ hown (host := "") (Or.inl (own_w hw 74 rfl)) Via.refl e224 F240 F241 (Or.inl (own_w hw 75 rfl)) (own_w hw 1 rfl) (ty := (.array .int)) (by decide) rfl rfl (g := (mkF m 45 #[rv mo] [(.ref b224), (.ref mo)])) rfl rfl (hb hby own_d1_45)
  have N239 := Fr.snoc X239 N221 g_mo
  have Z239 : n0 ≤ h239.size := Nat.le_trans Z224 (Keep.of_wr W239).1
  have K239 : Keep h0 h239 [mo] := K224.wr W239 (Or.inl (List.mem_of_getElem? (i := 0) rfl))
  have F239 : Fld Z h239 mo own_z2 "queue" "[I" (.ref b224) := F240.same W239
  refine own_st st239 ?_
  refine own_st (g' := (mkF m 50 #[rv mo] [(.int (-1 : Int32)), (.ref mo)])) (fun tt_ kk_ => XS.aloadN X239.here hx rfl (hb hby own_d1_48) rfl rfl (XS.iconst X239.here hx rfl (hb hby own_d1_49) kk_)) ?_
  have F243 := (((((((((((F_running_mo.ext E173).keep K176q (ninS ne174 nin0)).other W177 (Or.inr (own_sn84 hw))).ext E180).keep K186q (ninS ne183 nin0)).other W187 (Or.inr (own_sn85 hw))).ext E190).keep K202q (ninS ne195 nin0)).other W221 (Or.inr (own_sn86 hw))).ext E224).other W239 (Or.inr (own_sn87 hw)))
  have F244 := (F241.wr W239)
  obtain ⟨T242, h242, X242, e242, W242, st242⟩ := putF X239 hx hZ hown (host := "") (Or.inl (own_w hw 76 rfl)) Via.refl e239 F243 F244 (Or.inl (own_w hw 77 rfl)) (own_w hw 1 rfl) (ty := .int) (by decide) rfl rfl (g := (mkF m 50 #[rv mo] [(.int (-1 : Int32)), (.ref mo)])) rfl rfl (hb hby own_d1_50)
  have N242 := Fr.snoc X242 N239 g_mo
  have Z242 : n0 ≤ h242.size := Nat.le_trans Z239 (Keep.of_wr W242).1
  have K242 : Keep h0 h242 [mo] := K239.wr W242 (Or.inl (List.mem_of_getElem? (i := 0) rfl))
  have F242 : Fld Z h242 mo own_z2 "running" "I" (.int (-1 : Int32)) := F243.same W242
  refine own_st st242 ?_
  refine own_st (g' := (mkF m 54 #[rv mo] [(.ref mo)])) (fun tt_ kk_ => XS.aloadN X242.here hx rfl (hb hby own_d1_53) rfl rfl kk_) ?_
  have F246 := (((((own_Sta_keep (((own_Sta_keep (((own_Sta_keep (S_n.ext E173) A173 K176q).wr W177).ext E180) A180 K186q).wr W187).ext E190) A190 K202q).wr W221).ext E224).wr W239).wr W242)
  obtain ⟨T245, X245, e245, st245⟩ := getS2 X242 hx hZ hown (host := "") (Or.inl (own_w hw 78 rfl)) Via.refl e242 F246 (g := (mkF m 54 #[rv mo] [(.ref mo)])) rfl (hb hby own_d1_54)
  refine own_st st245 ?_
  have F248 := ((((((((((((F_deadline_mo.ext E173).keep K176q (ninS ne174 nin0)).other W177 (Or.inr (own_sn88 hw))).ext E180).keep K186q (ninS ne183 nin0)).other W187 (Or.inr (own_sn89 hw))).ext E190).keep K202q (ninS ne195 nin0)).other W221 (Or.inr (own_sn90 hw))).ext E224).other W239 (Or.inr (own_sn91 hw))).other W242 (Or.inr (own_sn92 hw)))
  have F249 := (F244.wr W242)
  obtain ⟨T247, h247, X247, e247, W247, st247⟩ := putF X245 hx hZ hown (host := "") (Or.inl (own_w hw 81 rfl)) Via.refl e245 F248 F249 (Or.inl (own_w hw 82 rfl)) (own_w hw 1 rfl) (ty := (.object own_z28)) (by decide) rfl rfl (g := (mkF m 57 #[rv mo] [(.ref dn), (.ref mo)])) rfl rfl (hb hby own_d1_57)
  have N247 := Fr.snoc X247 N242 g_mo
  have Z247 : n0 ≤ h247.size := Nat.le_trans Z242 (Keep.of_wr W247).1
  have K247 : Keep h0 h247 [mo] := K242.wr W247 (Or.inl (List.mem_of_getElem? (i := 0) rfl))
  have F247 : Fld Z h247 mo own_z2 "deadline" own_z13 (.ref dn) := F248.same W247
  refine own_st st247 ?_
  have F250 := (F249.wr W247)
  have F251 := ((((F221.ext E224).other W239 (Or.inr (Ne.symm (own_sn83 hw)))).other W242 (Or.inr (Ne.symm (own_sn86 hw)))).other W247 (Or.inr (Ne.symm (own_sn90 hw))))
  have F252 := ((((F230.ext E224).wr W239).wr W242).wr W247)
  have F253 := (((((f202_1.other W221 (Or.inl (Ne.symm ne195))).ext E224).other W239 (Or.inl (Ne.symm ne195))).other W242 (Or.inl (Ne.symm ne195))).other W247 (Or.inl (Ne.symm ne195)))
  have F254 := (((((f202_2.other W221 (Or.inl (Ne.symm ne195))).ext E224).other W239 (Or.inl (Ne.symm ne195))).other W242 (Or.inl (Ne.symm ne195))).other W247 (Or.inl (Ne.symm ne195)))
  have F255 := (((((f202_3.other W221 (Or.inl (Ne.symm ne195))).ext E224).other W239 (Or.inl (Ne.symm ne195))).other W242 (Or.inl (Ne.symm ne195))).other W247 (Or.inl (Ne.symm ne195)))
  have F256 := (((((f202_4.other W221 (Or.inl (Ne.symm ne195))).ext E224).other W239 (Or.inl (Ne.symm ne195))).other W242 (Or.inl (Ne.symm ne195))).other W247 (Or.inl (Ne.symm ne195)))
  have F257 := (((((f202_5.other W221 (Or.inl (Ne.symm ne195))).ext E224).other W239 (Or.inl (Ne.symm ne195))).other W242 (Or.inl (Ne.symm ne195))).other W247 (Or.inl (Ne.symm ne195)))
  have F258 := ((((F234.ext E224).other W239 (Ne.symm ne206)).other W242 (Ne.symm ne206)).other W247 (Ne.symm ne206))
  have F259 := ((((F236.ext E224).other W239 (Ne.symm ne212)).other W242 (Ne.symm ne212)).other W247 (Ne.symm ne212))
  have F260 := ((((F238.ext E224).other W239 (Ne.symm ne218)).other W242 (Ne.symm ne218)).other W247 (Ne.symm ne218))
  exact own_retV X247 hx hlk hret (hb hby own_d1_60) (by decide) (by decide) (by rw [e247]; exact ⟨rfl, N247, K247, b190, it_202, lt_202, rt_202, F250, F251, F252, F253, F254, F255, F256, F257, F258, F259, F260, ne205, ne211, ne217, f202_12, f202_13, f202_14, sx208, sx214, sx220, sz190⟩)
theorem own_d21_0 : own_D own_b21 0 (.iload_n 0) 1 := by decide +kernel
theorem own_d21_1 : own_D own_b21 1 (.iload_n 1) 1 := by decide +kernel
theorem own_d21_2 : own_D own_b21 2 (.if_icmp .gt 7) 3 := by decide +kernel
theorem own_d21_5 : own_D own_b21 5 (.iload_n 0) 1 := by decide +kernel
theorem own_d21_6 : own_D own_b21 6 (.goto 4) 3 := by decide +kernel
theorem own_d21_9 : own_D own_b21 9 (.iload_n 1) 1 := by decide +kernel
theorem own_d21_10 : own_D own_b21 10 .ireturn 1 := by decide +kernel
def own_f21_0 (x0 : Int32) (x1 : Int32) : Int32 := (if x1 < x0 then x1 else x0)
set_option maxRecDepth 65536 in
set_option maxHeartbeats 4000000 in
theorem own_b21_0 {p : Program} {l : Launch} {e : Env} {s : State} {m : MethodId} {args : Array Value} {below : List Frame} {meth : Method} {c : Code} {T : State} {locs : List Loc} {cells slots : Nat} {Z : State} {a0 : Array Value} {h0 : Heap} {n0 : Nat} (X0 : Stand p l e ({ frames := 0, cells := 0, slots := 0, locals := 0 } : Room) s m args below meth c T locs cells slots) (hx : p.tables.exec = Jvm.exec) (hlk : meth.locks = false) (hby : c.code = jdk_29_method_69_code) (hml : c.maxLocals = 2) (hret : meth.sig.returnType = some .int) (hown : s.vm.findClass "java/lang/Math" = some m.cls) (hZ : Z.Warmed39 s.vm) (hw : own_HW Z a0) (e0 : T.heap = h0) (N0 : Fr n0 locs) (hcs : cells ≤ 0) (hss : slots ≤ 0) (x0 : Int32) (x1 : Int32) :
    own_Go p e below s T (mkF m 0 #[iv x0, iv x1] []) (own_QP (.int (own_f21_0 x0 x1)) h0 n0) 0 0 := by
  unfold own_f21_0
  refine own_st (g' := (mkF m 2 #[iv x0, iv x1] [(.int x1), (.int x0)])) (fun tt_ kk_ => XS.iloadN X0.here hx rfl (hb hby own_d21_0) rfl (XS.iloadN X0.here hx rfl (hb hby own_d21_1) rfl kk_)) ?_
  by_cases hc2 : x1 < x0
  · rw [if_pos hc2]
    refine own_st (g' := (mkF m 10 #[iv x0, iv x1] [(.int x1)])) (fun tt_ kk_ => XS.icmpYes X0.here hx rfl (pc0 := 2) (pc' := 9) rfl (hb hby own_d21_2) rfl (tlt hc2).2.2.1 (by decide) (by decide) (XS.iloadN X0.here hx rfl (hb hby own_d21_9) rfl kk_)) ?_
    exact own_retI X0 hx hlk hret (hb hby own_d21_10) hcs hss ⟨rfl, N0, e0⟩
  rw [if_neg hc2]
  refine own_st (g' := (mkF m 10 #[iv x0, iv x1] [(.int x0)])) (fun tt_ kk_ => XS.icmpNo X0.here hx rfl (hb hby own_d21_2) rfl (flt hc2).2.2.1 (XS.iloadN X0.here hx rfl (hb hby own_d21_5) rfl (XS.goto X0.here hx rfl (pc0 := 6) (pc' := 10) rfl (hb hby own_d21_6) (by decide) (by decide) kk_))) ?_
  exact own_retI X0 hx hlk hret (hb hby own_d21_10) hcs hss ⟨rfl, N0, e0⟩
theorem own_ef21 (m : MethodId) (x0 : Int32) (x1 : Int32) : entryFrame m #[(.int x0), (.int x1)] 2 = mkF m 0 #[iv x0, iv x1] [] := by first | (simp [entryFrame, mkF, argsToLocals, Value.category]; done) | rfl
set_option maxRecDepth 65536 in
set_option maxHeartbeats 4000000 in
theorem own_rm21 (l : Launch) (Z : State) (a0 : Array Value) (hw : own_HW Z a0) (ws : List Jvm.Cond) (x0 : Int32) (x1 : Int32) (h0 : Heap) (n0 : Nat) :
    MetFree l (⟨"java/lang/Math", "min", "(II)I"⟩ : MethodName) (head1 (Jvm.Cond.code (⟨"java/lang/Math", "min", "(II)I"⟩ : MethodName) jdk_29_method_69_code 2 (some .int) :: ws) ({ frames := 0, cells := 0, slots := 0, locals := 0 } : Room)) (fun aa UU => aa = #[(.int x0), (.int x1)] ∧ Z.Warmed39 UU.vm ∧ UU.heap = h0) (fun _ _ _ _ _ => True) (fun _ U o U' => ∃ v L, o = .returned v ∧ own_QP (.int (own_f21_0 x0 x1)) h0 n0 v U'.heap L ∧ FrameEnd U o U' L ({ frames := 0, cells := 0, slots := 0, locals := 0 } : Room).cells ({ frames := 0, cells := 0, slots := 0, locals := 0 } : Room).slots) := by
  refine MetFree.of_bodySF (Jvm.Free.JP.mathPlain rfl (by decide +kernel)) hisR ?_
  intro p e s m args below meth c s₁ Bd hml0 hP hK
  obtain ⟨rfl, hZ, hh⟩ := hP
  have X0 : Stand p l e ({ frames := 0, cells := 0, slots := 0, locals := 0 } : Room) s m #[(.int x0), (.int x1)] below meth c s₁ [] 0 0 := Stand.of_body Bd
  have e0 : s₁.heap = h0 := by rw [← hh, Bd.state]; rfl
  refine own_cast (own_ef21 m x0 x1) ?_
  exact own_b21_0 X0 Bd.exec Bd.notSynchronized Bd.bytes hml0 Bd.returns (findClass_of_methodNamed Bd.named) hZ hw e0 (Fr.nil n0) (by decide) (by decide) x0 x1
def own_vI (L : List Int32) (i : Nat) : Int32 := L.getD i 0
/-- the list of the intervals -/
def own_R (b : Int32) : Nat → Int32 := own_vI [b, b + (9 : Int32), b + (20 : Int32), b + (29 : Int32), b + (40 : Int32), b + (49 : Int32)]
theorem own_d7_0 : own_D own_b7 0 (.aload_n 0) 1 := by decide +kernel
theorem own_d7_1 : own_D own_b7 1 (.invokespecial 3) 3 := by decide +kernel
theorem own_d7_4 : own_D own_b7 4 (.aload_n 0) 1 := by decide +kernel
theorem own_d7_5 : own_D own_b7 5 (.iconst 0) 1 := by decide +kernel
theorem own_d7_6 : own_D own_b7 6 (.anewarray 9) 3 := by decide +kernel
theorem own_d7_9 : own_D own_b7 9 (.putfield 11) 3 := by decide +kernel
theorem own_d7_12 : own_D own_b7 12 (.aload_n 0) 1 := by decide +kernel
theorem own_d7_13 : own_D own_b7 13 (.iconst 0) 1 := by decide +kernel
theorem own_d7_14 : own_D own_b7 14 (.newarray .int) 2 := by decide +kernel
theorem own_d7_16 : own_D own_b7 16 (.putfield 17) 3 := by decide +kernel
theorem own_d7_19 : own_D own_b7 19 (.aload_n 0) 1 := by decide +kernel
theorem own_d7_20 : own_D own_b7 20 (.aload_n 1) 1 := by decide +kernel
theorem own_d7_21 : own_D own_b7 21 (.putfield 21) 3 := by decide +kernel
theorem own_d7_24 : own_D own_b7 24 (.aload_n 0) 1 := by decide +kernel
theorem own_d7_25 : own_D own_b7 25 (.iload_n 2) 1 := by decide +kernel
theorem own_d7_26 : own_D own_b7 26 (.putfield 25) 3 := by decide +kernel
theorem own_d7_29 : own_D own_b7 29 (.aload_n 0) 1 := by decide +kernel
theorem own_d7_30 : own_D own_b7 30 (.aload_n 3) 1 := by decide +kernel
theorem own_d7_31 : own_D own_b7 31 (.putfield 29) 3 := by decide +kernel
theorem own_d7_34 : own_D own_b7 34 (.aload_n 0) 1 := by decide +kernel
theorem own_d7_35 : own_D own_b7 35 (.iload 4) 2 := by decide +kernel
theorem own_d7_37 : own_D own_b7 37 (.putfield 33) 3 := by decide +kernel
theorem own_d7_40 : own_D own_b7 40 (.aload_n 0) 1 := by decide +kernel
theorem own_d7_41 : own_D own_b7 41 (.iload 5) 2 := by decide +kernel
theorem own_d7_43 : own_D own_b7 43 (.putfield 36) 3 := by decide +kernel
theorem own_d7_46 : own_D own_b7 46 (.aload_n 0) 1 := by decide +kernel
theorem own_d7_47 : own_D own_b7 47 (.iload 4) 2 := by decide +kernel
theorem own_d7_49 : own_D own_b7 49 (.putfield 39) 3 := by decide +kernel
theorem own_d7_52 : own_D own_b7 52 (.aload_n 0) 1 := by decide +kernel
theorem own_d7_53 : own_D own_b7 53 (.iload 5) 2 := by decide +kernel
theorem own_d7_55 : own_D own_b7 55 (.putfield 42) 3 := by decide +kernel
theorem own_d7_58 : own_D own_b7 58 (.aload_n 0) 1 := by decide +kernel
theorem own_d7_59 : own_D own_b7 59 (.iload 5) 2 := by decide +kernel
theorem own_d7_61 : own_D own_b7 61 .i2l 1 := by decide +kernel
theorem own_d7_62 : own_D own_b7 62 (.iload 4) 2 := by decide +kernel
theorem own_d7_64 : own_D own_b7 64 .i2l 1 := by decide +kernel
theorem own_d7_65 : own_D own_b7 65 .lsub 1 := by decide +kernel
theorem own_d7_66 : own_D own_b7 66 (.lconst 1) 1 := by decide +kernel
theorem own_d7_67 : own_D own_b7 67 .ladd 1 := by decide +kernel
theorem own_d7_68 : own_D own_b7 68 (.putfield 45) 3 := by decide +kernel
theorem own_d7_71 : own_D own_b7 71 (.aload_n 0) 1 := by decide +kernel
theorem own_d7_72 : own_D own_b7 72 (.aload_n 0) 1 := by decide +kernel
theorem own_d7_73 : own_D own_b7 73 (.getfield 45) 3 := by decide +kernel
theorem own_d7_76 : own_D own_b7 76 (.ldc2_w 49) 3 := by decide +kernel
theorem own_d7_79 : own_D own_b7 79 .lcmp 1 := by decide +kernel
theorem own_d7_80 : own_D own_b7 80 (.ifCond .gt 7) 3 := by decide +kernel
theorem own_d7_83 : own_D own_b7 83 (.iconst 1) 1 := by decide +kernel
theorem own_d7_84 : own_D own_b7 84 (.goto 4) 3 := by decide +kernel
theorem own_d7_87 : own_D own_b7 87 (.iconst 0) 1 := by decide +kernel
theorem own_d7_88 : own_D own_b7 88 (.putfield 51) 3 := by decide +kernel
theorem own_d7_91 : own_D own_b7 91 (.aload_n 0) 1 := by decide +kernel
theorem own_d7_92 : own_D own_b7 92 (.getfield 51) 3 := by decide +kernel
theorem own_d7_95 : own_D own_b7 95 (.ifCond .eq 19) 3 := by decide +kernel
theorem own_d7_98 : own_D own_b7 98 (.aload_n 0) 1 := by decide +kernel
theorem own_d7_99 : own_D own_b7 99 (.ldc2_w 55) 3 := by decide +kernel
theorem own_d7_102 : own_D own_b7 102 (.bipush 64) 2 := by decide +kernel
theorem own_d7_104 : own_D own_b7 104 (.aload_n 0) 1 := by decide +kernel
theorem own_d7_105 : own_D own_b7 105 (.getfield 45) 3 := by decide +kernel
theorem own_d7_108 : own_D own_b7 108 .l2i 1 := by decide +kernel
theorem own_d7_109 : own_D own_b7 109 .isub 1 := by decide +kernel
theorem own_d7_110 : own_D own_b7 110 .lushr 1 := by decide +kernel
theorem own_d7_111 : own_D own_b7 111 (.putfield 57) 3 := by decide +kernel
theorem own_d7_114 : own_D own_b7 114 .return_ 1 := by decide +kernel
theorem own_pn5 : plainName "com/example/propagule/propagule/IntVar" = true := by first | (simp [plainName, overriddenIn]; done) | decide +kernel
def own_QivA (Z : State) (a : Addr) (mo : Addr) (ix : Int32) (nm : Addr) (mn : Int32) (mx : Int32) (h0 : Heap) (n0 : Nat) (v : Option Value) (h : Heap) (L : List Loc) : Prop := v = none ∧ Fr n0 L ∧ Keep h0 h [a] ∧ ∃ wa : Addr, Exa Z h a own_z0 ∧ Fld Z h a own_z0 "model" own_z4 (.ref mo) ∧ Fld Z h a own_z0 "small" "Z" (.int (1 : Int32)) ∧ Fld Z h a own_z0 "initialMin" "I" (.int mn) ∧ Fld Z h a own_z0 "index" "I" (.int ix) ∧ Fld Z h a own_z0 "min" "I" (.int mn) ∧ Fld Z h a own_z0 "max" "I" (.int mx) ∧ Fld Z h a own_z0 "size" "J" (.long (((mx.toInt64) - (mn.toInt64)) + (1 : Int64))) ∧ Fld Z h a own_z0 "bits" "J" (.long ((((-1 : Int64).toUInt64 >>> (((64 : Int32) - ((((mx.toInt64) - (mn.toInt64)) + (1 : Int64)).toInt32)) &&& 0x3f).toInt64.toUInt64).toInt64))) ∧ Fld Z h a own_z0 "ranges" "[I" .null ∧ Fld Z h a own_z0 "first" "I" (.int (0 : Int32)) ∧ Fld Z h a own_z0 "last" "I" (.int (0 : Int32)) ∧ Fld Z h a own_z0 "stamp" "I" (.int (0 : Int32)) ∧ Fld Z h a own_z0 own_z9 "I" (.int (0 : Int32)) ∧ Fld Z h a own_z0 "boundsFrom" "I" (.int (0 : Int32)) ∧ Fld Z h a own_z0 "toldFrom" "I" (.int (0 : Int32)) ∧ Fld Z h a own_z0 "watchers" own_z3 (.ref wa)
theorem own_efivA (m : MethodId) (a : Addr) (mo : Addr) (ix : Int32) (nm : Addr) (mn : Int32) (mx : Int32) : entryFrame m #[(.ref a), (.ref mo), (.int ix), (.ref nm), (.int mn), (.int mx)] 6 = mkF m 0 #[rv a, rv mo, iv ix, rv nm, iv mn, iv mx] [] := by first | (simp [entryFrame, mkF, argsToLocals, Value.category]; done) | rfl
set_option maxRecDepth 65536 in
set_option maxHeartbeats 16000000 in
theorem own_rmivA (l : Launch) (Z : State) (a0 : Array Value) (hw : own_HW Z a0) (ws : List Jvm.Cond) (a : Addr) (mo : Addr) (ix : Int32) (nm : Addr) (mn : Int32) (mx : Int32) (h0 : Heap) (n0 : Nat) (Z0 : n0 ≤ h0.size) (E_a : Exa Z h0 a own_z0) (F_watchers_a : Fld Z h0 a own_z0 "watchers" own_z3 .null) (F_tags_a : Fld Z h0 a own_z0 "tags" "[I" .null) (F_model_a : Fld Z h0 a own_z0 "model" own_z4 .null) (F_index_a : Fld Z h0 a own_z0 "index" "I" (.int (0 : Int32))) (F_name_a : Fld Z h0 a own_z0 "name" own_z12 .null) (F_min_a : Fld Z h0 a own_z0 "min" "I" (.int (0 : Int32))) (F_max_a : Fld Z h0 a own_z0 "max" "I" (.int (0 : Int32))) (F_initialMin_a : Fld Z h0 a own_z0 "initialMin" "I" (.int (0 : Int32))) (F_initialMax_a : Fld Z h0 a own_z0 "initialMax" "I" (.int (0 : Int32))) (F_size_a : Fld Z h0 a own_z0 "size" "J" (.long (0 : Int64))) (F_small_a : Fld Z h0 a own_z0 "small" "Z" (.int (0 : Int32))) (F_bits_a : Fld Z h0 a own_z0 "bits" "J" (.long (0 : Int64))) (F_ranges_a : Fld Z h0 a own_z0 "ranges" "[I" .null) (F_first_a : Fld Z h0 a own_z0 "first" "I" (.int (0 : Int32))) (F_last_a : Fld Z h0 a own_z0 "last" "I" (.int (0 : Int32))) (F_stamp_a : Fld Z h0 a own_z0 "stamp" "I" (.int (0 : Int32))) (F_boundsFrom_a : Fld Z h0 a own_z0 "boundsFrom" "I" (.int (0 : Int32))) (F_toldFrom_a : Fld Z h0 a own_z0 "toldFrom" "I" (.int (0 : Int32))) (F_watcherCount_a : Fld Z h0 a own_z0 own_z9 "I" (.int (0 : Int32))) (F_domainFrom_a : Fld Z h0 a own_z0 "domainFrom" "I" (.int (0 : Int32))) (hsz : ¬ (0 : Int32) < (lcmpW (((mx.toInt64) - (mn.toInt64)) + (1 : Int64)) (64 : Int64))) (g_a : n0 ≤ a) :
    MetFree l (⟨own_z0, "<init>", own_z15⟩ : MethodName) (head1 (Jvm.Cond.code (⟨own_z0, "<init>", own_z15⟩ : MethodName) prog_37_method_1_code 6 none :: ws) ({ frames := 1, cells := 2, slots := 0, locals := 12 } : Room)) (fun aa UU => aa = #[(.ref a), (.ref mo), (.int ix), (.ref nm), (.int mn), (.int mx)] ∧ Z.Warmed39 UU.vm ∧ UU.heap = h0) (fun _ _ _ _ _ => True) (fun _ U o U' => ∃ v L, o = .returned v ∧ own_QivA Z a mo ix nm mn mx h0 n0 v U'.heap L ∧ FrameEnd U o U' L ({ frames := 1, cells := 2, slots := 0, locals := 12 } : Room).cells ({ frames := 1, cells := 2, slots := 0, locals := 12 } : Room).slots) := by
  refine MetFree.of_bodySF (plainFor_of_name own_pn5) hisR ?_
  intro p e s m args below meth c s₁ Bd hml hP hK
  obtain ⟨rfl, hZ, hh⟩ := hP
  have hx := Bd.exec
  have hlk := Bd.notSynchronized
  have hby := Bd.bytes
  have hret := Bd.returns
  have hown := findClass_of_methodNamed Bd.named
  have hnm := (name_of_methodNamed Bd.named Bd.method).1
  have X0 : Stand p l e ({ frames := 1, cells := 2, slots := 0, locals := 12 } : Room) s m #[(.ref a), (.ref mo), (.int ix), (.ref nm), (.int mn), (.int mx)] below meth c s₁ [] 0 0 := Stand.of_body Bd
  have e0 : s₁.heap = h0 := by rw [← hh, Bd.state]; rfl
  have N0 := Fr.nil n0
  refine own_cast (own_efivA m a mo ix nm mn mx) ?_
  show own_Go p e below s s₁ _ (own_QivA Z a mo ix nm mn mx h0 n0) 2 0
  have K0 : Keep h0 h0 [a] := Keep.refl _ _
  refine own_st (g' := (mkF m 1 #[rv a, rv mo, iv ix, rv nm, iv mn, iv mx] [(.ref a)])) (fun tt_ kk_ => XS.aloadN X0.here hx rfl (hb hby own_d7_0) rfl rfl kk_) ?_
  obtain ⟨T261, X261, e261, st261⟩ := initO X0 hx hZ hown (own_w hw 97 rfl) (own_w hw 7 rfl) (own_w hw 8 rfl) e0 (g := (mkF m 1 #[rv a, rv mo, iv ix, rv nm, iv mn, iv mx] [(.ref a)])) rfl (by rw [hml]; rfl) rfl (hb hby own_d7_1) (by decide) (W := 0) (by show 2 * 0 + _ ≤ _; exact Nat.le_of_eq rfl) (by decide)
  refine own_st st261 ?_
  refine own_st (g' := (mkF m 6 #[rv a, rv mo, iv ix, rv nm, iv mn, iv mx] [(.int (0 : Int32)), (.ref a)])) (fun tt_ kk_ => XS.aloadN X261.here hx rfl (hb hby own_d7_4) rfl rfl (XS.iconst X261.here hx rfl (hb hby own_d7_5) kk_)) ?_
  obtain ⟨T262, h262, k262, X262, e262, E262, A262, -, st262⟩ := newR X261 hx hZ hown (own_w hw 98 rfl) (own_w hw 99 rfl) e261 (g := (mkF m 6 #[rv a, rv mo, iv ix, rv nm, iv mn, iv mx] [(.int (0 : Int32)), (.ref a)])) rfl (hb hby own_d7_6) rfl (by decide) (cap := 0) (by decide) (by decide) (by decide) (by decide)
  obtain ⟨b262, g262⟩ : ∃ z, z = h0.size := ⟨_, rfl⟩
  rw [← g262] at A262 st262
  have ne263 : a ≠ b262 := Nat.ne_of_lt (Nat.lt_of_lt_of_le E_a.lt (Nat.le_of_eq g262.symm))
  have gz262 : n0 ≤ b262 := Nat.le_trans Z0 (Nat.le_of_eq g262.symm)
  have Z262 : n0 ≤ h262.size := Nat.le_trans Z0 E262.1
  have sz262 : h0.size ≤ b262 := Nat.le_trans K0.1 (Nat.le_of_eq g262.symm)
  have K262 : Keep h0 h262 [a] := K0.ext E262
  refine own_st st262 ?_
  have F265 := (F_watchers_a.ext E262)
  have F266 := (E_a.ext E262)
  obtain ⟨T264, h264, X264, e264, W264, st264⟩ := putF X262 hx hZ hown (host := "") (Or.inl (own_w hw 100 rfl)) Via.refl e262 F265 F266 (Or.inl (own_w hw 101 rfl)) (own_w hw 84 rfl) (ty := (.array (.object own_z26))) (by decide) rfl rfl (g := (mkF m 9 #[rv a, rv mo, iv ix, rv nm, iv mn, iv mx] [(.ref b262), (.ref a)])) rfl rfl (hb hby own_d7_9)
  have N264 := Fr.snoc X264 N0 g_a
  have Z264 : n0 ≤ h264.size := Nat.le_trans Z262 (Keep.of_wr W264).1
  have K264 : Keep h0 h264 [a] := K262.wr W264 (Or.inl (List.mem_of_getElem? (i := 0) rfl))
  have F264 : Fld Z h264 a own_z0 "watchers" own_z3 (.ref b262) := F265.same W264
  refine own_st st264 ?_
  refine own_st (g' := (mkF m 14 #[rv a, rv mo, iv ix, rv nm, iv mn, iv mx] [(.int (0 : Int32)), (.ref a)])) (fun tt_ kk_ => XS.aloadN X264.here hx rfl (hb hby own_d7_12) rfl rfl (XS.iconst X264.here hx rfl (hb hby own_d7_13) kk_)) ?_
  obtain ⟨T267, h267, k267, X267, e267, E267, A267, st267⟩ := newP X264 hx hZ (own_w hw 44 rfl) e264 (g := (mkF m 14 #[rv a, rv mo, iv ix, rv nm, iv mn, iv mx] [(.int (0 : Int32)), (.ref a)])) rfl (hb hby own_d7_14) rfl (by decide) (cap := 0) (by decide) (by decide) (by decide) (by decide)
  obtain ⟨b267, g267⟩ : ∃ z, z = h264.size := ⟨_, rfl⟩
  rw [← g267] at A267 st267
  have F269 := (A262.other W264 (Ne.symm ne263))
  have ne268 : b262 ≠ b267 := Nat.ne_of_lt (Nat.lt_of_lt_of_le F269.lt (Nat.le_of_eq g267.symm))
  have F271 := (F266.wr W264)
  have ne270 : a ≠ b267 := Nat.ne_of_lt (Nat.lt_of_lt_of_le F271.lt (Nat.le_of_eq g267.symm))
  have gz267 : n0 ≤ b267 := Nat.le_trans Z264 (Nat.le_of_eq g267.symm)
  have Z267 : n0 ≤ h267.size := Nat.le_trans Z264 E267.1
  have sz267 : h0.size ≤ b267 := Nat.le_trans K264.1 (Nat.le_of_eq g267.symm)
  have K267 : Keep h0 h267 [a] := K264.ext E267
  have P267 : own_AI Z h267 b267 0 (fun _ => 0) := own_AI.new A267 (by decide)
  refine own_st st267 ?_
  have F273 := (((F_tags_a.ext E262).other W264 (Or.inr (own_sn93 hw))).ext E267)
  have F274 := (F271.ext E267)
  obtain ⟨T272, h272, X272, e272, W272, st272⟩ := putF X267 hx hZ hown (host := "") (Or.inl (own_w hw 102 rfl)) Via.refl e267 F273 F274 (Or.inl (own_w hw 103 rfl)) (own_w hw 84 rfl) (ty := (.array .int)) (by decide) rfl rfl (g := (mkF m 16 #[rv a, rv mo, iv ix, rv nm, iv mn, iv mx] [(.ref b267), (.ref a)])) rfl rfl (hb hby own_d7_16)
  have N272 := Fr.snoc X272 N264 g_a
  have Z272 : n0 ≤ h272.size := Nat.le_trans Z267 (Keep.of_wr W272).1
  have K272 : Keep h0 h272 [a] := K267.wr W272 (Or.inl (List.mem_of_getElem? (i := 0) rfl))
  have F272 : Fld Z h272 a own_z0 "tags" "[I" (.ref b267) := F273.same W272
  refine own_st st272 ?_
  refine own_st (g' := (mkF m 21 #[rv a, rv mo, iv ix, rv nm, iv mn, iv mx] [(.ref mo), (.ref a)])) (fun tt_ kk_ => XS.aloadN X272.here hx rfl (hb hby own_d7_19) rfl rfl (XS.aloadN X272.here hx rfl (hb hby own_d7_20) rfl rfl kk_)) ?_
  have F276 := ((((F_model_a.ext E262).other W264 (Or.inr (own_sn94 hw))).ext E267).other W272 (Or.inr (own_sn95 hw)))
  have F277 := (F274.wr W272)
  obtain ⟨T275, h275, X275, e275, W275, st275⟩ := putF X272 hx hZ hown (host := "") (Or.inl (own_w hw 104 rfl)) Via.refl e272 F276 F277 (Or.inr ⟨(own_w hw 105 rfl), rfl, hnm⟩) (own_w hw 84 rfl) (ty := (.object own_z2)) (by decide) rfl rfl (g := (mkF m 21 #[rv a, rv mo, iv ix, rv nm, iv mn, iv mx] [(.ref mo), (.ref a)])) rfl rfl (hb hby own_d7_21)
  have N275 := Fr.snoc X275 N272 g_a
  have Z275 : n0 ≤ h275.size := Nat.le_trans Z272 (Keep.of_wr W275).1
  have K275 : Keep h0 h275 [a] := K272.wr W275 (Or.inl (List.mem_of_getElem? (i := 0) rfl))
  have F275 : Fld Z h275 a own_z0 "model" own_z4 (.ref mo) := F276.same W275
  refine own_st st275 ?_
  refine own_st (g' := (mkF m 26 #[rv a, rv mo, iv ix, rv nm, iv mn, iv mx] [(.int ix), (.ref a)])) (fun tt_ kk_ => XS.aloadN X275.here hx rfl (hb hby own_d7_24) rfl rfl (XS.iloadN X275.here hx rfl (hb hby own_d7_25) rfl kk_)) ?_
  have F279 := (((((F_index_a.ext E262).other W264 (Or.inr (own_sn96 hw))).ext E267).other W272 (Or.inr (own_sn97 hw))).other W275 (Or.inr (own_sn98 hw)))
  have F280 := (F277.wr W275)
  obtain ⟨T278, h278, X278, e278, W278, st278⟩ := putF X275 hx hZ hown (host := "") (Or.inl (own_w hw 106 rfl)) Via.refl e275 F279 F280 (Or.inr ⟨(own_w hw 107 rfl), rfl, hnm⟩) (own_w hw 84 rfl) (ty := .int) (by decide) rfl rfl (g := (mkF m 26 #[rv a, rv mo, iv ix, rv nm, iv mn, iv mx] [(.int ix), (.ref a)])) rfl rfl (hb hby own_d7_26)
  have N278 := Fr.snoc X278 N275 g_a
  have Z278 : n0 ≤ h278.size := Nat.le_trans Z275 (Keep.of_wr W278).1
  have K278 : Keep h0 h278 [a] := K275.wr W278 (Or.inl (List.mem_of_getElem? (i := 0) rfl))
  have F278 : Fld Z h278 a own_z0 "index" "I" (.int ix) := F279.same W278
  refine own_st st278 ?_
  refine own_st (g' := (mkF m 31 #[rv a, rv mo, iv ix, rv nm, iv mn, iv mx] [(.ref nm), (.ref a)])) (fun tt_ kk_ => XS.aloadN X278.here hx rfl (hb hby own_d7_29) rfl rfl (XS.aloadN X278.here hx rfl (hb hby own_d7_30) rfl rfl kk_)) ?_
  have F282 := ((((((F_name_a.ext E262).other W264 (Or.inr (own_sn99 hw))).ext E267).other W272 (Or.inr (own_sn100 hw))).other W275 (Or.inr (own_sn101 hw))).other W278 (Or.inr (own_sn102 hw)))
  have F283 := (F280.wr W278)
  obtain ⟨T281, h281, X281, e281, W281, st281⟩ := putF X278 hx hZ hown (host := "") (Or.inl (own_w hw 108 rfl)) Via.refl e278 F282 F283 (Or.inr ⟨(own_w hw 109 rfl), rfl, hnm⟩) (own_w hw 84 rfl) (ty := (.object "java/lang/String")) (by decide) rfl rfl (g := (mkF m 31 #[rv a, rv mo, iv ix, rv nm, iv mn, iv mx] [(.ref nm), (.ref a)])) rfl rfl (hb hby own_d7_31)
  have N281 := Fr.snoc X281 N278 g_a
  have Z281 : n0 ≤ h281.size := Nat.le_trans Z278 (Keep.of_wr W281).1
  have K281 : Keep h0 h281 [a] := K278.wr W281 (Or.inl (List.mem_of_getElem? (i := 0) rfl))
  have F281 : Fld Z h281 a own_z0 "name" own_z12 (.ref nm) := F282.same W281
  refine own_st st281 ?_
  refine own_st (g' := (mkF m 37 #[rv a, rv mo, iv ix, rv nm, iv mn, iv mx] [(.int mn), (.ref a)])) (fun tt_ kk_ => XS.aloadN X281.here hx rfl (hb hby own_d7_34) rfl rfl (XS.iload X281.here hx rfl (hb hby own_d7_35) rfl kk_)) ?_
  have F285 := (((((((F_min_a.ext E262).other W264 (Or.inr (own_sn103 hw))).ext E267).other W272 (Or.inr (own_sn104 hw))).other W275 (Or.inr (own_sn105 hw))).other W278 (Or.inr (own_sn106 hw))).other W281 (Or.inr (own_sn107 hw)))
  have F286 := (F283.wr W281)
  obtain ⟨T284, h284, X284, e284, W284, st284⟩ := putF X281 hx hZ hown (host := "") (Or.inl (own_w hw 110 rfl)) Via.refl e281 F285 F286 (Or.inl (own_w hw 111 rfl)) (own_w hw 84 rfl) (ty := .int) (by decide) rfl rfl (g := (mkF m 37 #[rv a, rv mo, iv ix, rv nm, iv mn, iv mx] [(.int mn), (.ref a)])) rfl rfl (hb hby own_d7_37)
  have N284 := Fr.snoc X284 N281 g_a
  have Z284 : n0 ≤ h284.size := Nat.le_trans Z281 (Keep.of_wr W284).1
  have K284 : Keep h0 h284 [a] := K281.wr W284 (Or.inl (List.mem_of_getElem? (i := 0) rfl))
  have F284 : Fld Z h284 a own_z0 "min" "I" (.int mn) := F285.same W284
  refine own_st st284 ?_
  refine own_st (g' := (mkF m 43 #[rv a, rv mo, iv ix, rv nm, iv mn, iv mx] [(.int mx), (.ref a)])) (fun tt_ kk_ => XS.aloadN X284.here hx rfl (hb hby own_d7_40) rfl rfl (XS.iload X284.here hx rfl (hb hby own_d7_41) rfl kk_)) ?_
  have F288 := ((((((((F_max_a.ext E262).other W264 (Or.inr (own_sn108 hw))).ext E267).other W272 (Or.inr (own_sn109 hw))).other W275 (Or.inr (own_sn110 hw))).other W278 (Or.inr (own_sn111 hw))).other W281 (Or.inr (own_sn112 hw))).other W284 (Or.inr (own_sn113 hw)))
  have F289 := (F286.wr W284)
  obtain ⟨T287, h287, X287, e287, W287, st287⟩ := putF X284 hx hZ hown (host := "") (Or.inl (own_w hw 112 rfl)) Via.refl e284 F288 F289 (Or.inl (own_w hw 113 rfl)) (own_w hw 84 rfl) (ty := .int) (by decide) rfl rfl (g := (mkF m 43 #[rv a, rv mo, iv ix, rv nm, iv mn, iv mx] [(.int mx), (.ref a)])) rfl rfl (hb hby own_d7_43)
  have N287 := Fr.snoc X287 N284 g_a
  have Z287 : n0 ≤ h287.size := Nat.le_trans Z284 (Keep.of_wr W287).1
  have K287 : Keep h0 h287 [a] := K284.wr W287 (Or.inl (List.mem_of_getElem? (i := 0) rfl))
  have F287 : Fld Z h287 a own_z0 "max" "I" (.int mx) := F288.same W287
  refine own_st st287 ?_
  refine own_st (g' := (mkF m 49 #[rv a, rv mo, iv ix, rv nm, iv mn, iv mx] [(.int mn), (.ref a)])) (fun tt_ kk_ => XS.aloadN X287.here hx rfl (hb hby own_d7_46) rfl rfl (XS.iload X287.here hx rfl (hb hby own_d7_47) rfl kk_)) ?_
  have F291 := (((((((((F_initialMin_a.ext E262).other W264 (Or.inr (own_sn114 hw))).ext E267).other W272 (Or.inr (own_sn115 hw))).other W275 (Or.inr (own_sn116 hw))).other W278 (Or.inr (own_sn117 hw))).other W281 (Or.inr (own_sn118 hw))).other W284 (Or.inr (own_sn119 hw))).other W287 (Or.inr (own_sn120 hw)))
  have F292 := (F289.wr W287)
  obtain ⟨T290, h290, X290, e290, W290, st290⟩ := putF X287 hx hZ hown (host := "") (Or.inl (own_w hw 114 rfl)) Via.refl e287 F291 F292 (Or.inr ⟨(own_w hw 115 rfl), rfl, hnm⟩) (own_w hw 84 rfl) (ty := .int) (by decide) rfl rfl (g := (mkF m 49 #[rv a, rv mo, iv ix, rv nm, iv mn, iv mx] [(.int mn), (.ref a)])) rfl rfl (hb hby own_d7_49)
  have N290 := Fr.snoc X290 N287 g_a
  have Z290 : n0 ≤ h290.size := Nat.le_trans Z287 (Keep.of_wr W290).1
  have K290 : Keep h0 h290 [a] := K287.wr W290 (Or.inl (List.mem_of_getElem? (i := 0) rfl))
  have F290 : Fld Z h290 a own_z0 "initialMin" "I" (.int mn) := F291.same W290
  refine own_st st290 ?_
  refine own_st (g' := (mkF m 55 #[rv a, rv mo, iv ix, rv nm, iv mn, iv mx] [(.int mx), (.ref a)])) (fun tt_ kk_ => XS.aloadN X290.here hx rfl (hb hby own_d7_52) rfl rfl (XS.iload X290.here hx rfl (hb hby own_d7_53) rfl kk_)) ?_
  have F294 := ((((((((((F_initialMax_a.ext E262).other W264 (Or.inr (own_sn121 hw))).ext E267).other W272 (Or.inr (own_sn122 hw))).other W275 (Or.inr (own_sn123 hw))).other W278 (Or.inr (own_sn124 hw))).other W281 (Or.inr (own_sn125 hw))).other W284 (Or.inr (own_sn126 hw))).other W287 (Or.inr (own_sn127 hw))).other W290 (Or.inr (own_sn128 hw)))
  have F295 := (F292.wr W290)
  obtain ⟨T293, h293, X293, e293, W293, st293⟩ := putF X290 hx hZ hown (host := "") (Or.inl (own_w hw 116 rfl)) Via.refl e290 F294 F295 (Or.inr ⟨(own_w hw 117 rfl), rfl, hnm⟩) (own_w hw 84 rfl) (ty := .int) (by decide) rfl rfl (g := (mkF m 55 #[rv a, rv mo, iv ix, rv nm, iv mn, iv mx] [(.int mx), (.ref a)])) rfl rfl (hb hby own_d7_55)
  have N293 := Fr.snoc X293 N290 g_a
  have Z293 : n0 ≤ h293.size := Nat.le_trans Z290 (Keep.of_wr W293).1
  have K293 : Keep h0 h293 [a] := K290.wr W293 (Or.inl (List.mem_of_getElem? (i := 0) rfl))
  have F293 : Fld Z h293 a own_z0 "initialMax" "I" (.int mx) := F294.same W293
  refine own_st st293 ?_
  refine own_st (g' := (mkF m 68 #[rv a, rv mo, iv ix, rv nm, iv mn, iv mx] [(.long (((mx.toInt64) - (mn.toInt64)) + (1 : Int64))), (.ref a)])) (fun tt_ kk_ => XS.aloadN X293.here hx rfl (hb hby own_d7_58) rfl rfl (XS.iload X293.here hx rfl (hb hby own_d7_59) rfl (XS.i2l X293.here hx rfl (hb hby own_d7_61) rfl (XS.iload X293.here hx rfl (hb hby own_d7_62) rfl (XS.i2l X293.here hx rfl (hb hby own_d7_64) rfl (XS.lsub X293.here hx rfl (hb hby own_d7_65) rfl (XS.lconst X293.here hx rfl (hb hby own_d7_66) (XS.ladd X293.here hx rfl (hb hby own_d7_67) rfl kk_)))))))) ?_
  have F297 := (((((((((((F_size_a.ext E262).other W264 (Or.inr (own_sn129 hw))).ext E267).other W272 (Or.inr (own_sn130 hw))).other W275 (Or.inr (own_sn131 hw))).other W278 (Or.inr (own_sn132 hw))).other W281 (Or.inr (own_sn133 hw))).other W284 (Or.inr (own_sn134 hw))).other W287 (Or.inr (own_sn135 hw))).other W290 (Or.inr (own_sn136 hw))).other W293 (Or.inr (own_sn137 hw)))
  have F298 := (F295.wr W293)
  obtain ⟨T296, h296, X296, e296, W296, st296⟩ := putF X293 hx hZ hown (host := "") (Or.inl (own_w hw 118 rfl)) Via.refl e293 F297 F298 (Or.inl (own_w hw 119 rfl)) (own_w hw 84 rfl) (ty := .long) (by decide) rfl rfl (g := (mkF m 68 #[rv a, rv mo, iv ix, rv nm, iv mn, iv mx] [(.long (((mx.toInt64) - (mn.toInt64)) + (1 : Int64))), (.ref a)])) rfl rfl (hb hby own_d7_68)
  have N296 := Fr.snoc X296 N293 g_a
  have Z296 : n0 ≤ h296.size := Nat.le_trans Z293 (Keep.of_wr W296).1
  have K296 : Keep h0 h296 [a] := K293.wr W296 (Or.inl (List.mem_of_getElem? (i := 0) rfl))
  have F296 : Fld Z h296 a own_z0 "size" "J" (.long (((mx.toInt64) - (mn.toInt64)) + (1 : Int64))) := F297.same W296
  refine own_st st296 ?_
  refine own_st (g' := (mkF m 73 #[rv a, rv mo, iv ix, rv nm, iv mn, iv mx] [(.ref a), (.ref a)])) (fun tt_ kk_ => XS.aloadN X296.here hx rfl (hb hby own_d7_71) rfl rfl (XS.aloadN X296.here hx rfl (hb hby own_d7_72) rfl rfl kk_)) ?_
  refine own_gG X296 hx hZ hown (own_w hw 118 rfl) e296 F296 rfl rfl (hb hby own_d7_73) (fun {T299} X299 e299 => ?_)
  refine own_st (g' := (mkF m 80 #[rv a, rv mo, iv ix, rv nm, iv mn, iv mx] [(.int (lcmpW (((mx.toInt64) - (mn.toInt64)) + (1 : Int64)) (64 : Int64))), (.ref a)])) (fun tt_ kk_ => X299.ldc2Long hx hown (mvT hZ (own_w hw 120 rfl)) (g := (mkF m 76 #[rv a, rv mo, iv ix, rv nm, iv mn, iv mx] [(.long (((mx.toInt64) - (mn.toInt64)) + (1 : Int64))), (.ref a)])) rfl (hb hby own_d7_76) _ (XS.lcmp X299.here hx rfl (hb hby own_d7_79) rfl kk_)) ?_
  refine own_st (g' := (mkF m 88 #[rv a, rv mo, iv ix, rv nm, iv mn, iv mx] [(.int (1 : Int32)), (.ref a)])) (fun tt_ kk_ => XS.ifNo X299.here hx rfl (hb hby own_d7_80) rfl ((if0 _ _).trans (flt hsz).2.2.1) (XS.iconst X299.here hx rfl (hb hby own_d7_83) (XS.goto X299.here hx rfl (pc0 := 84) (pc' := 88) rfl (hb hby own_d7_84) (by decide) (by decide) kk_))) ?_
  have F301 := ((((((((((((F_small_a.ext E262).other W264 (Or.inr (own_sn138 hw))).ext E267).other W272 (Or.inr (own_sn139 hw))).other W275 (Or.inr (own_sn140 hw))).other W278 (Or.inr (own_sn141 hw))).other W281 (Or.inr (own_sn142 hw))).other W284 (Or.inr (own_sn143 hw))).other W287 (Or.inr (own_sn144 hw))).other W290 (Or.inr (own_sn145 hw))).other W293 (Or.inr (own_sn146 hw))).other W296 (Or.inr (own_sn147 hw)))
  have F302 := (F298.wr W296)
  obtain ⟨T300, h300, X300, e300, W300, st300⟩ := putFN X299 hx hZ hown (own_w hw 121 rfl) Via.refl e299 F301 F302 (Or.inr ⟨(own_w hw 122 rfl), rfl, hnm⟩) (own_w hw 84 rfl) (ty := .boolean) (v' := (.int (1 : Int32))) (by decide) rfl rfl (g := (mkF m 88 #[rv a, rv mo, iv ix, rv nm, iv mn, iv mx] [(.int (1 : Int32)), (.ref a)])) rfl rfl (hb hby own_d7_88)
  have N300 := Fr.snoc X300 N296 g_a
  have Z300 : n0 ≤ h300.size := Nat.le_trans Z296 (Keep.of_wr W300).1
  have K300 : Keep h0 h300 [a] := K296.wr W300 (Or.inl (List.mem_of_getElem? (i := 0) rfl))
  have F300 : Fld Z h300 a own_z0 "small" "Z" (.int (1 : Int32)) := F301.same W300
  refine own_st st300 ?_
  refine own_st (g' := (mkF m 92 #[rv a, rv mo, iv ix, rv nm, iv mn, iv mx] [(.ref a)])) (fun tt_ kk_ => XS.aloadN X300.here hx rfl (hb hby own_d7_91) rfl rfl kk_) ?_
  refine own_gG X300 hx hZ hown (own_w hw 121 rfl) e300 F300 rfl rfl (hb hby own_d7_92) (fun {T303} X303 e303 => ?_)
  refine own_st (g' := (mkF m 105 #[rv a, rv mo, iv ix, rv nm, iv mn, iv mx] [(.ref a), (.int (64 : Int32)), (.long (-1 : Int64)), (.ref a)])) (fun tt_ kk_ => XS.ifNo X303.here hx rfl (hb hby own_d7_95) rfl ((if0 _ _).trans (feq (by decide : ¬ ((1 : Int32) = (0 : Int32)))).1) (XS.aloadN X303.here hx rfl (hb hby own_d7_98) rfl rfl (X303.ldc2Long hx hown (mvT hZ (own_w hw 123 rfl)) (g := (mkF m 99 #[rv a, rv mo, iv ix, rv nm, iv mn, iv mx] [(.ref a)])) rfl (hb hby own_d7_99) _ (XS.bipush X303.here hx rfl (hb hby own_d7_102) (XS.aloadN X303.here hx rfl (hb hby own_d7_104) rfl rfl kk_))))) ?_
  have F305 := (F296.other W300 (Or.inr (Ne.symm (own_sn147 hw))))
  refine own_gG X303 hx hZ hown (own_w hw 118 rfl) e303 F305 rfl rfl (hb hby own_d7_105) (fun {T304} X304 e304 => ?_)
  refine own_st (g' := (mkF m 111 #[rv a, rv mo, iv ix, rv nm, iv mn, iv mx] [(.long (((-1 : Int64).toUInt64 >>> (((64 : Int32) - ((((mx.toInt64) - (mn.toInt64)) + (1 : Int64)).toInt32)) &&& 0x3f).toInt64.toUInt64).toInt64)), (.ref a)])) (fun tt_ kk_ => XS.l2i X304.here hx rfl (hb hby own_d7_108) rfl (XS.isub X304.here hx rfl (hb hby own_d7_109) rfl (XS.lushr X304.here hx rfl (hb hby own_d7_110) rfl kk_))) ?_
  have F307 := (((((((((((((F_bits_a.ext E262).other W264 (Or.inr (own_sn148 hw))).ext E267).other W272 (Or.inr (own_sn149 hw))).other W275 (Or.inr (own_sn150 hw))).other W278 (Or.inr (own_sn151 hw))).other W281 (Or.inr (own_sn152 hw))).other W284 (Or.inr (own_sn153 hw))).other W287 (Or.inr (own_sn154 hw))).other W290 (Or.inr (own_sn155 hw))).other W293 (Or.inr (own_sn156 hw))).other W296 (Or.inr (own_sn157 hw))).other W300 (Or.inr (own_sn158 hw)))
  have F308 := (F302.wr W300)
  obtain ⟨T306, h306, X306, e306, W306, st306⟩ := putF X304 hx hZ hown (host := "") (Or.inl (own_w hw 124 rfl)) Via.refl e304 F307 F308 (Or.inl (own_w hw 125 rfl)) (own_w hw 84 rfl) (ty := .long) (by decide) rfl rfl (g := (mkF m 111 #[rv a, rv mo, iv ix, rv nm, iv mn, iv mx] [(.long (((-1 : Int64).toUInt64 >>> (((64 : Int32) - ((((mx.toInt64) - (mn.toInt64)) + (1 : Int64)).toInt32)) &&& 0x3f).toInt64.toUInt64).toInt64)), (.ref a)])) rfl rfl (hb hby own_d7_111)
  have N306 := Fr.snoc X306 N300 g_a
  have Z306 : n0 ≤ h306.size := Nat.le_trans Z300 (Keep.of_wr W306).1
  have K306 : Keep h0 h306 [a] := K300.wr W306 (Or.inl (List.mem_of_getElem? (i := 0) rfl))
  have F306 : Fld Z h306 a own_z0 "bits" "J" (.long (((-1 : Int64).toUInt64 >>> (((64 : Int32) - ((((mx.toInt64) - (mn.toInt64)) + (1 : Int64)).toInt32)) &&& 0x3f).toInt64.toUInt64).toInt64)) := F307.same W306
  refine own_st st306 ?_
  have F309 := (F308.wr W306)
  have F310 := (((((((((F275.other W278 (Or.inr (Ne.symm (own_sn98 hw)))).other W281 (Or.inr (Ne.symm (own_sn101 hw)))).other W284 (Or.inr (Ne.symm (own_sn105 hw)))).other W287 (Or.inr (Ne.symm (own_sn110 hw)))).other W290 (Or.inr (Ne.symm (own_sn116 hw)))).other W293 (Or.inr (Ne.symm (own_sn123 hw)))).other W296 (Or.inr (Ne.symm (own_sn131 hw)))).other W300 (Or.inr (Ne.symm (own_sn140 hw)))).other W306 (Or.inr (Ne.symm (own_sn150 hw))))
  have F311 := (F300.other W306 (Or.inr (Ne.symm (own_sn158 hw))))
  have F312 := ((((F290.other W293 (Or.inr (Ne.symm (own_sn128 hw)))).other W296 (Or.inr (Ne.symm (own_sn136 hw)))).other W300 (Or.inr (Ne.symm (own_sn145 hw)))).other W306 (Or.inr (Ne.symm (own_sn155 hw))))
  have F313 := ((((((((F278.other W281 (Or.inr (Ne.symm (own_sn102 hw)))).other W284 (Or.inr (Ne.symm (own_sn106 hw)))).other W287 (Or.inr (Ne.symm (own_sn111 hw)))).other W290 (Or.inr (Ne.symm (own_sn117 hw)))).other W293 (Or.inr (Ne.symm (own_sn124 hw)))).other W296 (Or.inr (Ne.symm (own_sn132 hw)))).other W300 (Or.inr (Ne.symm (own_sn141 hw)))).other W306 (Or.inr (Ne.symm (own_sn151 hw))))
  have F314 := ((((((F284.other W287 (Or.inr (Ne.symm (own_sn113 hw)))).other W290 (Or.inr (Ne.symm (own_sn119 hw)))).other W293 (Or.inr (Ne.symm (own_sn126 hw)))).other W296 (Or.inr (Ne.symm (own_sn134 hw)))).other W300 (Or.inr (Ne.symm (own_sn143 hw)))).other W306 (Or.inr (Ne.symm (own_sn153 hw))))
  have F315 := (((((F287.other W290 (Or.inr (Ne.symm (own_sn120 hw)))).other W293 (Or.inr (Ne.symm (own_sn127 hw)))).other W296 (Or.inr (Ne.symm (own_sn135 hw)))).other W300 (Or.inr (Ne.symm (own_sn144 hw)))).other W306 (Or.inr (Ne.symm (own_sn154 hw))))
  have F316 := (F305.other W306 (Or.inr (Ne.symm (own_sn157 hw))))
  have F317 := ((((((((((((((F_ranges_a.ext E262).other W264 (Or.inr (own_sn159 hw))).ext E267).other W272 (Or.inr (own_sn160 hw))).other W275 (Or.inr (own_sn161 hw))).other W278 (Or.inr (own_sn162 hw))).other W281 (Or.inr (own_sn163 hw))).other W284 (Or.inr (own_sn164 hw))).other W287 (Or.inr (own_sn165 hw))).other W290 (Or.inr (own_sn166 hw))).other W293 (Or.inr (own_sn167 hw))).other W296 (Or.inr (own_sn168 hw))).other W300 (Or.inr (own_sn169 hw))).other W306 (Or.inr (own_sn170 hw)))
  have F318 := ((((((((((((((F_first_a.ext E262).other W264 (Or.inr (own_sn171 hw))).ext E267).other W272 (Or.inr (own_sn172 hw))).other W275 (Or.inr (own_sn173 hw))).other W278 (Or.inr (own_sn174 hw))).other W281 (Or.inr (own_sn175 hw))).other W284 (Or.inr (own_sn176 hw))).other W287 (Or.inr (own_sn177 hw))).other W290 (Or.inr (own_sn178 hw))).other W293 (Or.inr (own_sn179 hw))).other W296 (Or.inr (own_sn180 hw))).other W300 (Or.inr (own_sn181 hw))).other W306 (Or.inr (own_sn182 hw)))
  have F319 := ((((((((((((((F_last_a.ext E262).other W264 (Or.inr (own_sn183 hw))).ext E267).other W272 (Or.inr (own_sn184 hw))).other W275 (Or.inr (own_sn185 hw))).other W278 (Or.inr (own_sn186 hw))).other W281 (Or.inr (own_sn187 hw))).other W284 (Or.inr (own_sn188 hw))).other W287 (Or.inr (own_sn189 hw))).other W290 (Or.inr (own_sn190 hw))).other W293 (Or.inr (own_sn191 hw))).other W296 (Or.inr (own_sn192 hw))).other W300 (Or.inr (own_sn193 hw))).other W306 (Or.inr (own_sn194 hw)))
  have F320 := ((((((((((((((F_stamp_a.ext E262).other W264 (Or.inr (own_sn195 hw))).ext E267).other W272 (Or.inr (own_sn196 hw))).other W275 (Or.inr (own_sn197 hw))).other W278 (Or.inr (own_sn198 hw))).other W281 (Or.inr (own_sn199 hw))).other W284 (Or.inr (own_sn200 hw))).other W287 (Or.inr (own_sn201 hw))).other W290 (Or.inr (own_sn202 hw))).other W293 (Or.inr (own_sn203 hw))).other W296 (Or.inr (own_sn204 hw))).other W300 (Or.inr (own_sn205 hw))).other W306 (Or.inr (own_sn206 hw)))
  have F321 := ((((((((((((((F_watcherCount_a.ext E262).other W264 (Or.inr (own_sn207 hw))).ext E267).other W272 (Or.inr (own_sn208 hw))).other W275 (Or.inr (own_sn209 hw))).other W278 (Or.inr (own_sn210 hw))).other W281 (Or.inr (own_sn211 hw))).other W284 (Or.inr (own_sn212 hw))).other W287 (Or.inr (own_sn213 hw))).other W290 (Or.inr (own_sn214 hw))).other W293 (Or.inr (own_sn215 hw))).other W296 (Or.inr (own_sn216 hw))).other W300 (Or.inr (own_sn217 hw))).other W306 (Or.inr (own_sn218 hw)))
  have F322 := ((((((((((((((F_boundsFrom_a.ext E262).other W264 (Or.inr (own_sn219 hw))).ext E267).other W272 (Or.inr (own_sn220 hw))).other W275 (Or.inr (own_sn221 hw))).other W278 (Or.inr (own_sn222 hw))).other W281 (Or.inr (own_sn223 hw))).other W284 (Or.inr (own_sn224 hw))).other W287 (Or.inr (own_sn225 hw))).other W290 (Or.inr (own_sn226 hw))).other W293 (Or.inr (own_sn227 hw))).other W296 (Or.inr (own_sn228 hw))).other W300 (Or.inr (own_sn229 hw))).other W306 (Or.inr (own_sn230 hw)))
  have F323 := ((((((((((((((F_toldFrom_a.ext E262).other W264 (Or.inr (own_sn231 hw))).ext E267).other W272 (Or.inr (own_sn232 hw))).other W275 (Or.inr (own_sn233 hw))).other W278 (Or.inr (own_sn234 hw))).other W281 (Or.inr (own_sn235 hw))).other W284 (Or.inr (own_sn236 hw))).other W287 (Or.inr (own_sn237 hw))).other W290 (Or.inr (own_sn238 hw))).other W293 (Or.inr (own_sn239 hw))).other W296 (Or.inr (own_sn240 hw))).other W300 (Or.inr (own_sn241 hw))).other W306 (Or.inr (own_sn242 hw)))
  have F324 := ((((((((((((F264.ext E267).other W272 (Or.inr (Ne.symm (own_sn93 hw)))).other W275 (Or.inr (Ne.symm (own_sn94 hw)))).other W278 (Or.inr (Ne.symm (own_sn96 hw)))).other W281 (Or.inr (Ne.symm (own_sn99 hw)))).other W284 (Or.inr (Ne.symm (own_sn103 hw)))).other W287 (Or.inr (Ne.symm (own_sn108 hw)))).other W290 (Or.inr (Ne.symm (own_sn114 hw)))).other W293 (Or.inr (Ne.symm (own_sn121 hw)))).other W296 (Or.inr (Ne.symm (own_sn129 hw)))).other W300 (Or.inr (Ne.symm (own_sn138 hw)))).other W306 (Or.inr (Ne.symm (own_sn148 hw))))
  exact own_retV X306 hx hlk hret (hb hby own_d7_114) (by decide) (by decide) (by rw [e306]; exact ⟨rfl, N306, K306, b262, F309, F310, F311, F312, F313, F314, F315, F316, F306, F317, F318, F319, F320, F321, F322, F323, F324⟩)
def own_QivB (Z : State) (a : Addr) (mo : Addr) (ix : Int32) (nm : Addr) (mn : Int32) (mx : Int32) (h0 : Heap) (n0 : Nat) (v : Option Value) (h : Heap) (L : List Loc) : Prop := v = none ∧ Fr n0 L ∧ Keep h0 h [a] ∧ ∃ wa : Addr, Exa Z h a own_z0 ∧ Fld Z h a own_z0 "model" own_z4 (.ref mo) ∧ Fld Z h a own_z0 "small" "Z" (.int (0 : Int32)) ∧ Fld Z h a own_z0 "initialMin" "I" (.int mn) ∧ Fld Z h a own_z0 "index" "I" (.int ix) ∧ Fld Z h a own_z0 "min" "I" (.int mn) ∧ Fld Z h a own_z0 "max" "I" (.int mx) ∧ Fld Z h a own_z0 "size" "J" (.long (((mx.toInt64) - (mn.toInt64)) + (1 : Int64))) ∧ Fld Z h a own_z0 "bits" "J" (.long (0 : Int64)) ∧ Fld Z h a own_z0 "ranges" "[I" .null ∧ Fld Z h a own_z0 "first" "I" (.int (0 : Int32)) ∧ Fld Z h a own_z0 "last" "I" (.int (0 : Int32)) ∧ Fld Z h a own_z0 "stamp" "I" (.int (0 : Int32)) ∧ Fld Z h a own_z0 own_z9 "I" (.int (0 : Int32)) ∧ Fld Z h a own_z0 "boundsFrom" "I" (.int (0 : Int32)) ∧ Fld Z h a own_z0 "toldFrom" "I" (.int (0 : Int32)) ∧ Fld Z h a own_z0 "watchers" own_z3 (.ref wa)
theorem own_efivB (m : MethodId) (a : Addr) (mo : Addr) (ix : Int32) (nm : Addr) (mn : Int32) (mx : Int32) : entryFrame m #[(.ref a), (.ref mo), (.int ix), (.ref nm), (.int mn), (.int mx)] 6 = mkF m 0 #[rv a, rv mo, iv ix, rv nm, iv mn, iv mx] [] := by first | (simp [entryFrame, mkF, argsToLocals, Value.category]; done) | rfl
set_option maxRecDepth 65536 in
set_option maxHeartbeats 16000000 in
theorem own_rmivB (l : Launch) (Z : State) (a0 : Array Value) (hw : own_HW Z a0) (ws : List Jvm.Cond) (a : Addr) (mo : Addr) (ix : Int32) (nm : Addr) (mn : Int32) (mx : Int32) (h0 : Heap) (n0 : Nat) (Z0 : n0 ≤ h0.size) (E_a : Exa Z h0 a own_z0) (F_watchers_a : Fld Z h0 a own_z0 "watchers" own_z3 .null) (F_tags_a : Fld Z h0 a own_z0 "tags" "[I" .null) (F_model_a : Fld Z h0 a own_z0 "model" own_z4 .null) (F_index_a : Fld Z h0 a own_z0 "index" "I" (.int (0 : Int32))) (F_name_a : Fld Z h0 a own_z0 "name" own_z12 .null) (F_min_a : Fld Z h0 a own_z0 "min" "I" (.int (0 : Int32))) (F_max_a : Fld Z h0 a own_z0 "max" "I" (.int (0 : Int32))) (F_initialMin_a : Fld Z h0 a own_z0 "initialMin" "I" (.int (0 : Int32))) (F_initialMax_a : Fld Z h0 a own_z0 "initialMax" "I" (.int (0 : Int32))) (F_size_a : Fld Z h0 a own_z0 "size" "J" (.long (0 : Int64))) (F_small_a : Fld Z h0 a own_z0 "small" "Z" (.int (0 : Int32))) (F_bits_a : Fld Z h0 a own_z0 "bits" "J" (.long (0 : Int64))) (F_ranges_a : Fld Z h0 a own_z0 "ranges" "[I" .null) (F_first_a : Fld Z h0 a own_z0 "first" "I" (.int (0 : Int32))) (F_last_a : Fld Z h0 a own_z0 "last" "I" (.int (0 : Int32))) (F_stamp_a : Fld Z h0 a own_z0 "stamp" "I" (.int (0 : Int32))) (F_boundsFrom_a : Fld Z h0 a own_z0 "boundsFrom" "I" (.int (0 : Int32))) (F_toldFrom_a : Fld Z h0 a own_z0 "toldFrom" "I" (.int (0 : Int32))) (F_watcherCount_a : Fld Z h0 a own_z0 own_z9 "I" (.int (0 : Int32))) (F_domainFrom_a : Fld Z h0 a own_z0 "domainFrom" "I" (.int (0 : Int32))) (hsz : (0 : Int32) < (lcmpW (((mx.toInt64) - (mn.toInt64)) + (1 : Int64)) (64 : Int64))) (g_a : n0 ≤ a) :
    MetFree l (⟨own_z0, "<init>", own_z15⟩ : MethodName) (head1 (Jvm.Cond.code (⟨own_z0, "<init>", own_z15⟩ : MethodName) prog_37_method_1_code 6 none :: ws) ({ frames := 1, cells := 2, slots := 0, locals := 12 } : Room)) (fun aa UU => aa = #[(.ref a), (.ref mo), (.int ix), (.ref nm), (.int mn), (.int mx)] ∧ Z.Warmed39 UU.vm ∧ UU.heap = h0) (fun _ _ _ _ _ => True) (fun _ U o U' => ∃ v L, o = .returned v ∧ own_QivB Z a mo ix nm mn mx h0 n0 v U'.heap L ∧ FrameEnd U o U' L ({ frames := 1, cells := 2, slots := 0, locals := 12 } : Room).cells ({ frames := 1, cells := 2, slots := 0, locals := 12 } : Room).slots) := by
  refine MetFree.of_bodySF (plainFor_of_name own_pn5) hisR ?_
  intro p e s m args below meth c s₁ Bd hml hP hK
  obtain ⟨rfl, hZ, hh⟩ := hP
  have hx := Bd.exec
  have hlk := Bd.notSynchronized
  have hby := Bd.bytes
  have hret := Bd.returns
  have hown := findClass_of_methodNamed Bd.named
  have hnm := (name_of_methodNamed Bd.named Bd.method).1
  have X0 : Stand p l e ({ frames := 1, cells := 2, slots := 0, locals := 12 } : Room) s m #[(.ref a), (.ref mo), (.int ix), (.ref nm), (.int mn), (.int mx)] below meth c s₁ [] 0 0 := Stand.of_body Bd
  have e0 : s₁.heap = h0 := by rw [← hh, Bd.state]; rfl
  have N0 := Fr.nil n0
  refine own_cast (own_efivB m a mo ix nm mn mx) ?_
  show own_Go p e below s s₁ _ (own_QivB Z a mo ix nm mn mx h0 n0) 2 0
  have K0 : Keep h0 h0 [a] := Keep.refl _ _
  refine own_st (g' := (mkF m 1 #[rv a, rv mo, iv ix, rv nm, iv mn, iv mx] [(.ref a)])) (fun tt_ kk_ => XS.aloadN X0.here hx rfl (hb hby own_d7_0) rfl rfl kk_) ?_
  obtain ⟨T325, X325, e325, st325⟩ := initO X0 hx hZ hown (own_w hw 97 rfl) (own_w hw 7 rfl) (own_w hw 8 rfl) e0 (g := (mkF m 1 #[rv a, rv mo, iv ix, rv nm, iv mn, iv mx] [(.ref a)])) rfl (by rw [hml]; rfl) rfl (hb hby own_d7_1) (by decide) (W := 0) (by show 2 * 0 + _ ≤ _; exact Nat.le_of_eq rfl) (by decide)
  refine own_st st325 ?_
  refine own_st (g' := (mkF m 6 #[rv a, rv mo, iv ix, rv nm, iv mn, iv mx] [(.int (0 : Int32)), (.ref a)])) (fun tt_ kk_ => XS.aloadN X325.here hx rfl (hb hby own_d7_4) rfl rfl (XS.iconst X325.here hx rfl (hb hby own_d7_5) kk_)) ?_
  obtain ⟨T326, h326, k326, X326, e326, E326, A326, -, st326⟩ := newR X325 hx hZ hown (own_w hw 98 rfl) (own_w hw 99 rfl) e325 (g := (mkF m 6 #[rv a, rv mo, iv ix, rv nm, iv mn, iv mx] [(.int (0 : Int32)), (.ref a)])) rfl (hb hby own_d7_6) rfl (by decide) (cap := 0) (by decide) (by decide) (by decide) (by decide)
  obtain ⟨b326, g326⟩ : ∃ z, z = h0.size := ⟨_, rfl⟩
  rw [← g326] at A326 st326
  have ne327 : a ≠ b326 := Nat.ne_of_lt (Nat.lt_of_lt_of_le E_a.lt (Nat.le_of_eq g326.symm))
  have gz326 : n0 ≤ b326 := Nat.le_trans Z0 (Nat.le_of_eq g326.symm)
  have Z326 : n0 ≤ h326.size := Nat.le_trans Z0 E326.1
  have sz326 : h0.size ≤ b326 := Nat.le_trans K0.1 (Nat.le_of_eq g326.symm)
  have K326 : Keep h0 h326 [a] := K0.ext E326
  refine own_st st326 ?_
  have F329 := (F_watchers_a.ext E326)
  have F330 := (E_a.ext E326)
  obtain ⟨T328, h328, X328, e328, W328, st328⟩ := putF X326 hx hZ hown (host := "") (Or.inl (own_w hw 100 rfl)) Via.refl e326 F329 F330 (Or.inl (own_w hw 101 rfl)) (own_w hw 84 rfl) (ty := (.array (.object own_z26))) (by decide) rfl rfl (g := (mkF m 9 #[rv a, rv mo, iv ix, rv nm, iv mn, iv mx] [(.ref b326), (.ref a)])) rfl rfl (hb hby own_d7_9)
  have N328 := Fr.snoc X328 N0 g_a
  have Z328 : n0 ≤ h328.size := Nat.le_trans Z326 (Keep.of_wr W328).1
  have K328 : Keep h0 h328 [a] := K326.wr W328 (Or.inl (List.mem_of_getElem? (i := 0) rfl))
  have F328 : Fld Z h328 a own_z0 "watchers" own_z3 (.ref b326) := F329.same W328
  refine own_st st328 ?_
  refine own_st (g' := (mkF m 14 #[rv a, rv mo, iv ix, rv nm, iv mn, iv mx] [(.int (0 : Int32)), (.ref a)])) (fun tt_ kk_ => XS.aloadN X328.here hx rfl (hb hby own_d7_12) rfl rfl (XS.iconst X328.here hx rfl (hb hby own_d7_13) kk_)) ?_
  obtain ⟨T331, h331, k331, X331, e331, E331, A331, st331⟩ := newP X328 hx hZ (own_w hw 44 rfl) e328 (g := (mkF m 14 #[rv a, rv mo, iv ix, rv nm, iv mn, iv mx] [(.int (0 : Int32)), (.ref a)])) rfl (hb hby own_d7_14) rfl (by decide) (cap := 0) (by decide) (by decide) (by decide) (by decide)
  obtain ⟨b331, g331⟩ : ∃ z, z = h328.size := ⟨_, rfl⟩
  rw [← g331] at A331 st331
  have F333 := (A326.other W328 (Ne.symm ne327))
  have ne332 : b326 ≠ b331 := Nat.ne_of_lt (Nat.lt_of_lt_of_le F333.lt (Nat.le_of_eq g331.symm))
  have F335 := (F330.wr W328)
  have ne334 : a ≠ b331 := Nat.ne_of_lt (Nat.lt_of_lt_of_le F335.lt (Nat.le_of_eq g331.symm))
  have gz331 : n0 ≤ b331 := Nat.le_trans Z328 (Nat.le_of_eq g331.symm)
  have Z331 : n0 ≤ h331.size := Nat.le_trans Z328 E331.1
  have sz331 : h0.size ≤ b331 := Nat.le_trans K328.1 (Nat.le_of_eq g331.symm)
  have K331 : Keep h0 h331 [a] := K328.ext E331
  have P331 : own_AI Z h331 b331 0 (fun _ => 0) := own_AI.new A331 (by decide)
  refine own_st st331 ?_
  have F337 := (((F_tags_a.ext E326).other W328 (Or.inr (own_sn93 hw))).ext E331)
  have F338 := (F335.ext E331)
  obtain ⟨T336, h336, X336, e336, W336, st336⟩ := putF X331 hx hZ hown (host := "") (Or.inl (own_w hw 102 rfl)) Via.refl e331 F337 F338 (Or.inl (own_w hw 103 rfl)) (own_w hw 84 rfl) (ty := (.array .int)) (by decide) rfl rfl (g := (mkF m 16 #[rv a, rv mo, iv ix, rv nm, iv mn, iv mx] [(.ref b331), (.ref a)])) rfl rfl (hb hby own_d7_16)
  have N336 := Fr.snoc X336 N328 g_a
  have Z336 : n0 ≤ h336.size := Nat.le_trans Z331 (Keep.of_wr W336).1
  have K336 : Keep h0 h336 [a] := K331.wr W336 (Or.inl (List.mem_of_getElem? (i := 0) rfl))
  have F336 : Fld Z h336 a own_z0 "tags" "[I" (.ref b331) := F337.same W336
  refine own_st st336 ?_
  refine own_st (g' := (mkF m 21 #[rv a, rv mo, iv ix, rv nm, iv mn, iv mx] [(.ref mo), (.ref a)])) (fun tt_ kk_ => XS.aloadN X336.here hx rfl (hb hby own_d7_19) rfl rfl (XS.aloadN X336.here hx rfl (hb hby own_d7_20) rfl rfl kk_)) ?_
  have F340 := ((((F_model_a.ext E326).other W328 (Or.inr (own_sn94 hw))).ext E331).other W336 (Or.inr (own_sn95 hw)))
  have F341 := (F338.wr W336)
  obtain ⟨T339, h339, X339, e339, W339, st339⟩ := putF X336 hx hZ hown (host := "") (Or.inl (own_w hw 104 rfl)) Via.refl e336 F340 F341 (Or.inr ⟨(own_w hw 105 rfl), rfl, hnm⟩) (own_w hw 84 rfl) (ty := (.object own_z2)) (by decide) rfl rfl (g := (mkF m 21 #[rv a, rv mo, iv ix, rv nm, iv mn, iv mx] [(.ref mo), (.ref a)])) rfl rfl (hb hby own_d7_21)
  have N339 := Fr.snoc X339 N336 g_a
  have Z339 : n0 ≤ h339.size := Nat.le_trans Z336 (Keep.of_wr W339).1
  have K339 : Keep h0 h339 [a] := K336.wr W339 (Or.inl (List.mem_of_getElem? (i := 0) rfl))
  have F339 : Fld Z h339 a own_z0 "model" own_z4 (.ref mo) := F340.same W339
  refine own_st st339 ?_
  refine own_st (g' := (mkF m 26 #[rv a, rv mo, iv ix, rv nm, iv mn, iv mx] [(.int ix), (.ref a)])) (fun tt_ kk_ => XS.aloadN X339.here hx rfl (hb hby own_d7_24) rfl rfl (XS.iloadN X339.here hx rfl (hb hby own_d7_25) rfl kk_)) ?_
  have F343 := (((((F_index_a.ext E326).other W328 (Or.inr (own_sn96 hw))).ext E331).other W336 (Or.inr (own_sn97 hw))).other W339 (Or.inr (own_sn98 hw)))
  have F344 := (F341.wr W339)
  obtain ⟨T342, h342, X342, e342, W342, st342⟩ := putF X339 hx hZ hown (host := "") (Or.inl (own_w hw 106 rfl)) Via.refl e339 F343 F344 (Or.inr ⟨(own_w hw 107 rfl), rfl, hnm⟩) (own_w hw 84 rfl) (ty := .int) (by decide) rfl rfl (g := (mkF m 26 #[rv a, rv mo, iv ix, rv nm, iv mn, iv mx] [(.int ix), (.ref a)])) rfl rfl (hb hby own_d7_26)
  have N342 := Fr.snoc X342 N339 g_a
  have Z342 : n0 ≤ h342.size := Nat.le_trans Z339 (Keep.of_wr W342).1
  have K342 : Keep h0 h342 [a] := K339.wr W342 (Or.inl (List.mem_of_getElem? (i := 0) rfl))
  have F342 : Fld Z h342 a own_z0 "index" "I" (.int ix) := F343.same W342
  refine own_st st342 ?_
  refine own_st (g' := (mkF m 31 #[rv a, rv mo, iv ix, rv nm, iv mn, iv mx] [(.ref nm), (.ref a)])) (fun tt_ kk_ => XS.aloadN X342.here hx rfl (hb hby own_d7_29) rfl rfl (XS.aloadN X342.here hx rfl (hb hby own_d7_30) rfl rfl kk_)) ?_
  have F346 := ((((((F_name_a.ext E326).other W328 (Or.inr (own_sn99 hw))).ext E331).other W336 (Or.inr (own_sn100 hw))).other W339 (Or.inr (own_sn101 hw))).other W342 (Or.inr (own_sn102 hw)))
  have F347 := (F344.wr W342)
  obtain ⟨T345, h345, X345, e345, W345, st345⟩ := putF X342 hx hZ hown (host := "") (Or.inl (own_w hw 108 rfl)) Via.refl e342 F346 F347 (Or.inr ⟨(own_w hw 109 rfl), rfl, hnm⟩) (own_w hw 84 rfl) (ty := (.object "java/lang/String")) (by decide) rfl rfl (g := (mkF m 31 #[rv a, rv mo, iv ix, rv nm, iv mn, iv mx] [(.ref nm), (.ref a)])) rfl rfl (hb hby own_d7_31)
  have N345 := Fr.snoc X345 N342 g_a
  have Z345 : n0 ≤ h345.size := Nat.le_trans Z342 (Keep.of_wr W345).1
  have K345 : Keep h0 h345 [a] := K342.wr W345 (Or.inl (List.mem_of_getElem? (i := 0) rfl))
  have F345 : Fld Z h345 a own_z0 "name" own_z12 (.ref nm) := F346.same W345
  refine own_st st345 ?_
  refine own_st (g' := (mkF m 37 #[rv a, rv mo, iv ix, rv nm, iv mn, iv mx] [(.int mn), (.ref a)])) (fun tt_ kk_ => XS.aloadN X345.here hx rfl (hb hby own_d7_34) rfl rfl (XS.iload X345.here hx rfl (hb hby own_d7_35) rfl kk_)) ?_
  have F349 := (((((((F_min_a.ext E326).other W328 (Or.inr (own_sn103 hw))).ext E331).other W336 (Or.inr (own_sn104 hw))).other W339 (Or.inr (own_sn105 hw))).other W342 (Or.inr (own_sn106 hw))).other W345 (Or.inr (own_sn107 hw)))
  have F350 := (F347.wr W345)
  obtain ⟨T348, h348, X348, e348, W348, st348⟩ := putF X345 hx hZ hown (host := "") (Or.inl (own_w hw 110 rfl)) Via.refl e345 F349 F350 (Or.inl (own_w hw 111 rfl)) (own_w hw 84 rfl) (ty := .int) (by decide) rfl rfl (g := (mkF m 37 #[rv a, rv mo, iv ix, rv nm, iv mn, iv mx] [(.int mn), (.ref a)])) rfl rfl (hb hby own_d7_37)
  have N348 := Fr.snoc X348 N345 g_a
  have Z348 : n0 ≤ h348.size := Nat.le_trans Z345 (Keep.of_wr W348).1
  have K348 : Keep h0 h348 [a] := K345.wr W348 (Or.inl (List.mem_of_getElem? (i := 0) rfl))
  have F348 : Fld Z h348 a own_z0 "min" "I" (.int mn) := F349.same W348
  refine own_st st348 ?_
  refine own_st (g' := (mkF m 43 #[rv a, rv mo, iv ix, rv nm, iv mn, iv mx] [(.int mx), (.ref a)])) (fun tt_ kk_ => XS.aloadN X348.here hx rfl (hb hby own_d7_40) rfl rfl (XS.iload X348.here hx rfl (hb hby own_d7_41) rfl kk_)) ?_
  have F352 := ((((((((F_max_a.ext E326).other W328 (Or.inr (own_sn108 hw))).ext E331).other W336 (Or.inr (own_sn109 hw))).other W339 (Or.inr (own_sn110 hw))).other W342 (Or.inr (own_sn111 hw))).other W345 (Or.inr (own_sn112 hw))).other W348 (Or.inr (own_sn113 hw)))
  have F353 := (F350.wr W348)
  obtain ⟨T351, h351, X351, e351, W351, st351⟩ := putF X348 hx hZ hown (host := "") (Or.inl (own_w hw 112 rfl)) Via.refl e348 F352 F353 (Or.inl (own_w hw 113 rfl)) (own_w hw 84 rfl) (ty := .int) (by decide) rfl rfl (g := (mkF m 43 #[rv a, rv mo, iv ix, rv nm, iv mn, iv mx] [(.int mx), (.ref a)])) rfl rfl (hb hby own_d7_43)
  have N351 := Fr.snoc X351 N348 g_a
  have Z351 : n0 ≤ h351.size := Nat.le_trans Z348 (Keep.of_wr W351).1
  have K351 : Keep h0 h351 [a] := K348.wr W351 (Or.inl (List.mem_of_getElem? (i := 0) rfl))
  have F351 : Fld Z h351 a own_z0 "max" "I" (.int mx) := F352.same W351
  refine own_st st351 ?_
  refine own_st (g' := (mkF m 49 #[rv a, rv mo, iv ix, rv nm, iv mn, iv mx] [(.int mn), (.ref a)])) (fun tt_ kk_ => XS.aloadN X351.here hx rfl (hb hby own_d7_46) rfl rfl (XS.iload X351.here hx rfl (hb hby own_d7_47) rfl kk_)) ?_
  have F355 := (((((((((F_initialMin_a.ext E326).other W328 (Or.inr (own_sn114 hw))).ext E331).other W336 (Or.inr (own_sn115 hw))).other W339 (Or.inr (own_sn116 hw))).other W342 (Or.inr (own_sn117 hw))).other W345 (Or.inr (own_sn118 hw))).other W348 (Or.inr (own_sn119 hw))).other W351 (Or.inr (own_sn120 hw)))
  have F356 := (F353.wr W351)
  obtain ⟨T354, h354, X354, e354, W354, st354⟩ := putF X351 hx hZ hown (host := "") (Or.inl (own_w hw 114 rfl)) Via.refl e351 F355 F356 (Or.inr ⟨(own_w hw 115 rfl), rfl, hnm⟩) (own_w hw 84 rfl) (ty := .int) (by decide) rfl rfl (g := (mkF m 49 #[rv a, rv mo, iv ix, rv nm, iv mn, iv mx] [(.int mn), (.ref a)])) rfl rfl (hb hby own_d7_49)
  have N354 := Fr.snoc X354 N351 g_a
  have Z354 : n0 ≤ h354.size := Nat.le_trans Z351 (Keep.of_wr W354).1
  have K354 : Keep h0 h354 [a] := K351.wr W354 (Or.inl (List.mem_of_getElem? (i := 0) rfl))
  have F354 : Fld Z h354 a own_z0 "initialMin" "I" (.int mn) := F355.same W354
  refine own_st st354 ?_
  refine own_st (g' := (mkF m 55 #[rv a, rv mo, iv ix, rv nm, iv mn, iv mx] [(.int mx), (.ref a)])) (fun tt_ kk_ => XS.aloadN X354.here hx rfl (hb hby own_d7_52) rfl rfl (XS.iload X354.here hx rfl (hb hby own_d7_53) rfl kk_)) ?_
  have F358 := ((((((((((F_initialMax_a.ext E326).other W328 (Or.inr (own_sn121 hw))).ext E331).other W336 (Or.inr (own_sn122 hw))).other W339 (Or.inr (own_sn123 hw))).other W342 (Or.inr (own_sn124 hw))).other W345 (Or.inr (own_sn125 hw))).other W348 (Or.inr (own_sn126 hw))).other W351 (Or.inr (own_sn127 hw))).other W354 (Or.inr (own_sn128 hw)))
  have F359 := (F356.wr W354)
  obtain ⟨T357, h357, X357, e357, W357, st357⟩ := putF X354 hx hZ hown (host := "") (Or.inl (own_w hw 116 rfl)) Via.refl e354 F358 F359 (Or.inr ⟨(own_w hw 117 rfl), rfl, hnm⟩) (own_w hw 84 rfl) (ty := .int) (by decide) rfl rfl (g := (mkF m 55 #[rv a, rv mo, iv ix, rv nm, iv mn, iv mx] [(.int mx), (.ref a)])) rfl rfl (hb hby own_d7_55)
  have N357 := Fr.snoc X357 N354 g_a
  have Z357 : n0 ≤ h357.size := Nat.le_trans Z354 (Keep.of_wr W357).1
  have K357 : Keep h0 h357 [a] := K354.wr W357 (Or.inl (List.mem_of_getElem? (i := 0) rfl))
  have F357 : Fld Z h357 a own_z0 "initialMax" "I" (.int mx) := F358.same W357
  refine own_st st357 ?_
  refine own_st (g' := (mkF m 68 #[rv a, rv mo, iv ix, rv nm, iv mn, iv mx] [(.long (((mx.toInt64) - (mn.toInt64)) + (1 : Int64))), (.ref a)])) (fun tt_ kk_ => XS.aloadN X357.here hx rfl (hb hby own_d7_58) rfl rfl (XS.iload X357.here hx rfl (hb hby own_d7_59) rfl (XS.i2l X357.here hx rfl (hb hby own_d7_61) rfl (XS.iload X357.here hx rfl (hb hby own_d7_62) rfl (XS.i2l X357.here hx rfl (hb hby own_d7_64) rfl (XS.lsub X357.here hx rfl (hb hby own_d7_65) rfl (XS.lconst X357.here hx rfl (hb hby own_d7_66) (XS.ladd X357.here hx rfl (hb hby own_d7_67) rfl kk_)))))))) ?_
  have F361 := (((((((((((F_size_a.ext E326).other W328 (Or.inr (own_sn129 hw))).ext E331).other W336 (Or.inr (own_sn130 hw))).other W339 (Or.inr (own_sn131 hw))).other W342 (Or.inr (own_sn132 hw))).other W345 (Or.inr (own_sn133 hw))).other W348 (Or.inr (own_sn134 hw))).other W351 (Or.inr (own_sn135 hw))).other W354 (Or.inr (own_sn136 hw))).other W357 (Or.inr (own_sn137 hw)))
  have F362 := (F359.wr W357)
  obtain ⟨T360, h360, X360, e360, W360, st360⟩ := putF X357 hx hZ hown (host := "") (Or.inl (own_w hw 118 rfl)) Via.refl e357 F361 F362 (Or.inl (own_w hw 119 rfl)) (own_w hw 84 rfl) (ty := .long) (by decide) rfl rfl (g := (mkF m 68 #[rv a, rv mo, iv ix, rv nm, iv mn, iv mx] [(.long (((mx.toInt64) - (mn.toInt64)) + (1 : Int64))), (.ref a)])) rfl rfl (hb hby own_d7_68)
  have N360 := Fr.snoc X360 N357 g_a
  have Z360 : n0 ≤ h360.size := Nat.le_trans Z357 (Keep.of_wr W360).1
  have K360 : Keep h0 h360 [a] := K357.wr W360 (Or.inl (List.mem_of_getElem? (i := 0) rfl))
  have F360 : Fld Z h360 a own_z0 "size" "J" (.long (((mx.toInt64) - (mn.toInt64)) + (1 : Int64))) := F361.same W360
  refine own_st st360 ?_
  refine own_st (g' := (mkF m 73 #[rv a, rv mo, iv ix, rv nm, iv mn, iv mx] [(.ref a), (.ref a)])) (fun tt_ kk_ => XS.aloadN X360.here hx rfl (hb hby own_d7_71) rfl rfl (XS.aloadN X360.here hx rfl (hb hby own_d7_72) rfl rfl kk_)) ?_
  refine own_gG X360 hx hZ hown (own_w hw 118 rfl) e360 F360 rfl rfl (hb hby own_d7_73) (fun {T363} X363 e363 => ?_)
  refine own_st (g' := (mkF m 80 #[rv a, rv mo, iv ix, rv nm, iv mn, iv mx] [(.int (lcmpW (((mx.toInt64) - (mn.toInt64)) + (1 : Int64)) (64 : Int64))), (.ref a)])) (fun tt_ kk_ => X363.ldc2Long hx hown (mvT hZ (own_w hw 120 rfl)) (g := (mkF m 76 #[rv a, rv mo, iv ix, rv nm, iv mn, iv mx] [(.long (((mx.toInt64) - (mn.toInt64)) + (1 : Int64))), (.ref a)])) rfl (hb hby own_d7_76) _ (XS.lcmp X363.here hx rfl (hb hby own_d7_79) rfl kk_)) ?_
  refine own_st (g' := (mkF m 88 #[rv a, rv mo, iv ix, rv nm, iv mn, iv mx] [(.int (0 : Int32)), (.ref a)])) (fun tt_ kk_ => XS.ifYes X363.here hx rfl (pc0 := 80) (pc' := 87) rfl (hb hby own_d7_80) rfl ((if0 _ _).trans (tlt hsz).2.2.1) (by decide) (by decide) (XS.iconst X363.here hx rfl (hb hby own_d7_87) kk_)) ?_
  have F365 := ((((((((((((F_small_a.ext E326).other W328 (Or.inr (own_sn138 hw))).ext E331).other W336 (Or.inr (own_sn139 hw))).other W339 (Or.inr (own_sn140 hw))).other W342 (Or.inr (own_sn141 hw))).other W345 (Or.inr (own_sn142 hw))).other W348 (Or.inr (own_sn143 hw))).other W351 (Or.inr (own_sn144 hw))).other W354 (Or.inr (own_sn145 hw))).other W357 (Or.inr (own_sn146 hw))).other W360 (Or.inr (own_sn147 hw)))
  have F366 := (F362.wr W360)
  obtain ⟨T364, h364, X364, e364, W364, st364⟩ := putFN X363 hx hZ hown (own_w hw 121 rfl) Via.refl e363 F365 F366 (Or.inr ⟨(own_w hw 122 rfl), rfl, hnm⟩) (own_w hw 84 rfl) (ty := .boolean) (v' := (.int (0 : Int32))) (by decide) rfl rfl (g := (mkF m 88 #[rv a, rv mo, iv ix, rv nm, iv mn, iv mx] [(.int (0 : Int32)), (.ref a)])) rfl rfl (hb hby own_d7_88)
  have N364 := Fr.snoc X364 N360 g_a
  have Z364 : n0 ≤ h364.size := Nat.le_trans Z360 (Keep.of_wr W364).1
  have K364 : Keep h0 h364 [a] := K360.wr W364 (Or.inl (List.mem_of_getElem? (i := 0) rfl))
  have F364 : Fld Z h364 a own_z0 "small" "Z" (.int (0 : Int32)) := F365.same W364
  refine own_st st364 ?_
  refine own_st (g' := (mkF m 92 #[rv a, rv mo, iv ix, rv nm, iv mn, iv mx] [(.ref a)])) (fun tt_ kk_ => XS.aloadN X364.here hx rfl (hb hby own_d7_91) rfl rfl kk_) ?_
  refine own_gG X364 hx hZ hown (own_w hw 121 rfl) e364 F364 rfl rfl (hb hby own_d7_92) (fun {T367} X367 e367 => ?_)
  refine own_st (g' := (mkF m 114 #[rv a, rv mo, iv ix, rv nm, iv mn, iv mx] [])) (fun tt_ kk_ => XS.ifYes X367.here hx rfl (pc0 := 95) (pc' := 114) rfl (hb hby own_d7_95) rfl ((if0 _ _).trans (teq (by decide : (0 : Int32) = (0 : Int32))).1) (by decide) (by decide) kk_) ?_
  have F368 := (F366.wr W364)
  have F369 := ((((((((F339.other W342 (Or.inr (Ne.symm (own_sn98 hw)))).other W345 (Or.inr (Ne.symm (own_sn101 hw)))).other W348 (Or.inr (Ne.symm (own_sn105 hw)))).other W351 (Or.inr (Ne.symm (own_sn110 hw)))).other W354 (Or.inr (Ne.symm (own_sn116 hw)))).other W357 (Or.inr (Ne.symm (own_sn123 hw)))).other W360 (Or.inr (Ne.symm (own_sn131 hw)))).other W364 (Or.inr (Ne.symm (own_sn140 hw))))
  have F370 := (((F354.other W357 (Or.inr (Ne.symm (own_sn128 hw)))).other W360 (Or.inr (Ne.symm (own_sn136 hw)))).other W364 (Or.inr (Ne.symm (own_sn145 hw))))
  have F371 := (((((((F342.other W345 (Or.inr (Ne.symm (own_sn102 hw)))).other W348 (Or.inr (Ne.symm (own_sn106 hw)))).other W351 (Or.inr (Ne.symm (own_sn111 hw)))).other W354 (Or.inr (Ne.symm (own_sn117 hw)))).other W357 (Or.inr (Ne.symm (own_sn124 hw)))).other W360 (Or.inr (Ne.symm (own_sn132 hw)))).other W364 (Or.inr (Ne.symm (own_sn141 hw))))
  have F372 := (((((F348.other W351 (Or.inr (Ne.symm (own_sn113 hw)))).other W354 (Or.inr (Ne.symm (own_sn119 hw)))).other W357 (Or.inr (Ne.symm (own_sn126 hw)))).other W360 (Or.inr (Ne.symm (own_sn134 hw)))).other W364 (Or.inr (Ne.symm (own_sn143 hw))))
  have F373 := ((((F351.other W354 (Or.inr (Ne.symm (own_sn120 hw)))).other W357 (Or.inr (Ne.symm (own_sn127 hw)))).other W360 (Or.inr (Ne.symm (own_sn135 hw)))).other W364 (Or.inr (Ne.symm (own_sn144 hw))))
  have F374 := (F360.other W364 (Or.inr (Ne.symm (own_sn147 hw))))
  have F375 := (((((((((((((F_bits_a.ext E326).other W328 (Or.inr (own_sn148 hw))).ext E331).other W336 (Or.inr (own_sn149 hw))).other W339 (Or.inr (own_sn150 hw))).other W342 (Or.inr (own_sn151 hw))).other W345 (Or.inr (own_sn152 hw))).other W348 (Or.inr (own_sn153 hw))).other W351 (Or.inr (own_sn154 hw))).other W354 (Or.inr (own_sn155 hw))).other W357 (Or.inr (own_sn156 hw))).other W360 (Or.inr (own_sn157 hw))).other W364 (Or.inr (own_sn158 hw)))
  have F376 := (((((((((((((F_ranges_a.ext E326).other W328 (Or.inr (own_sn159 hw))).ext E331).other W336 (Or.inr (own_sn160 hw))).other W339 (Or.inr (own_sn161 hw))).other W342 (Or.inr (own_sn162 hw))).other W345 (Or.inr (own_sn163 hw))).other W348 (Or.inr (own_sn164 hw))).other W351 (Or.inr (own_sn165 hw))).other W354 (Or.inr (own_sn166 hw))).other W357 (Or.inr (own_sn167 hw))).other W360 (Or.inr (own_sn168 hw))).other W364 (Or.inr (own_sn169 hw)))
  have F377 := (((((((((((((F_first_a.ext E326).other W328 (Or.inr (own_sn171 hw))).ext E331).other W336 (Or.inr (own_sn172 hw))).other W339 (Or.inr (own_sn173 hw))).other W342 (Or.inr (own_sn174 hw))).other W345 (Or.inr (own_sn175 hw))).other W348 (Or.inr (own_sn176 hw))).other W351 (Or.inr (own_sn177 hw))).other W354 (Or.inr (own_sn178 hw))).other W357 (Or.inr (own_sn179 hw))).other W360 (Or.inr (own_sn180 hw))).other W364 (Or.inr (own_sn181 hw)))
  have F378 := (((((((((((((F_last_a.ext E326).other W328 (Or.inr (own_sn183 hw))).ext E331).other W336 (Or.inr (own_sn184 hw))).other W339 (Or.inr (own_sn185 hw))).other W342 (Or.inr (own_sn186 hw))).other W345 (Or.inr (own_sn187 hw))).other W348 (Or.inr (own_sn188 hw))).other W351 (Or.inr (own_sn189 hw))).other W354 (Or.inr (own_sn190 hw))).other W357 (Or.inr (own_sn191 hw))).other W360 (Or.inr (own_sn192 hw))).other W364 (Or.inr (own_sn193 hw)))
  have F379 := (((((((((((((F_stamp_a.ext E326).other W328 (Or.inr (own_sn195 hw))).ext E331).other W336 (Or.inr (own_sn196 hw))).other W339 (Or.inr (own_sn197 hw))).other W342 (Or.inr (own_sn198 hw))).other W345 (Or.inr (own_sn199 hw))).other W348 (Or.inr (own_sn200 hw))).other W351 (Or.inr (own_sn201 hw))).other W354 (Or.inr (own_sn202 hw))).other W357 (Or.inr (own_sn203 hw))).other W360 (Or.inr (own_sn204 hw))).other W364 (Or.inr (own_sn205 hw)))
  have F380 := (((((((((((((F_watcherCount_a.ext E326).other W328 (Or.inr (own_sn207 hw))).ext E331).other W336 (Or.inr (own_sn208 hw))).other W339 (Or.inr (own_sn209 hw))).other W342 (Or.inr (own_sn210 hw))).other W345 (Or.inr (own_sn211 hw))).other W348 (Or.inr (own_sn212 hw))).other W351 (Or.inr (own_sn213 hw))).other W354 (Or.inr (own_sn214 hw))).other W357 (Or.inr (own_sn215 hw))).other W360 (Or.inr (own_sn216 hw))).other W364 (Or.inr (own_sn217 hw)))
  have F381 := (((((((((((((F_boundsFrom_a.ext E326).other W328 (Or.inr (own_sn219 hw))).ext E331).other W336 (Or.inr (own_sn220 hw))).other W339 (Or.inr (own_sn221 hw))).other W342 (Or.inr (own_sn222 hw))).other W345 (Or.inr (own_sn223 hw))).other W348 (Or.inr (own_sn224 hw))).other W351 (Or.inr (own_sn225 hw))).other W354 (Or.inr (own_sn226 hw))).other W357 (Or.inr (own_sn227 hw))).other W360 (Or.inr (own_sn228 hw))).other W364 (Or.inr (own_sn229 hw)))
  have F382 := (((((((((((((F_toldFrom_a.ext E326).other W328 (Or.inr (own_sn231 hw))).ext E331).other W336 (Or.inr (own_sn232 hw))).other W339 (Or.inr (own_sn233 hw))).other W342 (Or.inr (own_sn234 hw))).other W345 (Or.inr (own_sn235 hw))).other W348 (Or.inr (own_sn236 hw))).other W351 (Or.inr (own_sn237 hw))).other W354 (Or.inr (own_sn238 hw))).other W357 (Or.inr (own_sn239 hw))).other W360 (Or.inr (own_sn240 hw))).other W364 (Or.inr (own_sn241 hw)))
  have F383 := (((((((((((F328.ext E331).other W336 (Or.inr (Ne.symm (own_sn93 hw)))).other W339 (Or.inr (Ne.symm (own_sn94 hw)))).other W342 (Or.inr (Ne.symm (own_sn96 hw)))).other W345 (Or.inr (Ne.symm (own_sn99 hw)))).other W348 (Or.inr (Ne.symm (own_sn103 hw)))).other W351 (Or.inr (Ne.symm (own_sn108 hw)))).other W354 (Or.inr (Ne.symm (own_sn114 hw)))).other W357 (Or.inr (Ne.symm (own_sn121 hw)))).other W360 (Or.inr (Ne.symm (own_sn129 hw)))).other W364 (Or.inr (Ne.symm (own_sn138 hw))))
  exact own_retV X367 hx hlk hret (hb hby own_d7_114) (by decide) (by decide) (by rw [e367]; exact ⟨rfl, N364, K364, b326, F368, F369, F364, F370, F371, F372, F373, F374, F375, F376, F377, F378, F379, F380, F381, F382, F383⟩)
theorem own_d9_0 : own_D own_b9 0 (.aload_n 0) 1 := by decide +kernel
theorem own_d9_1 : own_D own_b9 1 (.getfield 33) 3 := by decide +kernel
theorem own_d9_4 : own_D own_b9 4 .ireturn 1 := by decide +kernel
def own_Qgmin (Z : State) (a : Addr) (gv : Int32) (h0 : Heap) (n0 : Nat) (v : Option Value) (h : Heap) (L : List Loc) : Prop := v = some (.int gv) ∧ Fr n0 L ∧ h = h0
theorem own_efgmin (m : MethodId) (a : Addr) : entryFrame m #[(.ref a)] 1 = mkF m 0 #[rv a] [] := by first | (simp [entryFrame, mkF, argsToLocals, Value.category]; done) | rfl
set_option maxRecDepth 65536 in
set_option maxHeartbeats 16000000 in
theorem own_rmgmin (l : Launch) (Z : State) (a0 : Array Value) (hw : own_HW Z a0) (ws : List Jvm.Cond) (a : Addr) (gv : Int32) (h0 : Heap) (n0 : Nat) (Z0 : n0 ≤ h0.size) (F_min_a : Fld Z h0 a own_z0 "min" "I" (.int gv)) :
    MetFree l (⟨own_z0, "min", "()I"⟩ : MethodName) (head1 (Jvm.Cond.code (⟨own_z0, "min", "()I"⟩ : MethodName) prog_37_method_4_code 1 (some .int) :: ws) ({ frames := 0, cells := 0, slots := 0, locals := 0 } : Room)) (fun aa UU => aa = #[(.ref a)] ∧ Z.Warmed39 UU.vm ∧ UU.heap = h0) (fun _ _ _ _ _ => True) (fun _ U o U' => ∃ v L, o = .returned v ∧ own_Qgmin Z a gv h0 n0 v U'.heap L ∧ FrameEnd U o U' L ({ frames := 0, cells := 0, slots := 0, locals := 0 } : Room).cells ({ frames := 0, cells := 0, slots := 0, locals := 0 } : Room).slots) := by
  refine MetFree.of_bodySF (plainFor_of_name own_pn5) hisR ?_
  intro p e s m args below meth c s₁ Bd hml hP hK
  obtain ⟨rfl, hZ, hh⟩ := hP
  have hx := Bd.exec
  have hlk := Bd.notSynchronized
  have hby := Bd.bytes
  have hret := Bd.returns
  have hown := findClass_of_methodNamed Bd.named
  have hnm := (name_of_methodNamed Bd.named Bd.method).1
  have X0 : Stand p l e ({ frames := 0, cells := 0, slots := 0, locals := 0 } : Room) s m #[(.ref a)] below meth c s₁ [] 0 0 := Stand.of_body Bd
  have e0 : s₁.heap = h0 := by rw [← hh, Bd.state]; rfl
  have N0 := Fr.nil n0
  refine own_cast (own_efgmin m a) ?_
  show own_Go p e below s s₁ _ (own_Qgmin Z a gv h0 n0) 0 0
  refine own_st (g' := (mkF m 1 #[rv a] [(.ref a)])) (fun tt_ kk_ => XS.aloadN X0.here hx rfl (hb hby own_d9_0) rfl rfl kk_) ?_
  refine own_gG X0 hx hZ hown (own_w hw 110 rfl) e0 F_min_a rfl rfl (hb hby own_d9_1) (fun {T384} X384 e384 => ?_)
  exact own_retI X384 hx hlk hret (hb hby own_d9_4) (by decide) (by decide) (by rw [e384]; exact ⟨rfl, N0, rfl⟩)
theorem own_d10_0 : own_D own_b10 0 (.aload_n 0) 1 := by decide +kernel
theorem own_d10_1 : own_D own_b10 1 (.getfield 36) 3 := by decide +kernel
theorem own_d10_4 : own_D own_b10 4 .ireturn 1 := by decide +kernel
def own_Qgmax (Z : State) (a : Addr) (gv : Int32) (h0 : Heap) (n0 : Nat) (v : Option Value) (h : Heap) (L : List Loc) : Prop := v = some (.int gv) ∧ Fr n0 L ∧ h = h0
theorem own_efgmax (m : MethodId) (a : Addr) : entryFrame m #[(.ref a)] 1 = mkF m 0 #[rv a] [] := by first | (simp [entryFrame, mkF, argsToLocals, Value.category]; done) | rfl
set_option maxRecDepth 65536 in
set_option maxHeartbeats 16000000 in
theorem own_rmgmax (l : Launch) (Z : State) (a0 : Array Value) (hw : own_HW Z a0) (ws : List Jvm.Cond) (a : Addr) (gv : Int32) (h0 : Heap) (n0 : Nat) (Z0 : n0 ≤ h0.size) (F_max_a : Fld Z h0 a own_z0 "max" "I" (.int gv)) :
    MetFree l (⟨own_z0, "max", "()I"⟩ : MethodName) (head1 (Jvm.Cond.code (⟨own_z0, "max", "()I"⟩ : MethodName) prog_37_method_5_code 1 (some .int) :: ws) ({ frames := 0, cells := 0, slots := 0, locals := 0 } : Room)) (fun aa UU => aa = #[(.ref a)] ∧ Z.Warmed39 UU.vm ∧ UU.heap = h0) (fun _ _ _ _ _ => True) (fun _ U o U' => ∃ v L, o = .returned v ∧ own_Qgmax Z a gv h0 n0 v U'.heap L ∧ FrameEnd U o U' L ({ frames := 0, cells := 0, slots := 0, locals := 0 } : Room).cells ({ frames := 0, cells := 0, slots := 0, locals := 0 } : Room).slots) := by
  refine MetFree.of_bodySF (plainFor_of_name own_pn5) hisR ?_
  intro p e s m args below meth c s₁ Bd hml hP hK
  obtain ⟨rfl, hZ, hh⟩ := hP
  have hx := Bd.exec
  have hlk := Bd.notSynchronized
  have hby := Bd.bytes
  have hret := Bd.returns
  have hown := findClass_of_methodNamed Bd.named
  have hnm := (name_of_methodNamed Bd.named Bd.method).1
  have X0 : Stand p l e ({ frames := 0, cells := 0, slots := 0, locals := 0 } : Room) s m #[(.ref a)] below meth c s₁ [] 0 0 := Stand.of_body Bd
  have e0 : s₁.heap = h0 := by rw [← hh, Bd.state]; rfl
  have N0 := Fr.nil n0
  refine own_cast (own_efgmax m a) ?_
  show own_Go p e below s s₁ _ (own_Qgmax Z a gv h0 n0) 0 0
  refine own_st (g' := (mkF m 1 #[rv a] [(.ref a)])) (fun tt_ kk_ => XS.aloadN X0.here hx rfl (hb hby own_d10_0) rfl rfl kk_) ?_
  refine own_gG X0 hx hZ hown (own_w hw 112 rfl) e0 F_max_a rfl rfl (hb hby own_d10_1) (fun {T385} X385 e385 => ?_)
  exact own_retI X385 hx hlk hret (hb hby own_d10_4) (by decide) (by decide) (by rw [e385]; exact ⟨rfl, N0, rfl⟩)
theorem own_d11_0 : own_D own_b11 0 (.aload_n 0) 1 := by decide +kernel
theorem own_d11_1 : own_D own_b11 1 (.getfield 45) 3 := by decide +kernel
theorem own_d11_4 : own_D own_b11 4 .lreturn 1 := by decide +kernel
def own_Qgsiz (Z : State) (a : Addr) (gv : Int64) (h0 : Heap) (n0 : Nat) (v : Option Value) (h : Heap) (L : List Loc) : Prop := v = some (.long gv) ∧ Fr n0 L ∧ h = h0
theorem own_efgsiz (m : MethodId) (a : Addr) : entryFrame m #[(.ref a)] 1 = mkF m 0 #[rv a] [] := by first | (simp [entryFrame, mkF, argsToLocals, Value.category]; done) | rfl
set_option maxRecDepth 65536 in
set_option maxHeartbeats 16000000 in
theorem own_rmgsiz (l : Launch) (Z : State) (a0 : Array Value) (hw : own_HW Z a0) (ws : List Jvm.Cond) (a : Addr) (gv : Int64) (h0 : Heap) (n0 : Nat) (Z0 : n0 ≤ h0.size) (F_size_a : Fld Z h0 a own_z0 "size" "J" (.long gv)) :
    MetFree l (⟨own_z0, "size", "()J"⟩ : MethodName) (head1 (Jvm.Cond.code (⟨own_z0, "size", "()J"⟩ : MethodName) prog_37_method_6_code 1 (some .long) :: ws) ({ frames := 0, cells := 0, slots := 0, locals := 0 } : Room)) (fun aa UU => aa = #[(.ref a)] ∧ Z.Warmed39 UU.vm ∧ UU.heap = h0) (fun _ _ _ _ _ => True) (fun _ U o U' => ∃ v L, o = .returned v ∧ own_Qgsiz Z a gv h0 n0 v U'.heap L ∧ FrameEnd U o U' L ({ frames := 0, cells := 0, slots := 0, locals := 0 } : Room).cells ({ frames := 0, cells := 0, slots := 0, locals := 0 } : Room).slots) := by
  refine MetFree.of_bodySF (plainFor_of_name own_pn5) hisR ?_
  intro p e s m args below meth c s₁ Bd hml hP hK
  obtain ⟨rfl, hZ, hh⟩ := hP
  have hx := Bd.exec
  have hlk := Bd.notSynchronized
  have hby := Bd.bytes
  have hret := Bd.returns
  have hown := findClass_of_methodNamed Bd.named
  have hnm := (name_of_methodNamed Bd.named Bd.method).1
  have X0 : Stand p l e ({ frames := 0, cells := 0, slots := 0, locals := 0 } : Room) s m #[(.ref a)] below meth c s₁ [] 0 0 := Stand.of_body Bd
  have e0 : s₁.heap = h0 := by rw [← hh, Bd.state]; rfl
  have N0 := Fr.nil n0
  refine own_cast (own_efgsiz m a) ?_
  show own_Go p e below s s₁ _ (own_Qgsiz Z a gv h0 n0) 0 0
  refine own_st (g' := (mkF m 1 #[rv a] [(.ref a)])) (fun tt_ kk_ => XS.aloadN X0.here hx rfl (hb hby own_d11_0) rfl rfl kk_) ?_
  refine own_gG X0 hx hZ hown (own_w hw 118 rfl) e0 F_size_a rfl rfl (hb hby own_d11_1) (fun {T386} X386 e386 => ?_)
  exact own_retJ X386 hx hlk hret (hb hby own_d11_4) (by decide) (by decide) (by rw [e386]; exact ⟨rfl, N0, rfl⟩)
theorem own_d12_0 : own_D own_b12 0 (.aload_n 0) 1 := by decide +kernel
theorem own_d12_1 : own_D own_b12 1 (.getfield 124) 3 := by decide +kernel
theorem own_d12_4 : own_D own_b12 4 .ireturn 1 := by decide +kernel
def own_Qgstp (Z : State) (a : Addr) (gv : Int32) (h0 : Heap) (n0 : Nat) (v : Option Value) (h : Heap) (L : List Loc) : Prop := v = some (.int gv) ∧ Fr n0 L ∧ h = h0
theorem own_efgstp (m : MethodId) (a : Addr) : entryFrame m #[(.ref a)] 1 = mkF m 0 #[rv a] [] := by first | (simp [entryFrame, mkF, argsToLocals, Value.category]; done) | rfl
set_option maxRecDepth 65536 in
set_option maxHeartbeats 16000000 in
theorem own_rmgstp (l : Launch) (Z : State) (a0 : Array Value) (hw : own_HW Z a0) (ws : List Jvm.Cond) (a : Addr) (gv : Int32) (h0 : Heap) (n0 : Nat) (Z0 : n0 ≤ h0.size) (F_stamp_a : Fld Z h0 a own_z0 "stamp" "I" (.int gv)) :
    MetFree l (⟨own_z0, "stamp", "()I"⟩ : MethodName) (head1 (Jvm.Cond.code (⟨own_z0, "stamp", "()I"⟩ : MethodName) prog_37_method_16_code 1 (some .int) :: ws) ({ frames := 0, cells := 0, slots := 0, locals := 0 } : Room)) (fun aa UU => aa = #[(.ref a)] ∧ Z.Warmed39 UU.vm ∧ UU.heap = h0) (fun _ _ _ _ _ => True) (fun _ U o U' => ∃ v L, o = .returned v ∧ own_Qgstp Z a gv h0 n0 v U'.heap L ∧ FrameEnd U o U' L ({ frames := 0, cells := 0, slots := 0, locals := 0 } : Room).cells ({ frames := 0, cells := 0, slots := 0, locals := 0 } : Room).slots) := by
  refine MetFree.of_bodySF (plainFor_of_name own_pn5) hisR ?_
  intro p e s m args below meth c s₁ Bd hml hP hK
  obtain ⟨rfl, hZ, hh⟩ := hP
  have hx := Bd.exec
  have hlk := Bd.notSynchronized
  have hby := Bd.bytes
  have hret := Bd.returns
  have hown := findClass_of_methodNamed Bd.named
  have hnm := (name_of_methodNamed Bd.named Bd.method).1
  have X0 : Stand p l e ({ frames := 0, cells := 0, slots := 0, locals := 0 } : Room) s m #[(.ref a)] below meth c s₁ [] 0 0 := Stand.of_body Bd
  have e0 : s₁.heap = h0 := by rw [← hh, Bd.state]; rfl
  have N0 := Fr.nil n0
  refine own_cast (own_efgstp m a) ?_
  show own_Go p e below s s₁ _ (own_Qgstp Z a gv h0 n0) 0 0
  refine own_st (g' := (mkF m 1 #[rv a] [(.ref a)])) (fun tt_ kk_ => XS.aloadN X0.here hx rfl (hb hby own_d12_0) rfl rfl kk_) ?_
  refine own_gG X0 hx hZ hown (own_w hw 137 rfl) e0 F_stamp_a rfl rfl (hb hby own_d12_1) (fun {T387} X387 e387 => ?_)
  exact own_retI X387 hx hlk hret (hb hby own_d12_4) (by decide) (by decide) (by rw [e387]; exact ⟨rfl, N0, rfl⟩)
theorem own_d19_0 : own_D own_b19 0 (.aload_n 0) 1 := by decide +kernel
theorem own_d19_1 : own_D own_b19 1 (.getfield 25) 3 := by decide +kernel
theorem own_d19_4 : own_D own_b19 4 .ireturn 1 := by decide +kernel
def own_Qgidx (Z : State) (a : Addr) (gv : Int32) (h0 : Heap) (n0 : Nat) (v : Option Value) (h : Heap) (L : List Loc) : Prop := v = some (.int gv) ∧ Fr n0 L ∧ h = h0
theorem own_efgidx (m : MethodId) (a : Addr) : entryFrame m #[(.ref a)] 1 = mkF m 0 #[rv a] [] := by first | (simp [entryFrame, mkF, argsToLocals, Value.category]; done) | rfl
set_option maxRecDepth 65536 in
set_option maxHeartbeats 16000000 in
theorem own_rmgidx (l : Launch) (Z : State) (a0 : Array Value) (hw : own_HW Z a0) (ws : List Jvm.Cond) (a : Addr) (gv : Int32) (h0 : Heap) (n0 : Nat) (Z0 : n0 ≤ h0.size) (F_index_a : Fld Z h0 a own_z0 "index" "I" (.int gv)) :
    MetFree l (⟨own_z0, "index", "()I"⟩ : MethodName) (head1 (Jvm.Cond.code (⟨own_z0, "index", "()I"⟩ : MethodName) prog_37_method_13_code 1 (some .int) :: ws) ({ frames := 0, cells := 0, slots := 0, locals := 0 } : Room)) (fun aa UU => aa = #[(.ref a)] ∧ Z.Warmed39 UU.vm ∧ UU.heap = h0) (fun _ _ _ _ _ => True) (fun _ U o U' => ∃ v L, o = .returned v ∧ own_Qgidx Z a gv h0 n0 v U'.heap L ∧ FrameEnd U o U' L ({ frames := 0, cells := 0, slots := 0, locals := 0 } : Room).cells ({ frames := 0, cells := 0, slots := 0, locals := 0 } : Room).slots) := by
  refine MetFree.of_bodySF (plainFor_of_name own_pn5) hisR ?_
  intro p e s m args below meth c s₁ Bd hml hP hK
  obtain ⟨rfl, hZ, hh⟩ := hP
  have hx := Bd.exec
  have hlk := Bd.notSynchronized
  have hby := Bd.bytes
  have hret := Bd.returns
  have hown := findClass_of_methodNamed Bd.named
  have hnm := (name_of_methodNamed Bd.named Bd.method).1
  have X0 : Stand p l e ({ frames := 0, cells := 0, slots := 0, locals := 0 } : Room) s m #[(.ref a)] below meth c s₁ [] 0 0 := Stand.of_body Bd
  have e0 : s₁.heap = h0 := by rw [← hh, Bd.state]; rfl
  have N0 := Fr.nil n0
  refine own_cast (own_efgidx m a) ?_
  show own_Go p e below s s₁ _ (own_Qgidx Z a gv h0 n0) 0 0
  refine own_st (g' := (mkF m 1 #[rv a] [(.ref a)])) (fun tt_ kk_ => XS.aloadN X0.here hx rfl (hb hby own_d19_0) rfl rfl kk_) ?_
  refine own_gG X0 hx hZ hown (own_w hw 106 rfl) e0 F_index_a rfl rfl (hb hby own_d19_1) (fun {T388} X388 e388 => ?_)
  exact own_retI X388 hx hlk hret (hb hby own_d19_4) (by decide) (by decide) (by rw [e388]; exact ⟨rfl, N0, rfl⟩)
theorem own_d17_0 : own_D own_b17 0 (.aload_n 0) 1 := by decide +kernel
theorem own_d17_1 : own_D own_b17 1 (.getfield 50) 3 := by decide +kernel
theorem own_d17_4 : own_D own_b17 4 .ireturn 1 := by decide +kernel
def own_Qgdep (Z : State) (a : Addr) (gv : Int32) (h0 : Heap) (n0 : Nat) (v : Option Value) (h : Heap) (L : List Loc) : Prop := v = some (.int gv) ∧ Fr n0 L ∧ h = h0
theorem own_efgdep (m : MethodId) (a : Addr) : entryFrame m #[(.ref a)] 1 = mkF m 0 #[rv a] [] := by first | (simp [entryFrame, mkF, argsToLocals, Value.category]; done) | rfl
set_option maxRecDepth 65536 in
set_option maxHeartbeats 16000000 in
theorem own_rmgdep (l : Launch) (Z : State) (a0 : Array Value) (hw : own_HW Z a0) (ws : List Jvm.Cond) (a : Addr) (gv : Int32) (h0 : Heap) (n0 : Nat) (Z0 : n0 ≤ h0.size) (F_depth_a : Fld Z h0 a own_z1 "depth" "I" (.int gv)) :
    MetFree l (⟨own_z1, "depth", "()I"⟩ : MethodName) (head1 (Jvm.Cond.code (⟨own_z1, "depth", "()I"⟩ : MethodName) prog_75_method_2_code 1 (some .int) :: ws) ({ frames := 0, cells := 0, slots := 0, locals := 0 } : Room)) (fun aa UU => aa = #[(.ref a)] ∧ Z.Warmed39 UU.vm ∧ UU.heap = h0) (fun _ _ _ _ _ => True) (fun _ U o U' => ∃ v L, o = .returned v ∧ own_Qgdep Z a gv h0 n0 v U'.heap L ∧ FrameEnd U o U' L ({ frames := 0, cells := 0, slots := 0, locals := 0 } : Room).cells ({ frames := 0, cells := 0, slots := 0, locals := 0 } : Room).slots) := by
  refine MetFree.of_bodySF (plainFor_of_name own_pn3) hisR ?_
  intro p e s m args below meth c s₁ Bd hml hP hK
  obtain ⟨rfl, hZ, hh⟩ := hP
  have hx := Bd.exec
  have hlk := Bd.notSynchronized
  have hby := Bd.bytes
  have hret := Bd.returns
  have hown := findClass_of_methodNamed Bd.named
  have hnm := (name_of_methodNamed Bd.named Bd.method).1
  have X0 : Stand p l e ({ frames := 0, cells := 0, slots := 0, locals := 0 } : Room) s m #[(.ref a)] below meth c s₁ [] 0 0 := Stand.of_body Bd
  have e0 : s₁.heap = h0 := by rw [← hh, Bd.state]; rfl
  have N0 := Fr.nil n0
  refine own_cast (own_efgdep m a) ?_
  show own_Go p e below s s₁ _ (own_Qgdep Z a gv h0 n0) 0 0
  refine own_st (g' := (mkF m 1 #[rv a] [(.ref a)])) (fun tt_ kk_ => XS.aloadN X0.here hx rfl (hb hby own_d17_0) rfl rfl kk_) ?_
  refine own_gG X0 hx hZ hown (own_w hw 186 rfl) e0 F_depth_a rfl rfl (hb hby own_d17_1) (fun {T389} X389 e389 => ?_)
  exact own_retI X389 hx hlk hret (hb hby own_d17_4) (by decide) (by decide) (by rw [e389]; exact ⟨rfl, N0, rfl⟩)
theorem own_d16_0 : own_D own_b16 0 (.aload_n 0) 1 := by decide +kernel
theorem own_d16_1 : own_D own_b16 1 (.getfield 24) 3 := by decide +kernel
theorem own_d16_4 : own_D own_b16 4 .areturn 1 := by decide +kernel
def own_Qgtra (Z : State) (a : Addr) (gv : Addr) (h0 : Heap) (n0 : Nat) (v : Option Value) (h : Heap) (L : List Loc) : Prop := v = some (.ref gv) ∧ Fr n0 L ∧ h = h0
theorem own_efgtra (m : MethodId) (a : Addr) : entryFrame m #[(.ref a)] 1 = mkF m 0 #[rv a] [] := by first | (simp [entryFrame, mkF, argsToLocals, Value.category]; done) | rfl
set_option maxRecDepth 65536 in
set_option maxHeartbeats 16000000 in
theorem own_rmgtra (l : Launch) (Z : State) (a0 : Array Value) (hw : own_HW Z a0) (ws : List Jvm.Cond) (a : Addr) (gv : Addr) (h0 : Heap) (n0 : Nat) (Z0 : n0 ≤ h0.size) (F_trail_a : Fld Z h0 a own_z2 "trail" own_z7 (.ref gv)) :
    MetFree l (⟨own_z2, "trail", own_z27⟩ : MethodName) (head1 (Jvm.Cond.code (⟨own_z2, "trail", own_z27⟩ : MethodName) prog_46_method_10_code 1 (some (.object own_z1)) :: ws) ({ frames := 0, cells := 0, slots := 0, locals := 0 } : Room)) (fun aa UU => aa = #[(.ref a)] ∧ Z.Warmed39 UU.vm ∧ UU.heap = h0) (fun _ _ _ _ _ => True) (fun _ U o U' => ∃ v L, o = .returned v ∧ own_Qgtra Z a gv h0 n0 v U'.heap L ∧ FrameEnd U o U' L ({ frames := 0, cells := 0, slots := 0, locals := 0 } : Room).cells ({ frames := 0, cells := 0, slots := 0, locals := 0 } : Room).slots) := by
  refine MetFree.of_bodySF (plainFor_of_name own_pn4) hisR ?_
  intro p e s m args below meth c s₁ Bd hml hP hK
  obtain ⟨rfl, hZ, hh⟩ := hP
  have hx := Bd.exec
  have hlk := Bd.notSynchronized
  have hby := Bd.bytes
  have hret := Bd.returns
  have hown := findClass_of_methodNamed Bd.named
  have hnm := (name_of_methodNamed Bd.named Bd.method).1
  have X0 : Stand p l e ({ frames := 0, cells := 0, slots := 0, locals := 0 } : Room) s m #[(.ref a)] below meth c s₁ [] 0 0 := Stand.of_body Bd
  have e0 : s₁.heap = h0 := by rw [← hh, Bd.state]; rfl
  have N0 := Fr.nil n0
  refine own_cast (own_efgtra m a) ?_
  show own_Go p e below s s₁ _ (own_Qgtra Z a gv h0 n0) 0 0
  refine own_st (g' := (mkF m 1 #[rv a] [(.ref a)])) (fun tt_ kk_ => XS.aloadN X0.here hx rfl (hb hby own_d16_0) rfl rfl kk_) ?_
  refine own_gG X0 hx hZ hown (own_w hw 72 rfl) e0 F_trail_a rfl rfl (hb hby own_d16_1) (fun {T390} X390 e390 => ?_)
  exact own_retR X390 hx hlk (t := (.object own_z1)) rfl hret (hb hby own_d16_4) (by decide) (by decide) (by rw [e390]; exact ⟨rfl, N0, rfl⟩)
theorem own_d8_0 : own_D own_b8 0 (.aload_n 0) 1 := by decide +kernel
theorem own_d8_1 : own_D own_b8 1 (.iload_n 1) 1 := by decide +kernel
theorem own_d8_2 : own_D own_b8 2 (.putfield 33) 3 := by decide +kernel
theorem own_d8_5 : own_D own_b8 5 (.aload_n 0) 1 := by decide +kernel
theorem own_d8_6 : own_D own_b8 6 (.iload_n 2) 1 := by decide +kernel
theorem own_d8_7 : own_D own_b8 7 (.putfield 36) 3 := by decide +kernel
theorem own_d8_10 : own_D own_b8 10 (.aload_n 0) 1 := by decide +kernel
theorem own_d8_11 : own_D own_b8 11 (.lload_n 3) 1 := by decide +kernel
theorem own_d8_12 : own_D own_b8 12 (.putfield 45) 3 := by decide +kernel
theorem own_d8_15 : own_D own_b8 15 (.aload_n 0) 1 := by decide +kernel
theorem own_d8_16 : own_D own_b8 16 (.lload 5) 2 := by decide +kernel
theorem own_d8_18 : own_D own_b8 18 (.putfield 57) 3 := by decide +kernel
theorem own_d8_21 : own_D own_b8 21 (.aload_n 0) 1 := by decide +kernel
theorem own_d8_22 : own_D own_b8 22 (.aload 7) 2 := by decide +kernel
theorem own_d8_24 : own_D own_b8 24 (.putfield 69) 3 := by decide +kernel
theorem own_d8_27 : own_D own_b8 27 (.aload_n 0) 1 := by decide +kernel
theorem own_d8_28 : own_D own_b8 28 (.iload 8) 2 := by decide +kernel
theorem own_d8_30 : own_D own_b8 30 (.putfield 218) 3 := by decide +kernel
theorem own_d8_33 : own_D own_b8 33 (.aload_n 0) 1 := by decide +kernel
theorem own_d8_34 : own_D own_b8 34 (.iload 9) 2 := by decide +kernel
theorem own_d8_36 : own_D own_b8 36 (.putfield 72) 3 := by decide +kernel
theorem own_d8_39 : own_D own_b8 39 (.aload_n 0) 1 := by decide +kernel
theorem own_d8_40 : own_D own_b8 40 (.iload 10) 2 := by decide +kernel
theorem own_d8_42 : own_D own_b8 42 (.putfield 124) 3 := by decide +kernel
theorem own_d8_45 : own_D own_b8 45 .return_ 1 := by decide +kernel
def own_QrsA (Z : State) (a : Addr) (mn : Int32) (mx : Int32) (sz : Int64) (bi : Int64) (fi : Int32) (la : Int32) (st : Int32) (o1 : Int32) (o2 : Int32) (o3 : Int64) (o4 : Int64) (o5 : Int32) (o6 : Int32) (o7 : Int32) (mo : Addr) (sm : Int32) (im : Int32) (ix : Int32) (wa : Addr) (h0 : Heap) (n0 : Nat) (v : Option Value) (h : Heap) (L : List Loc) : Prop := v = none ∧ Fr n0 L ∧ Keep h0 h [a] ∧ Exa Z h a own_z0 ∧ Fld Z h a own_z0 "min" "I" (.int mn) ∧ Fld Z h a own_z0 "max" "I" (.int mx) ∧ Fld Z h a own_z0 "size" "J" (.long sz) ∧ Fld Z h a own_z0 "bits" "J" (.long bi) ∧ Fld Z h a own_z0 "ranges" "[I" .null ∧ Fld Z h a own_z0 "first" "I" (.int fi) ∧ Fld Z h a own_z0 "last" "I" (.int la) ∧ Fld Z h a own_z0 "stamp" "I" (.int st) ∧ Fld Z h a own_z0 "model" own_z4 (.ref mo) ∧ Fld Z h a own_z0 "small" "Z" (.int sm) ∧ Fld Z h a own_z0 "initialMin" "I" (.int im) ∧ Fld Z h a own_z0 "index" "I" (.int ix) ∧ Fld Z h a own_z0 "watchers" own_z3 (.ref wa) ∧ Fld Z h a own_z0 own_z9 "I" (.int (0 : Int32)) ∧ Fld Z h a own_z0 "boundsFrom" "I" (.int (0 : Int32)) ∧ Fld Z h a own_z0 "toldFrom" "I" (.int (0 : Int32))
theorem own_efrsA (m : MethodId) (a : Addr) (mn : Int32) (mx : Int32) (sz : Int64) (bi : Int64) (fi : Int32) (la : Int32) (st : Int32) : entryFrame m #[(.ref a), (.int mn), (.int mx), (.long sz), (.long bi), .null, (.int fi), (.int la), (.int st)] 11 = mkF m 0 #[rv a, iv mn, iv mx, .val (.long sz), .second, .val (.long bi), .second, .val .null, iv fi, iv la, iv st] [] := by first | (simp [entryFrame, mkF, argsToLocals, Value.category]; done) | rfl
set_option maxRecDepth 65536 in
set_option maxHeartbeats 16000000 in
theorem own_rmrsA (l : Launch) (Z : State) (a0 : Array Value) (hw : own_HW Z a0) (ws : List Jvm.Cond) (a : Addr) (mn : Int32) (mx : Int32) (sz : Int64) (bi : Int64) (fi : Int32) (la : Int32) (st : Int32) (o1 : Int32) (o2 : Int32) (o3 : Int64) (o4 : Int64) (o5 : Int32) (o6 : Int32) (o7 : Int32) (mo : Addr) (sm : Int32) (im : Int32) (ix : Int32) (wa : Addr) (h0 : Heap) (n0 : Nat) (Z0 : n0 ≤ h0.size) (E_a : Exa Z h0 a own_z0) (F_min_a : Fld Z h0 a own_z0 "min" "I" (.int o1)) (F_max_a : Fld Z h0 a own_z0 "max" "I" (.int o2)) (F_size_a : Fld Z h0 a own_z0 "size" "J" (.long o3)) (F_bits_a : Fld Z h0 a own_z0 "bits" "J" (.long o4)) (F_first_a : Fld Z h0 a own_z0 "first" "I" (.int o5)) (F_last_a : Fld Z h0 a own_z0 "last" "I" (.int o6)) (F_stamp_a : Fld Z h0 a own_z0 "stamp" "I" (.int o7)) (F_ranges_a : Fld Z h0 a own_z0 "ranges" "[I" .null) (F_model_a : Fld Z h0 a own_z0 "model" own_z4 (.ref mo)) (F_small_a : Fld Z h0 a own_z0 "small" "Z" (.int sm)) (F_initialMin_a : Fld Z h0 a own_z0 "initialMin" "I" (.int im)) (F_index_a : Fld Z h0 a own_z0 "index" "I" (.int ix)) (F_watchers_a : Fld Z h0 a own_z0 "watchers" own_z3 (.ref wa)) (F_watcherCount_a : Fld Z h0 a own_z0 own_z9 "I" (.int (0 : Int32))) (F_boundsFrom_a : Fld Z h0 a own_z0 "boundsFrom" "I" (.int (0 : Int32))) (F_toldFrom_a : Fld Z h0 a own_z0 "toldFrom" "I" (.int (0 : Int32))) (g_a : n0 ≤ a) :
    MetFree l (⟨own_z0, "restore", "(IIJJ[IIII)V"⟩ : MethodName) (head1 (Jvm.Cond.code (⟨own_z0, "restore", "(IIJJ[IIII)V"⟩ : MethodName) prog_37_method_35_code 11 none :: ws) ({ frames := 0, cells := 0, slots := 0, locals := 0 } : Room)) (fun aa UU => aa = #[(.ref a), (.int mn), (.int mx), (.long sz), (.long bi), .null, (.int fi), (.int la), (.int st)] ∧ Z.Warmed39 UU.vm ∧ UU.heap = h0) (fun _ _ _ _ _ => True) (fun _ U o U' => ∃ v L, o = .returned v ∧ own_QrsA Z a mn mx sz bi fi la st o1 o2 o3 o4 o5 o6 o7 mo sm im ix wa h0 n0 v U'.heap L ∧ FrameEnd U o U' L ({ frames := 0, cells := 0, slots := 0, locals := 0 } : Room).cells ({ frames := 0, cells := 0, slots := 0, locals := 0 } : Room).slots) := by
  refine MetFree.of_bodySF (plainFor_of_name own_pn5) hisR ?_
  intro p e s m args below meth c s₁ Bd hml hP hK
  obtain ⟨rfl, hZ, hh⟩ := hP
  have hx := Bd.exec
  have hlk := Bd.notSynchronized
  have hby := Bd.bytes
  have hret := Bd.returns
  have hown := findClass_of_methodNamed Bd.named
  have hnm := (name_of_methodNamed Bd.named Bd.method).1
  have X0 : Stand p l e ({ frames := 0, cells := 0, slots := 0, locals := 0 } : Room) s m #[(.ref a), (.int mn), (.int mx), (.long sz), (.long bi), .null, (.int fi), (.int la), (.int st)] below meth c s₁ [] 0 0 := Stand.of_body Bd
  have e0 : s₁.heap = h0 := by rw [← hh, Bd.state]; rfl
  have N0 := Fr.nil n0
  refine own_cast (own_efrsA m a mn mx sz bi fi la st) ?_
  show own_Go p e below s s₁ _ (own_QrsA Z a mn mx sz bi fi la st o1 o2 o3 o4 o5 o6 o7 mo sm im ix wa h0 n0) 0 0
  have K0 : Keep h0 h0 [a] := Keep.refl _ _
  refine own_st (g' := (mkF m 2 #[rv a, iv mn, iv mx, .val (.long sz), .second, .val (.long bi), .second, .val .null, iv fi, iv la, iv st] [(.int mn), (.ref a)])) (fun tt_ kk_ => XS.aloadN X0.here hx rfl (hb hby own_d8_0) rfl rfl (XS.iloadN X0.here hx rfl (hb hby own_d8_1) rfl kk_)) ?_
  obtain ⟨T391, h391, X391, e391, W391, st391⟩ := putF X0 hx hZ hown (host := "") (Or.inl (own_w hw 110 rfl)) Via.refl e0 F_min_a E_a (Or.inl (own_w hw 111 rfl)) (own_w hw 84 rfl) (ty := .int) (by decide) rfl rfl (g := (mkF m 2 #[rv a, iv mn, iv mx, .val (.long sz), .second, .val (.long bi), .second, .val .null, iv fi, iv la, iv st] [(.int mn), (.ref a)])) rfl rfl (hb hby own_d8_2)
  have N391 := Fr.snoc X391 N0 g_a
  have Z391 : n0 ≤ h391.size := Nat.le_trans Z0 (Keep.of_wr W391).1
  have K391 : Keep h0 h391 [a] := K0.wr W391 (Or.inl (List.mem_of_getElem? (i := 0) rfl))
  have F391 : Fld Z h391 a own_z0 "min" "I" (.int mn) := F_min_a.same W391
  refine own_st st391 ?_
  refine own_st (g' := (mkF m 7 #[rv a, iv mn, iv mx, .val (.long sz), .second, .val (.long bi), .second, .val .null, iv fi, iv la, iv st] [(.int mx), (.ref a)])) (fun tt_ kk_ => XS.aloadN X391.here hx rfl (hb hby own_d8_5) rfl rfl (XS.iloadN X391.here hx rfl (hb hby own_d8_6) rfl kk_)) ?_
  have F393 := (F_max_a.other W391 (Or.inr (own_sn113 hw)))
  have F394 := (E_a.wr W391)
  obtain ⟨T392, h392, X392, e392, W392, st392⟩ := putF X391 hx hZ hown (host := "") (Or.inl (own_w hw 112 rfl)) Via.refl e391 F393 F394 (Or.inl (own_w hw 113 rfl)) (own_w hw 84 rfl) (ty := .int) (by decide) rfl rfl (g := (mkF m 7 #[rv a, iv mn, iv mx, .val (.long sz), .second, .val (.long bi), .second, .val .null, iv fi, iv la, iv st] [(.int mx), (.ref a)])) rfl rfl (hb hby own_d8_7)
  have N392 := Fr.snoc X392 N391 g_a
  have Z392 : n0 ≤ h392.size := Nat.le_trans Z391 (Keep.of_wr W392).1
  have K392 : Keep h0 h392 [a] := K391.wr W392 (Or.inl (List.mem_of_getElem? (i := 0) rfl))
  have F392 : Fld Z h392 a own_z0 "max" "I" (.int mx) := F393.same W392
  refine own_st st392 ?_
  refine own_st (g' := (mkF m 12 #[rv a, iv mn, iv mx, .val (.long sz), .second, .val (.long bi), .second, .val .null, iv fi, iv la, iv st] [(.long sz), (.ref a)])) (fun tt_ kk_ => XS.aloadN X392.here hx rfl (hb hby own_d8_10) rfl rfl (XS.lloadN X392.here hx rfl (hb hby own_d8_11) rfl kk_)) ?_
  have F396 := ((F_size_a.other W391 (Or.inr (own_sn134 hw))).other W392 (Or.inr (own_sn135 hw)))
  have F397 := (F394.wr W392)
  obtain ⟨T395, h395, X395, e395, W395, st395⟩ := putF X392 hx hZ hown (host := "") (Or.inl (own_w hw 118 rfl)) Via.refl e392 F396 F397 (Or.inl (own_w hw 119 rfl)) (own_w hw 84 rfl) (ty := .long) (by decide) rfl rfl (g := (mkF m 12 #[rv a, iv mn, iv mx, .val (.long sz), .second, .val (.long bi), .second, .val .null, iv fi, iv la, iv st] [(.long sz), (.ref a)])) rfl rfl (hb hby own_d8_12)
  have N395 := Fr.snoc X395 N392 g_a
  have Z395 : n0 ≤ h395.size := Nat.le_trans Z392 (Keep.of_wr W395).1
  have K395 : Keep h0 h395 [a] := K392.wr W395 (Or.inl (List.mem_of_getElem? (i := 0) rfl))
  have F395 : Fld Z h395 a own_z0 "size" "J" (.long sz) := F396.same W395
  refine own_st st395 ?_
  refine own_st (g' := (mkF m 18 #[rv a, iv mn, iv mx, .val (.long sz), .second, .val (.long bi), .second, .val .null, iv fi, iv la, iv st] [(.long bi), (.ref a)])) (fun tt_ kk_ => XS.aloadN X395.here hx rfl (hb hby own_d8_15) rfl rfl (XS.lload X395.here hx rfl (hb hby own_d8_16) rfl kk_)) ?_
  have F399 := (((F_bits_a.other W391 (Or.inr (own_sn153 hw))).other W392 (Or.inr (own_sn154 hw))).other W395 (Or.inr (own_sn157 hw)))
  have F400 := (F397.wr W395)
  obtain ⟨T398, h398, X398, e398, W398, st398⟩ := putF X395 hx hZ hown (host := "") (Or.inl (own_w hw 124 rfl)) Via.refl e395 F399 F400 (Or.inl (own_w hw 125 rfl)) (own_w hw 84 rfl) (ty := .long) (by decide) rfl rfl (g := (mkF m 18 #[rv a, iv mn, iv mx, .val (.long sz), .second, .val (.long bi), .second, .val .null, iv fi, iv la, iv st] [(.long bi), (.ref a)])) rfl rfl (hb hby own_d8_18)
  have N398 := Fr.snoc X398 N395 g_a
  have Z398 : n0 ≤ h398.size := Nat.le_trans Z395 (Keep.of_wr W398).1
  have K398 : Keep h0 h398 [a] := K395.wr W398 (Or.inl (List.mem_of_getElem? (i := 0) rfl))
  have F398 : Fld Z h398 a own_z0 "bits" "J" (.long bi) := F399.same W398
  refine own_st st398 ?_
  refine own_st (g' := (mkF m 24 #[rv a, iv mn, iv mx, .val (.long sz), .second, .val (.long bi), .second, .val .null, iv fi, iv la, iv st] [.null, (.ref a)])) (fun tt_ kk_ => XS.aloadN X398.here hx rfl (hb hby own_d8_21) rfl rfl (XS.aload X398.here hx rfl (hb hby own_d8_22) rfl rfl kk_)) ?_
  have F402 := ((((F_ranges_a.other W391 (Or.inr (own_sn164 hw))).other W392 (Or.inr (own_sn165 hw))).other W395 (Or.inr (own_sn168 hw))).other W398 (Or.inr (own_sn170 hw)))
  have F403 := (F400.wr W398)
  obtain ⟨T401, h401, X401, e401, W401, st401⟩ := putF X398 hx hZ hown (host := "") (Or.inl (own_w hw 131 rfl)) Via.refl e398 F402 F403 (Or.inl (own_w hw 132 rfl)) (own_w hw 84 rfl) (ty := (.array .int)) (by decide) rfl rfl (g := (mkF m 24 #[rv a, iv mn, iv mx, .val (.long sz), .second, .val (.long bi), .second, .val .null, iv fi, iv la, iv st] [.null, (.ref a)])) rfl rfl (hb hby own_d8_24)
  have N401 := Fr.snoc X401 N398 g_a
  have Z401 : n0 ≤ h401.size := Nat.le_trans Z398 (Keep.of_wr W401).1
  have K401 : Keep h0 h401 [a] := K398.wr W401 (Or.inl (List.mem_of_getElem? (i := 0) rfl))
  have F401 : Fld Z h401 a own_z0 "ranges" "[I" .null := F402.same W401
  refine own_st st401 ?_
  refine own_st (g' := (mkF m 30 #[rv a, iv mn, iv mx, .val (.long sz), .second, .val (.long bi), .second, .val .null, iv fi, iv la, iv st] [(.int fi), (.ref a)])) (fun tt_ kk_ => XS.aloadN X401.here hx rfl (hb hby own_d8_27) rfl rfl (XS.iload X401.here hx rfl (hb hby own_d8_28) rfl kk_)) ?_
  have F405 := (((((F_first_a.other W391 (Or.inr (own_sn176 hw))).other W392 (Or.inr (own_sn177 hw))).other W395 (Or.inr (own_sn180 hw))).other W398 (Or.inr (own_sn182 hw))).other W401 (Or.inr (own_sn243 hw)))
  have F406 := (F403.wr W401)
  obtain ⟨T404, h404, X404, e404, W404, st404⟩ := putF X401 hx hZ hown (host := "") (Or.inl (own_w hw 133 rfl)) Via.refl e401 F405 F406 (Or.inl (own_w hw 134 rfl)) (own_w hw 84 rfl) (ty := .int) (by decide) rfl rfl (g := (mkF m 30 #[rv a, iv mn, iv mx, .val (.long sz), .second, .val (.long bi), .second, .val .null, iv fi, iv la, iv st] [(.int fi), (.ref a)])) rfl rfl (hb hby own_d8_30)
  have N404 := Fr.snoc X404 N401 g_a
  have Z404 : n0 ≤ h404.size := Nat.le_trans Z401 (Keep.of_wr W404).1
  have K404 : Keep h0 h404 [a] := K401.wr W404 (Or.inl (List.mem_of_getElem? (i := 0) rfl))
  have F404 : Fld Z h404 a own_z0 "first" "I" (.int fi) := F405.same W404
  refine own_st st404 ?_
  refine own_st (g' := (mkF m 36 #[rv a, iv mn, iv mx, .val (.long sz), .second, .val (.long bi), .second, .val .null, iv fi, iv la, iv st] [(.int la), (.ref a)])) (fun tt_ kk_ => XS.aloadN X404.here hx rfl (hb hby own_d8_33) rfl rfl (XS.iload X404.here hx rfl (hb hby own_d8_34) rfl kk_)) ?_
  have F408 := ((((((F_last_a.other W391 (Or.inr (own_sn188 hw))).other W392 (Or.inr (own_sn189 hw))).other W395 (Or.inr (own_sn192 hw))).other W398 (Or.inr (own_sn194 hw))).other W401 (Or.inr (own_sn244 hw))).other W404 (Or.inr (own_sn245 hw)))
  have F409 := (F406.wr W404)
  obtain ⟨T407, h407, X407, e407, W407, st407⟩ := putF X404 hx hZ hown (host := "") (Or.inl (own_w hw 135 rfl)) Via.refl e404 F408 F409 (Or.inl (own_w hw 136 rfl)) (own_w hw 84 rfl) (ty := .int) (by decide) rfl rfl (g := (mkF m 36 #[rv a, iv mn, iv mx, .val (.long sz), .second, .val (.long bi), .second, .val .null, iv fi, iv la, iv st] [(.int la), (.ref a)])) rfl rfl (hb hby own_d8_36)
  have N407 := Fr.snoc X407 N404 g_a
  have Z407 : n0 ≤ h407.size := Nat.le_trans Z404 (Keep.of_wr W407).1
  have K407 : Keep h0 h407 [a] := K404.wr W407 (Or.inl (List.mem_of_getElem? (i := 0) rfl))
  have F407 : Fld Z h407 a own_z0 "last" "I" (.int la) := F408.same W407
  refine own_st st407 ?_
  refine own_st (g' := (mkF m 42 #[rv a, iv mn, iv mx, .val (.long sz), .second, .val (.long bi), .second, .val .null, iv fi, iv la, iv st] [(.int st), (.ref a)])) (fun tt_ kk_ => XS.aloadN X407.here hx rfl (hb hby own_d8_39) rfl rfl (XS.iload X407.here hx rfl (hb hby own_d8_40) rfl kk_)) ?_
  have F411 := (((((((F_stamp_a.other W391 (Or.inr (own_sn200 hw))).other W392 (Or.inr (own_sn201 hw))).other W395 (Or.inr (own_sn204 hw))).other W398 (Or.inr (own_sn206 hw))).other W401 (Or.inr (own_sn246 hw))).other W404 (Or.inr (own_sn247 hw))).other W407 (Or.inr (own_sn248 hw)))
  have F412 := (F409.wr W407)
  obtain ⟨T410, h410, X410, e410, W410, st410⟩ := putF X407 hx hZ hown (host := "") (Or.inl (own_w hw 137 rfl)) Via.refl e407 F411 F412 (Or.inl (own_w hw 138 rfl)) (own_w hw 84 rfl) (ty := .int) (by decide) rfl rfl (g := (mkF m 42 #[rv a, iv mn, iv mx, .val (.long sz), .second, .val (.long bi), .second, .val .null, iv fi, iv la, iv st] [(.int st), (.ref a)])) rfl rfl (hb hby own_d8_42)
  have N410 := Fr.snoc X410 N407 g_a
  have Z410 : n0 ≤ h410.size := Nat.le_trans Z407 (Keep.of_wr W410).1
  have K410 : Keep h0 h410 [a] := K407.wr W410 (Or.inl (List.mem_of_getElem? (i := 0) rfl))
  have F410 : Fld Z h410 a own_z0 "stamp" "I" (.int st) := F411.same W410
  refine own_st st410 ?_
  have F413 := (F412.wr W410)
  have F414 := (((((((F391.other W392 (Or.inr (Ne.symm (own_sn113 hw)))).other W395 (Or.inr (Ne.symm (own_sn134 hw)))).other W398 (Or.inr (Ne.symm (own_sn153 hw)))).other W401 (Or.inr (Ne.symm (own_sn164 hw)))).other W404 (Or.inr (Ne.symm (own_sn176 hw)))).other W407 (Or.inr (Ne.symm (own_sn188 hw)))).other W410 (Or.inr (Ne.symm (own_sn200 hw))))
  have F415 := ((((((F392.other W395 (Or.inr (Ne.symm (own_sn135 hw)))).other W398 (Or.inr (Ne.symm (own_sn154 hw)))).other W401 (Or.inr (Ne.symm (own_sn165 hw)))).other W404 (Or.inr (Ne.symm (own_sn177 hw)))).other W407 (Or.inr (Ne.symm (own_sn189 hw)))).other W410 (Or.inr (Ne.symm (own_sn201 hw))))
  have F416 := (((((F395.other W398 (Or.inr (Ne.symm (own_sn157 hw)))).other W401 (Or.inr (Ne.symm (own_sn168 hw)))).other W404 (Or.inr (Ne.symm (own_sn180 hw)))).other W407 (Or.inr (Ne.symm (own_sn192 hw)))).other W410 (Or.inr (Ne.symm (own_sn204 hw))))
  have F417 := ((((F398.other W401 (Or.inr (Ne.symm (own_sn170 hw)))).other W404 (Or.inr (Ne.symm (own_sn182 hw)))).other W407 (Or.inr (Ne.symm (own_sn194 hw)))).other W410 (Or.inr (Ne.symm (own_sn206 hw))))
  have F418 := (((F401.other W404 (Or.inr (Ne.symm (own_sn243 hw)))).other W407 (Or.inr (Ne.symm (own_sn244 hw)))).other W410 (Or.inr (Ne.symm (own_sn246 hw))))
  have F419 := ((F404.other W407 (Or.inr (Ne.symm (own_sn245 hw)))).other W410 (Or.inr (Ne.symm (own_sn247 hw))))
  have F420 := (F407.other W410 (Or.inr (Ne.symm (own_sn248 hw))))
  have F421 := ((((((((F_model_a.other W391 (Or.inr (Ne.symm (own_sn105 hw)))).other W392 (Or.inr (Ne.symm (own_sn110 hw)))).other W395 (Or.inr (Ne.symm (own_sn131 hw)))).other W398 (Or.inr (Ne.symm (own_sn150 hw)))).other W401 (Or.inr (Ne.symm (own_sn161 hw)))).other W404 (Or.inr (Ne.symm (own_sn173 hw)))).other W407 (Or.inr (Ne.symm (own_sn185 hw)))).other W410 (Or.inr (Ne.symm (own_sn197 hw))))
  have F422 := ((((((((F_small_a.other W391 (Or.inr (own_sn143 hw))).other W392 (Or.inr (own_sn144 hw))).other W395 (Or.inr (own_sn147 hw))).other W398 (Or.inr (Ne.symm (own_sn158 hw)))).other W401 (Or.inr (Ne.symm (own_sn169 hw)))).other W404 (Or.inr (Ne.symm (own_sn181 hw)))).other W407 (Or.inr (Ne.symm (own_sn193 hw)))).other W410 (Or.inr (Ne.symm (own_sn205 hw))))
  have F423 := ((((((((F_initialMin_a.other W391 (Or.inr (own_sn119 hw))).other W392 (Or.inr (own_sn120 hw))).other W395 (Or.inr (Ne.symm (own_sn136 hw)))).other W398 (Or.inr (Ne.symm (own_sn155 hw)))).other W401 (Or.inr (Ne.symm (own_sn166 hw)))).other W404 (Or.inr (Ne.symm (own_sn178 hw)))).other W407 (Or.inr (Ne.symm (own_sn190 hw)))).other W410 (Or.inr (Ne.symm (own_sn202 hw))))
  have F424 := ((((((((F_index_a.other W391 (Or.inr (Ne.symm (own_sn106 hw)))).other W392 (Or.inr (Ne.symm (own_sn111 hw)))).other W395 (Or.inr (Ne.symm (own_sn132 hw)))).other W398 (Or.inr (Ne.symm (own_sn151 hw)))).other W401 (Or.inr (Ne.symm (own_sn162 hw)))).other W404 (Or.inr (Ne.symm (own_sn174 hw)))).other W407 (Or.inr (Ne.symm (own_sn186 hw)))).other W410 (Or.inr (Ne.symm (own_sn198 hw))))
  have F425 := ((((((((F_watchers_a.other W391 (Or.inr (Ne.symm (own_sn103 hw)))).other W392 (Or.inr (Ne.symm (own_sn108 hw)))).other W395 (Or.inr (Ne.symm (own_sn129 hw)))).other W398 (Or.inr (Ne.symm (own_sn148 hw)))).other W401 (Or.inr (Ne.symm (own_sn159 hw)))).other W404 (Or.inr (Ne.symm (own_sn171 hw)))).other W407 (Or.inr (Ne.symm (own_sn183 hw)))).other W410 (Or.inr (Ne.symm (own_sn195 hw))))
  have F426 := ((((((((F_watcherCount_a.other W391 (Or.inr (own_sn212 hw))).other W392 (Or.inr (own_sn213 hw))).other W395 (Or.inr (own_sn216 hw))).other W398 (Or.inr (own_sn218 hw))).other W401 (Or.inr (own_sn249 hw))).other W404 (Or.inr (own_sn250 hw))).other W407 (Or.inr (own_sn251 hw))).other W410 (Or.inr (own_sn252 hw)))
  have F427 := ((((((((F_boundsFrom_a.other W391 (Or.inr (own_sn224 hw))).other W392 (Or.inr (own_sn225 hw))).other W395 (Or.inr (own_sn228 hw))).other W398 (Or.inr (own_sn230 hw))).other W401 (Or.inr (own_sn253 hw))).other W404 (Or.inr (own_sn254 hw))).other W407 (Or.inr (own_sn255 hw))).other W410 (Or.inr (own_sn256 hw)))
  have F428 := ((((((((F_toldFrom_a.other W391 (Or.inr (own_sn236 hw))).other W392 (Or.inr (own_sn237 hw))).other W395 (Or.inr (own_sn240 hw))).other W398 (Or.inr (own_sn242 hw))).other W401 (Or.inr (own_sn257 hw))).other W404 (Or.inr (own_sn258 hw))).other W407 (Or.inr (own_sn259 hw))).other W410 (Or.inr (own_sn260 hw)))
  exact own_retV X410 hx hlk hret (hb hby own_d8_45) (by decide) (by decide) (by rw [e410]; exact ⟨rfl, N410, K410, F413, F414, F415, F416, F417, F418, F419, F420, F410, F421, F422, F423, F424, F425, F426, F427, F428⟩)
def own_QrsB (Z : State) (a : Addr) (mn : Int32) (mx : Int32) (sz : Int64) (bi : Int64) (rg : Addr) (fi : Int32) (la : Int32) (st : Int32) (o1 : Int32) (o2 : Int32) (o3 : Int64) (o4 : Int64) (o5 : Int32) (o6 : Int32) (o7 : Int32) (mo : Addr) (sm : Int32) (im : Int32) (ix : Int32) (wa : Addr) (h0 : Heap) (n0 : Nat) (v : Option Value) (h : Heap) (L : List Loc) : Prop := v = none ∧ Fr n0 L ∧ Keep h0 h [a] ∧ Exa Z h a own_z0 ∧ Fld Z h a own_z0 "min" "I" (.int mn) ∧ Fld Z h a own_z0 "max" "I" (.int mx) ∧ Fld Z h a own_z0 "size" "J" (.long sz) ∧ Fld Z h a own_z0 "bits" "J" (.long bi) ∧ Fld Z h a own_z0 "ranges" "[I" (.ref rg) ∧ Fld Z h a own_z0 "first" "I" (.int fi) ∧ Fld Z h a own_z0 "last" "I" (.int la) ∧ Fld Z h a own_z0 "stamp" "I" (.int st) ∧ Fld Z h a own_z0 "model" own_z4 (.ref mo) ∧ Fld Z h a own_z0 "small" "Z" (.int sm) ∧ Fld Z h a own_z0 "initialMin" "I" (.int im) ∧ Fld Z h a own_z0 "index" "I" (.int ix) ∧ Fld Z h a own_z0 "watchers" own_z3 (.ref wa) ∧ Fld Z h a own_z0 own_z9 "I" (.int (0 : Int32)) ∧ Fld Z h a own_z0 "boundsFrom" "I" (.int (0 : Int32)) ∧ Fld Z h a own_z0 "toldFrom" "I" (.int (0 : Int32))
theorem own_efrsB (m : MethodId) (a : Addr) (mn : Int32) (mx : Int32) (sz : Int64) (bi : Int64) (rg : Addr) (fi : Int32) (la : Int32) (st : Int32) : entryFrame m #[(.ref a), (.int mn), (.int mx), (.long sz), (.long bi), (.ref rg), (.int fi), (.int la), (.int st)] 11 = mkF m 0 #[rv a, iv mn, iv mx, .val (.long sz), .second, .val (.long bi), .second, rv rg, iv fi, iv la, iv st] [] := by first | (simp [entryFrame, mkF, argsToLocals, Value.category]; done) | rfl
set_option maxRecDepth 65536 in
set_option maxHeartbeats 16000000 in
theorem own_rmrsB (l : Launch) (Z : State) (a0 : Array Value) (hw : own_HW Z a0) (ws : List Jvm.Cond) (a : Addr) (mn : Int32) (mx : Int32) (sz : Int64) (bi : Int64) (rg : Addr) (fi : Int32) (la : Int32) (st : Int32) (o1 : Int32) (o2 : Int32) (o3 : Int64) (o4 : Int64) (o5 : Int32) (o6 : Int32) (o7 : Int32) (mo : Addr) (sm : Int32) (im : Int32) (ix : Int32) (wa : Addr) (h0 : Heap) (n0 : Nat) (Z0 : n0 ≤ h0.size) (E_a : Exa Z h0 a own_z0) (F_min_a : Fld Z h0 a own_z0 "min" "I" (.int o1)) (F_max_a : Fld Z h0 a own_z0 "max" "I" (.int o2)) (F_size_a : Fld Z h0 a own_z0 "size" "J" (.long o3)) (F_bits_a : Fld Z h0 a own_z0 "bits" "J" (.long o4)) (F_first_a : Fld Z h0 a own_z0 "first" "I" (.int o5)) (F_last_a : Fld Z h0 a own_z0 "last" "I" (.int o6)) (F_stamp_a : Fld Z h0 a own_z0 "stamp" "I" (.int o7)) (F_ranges_a : Fld Z h0 a own_z0 "ranges" "[I" .null) (F_model_a : Fld Z h0 a own_z0 "model" own_z4 (.ref mo)) (F_small_a : Fld Z h0 a own_z0 "small" "Z" (.int sm)) (F_initialMin_a : Fld Z h0 a own_z0 "initialMin" "I" (.int im)) (F_index_a : Fld Z h0 a own_z0 "index" "I" (.int ix)) (F_watchers_a : Fld Z h0 a own_z0 "watchers" own_z3 (.ref wa)) (F_watcherCount_a : Fld Z h0 a own_z0 own_z9 "I" (.int (0 : Int32))) (F_boundsFrom_a : Fld Z h0 a own_z0 "boundsFrom" "I" (.int (0 : Int32))) (F_toldFrom_a : Fld Z h0 a own_z0 "toldFrom" "I" (.int (0 : Int32))) (g_a : n0 ≤ a) :
    MetFree l (⟨own_z0, "restore", "(IIJJ[IIII)V"⟩ : MethodName) (head1 (Jvm.Cond.code (⟨own_z0, "restore", "(IIJJ[IIII)V"⟩ : MethodName) prog_37_method_35_code 11 none :: ws) ({ frames := 0, cells := 0, slots := 0, locals := 0 } : Room)) (fun aa UU => aa = #[(.ref a), (.int mn), (.int mx), (.long sz), (.long bi), (.ref rg), (.int fi), (.int la), (.int st)] ∧ Z.Warmed39 UU.vm ∧ UU.heap = h0) (fun _ _ _ _ _ => True) (fun _ U o U' => ∃ v L, o = .returned v ∧ own_QrsB Z a mn mx sz bi rg fi la st o1 o2 o3 o4 o5 o6 o7 mo sm im ix wa h0 n0 v U'.heap L ∧ FrameEnd U o U' L ({ frames := 0, cells := 0, slots := 0, locals := 0 } : Room).cells ({ frames := 0, cells := 0, slots := 0, locals := 0 } : Room).slots) := by
  refine MetFree.of_bodySF (plainFor_of_name own_pn5) hisR ?_
  intro p e s m args below meth c s₁ Bd hml hP hK
  obtain ⟨rfl, hZ, hh⟩ := hP
  have hx := Bd.exec
  have hlk := Bd.notSynchronized
  have hby := Bd.bytes
  have hret := Bd.returns
  have hown := findClass_of_methodNamed Bd.named
  have hnm := (name_of_methodNamed Bd.named Bd.method).1
  have X0 : Stand p l e ({ frames := 0, cells := 0, slots := 0, locals := 0 } : Room) s m #[(.ref a), (.int mn), (.int mx), (.long sz), (.long bi), (.ref rg), (.int fi), (.int la), (.int st)] below meth c s₁ [] 0 0 := Stand.of_body Bd
  have e0 : s₁.heap = h0 := by rw [← hh, Bd.state]; rfl
  have N0 := Fr.nil n0
  refine own_cast (own_efrsB m a mn mx sz bi rg fi la st) ?_
  show own_Go p e below s s₁ _ (own_QrsB Z a mn mx sz bi rg fi la st o1 o2 o3 o4 o5 o6 o7 mo sm im ix wa h0 n0) 0 0
  have K0 : Keep h0 h0 [a] := Keep.refl _ _
  refine own_st (g' := (mkF m 2 #[rv a, iv mn, iv mx, .val (.long sz), .second, .val (.long bi), .second, rv rg, iv fi, iv la, iv st] [(.int mn), (.ref a)])) (fun tt_ kk_ => XS.aloadN X0.here hx rfl (hb hby own_d8_0) rfl rfl (XS.iloadN X0.here hx rfl (hb hby own_d8_1) rfl kk_)) ?_
  obtain ⟨T429, h429, X429, e429, W429, st429⟩ := putF X0 hx hZ hown (host := "") (Or.inl (own_w hw 110 rfl)) Via.refl e0 F_min_a E_a (Or.inl (own_w hw 111 rfl)) (own_w hw 84 rfl) (ty := .int) (by decide) rfl rfl (g := (mkF m 2 #[rv a, iv mn, iv mx, .val (.long sz), .second, .val (.long bi), .second, rv rg, iv fi, iv la, iv st] [(.int mn), (.ref a)])) rfl rfl (hb hby own_d8_2)
  have N429 := Fr.snoc X429 N0 g_a
  have Z429 : n0 ≤ h429.size := Nat.le_trans Z0 (Keep.of_wr W429).1
  have K429 : Keep h0 h429 [a] := K0.wr W429 (Or.inl (List.mem_of_getElem? (i := 0) rfl))
  have F429 : Fld Z h429 a own_z0 "min" "I" (.int mn) := F_min_a.same W429
  refine own_st st429 ?_
  refine own_st (g' := (mkF m 7 #[rv a, iv mn, iv mx, .val (.long sz), .second, .val (.long bi), .second, rv rg, iv fi, iv la, iv st] [(.int mx), (.ref a)])) (fun tt_ kk_ => XS.aloadN X429.here hx rfl (hb hby own_d8_5) rfl rfl (XS.iloadN X429.here hx rfl (hb hby own_d8_6) rfl kk_)) ?_
  have F431 := (F_max_a.other W429 (Or.inr (own_sn113 hw)))
  have F432 := (E_a.wr W429)
  obtain ⟨T430, h430, X430, e430, W430, st430⟩ := putF X429 hx hZ hown (host := "") (Or.inl (own_w hw 112 rfl)) Via.refl e429 F431 F432 (Or.inl (own_w hw 113 rfl)) (own_w hw 84 rfl) (ty := .int) (by decide) rfl rfl (g := (mkF m 7 #[rv a, iv mn, iv mx, .val (.long sz), .second, .val (.long bi), .second, rv rg, iv fi, iv la, iv st] [(.int mx), (.ref a)])) rfl rfl (hb hby own_d8_7)
  have N430 := Fr.snoc X430 N429 g_a
  have Z430 : n0 ≤ h430.size := Nat.le_trans Z429 (Keep.of_wr W430).1
  have K430 : Keep h0 h430 [a] := K429.wr W430 (Or.inl (List.mem_of_getElem? (i := 0) rfl))
  have F430 : Fld Z h430 a own_z0 "max" "I" (.int mx) := F431.same W430
  refine own_st st430 ?_
  refine own_st (g' := (mkF m 12 #[rv a, iv mn, iv mx, .val (.long sz), .second, .val (.long bi), .second, rv rg, iv fi, iv la, iv st] [(.long sz), (.ref a)])) (fun tt_ kk_ => XS.aloadN X430.here hx rfl (hb hby own_d8_10) rfl rfl (XS.lloadN X430.here hx rfl (hb hby own_d8_11) rfl kk_)) ?_
  have F434 := ((F_size_a.other W429 (Or.inr (own_sn134 hw))).other W430 (Or.inr (own_sn135 hw)))
  have F435 := (F432.wr W430)
  obtain ⟨T433, h433, X433, e433, W433, st433⟩ := putF X430 hx hZ hown (host := "") (Or.inl (own_w hw 118 rfl)) Via.refl e430 F434 F435 (Or.inl (own_w hw 119 rfl)) (own_w hw 84 rfl) (ty := .long) (by decide) rfl rfl (g := (mkF m 12 #[rv a, iv mn, iv mx, .val (.long sz), .second, .val (.long bi), .second, rv rg, iv fi, iv la, iv st] [(.long sz), (.ref a)])) rfl rfl (hb hby own_d8_12)
  have N433 := Fr.snoc X433 N430 g_a
  have Z433 : n0 ≤ h433.size := Nat.le_trans Z430 (Keep.of_wr W433).1
  have K433 : Keep h0 h433 [a] := K430.wr W433 (Or.inl (List.mem_of_getElem? (i := 0) rfl))
  have F433 : Fld Z h433 a own_z0 "size" "J" (.long sz) := F434.same W433
  refine own_st st433 ?_
  refine own_st (g' := (mkF m 18 #[rv a, iv mn, iv mx, .val (.long sz), .second, .val (.long bi), .second, rv rg, iv fi, iv la, iv st] [(.long bi), (.ref a)])) (fun tt_ kk_ => XS.aloadN X433.here hx rfl (hb hby own_d8_15) rfl rfl (XS.lload X433.here hx rfl (hb hby own_d8_16) rfl kk_)) ?_
  have F437 := (((F_bits_a.other W429 (Or.inr (own_sn153 hw))).other W430 (Or.inr (own_sn154 hw))).other W433 (Or.inr (own_sn157 hw)))
  have F438 := (F435.wr W433)
  obtain ⟨T436, h436, X436, e436, W436, st436⟩ := putF X433 hx hZ hown (host := "") (Or.inl (own_w hw 124 rfl)) Via.refl e433 F437 F438 (Or.inl (own_w hw 125 rfl)) (own_w hw 84 rfl) (ty := .long) (by decide) rfl rfl (g := (mkF m 18 #[rv a, iv mn, iv mx, .val (.long sz), .second, .val (.long bi), .second, rv rg, iv fi, iv la, iv st] [(.long bi), (.ref a)])) rfl rfl (hb hby own_d8_18)
  have N436 := Fr.snoc X436 N433 g_a
  have Z436 : n0 ≤ h436.size := Nat.le_trans Z433 (Keep.of_wr W436).1
  have K436 : Keep h0 h436 [a] := K433.wr W436 (Or.inl (List.mem_of_getElem? (i := 0) rfl))
  have F436 : Fld Z h436 a own_z0 "bits" "J" (.long bi) := F437.same W436
  refine own_st st436 ?_
  refine own_st (g' := (mkF m 24 #[rv a, iv mn, iv mx, .val (.long sz), .second, .val (.long bi), .second, rv rg, iv fi, iv la, iv st] [(.ref rg), (.ref a)])) (fun tt_ kk_ => XS.aloadN X436.here hx rfl (hb hby own_d8_21) rfl rfl (XS.aload X436.here hx rfl (hb hby own_d8_22) rfl rfl kk_)) ?_
  have F440 := ((((F_ranges_a.other W429 (Or.inr (own_sn164 hw))).other W430 (Or.inr (own_sn165 hw))).other W433 (Or.inr (own_sn168 hw))).other W436 (Or.inr (own_sn170 hw)))
  have F441 := (F438.wr W436)
  obtain ⟨T439, h439, X439, e439, W439, st439⟩ := putF X436 hx hZ hown (host := "") (Or.inl (own_w hw 131 rfl)) Via.refl e436 F440 F441 (Or.inl (own_w hw 132 rfl)) (own_w hw 84 rfl) (ty := (.array .int)) (by decide) rfl rfl (g := (mkF m 24 #[rv a, iv mn, iv mx, .val (.long sz), .second, .val (.long bi), .second, rv rg, iv fi, iv la, iv st] [(.ref rg), (.ref a)])) rfl rfl (hb hby own_d8_24)
  have N439 := Fr.snoc X439 N436 g_a
  have Z439 : n0 ≤ h439.size := Nat.le_trans Z436 (Keep.of_wr W439).1
  have K439 : Keep h0 h439 [a] := K436.wr W439 (Or.inl (List.mem_of_getElem? (i := 0) rfl))
  have F439 : Fld Z h439 a own_z0 "ranges" "[I" (.ref rg) := F440.same W439
  refine own_st st439 ?_
  refine own_st (g' := (mkF m 30 #[rv a, iv mn, iv mx, .val (.long sz), .second, .val (.long bi), .second, rv rg, iv fi, iv la, iv st] [(.int fi), (.ref a)])) (fun tt_ kk_ => XS.aloadN X439.here hx rfl (hb hby own_d8_27) rfl rfl (XS.iload X439.here hx rfl (hb hby own_d8_28) rfl kk_)) ?_
  have F443 := (((((F_first_a.other W429 (Or.inr (own_sn176 hw))).other W430 (Or.inr (own_sn177 hw))).other W433 (Or.inr (own_sn180 hw))).other W436 (Or.inr (own_sn182 hw))).other W439 (Or.inr (own_sn243 hw)))
  have F444 := (F441.wr W439)
  obtain ⟨T442, h442, X442, e442, W442, st442⟩ := putF X439 hx hZ hown (host := "") (Or.inl (own_w hw 133 rfl)) Via.refl e439 F443 F444 (Or.inl (own_w hw 134 rfl)) (own_w hw 84 rfl) (ty := .int) (by decide) rfl rfl (g := (mkF m 30 #[rv a, iv mn, iv mx, .val (.long sz), .second, .val (.long bi), .second, rv rg, iv fi, iv la, iv st] [(.int fi), (.ref a)])) rfl rfl (hb hby own_d8_30)
  have N442 := Fr.snoc X442 N439 g_a
  have Z442 : n0 ≤ h442.size := Nat.le_trans Z439 (Keep.of_wr W442).1
  have K442 : Keep h0 h442 [a] := K439.wr W442 (Or.inl (List.mem_of_getElem? (i := 0) rfl))
  have F442 : Fld Z h442 a own_z0 "first" "I" (.int fi) := F443.same W442
  refine own_st st442 ?_
  refine own_st (g' := (mkF m 36 #[rv a, iv mn, iv mx, .val (.long sz), .second, .val (.long bi), .second, rv rg, iv fi, iv la, iv st] [(.int la), (.ref a)])) (fun tt_ kk_ => XS.aloadN X442.here hx rfl (hb hby own_d8_33) rfl rfl (XS.iload X442.here hx rfl (hb hby own_d8_34) rfl kk_)) ?_
  have F446 := ((((((F_last_a.other W429 (Or.inr (own_sn188 hw))).other W430 (Or.inr (own_sn189 hw))).other W433 (Or.inr (own_sn192 hw))).other W436 (Or.inr (own_sn194 hw))).other W439 (Or.inr (own_sn244 hw))).other W442 (Or.inr (own_sn245 hw)))
  have F447 := (F444.wr W442)
  obtain ⟨T445, h445, X445, e445, W445, st445⟩ := putF X442 hx hZ hown (host := "") (Or.inl (own_w hw 135 rfl)) Via.refl e442 F446 F447 (Or.inl (own_w hw 136 rfl)) (own_w hw 84 rfl) (ty := .int) (by decide) rfl rfl (g := (mkF m 36 #[rv a, iv mn, iv mx, .val (.long sz), .second, .val (.long bi), .second, rv rg, iv fi, iv la, iv st] [(.int la), (.ref a)])) rfl rfl (hb hby own_d8_36)
  have N445 := Fr.snoc X445 N442 g_a
  have Z445 : n0 ≤ h445.size := Nat.le_trans Z442 (Keep.of_wr W445).1
  have K445 : Keep h0 h445 [a] := K442.wr W445 (Or.inl (List.mem_of_getElem? (i := 0) rfl))
  have F445 : Fld Z h445 a own_z0 "last" "I" (.int la) := F446.same W445
  refine own_st st445 ?_
  refine own_st (g' := (mkF m 42 #[rv a, iv mn, iv mx, .val (.long sz), .second, .val (.long bi), .second, rv rg, iv fi, iv la, iv st] [(.int st), (.ref a)])) (fun tt_ kk_ => XS.aloadN X445.here hx rfl (hb hby own_d8_39) rfl rfl (XS.iload X445.here hx rfl (hb hby own_d8_40) rfl kk_)) ?_
  have F449 := (((((((F_stamp_a.other W429 (Or.inr (own_sn200 hw))).other W430 (Or.inr (own_sn201 hw))).other W433 (Or.inr (own_sn204 hw))).other W436 (Or.inr (own_sn206 hw))).other W439 (Or.inr (own_sn246 hw))).other W442 (Or.inr (own_sn247 hw))).other W445 (Or.inr (own_sn248 hw)))
  have F450 := (F447.wr W445)
  obtain ⟨T448, h448, X448, e448, W448, st448⟩ := putF X445 hx hZ hown (host := "") (Or.inl (own_w hw 137 rfl)) Via.refl e445 F449 F450 (Or.inl (own_w hw 138 rfl)) (own_w hw 84 rfl) (ty := .int) (by decide) rfl rfl (g := (mkF m 42 #[rv a, iv mn, iv mx, .val (.long sz), .second, .val (.long bi), .second, rv rg, iv fi, iv la, iv st] [(.int st), (.ref a)])) rfl rfl (hb hby own_d8_42)
  have N448 := Fr.snoc X448 N445 g_a
  have Z448 : n0 ≤ h448.size := Nat.le_trans Z445 (Keep.of_wr W448).1
  have K448 : Keep h0 h448 [a] := K445.wr W448 (Or.inl (List.mem_of_getElem? (i := 0) rfl))
  have F448 : Fld Z h448 a own_z0 "stamp" "I" (.int st) := F449.same W448
  refine own_st st448 ?_
  have F451 := (F450.wr W448)
  have F452 := (((((((F429.other W430 (Or.inr (Ne.symm (own_sn113 hw)))).other W433 (Or.inr (Ne.symm (own_sn134 hw)))).other W436 (Or.inr (Ne.symm (own_sn153 hw)))).other W439 (Or.inr (Ne.symm (own_sn164 hw)))).other W442 (Or.inr (Ne.symm (own_sn176 hw)))).other W445 (Or.inr (Ne.symm (own_sn188 hw)))).other W448 (Or.inr (Ne.symm (own_sn200 hw))))
  have F453 := ((((((F430.other W433 (Or.inr (Ne.symm (own_sn135 hw)))).other W436 (Or.inr (Ne.symm (own_sn154 hw)))).other W439 (Or.inr (Ne.symm (own_sn165 hw)))).other W442 (Or.inr (Ne.symm (own_sn177 hw)))).other W445 (Or.inr (Ne.symm (own_sn189 hw)))).other W448 (Or.inr (Ne.symm (own_sn201 hw))))
  have F454 := (((((F433.other W436 (Or.inr (Ne.symm (own_sn157 hw)))).other W439 (Or.inr (Ne.symm (own_sn168 hw)))).other W442 (Or.inr (Ne.symm (own_sn180 hw)))).other W445 (Or.inr (Ne.symm (own_sn192 hw)))).other W448 (Or.inr (Ne.symm (own_sn204 hw))))
  have F455 := ((((F436.other W439 (Or.inr (Ne.symm (own_sn170 hw)))).other W442 (Or.inr (Ne.symm (own_sn182 hw)))).other W445 (Or.inr (Ne.symm (own_sn194 hw)))).other W448 (Or.inr (Ne.symm (own_sn206 hw))))
  have F456 := (((F439.other W442 (Or.inr (Ne.symm (own_sn243 hw)))).other W445 (Or.inr (Ne.symm (own_sn244 hw)))).other W448 (Or.inr (Ne.symm (own_sn246 hw))))
  have F457 := ((F442.other W445 (Or.inr (Ne.symm (own_sn245 hw)))).other W448 (Or.inr (Ne.symm (own_sn247 hw))))
  have F458 := (F445.other W448 (Or.inr (Ne.symm (own_sn248 hw))))
  have F459 := ((((((((F_model_a.other W429 (Or.inr (Ne.symm (own_sn105 hw)))).other W430 (Or.inr (Ne.symm (own_sn110 hw)))).other W433 (Or.inr (Ne.symm (own_sn131 hw)))).other W436 (Or.inr (Ne.symm (own_sn150 hw)))).other W439 (Or.inr (Ne.symm (own_sn161 hw)))).other W442 (Or.inr (Ne.symm (own_sn173 hw)))).other W445 (Or.inr (Ne.symm (own_sn185 hw)))).other W448 (Or.inr (Ne.symm (own_sn197 hw))))
  have F460 := ((((((((F_small_a.other W429 (Or.inr (own_sn143 hw))).other W430 (Or.inr (own_sn144 hw))).other W433 (Or.inr (own_sn147 hw))).other W436 (Or.inr (Ne.symm (own_sn158 hw)))).other W439 (Or.inr (Ne.symm (own_sn169 hw)))).other W442 (Or.inr (Ne.symm (own_sn181 hw)))).other W445 (Or.inr (Ne.symm (own_sn193 hw)))).other W448 (Or.inr (Ne.symm (own_sn205 hw))))
  have F461 := ((((((((F_initialMin_a.other W429 (Or.inr (own_sn119 hw))).other W430 (Or.inr (own_sn120 hw))).other W433 (Or.inr (Ne.symm (own_sn136 hw)))).other W436 (Or.inr (Ne.symm (own_sn155 hw)))).other W439 (Or.inr (Ne.symm (own_sn166 hw)))).other W442 (Or.inr (Ne.symm (own_sn178 hw)))).other W445 (Or.inr (Ne.symm (own_sn190 hw)))).other W448 (Or.inr (Ne.symm (own_sn202 hw))))
  have F462 := ((((((((F_index_a.other W429 (Or.inr (Ne.symm (own_sn106 hw)))).other W430 (Or.inr (Ne.symm (own_sn111 hw)))).other W433 (Or.inr (Ne.symm (own_sn132 hw)))).other W436 (Or.inr (Ne.symm (own_sn151 hw)))).other W439 (Or.inr (Ne.symm (own_sn162 hw)))).other W442 (Or.inr (Ne.symm (own_sn174 hw)))).other W445 (Or.inr (Ne.symm (own_sn186 hw)))).other W448 (Or.inr (Ne.symm (own_sn198 hw))))
  have F463 := ((((((((F_watchers_a.other W429 (Or.inr (Ne.symm (own_sn103 hw)))).other W430 (Or.inr (Ne.symm (own_sn108 hw)))).other W433 (Or.inr (Ne.symm (own_sn129 hw)))).other W436 (Or.inr (Ne.symm (own_sn148 hw)))).other W439 (Or.inr (Ne.symm (own_sn159 hw)))).other W442 (Or.inr (Ne.symm (own_sn171 hw)))).other W445 (Or.inr (Ne.symm (own_sn183 hw)))).other W448 (Or.inr (Ne.symm (own_sn195 hw))))
  have F464 := ((((((((F_watcherCount_a.other W429 (Or.inr (own_sn212 hw))).other W430 (Or.inr (own_sn213 hw))).other W433 (Or.inr (own_sn216 hw))).other W436 (Or.inr (own_sn218 hw))).other W439 (Or.inr (own_sn249 hw))).other W442 (Or.inr (own_sn250 hw))).other W445 (Or.inr (own_sn251 hw))).other W448 (Or.inr (own_sn252 hw)))
  have F465 := ((((((((F_boundsFrom_a.other W429 (Or.inr (own_sn224 hw))).other W430 (Or.inr (own_sn225 hw))).other W433 (Or.inr (own_sn228 hw))).other W436 (Or.inr (own_sn230 hw))).other W439 (Or.inr (own_sn253 hw))).other W442 (Or.inr (own_sn254 hw))).other W445 (Or.inr (own_sn255 hw))).other W448 (Or.inr (own_sn256 hw)))
  have F466 := ((((((((F_toldFrom_a.other W429 (Or.inr (own_sn236 hw))).other W430 (Or.inr (own_sn237 hw))).other W433 (Or.inr (own_sn240 hw))).other W436 (Or.inr (own_sn242 hw))).other W439 (Or.inr (own_sn257 hw))).other W442 (Or.inr (own_sn258 hw))).other W445 (Or.inr (own_sn259 hw))).other W448 (Or.inr (own_sn260 hw)))
  exact own_retV X448 hx hlk hret (hb hby own_d8_45) (by decide) (by decide) (by rw [e448]; exact ⟨rfl, N448, K448, F451, F452, F453, F454, F455, F456, F457, F458, F448, F459, F460, F461, F462, F463, F464, F465, F466⟩)
def own_cA (mn mx im v : Int32) (bi : Int64) : Int32 := if v < mn then 0 else if mx < v then 0 else if lcmpW (((bi.toUInt64 >>> ((v - im) &&& 0x3f).toInt64.toUInt64).toInt64) &&& 1) 0 = 0 then 0 else 1
theorem own_d13_0 : own_D own_b13 0 (.iload_n 1) 1 := by decide +kernel
theorem own_d13_1 : own_D own_b13 1 (.aload_n 0) 1 := by decide +kernel
theorem own_d13_2 : own_D own_b13 2 (.getfield 33) 3 := by decide +kernel
theorem own_d13_5 : own_D own_b13 5 (.if_icmp .lt 11) 3 := by decide +kernel
theorem own_d13_8 : own_D own_b13 8 (.iload_n 1) 1 := by decide +kernel
theorem own_d13_9 : own_D own_b13 9 (.aload_n 0) 1 := by decide +kernel
theorem own_d13_10 : own_D own_b13 10 (.getfield 36) 3 := by decide +kernel
theorem own_d13_13 : own_D own_b13 13 (.if_icmp .le 5) 3 := by decide +kernel
theorem own_d13_16 : own_D own_b13 16 (.iconst 0) 1 := by decide +kernel
theorem own_d13_17 : own_D own_b13 17 .ireturn 1 := by decide +kernel
theorem own_d13_18 : own_D own_b13 18 (.aload_n 0) 1 := by decide +kernel
theorem own_d13_19 : own_D own_b13 19 (.getfield 51) 3 := by decide +kernel
theorem own_d13_22 : own_D own_b13 22 (.ifCond .eq 27) 3 := by decide +kernel
theorem own_d13_25 : own_D own_b13 25 (.aload_n 0) 1 := by decide +kernel
theorem own_d13_26 : own_D own_b13 26 (.getfield 57) 3 := by decide +kernel
theorem own_d13_29 : own_D own_b13 29 (.iload_n 1) 1 := by decide +kernel
theorem own_d13_30 : own_D own_b13 30 (.aload_n 0) 1 := by decide +kernel
theorem own_d13_31 : own_D own_b13 31 (.getfield 39) 3 := by decide +kernel
theorem own_d13_34 : own_D own_b13 34 .isub 1 := by decide +kernel
theorem own_d13_35 : own_D own_b13 35 .lushr 1 := by decide +kernel
theorem own_d13_36 : own_D own_b13 36 (.lconst 1) 1 := by decide +kernel
theorem own_d13_37 : own_D own_b13 37 .land 1 := by decide +kernel
theorem own_d13_38 : own_D own_b13 38 (.lconst 0) 1 := by decide +kernel
theorem own_d13_39 : own_D own_b13 39 .lcmp 1 := by decide +kernel
theorem own_d13_40 : own_D own_b13 40 (.ifCond .eq 7) 3 := by decide +kernel
theorem own_d13_43 : own_D own_b13 43 (.iconst 1) 1 := by decide +kernel
theorem own_d13_44 : own_D own_b13 44 (.goto 4) 3 := by decide +kernel
theorem own_d13_47 : own_D own_b13 47 (.iconst 0) 1 := by decide +kernel
theorem own_d13_48 : own_D own_b13 48 .ireturn 1 := by decide +kernel
theorem own_d13_49 : own_D own_b13 49 (.aload_n 0) 1 := by decide +kernel
theorem own_d13_50 : own_D own_b13 50 (.getfield 69) 3 := by decide +kernel
theorem own_d13_53 : own_D own_b13 53 (.ifnonnull 5) 3 := by decide +kernel
theorem own_d13_58 : own_D own_b13 58 (.aload_n 0) 1 := by decide +kernel
theorem own_d13_59 : own_D own_b13 59 (.getfield 69) 3 := by decide +kernel
theorem own_d13_62 : own_D own_b13 62 (.iconst 2) 1 := by decide +kernel
theorem own_d13_63 : own_D own_b13 63 (.aload_n 0) 1 := by decide +kernel
theorem own_d13_64 : own_D own_b13 64 (.iload_n 1) 1 := by decide +kernel
theorem own_d13_65 : own_D own_b13 65 (.invokevirtual 75) 3 := by decide +kernel
theorem own_d13_68 : own_D own_b13 68 .imul 1 := by decide +kernel
theorem own_d13_69 : own_D own_b13 69 .iaload 1 := by decide +kernel
theorem own_d13_70 : own_D own_b13 70 (.iload_n 1) 1 := by decide +kernel
theorem own_d13_71 : own_D own_b13 71 (.if_icmp .gt 7) 3 := by decide +kernel
theorem own_d13_74 : own_D own_b13 74 (.iconst 1) 1 := by decide +kernel
theorem own_d13_75 : own_D own_b13 75 (.goto 4) 3 := by decide +kernel
theorem own_d13_78 : own_D own_b13 78 (.iconst 0) 1 := by decide +kernel
theorem own_d13_79 : own_D own_b13 79 .ireturn 1 := by decide +kernel
theorem own_pd2 : parseMethodDescriptor "(I)I" = some ⟨[.int], some .int⟩ := by decide +kernel
def own_QconA (Z : State) (a : Addr) (vv : Int32) (mn : Int32) (mx : Int32) (im : Int32) (bi : Int64) (h0 : Heap) (n0 : Nat) (v : Option Value) (h : Heap) (L : List Loc) : Prop := v = some (.int (own_cA mn mx im vv bi)) ∧ Fr n0 L ∧ h = h0
theorem own_efconA (m : MethodId) (a : Addr) (vv : Int32) : entryFrame m #[(.ref a), (.int vv)] 2 = mkF m 0 #[rv a, iv vv] [] := by first | (simp [entryFrame, mkF, argsToLocals, Value.category]; done) | rfl
set_option maxRecDepth 65536 in
set_option maxHeartbeats 16000000 in
theorem own_rmconA (l : Launch) (Z : State) (a0 : Array Value) (hw : own_HW Z a0) (ws : List Jvm.Cond) (a : Addr) (vv : Int32) (mn : Int32) (mx : Int32) (im : Int32) (bi : Int64) (h0 : Heap) (n0 : Nat) (Z0 : n0 ≤ h0.size) (F_min_a : Fld Z h0 a own_z0 "min" "I" (.int mn)) (F_max_a : Fld Z h0 a own_z0 "max" "I" (.int mx)) (F_small_a : Fld Z h0 a own_z0 "small" "Z" (.int (1 : Int32))) (F_bits_a : Fld Z h0 a own_z0 "bits" "J" (.long bi)) (F_initialMin_a : Fld Z h0 a own_z0 "initialMin" "I" (.int im)) :
    MetFree l (⟨own_z0, "contains", "(I)Z"⟩ : MethodName) (head1 (Jvm.Cond.code (⟨own_z0, "contains", "(I)Z"⟩ : MethodName) prog_37_method_8_code 2 (some .boolean) :: ws) ({ frames := 0, cells := 0, slots := 0, locals := 0 } : Room)) (fun aa UU => aa = #[(.ref a), (.int vv)] ∧ Z.Warmed39 UU.vm ∧ UU.heap = h0) (fun _ _ _ _ _ => True) (fun _ U o U' => ∃ v L, o = .returned v ∧ own_QconA Z a vv mn mx im bi h0 n0 v U'.heap L ∧ FrameEnd U o U' L ({ frames := 0, cells := 0, slots := 0, locals := 0 } : Room).cells ({ frames := 0, cells := 0, slots := 0, locals := 0 } : Room).slots) := by
  refine MetFree.of_bodySF (plainFor_of_name own_pn5) hisR ?_
  intro p e s m args below meth c s₁ Bd hml hP hK
  obtain ⟨rfl, hZ, hh⟩ := hP
  have hx := Bd.exec
  have hlk := Bd.notSynchronized
  have hby := Bd.bytes
  have hret := Bd.returns
  have hown := findClass_of_methodNamed Bd.named
  have hnm := (name_of_methodNamed Bd.named Bd.method).1
  have X0 : Stand p l e ({ frames := 0, cells := 0, slots := 0, locals := 0 } : Room) s m #[(.ref a), (.int vv)] below meth c s₁ [] 0 0 := Stand.of_body Bd
  have e0 : s₁.heap = h0 := by rw [← hh, Bd.state]; rfl
  have N0 := Fr.nil n0
  refine own_cast (own_efconA m a vv) ?_
  show own_Go p e below s s₁ _ (own_QconA Z a vv mn mx im bi h0 n0) 0 0
  refine own_st (g' := (mkF m 2 #[rv a, iv vv] [(.ref a), (.int vv)])) (fun tt_ kk_ => XS.iloadN X0.here hx rfl (hb hby own_d13_0) rfl (XS.aloadN X0.here hx rfl (hb hby own_d13_1) rfl rfl kk_)) ?_
  refine own_gG X0 hx hZ hown (own_w hw 110 rfl) e0 F_min_a rfl rfl (hb hby own_d13_2) (fun {T467} X467 e467 => ?_)
  by_cases hc5 : vv < mn
  · skip
    refine own_st (g' := (mkF m 17 #[rv a, iv vv] [(.int (0 : Int32))])) (fun tt_ kk_ => XS.icmpYes X467.here hx rfl (pc0 := 5) (pc' := 16) rfl (hb hby own_d13_5) rfl (tlt hc5).1 (by decide) (by decide) (XS.iconst X467.here hx rfl (hb hby own_d13_16) kk_)) ?_
    exact own_retN X467 hx hlk (t := .boolean) (Or.inl rfl) hret (hb hby own_d13_17) (by decide) (by decide) (by rw [e467]; exact ⟨(by rw [own_cA, if_pos hc5]; rfl), N0, rfl⟩)
  refine own_st (g' := (mkF m 10 #[rv a, iv vv] [(.ref a), (.int vv)])) (fun tt_ kk_ => XS.icmpNo X467.here hx rfl (hb hby own_d13_5) rfl (flt hc5).1 (XS.iloadN X467.here hx rfl (hb hby own_d13_8) rfl (XS.aloadN X467.here hx rfl (hb hby own_d13_9) rfl rfl kk_))) ?_
  refine own_gG X467 hx hZ hown (own_w hw 112 rfl) e467 F_max_a rfl rfl (hb hby own_d13_10) (fun {T468} X468 e468 => ?_)
  by_cases hc13 : mx < vv
  · skip
    refine own_st (g' := (mkF m 17 #[rv a, iv vv] [(.int (0 : Int32))])) (fun tt_ kk_ => XS.icmpNo X468.here hx rfl (hb hby own_d13_13) rfl (tlt hc13).2.2.2 (XS.iconst X468.here hx rfl (hb hby own_d13_16) kk_)) ?_
    exact own_retN X468 hx hlk (t := .boolean) (Or.inl rfl) hret (hb hby own_d13_17) (by decide) (by decide) (by rw [e468]; exact ⟨(by rw [own_cA, if_neg hc5, if_pos hc13]; rfl), N0, rfl⟩)
  refine own_st (g' := (mkF m 19 #[rv a, iv vv] [(.ref a)])) (fun tt_ kk_ => XS.icmpYes X468.here hx rfl (pc0 := 13) (pc' := 18) rfl (hb hby own_d13_13) rfl (flt hc13).2.2.2 (by decide) (by decide) (XS.aloadN X468.here hx rfl (hb hby own_d13_18) rfl rfl kk_)) ?_
  refine own_gG X468 hx hZ hown (own_w hw 121 rfl) e468 F_small_a rfl rfl (hb hby own_d13_19) (fun {T469} X469 e469 => ?_)
  refine own_st (g' := (mkF m 26 #[rv a, iv vv] [(.ref a)])) (fun tt_ kk_ => XS.ifNo X469.here hx rfl (hb hby own_d13_22) rfl ((if0 _ _).trans (feq (by decide : ¬ ((1 : Int32) = (0 : Int32)))).1) (XS.aloadN X469.here hx rfl (hb hby own_d13_25) rfl rfl kk_)) ?_
  refine own_gG X469 hx hZ hown (own_w hw 124 rfl) e469 F_bits_a rfl rfl (hb hby own_d13_26) (fun {T470} X470 e470 => ?_)
  refine own_st (g' := (mkF m 31 #[rv a, iv vv] [(.ref a), (.int vv), (.long bi)])) (fun tt_ kk_ => XS.iloadN X470.here hx rfl (hb hby own_d13_29) rfl (XS.aloadN X470.here hx rfl (hb hby own_d13_30) rfl rfl kk_)) ?_
  refine own_gG X470 hx hZ hown (own_w hw 114 rfl) e470 F_initialMin_a rfl rfl (hb hby own_d13_31) (fun {T471} X471 e471 => ?_)
  refine own_st (g' := (mkF m 40 #[rv a, iv vv] [(.int (lcmpW (((bi.toUInt64 >>> ((vv - im) &&& 0x3f).toInt64.toUInt64).toInt64) &&& (1 : Int64)) (0 : Int64)))])) (fun tt_ kk_ => XS.isub X471.here hx rfl (hb hby own_d13_34) rfl (XS.lushr X471.here hx rfl (hb hby own_d13_35) rfl (XS.lconst X471.here hx rfl (hb hby own_d13_36) (XS.land X471.here hx rfl (hb hby own_d13_37) rfl (XS.lconst X471.here hx rfl (hb hby own_d13_38) (XS.lcmp X471.here hx rfl (hb hby own_d13_39) rfl kk_)))))) ?_
  by_cases hc40 : (lcmpW (((bi.toUInt64 >>> ((vv - im) &&& 0x3f).toInt64.toUInt64).toInt64) &&& (1 : Int64)) (0 : Int64)) = (0 : Int32)
  · skip
    refine own_st (g' := (mkF m 48 #[rv a, iv vv] [(.int (0 : Int32))])) (fun tt_ kk_ => XS.ifYes X471.here hx rfl (pc0 := 40) (pc' := 47) rfl (hb hby own_d13_40) rfl ((if0 _ _).trans (teq hc40).1) (by decide) (by decide) (XS.iconst X471.here hx rfl (hb hby own_d13_47) kk_)) ?_
    exact own_retN X471 hx hlk (t := .boolean) (Or.inl rfl) hret (hb hby own_d13_48) (by decide) (by decide) (by rw [e471]; exact ⟨(by rw [own_cA, if_neg hc5, if_neg hc13, if_pos hc40]; rfl), N0, rfl⟩)
  refine own_st (g' := (mkF m 48 #[rv a, iv vv] [(.int (1 : Int32))])) (fun tt_ kk_ => XS.ifNo X471.here hx rfl (hb hby own_d13_40) rfl ((if0 _ _).trans (feq hc40).1) (XS.iconst X471.here hx rfl (hb hby own_d13_43) (XS.goto X471.here hx rfl (pc0 := 44) (pc' := 48) rfl (hb hby own_d13_44) (by decide) (by decide) kk_))) ?_
  exact own_retN X471 hx hlk (t := .boolean) (Or.inl rfl) hret (hb hby own_d13_48) (by decide) (by decide) (by rw [e471]; exact ⟨(by rw [own_cA, if_neg hc5, if_neg hc13, if_neg hc40]; rfl), N0, rfl⟩)
theorem own_Rv0 (b : Int32) : own_R b (Int32.toNatClampNeg (0 : Int32)) = b := by
  have q : Int32.toNatClampNeg (0 : Int32) = 0 := by decide
  rw [q]; rfl
theorem own_Rv1 (b : Int32) : own_R b (Int32.toNatClampNeg (1 : Int32)) = (b + (9 : Int32)) := by
  have q : Int32.toNatClampNeg (1 : Int32) = 1 := by decide
  rw [q]; rfl
theorem own_Rv2 (b : Int32) : own_R b (Int32.toNatClampNeg (2 : Int32)) = (b + (20 : Int32)) := by
  have q : Int32.toNatClampNeg (2 : Int32) = 2 := by decide
  rw [q]; rfl
theorem own_Rv3 (b : Int32) : own_R b (Int32.toNatClampNeg (3 : Int32)) = (b + (29 : Int32)) := by
  have q : Int32.toNatClampNeg (3 : Int32) = 3 := by decide
  rw [q]; rfl
theorem own_Rv4 (b : Int32) : own_R b (Int32.toNatClampNeg (4 : Int32)) = (b + (40 : Int32)) := by
  have q : Int32.toNatClampNeg (4 : Int32) = 4 := by decide
  rw [q]; rfl
theorem own_Rv5 (b : Int32) : own_R b (Int32.toNatClampNeg (5 : Int32)) = (b + (49 : Int32)) := by
  have q : Int32.toNatClampNeg (5 : Int32) = 5 := by decide
  rw [q]; rfl
theorem own_ldIv {p : Program} {l : Launch} {e : Env} {R : Room} {s : State} {m : MethodId} {args : Array Value} {below : List Frame} {meth : Method} {c : Code} {T : State} {locs : List Loc} {cells slots n : Nat} {Z : State} {h : Heap} {a : Addr} {f : Nat → Int32} {g : JFrame} {j v : Int32} {rest : List Value} (X : Stand p l e R s m args below meth c T locs cells slots) (hx : p.tables.exec = Jvm.exec) (hZ : Z.Warmed39 s.vm) (eT : T.heap = h) (F : own_AI Z h a n f) (h0 : ¬ j < 0) (hj : j.toInt < n) (hv : f j.toNatClampNeg = v) (hg : g.method = m) (hs : g.stack = .int j :: .ref a :: rest) (hd : decode c.code g.pc = .ok (.iaload, 1)) :
    ∀ target, Steps p.tables e below (T.setTop { g with pc := g.pc + 1, stack := .int v :: rest }) target → Steps p.tables e below (T.setTop g) target := by
  intro target k
  refine own_ldI X hx hZ eT F h0 hj hg hs hd target ?_
  rw [hv]; exact k
def own_ia01 (b vv : Int32) : Int32 := if (b + (9 : Int32)) < vv then 1 else 0
theorem own_d25_0 : own_D own_b25 0 (.aload_n 0) 1 := by decide +kernel
theorem own_d25_1 : own_D own_b25 1 (.getfield 218) 3 := by decide +kernel
theorem own_d25_4 : own_D own_b25 4 (.istore_n 2) 1 := by decide +kernel
theorem own_d25_5 : own_D own_b25 5 (.aload_n 0) 1 := by decide +kernel
theorem own_d25_6 : own_D own_b25 6 (.getfield 72) 3 := by decide +kernel
theorem own_d25_9 : own_D own_b25 9 (.istore_n 3) 1 := by decide +kernel
theorem own_d25_10 : own_D own_b25 10 (.iload_n 2) 1 := by decide +kernel
theorem own_d25_11 : own_D own_b25 11 (.iload_n 3) 1 := by decide +kernel
theorem own_d25_12 : own_D own_b25 12 (.if_icmp .ge 39) 3 := by decide +kernel
theorem own_d25_15 : own_D own_b25 15 (.iload_n 2) 1 := by decide +kernel
theorem own_d25_16 : own_D own_b25 16 (.iload_n 3) 1 := by decide +kernel
theorem own_d25_17 : own_D own_b25 17 .iadd 1 := by decide +kernel
theorem own_d25_18 : own_D own_b25 18 (.iconst 1) 1 := by decide +kernel
theorem own_d25_19 : own_D own_b25 19 .iushr 1 := by decide +kernel
theorem own_d25_20 : own_D own_b25 20 (.istore 4) 2 := by decide +kernel
theorem own_d25_22 : own_D own_b25 22 (.aload_n 0) 1 := by decide +kernel
theorem own_d25_23 : own_D own_b25 23 (.getfield 69) 3 := by decide +kernel
theorem own_d25_26 : own_D own_b25 26 (.iconst 2) 1 := by decide +kernel
theorem own_d25_27 : own_D own_b25 27 (.iload 4) 2 := by decide +kernel
theorem own_d25_29 : own_D own_b25 29 .imul 1 := by decide +kernel
theorem own_d25_30 : own_D own_b25 30 (.iconst 1) 1 := by decide +kernel
theorem own_d25_31 : own_D own_b25 31 .iadd 1 := by decide +kernel
theorem own_d25_32 : own_D own_b25 32 .iaload 1 := by decide +kernel
theorem own_d25_33 : own_D own_b25 33 (.iload_n 1) 1 := by decide +kernel
theorem own_d25_34 : own_D own_b25 34 (.if_icmp .ge 11) 3 := by decide +kernel
theorem own_d25_37 : own_D own_b25 37 (.iload 4) 2 := by decide +kernel
theorem own_d25_39 : own_D own_b25 39 (.iconst 1) 1 := by decide +kernel
theorem own_d25_40 : own_D own_b25 40 .iadd 1 := by decide +kernel
theorem own_d25_41 : own_D own_b25 41 (.istore_n 2) 1 := by decide +kernel
theorem own_d25_42 : own_D own_b25 42 (.goto 6) 3 := by decide +kernel
theorem own_d25_45 : own_D own_b25 45 (.iload 4) 2 := by decide +kernel
theorem own_d25_47 : own_D own_b25 47 (.istore_n 3) 1 := by decide +kernel
theorem own_d25_48 : own_D own_b25 48 (.goto (-38)) 3 := by decide +kernel
theorem own_d25_51 : own_D own_b25 51 (.iload_n 2) 1 := by decide +kernel
theorem own_d25_52 : own_D own_b25 52 .ireturn 1 := by decide +kernel
def own_Qia01 (Z : State) (a : Addr) (vv : Int32) (ra : Addr) (b : Int32) (h0 : Heap) (n0 : Nat) (v : Option Value) (h : Heap) (L : List Loc) : Prop := v = some (.int (own_ia01 b vv)) ∧ Fr n0 L ∧ h = h0
theorem own_efia01 (m : MethodId) (a : Addr) (vv : Int32) : entryFrame m #[(.ref a), (.int vv)] 5 = mkF m 0 #[rv a, iv vv, .unset, .unset, .unset] [] := by first | (simp [entryFrame, mkF, argsToLocals, Value.category]; done) | rfl
set_option maxRecDepth 65536 in
set_option maxHeartbeats 16000000 in
theorem own_rmia01 (l : Launch) (Z : State) (a0 : Array Value) (hw : own_HW Z a0) (ws : List Jvm.Cond) (a : Addr) (vv : Int32) (ra : Addr) (b : Int32) (h0 : Heap) (n0 : Nat) (Z0 : n0 ≤ h0.size) (F_first_a : Fld Z h0 a own_z0 "first" "I" (.int (0 : Int32))) (F_last_a : Fld Z h0 a own_z0 "last" "I" (.int (1 : Int32))) (F_ranges_a : Fld Z h0 a own_z0 "ranges" "[I" (.ref ra)) (P_ra : own_AI Z h0 ra 6 (own_R b)) :
    MetFree l (⟨own_z0, own_z19, "(I)I"⟩ : MethodName) (head1 (Jvm.Cond.code (⟨own_z0, own_z19, "(I)I"⟩ : MethodName) prog_37_method_39_code 5 (some .int) :: ws) ({ frames := 0, cells := 0, slots := 0, locals := 0 } : Room)) (fun aa UU => aa = #[(.ref a), (.int vv)] ∧ Z.Warmed39 UU.vm ∧ UU.heap = h0) (fun _ _ _ _ _ => True) (fun _ U o U' => ∃ v L, o = .returned v ∧ own_Qia01 Z a vv ra b h0 n0 v U'.heap L ∧ FrameEnd U o U' L ({ frames := 0, cells := 0, slots := 0, locals := 0 } : Room).cells ({ frames := 0, cells := 0, slots := 0, locals := 0 } : Room).slots) := by
  refine MetFree.of_bodySF (plainFor_of_name own_pn5) hisR ?_
  intro p e s m args below meth c s₁ Bd hml hP hK
  obtain ⟨rfl, hZ, hh⟩ := hP
  have hx := Bd.exec
  have hlk := Bd.notSynchronized
  have hby := Bd.bytes
  have hret := Bd.returns
  have hown := findClass_of_methodNamed Bd.named
  have hnm := (name_of_methodNamed Bd.named Bd.method).1
  have X0 : Stand p l e ({ frames := 0, cells := 0, slots := 0, locals := 0 } : Room) s m #[(.ref a), (.int vv)] below meth c s₁ [] 0 0 := Stand.of_body Bd
  have e0 : s₁.heap = h0 := by rw [← hh, Bd.state]; rfl
  have N0 := Fr.nil n0
  refine own_cast (own_efia01 m a vv) ?_
  show own_Go p e below s s₁ _ (own_Qia01 Z a vv ra b h0 n0) 0 0
  refine own_st (g' := (mkF m 1 #[rv a, iv vv, .unset, .unset, .unset] [(.ref a)])) (fun tt_ kk_ => XS.aloadN X0.here hx rfl (hb hby own_d25_0) rfl rfl kk_) ?_
  refine own_gG X0 hx hZ hown (own_w hw 133 rfl) e0 F_first_a rfl rfl (hb hby own_d25_1) (fun {T472} X472 e472 => ?_)
  refine own_st (g' := (mkF m 6 #[rv a, iv vv, iv (0 : Int32), .unset, .unset] [(.ref a)])) (fun tt_ kk_ => XS.istoreN X472.here hx rfl (hb hby own_d25_4) rfl (l' := #[rv a, iv vv, iv (0 : Int32), .unset, .unset]) rfl (XS.aloadN X472.here hx rfl (hb hby own_d25_5) rfl rfl kk_)) ?_
  refine own_gG X472 hx hZ hown (own_w hw 135 rfl) e472 F_last_a rfl rfl (hb hby own_d25_6) (fun {T473} X473 e473 => ?_)
  refine own_st (g' := (mkF m 23 #[rv a, iv vv, iv (0 : Int32), iv (1 : Int32), iv (0 : Int32)] [(.ref a)])) (fun tt_ kk_ => XS.istoreN X473.here hx rfl (hb hby own_d25_9) rfl (l' := #[rv a, iv vv, iv (0 : Int32), iv (1 : Int32), .unset]) rfl (XS.iloadN X473.here hx rfl (hb hby own_d25_10) rfl (XS.iloadN X473.here hx rfl (hb hby own_d25_11) rfl (XS.icmpNo X473.here hx rfl (hb hby own_d25_12) rfl (tlt (by decide : (0 : Int32) < (1 : Int32))).2.1 (XS.iloadN X473.here hx rfl (hb hby own_d25_15) rfl (XS.iloadN X473.here hx rfl (hb hby own_d25_16) rfl (XS.iadd X473.here hx rfl (hb hby own_d25_17) rfl (XS.iconst X473.here hx rfl (hb hby own_d25_18) (XS.iushr X473.here hx rfl (hb hby own_d25_19) rfl (XS.istore X473.here hx rfl (hb hby own_d25_20) rfl (l' := #[rv a, iv vv, iv (0 : Int32), iv (1 : Int32), iv (0 : Int32)]) rfl (XS.aloadN X473.here hx rfl (hb hby own_d25_22) rfl rfl kk_))))))))))) ?_
  refine own_gG X473 hx hZ hown (own_w hw 131 rfl) e473 F_ranges_a rfl rfl (hb hby own_d25_23) (fun {T474} X474 e474 => ?_)
  refine own_st (g' := (mkF m 32 #[rv a, iv vv, iv (0 : Int32), iv (1 : Int32), iv (0 : Int32)] [(.int (1 : Int32)), (.ref ra)])) (fun tt_ kk_ => XS.iconst X474.here hx rfl (hb hby own_d25_26) (XS.iload X474.here hx rfl (hb hby own_d25_27) rfl (XS.imul X474.here hx rfl (hb hby own_d25_29) rfl (XS.iconst X474.here hx rfl (hb hby own_d25_30) (XS.iadd X474.here hx rfl (hb hby own_d25_31) rfl kk_))))) ?_
  refine own_st (g' := (mkF m 34 #[rv a, iv vv, iv (0 : Int32), iv (1 : Int32), iv (0 : Int32)] [(.int vv), (.int (b + (9 : Int32)))])) (fun tt_ kk_ => own_ldIv (g := (mkF m 32 #[rv a, iv vv, iv (0 : Int32), iv (1 : Int32), iv (0 : Int32)] [(.int (1 : Int32)), (.ref ra)])) X474 hx hZ e474 P_ra (by decide) (by decide) (own_Rv1 _) rfl rfl (hb hby own_d25_32) tt_ (XS.iloadN X474.here hx rfl (hb hby own_d25_33) rfl kk_)) ?_
  by_cases hc34 : (b + (9 : Int32)) < vv
  · skip
    refine own_st (g' := (mkF m 52 #[rv a, iv vv, iv (1 : Int32), iv (1 : Int32), iv (0 : Int32)] [(.int (1 : Int32))])) (fun tt_ kk_ => XS.icmpNo X474.here hx rfl (hb hby own_d25_34) rfl (tlt hc34).2.1 (XS.iload X474.here hx rfl (hb hby own_d25_37) rfl (XS.iconst X474.here hx rfl (hb hby own_d25_39) (XS.iadd X474.here hx rfl (hb hby own_d25_40) rfl (XS.istoreN X474.here hx rfl (hb hby own_d25_41) rfl (l' := #[rv a, iv vv, iv (1 : Int32), iv (1 : Int32), iv (0 : Int32)]) rfl (XS.goto X474.here hx rfl (pc0 := 42) (pc' := 48) rfl (hb hby own_d25_42) (by decide) (by decide) (XS.goto X474.here hx rfl (pc0 := 48) (pc' := 10) rfl (hb hby own_d25_48) (by decide) (by decide) (XS.iloadN X474.here hx rfl (hb hby own_d25_10) rfl (XS.iloadN X474.here hx rfl (hb hby own_d25_11) rfl (XS.icmpYes X474.here hx rfl (pc0 := 12) (pc' := 51) rfl (hb hby own_d25_12) rfl (flt (by decide : ¬ ((1 : Int32) < (1 : Int32)))).2.1 (by decide) (by decide) (XS.iloadN X474.here hx rfl (hb hby own_d25_51) rfl kk_))))))))))) ?_
    exact own_retI X474 hx hlk hret (hb hby own_d25_52) (by decide) (by decide) (by rw [e474]; exact ⟨(by rw [own_ia01, if_pos hc34]), N0, rfl⟩)
  refine own_st (g' := (mkF m 52 #[rv a, iv vv, iv (0 : Int32), iv (0 : Int32), iv (0 : Int32)] [(.int (0 : Int32))])) (fun tt_ kk_ => XS.icmpYes X474.here hx rfl (pc0 := 34) (pc' := 45) rfl (hb hby own_d25_34) rfl (flt hc34).2.1 (by decide) (by decide) (XS.iload X474.here hx rfl (hb hby own_d25_45) rfl (XS.istoreN X474.here hx rfl (hb hby own_d25_47) rfl (l' := #[rv a, iv vv, iv (0 : Int32), iv (0 : Int32), iv (0 : Int32)]) rfl (XS.goto X474.here hx rfl (pc0 := 48) (pc' := 10) rfl (hb hby own_d25_48) (by decide) (by decide) (XS.iloadN X474.here hx rfl (hb hby own_d25_10) rfl (XS.iloadN X474.here hx rfl (hb hby own_d25_11) rfl (XS.icmpYes X474.here hx rfl (pc0 := 12) (pc' := 51) rfl (hb hby own_d25_12) rfl (flt (by decide : ¬ ((0 : Int32) < (0 : Int32)))).2.1 (by decide) (by decide) (XS.iloadN X474.here hx rfl (hb hby own_d25_51) rfl kk_)))))))) ?_
  exact own_retI X474 hx hlk hret (hb hby own_d25_52) (by decide) (by decide) (by rw [e474]; exact ⟨(by rw [own_ia01, if_neg hc34]), N0, rfl⟩)
def own_ia02 (b vv : Int32) : Int32 := if (b + (29 : Int32)) < vv then 2 else if (b + (9 : Int32)) < vv then 1 else 0
def own_Qia02 (Z : State) (a : Addr) (vv : Int32) (ra : Addr) (b : Int32) (h0 : Heap) (n0 : Nat) (v : Option Value) (h : Heap) (L : List Loc) : Prop := v = some (.int (own_ia02 b vv)) ∧ Fr n0 L ∧ h = h0
theorem own_efia02 (m : MethodId) (a : Addr) (vv : Int32) : entryFrame m #[(.ref a), (.int vv)] 5 = mkF m 0 #[rv a, iv vv, .unset, .unset, .unset] [] := by first | (simp [entryFrame, mkF, argsToLocals, Value.category]; done) | rfl
set_option maxRecDepth 65536 in
set_option maxHeartbeats 16000000 in
theorem own_rmia02 (l : Launch) (Z : State) (a0 : Array Value) (hw : own_HW Z a0) (ws : List Jvm.Cond) (a : Addr) (vv : Int32) (ra : Addr) (b : Int32) (h0 : Heap) (n0 : Nat) (Z0 : n0 ≤ h0.size) (F_first_a : Fld Z h0 a own_z0 "first" "I" (.int (0 : Int32))) (F_last_a : Fld Z h0 a own_z0 "last" "I" (.int (2 : Int32))) (F_ranges_a : Fld Z h0 a own_z0 "ranges" "[I" (.ref ra)) (P_ra : own_AI Z h0 ra 6 (own_R b)) :
    MetFree l (⟨own_z0, own_z19, "(I)I"⟩ : MethodName) (head1 (Jvm.Cond.code (⟨own_z0, own_z19, "(I)I"⟩ : MethodName) prog_37_method_39_code 5 (some .int) :: ws) ({ frames := 0, cells := 0, slots := 0, locals := 0 } : Room)) (fun aa UU => aa = #[(.ref a), (.int vv)] ∧ Z.Warmed39 UU.vm ∧ UU.heap = h0) (fun _ _ _ _ _ => True) (fun _ U o U' => ∃ v L, o = .returned v ∧ own_Qia02 Z a vv ra b h0 n0 v U'.heap L ∧ FrameEnd U o U' L ({ frames := 0, cells := 0, slots := 0, locals := 0 } : Room).cells ({ frames := 0, cells := 0, slots := 0, locals := 0 } : Room).slots) := by
  refine MetFree.of_bodySF (plainFor_of_name own_pn5) hisR ?_
  intro p e s m args below meth c s₁ Bd hml hP hK
  obtain ⟨rfl, hZ, hh⟩ := hP
  have hx := Bd.exec
  have hlk := Bd.notSynchronized
  have hby := Bd.bytes
  have hret := Bd.returns
  have hown := findClass_of_methodNamed Bd.named
  have hnm := (name_of_methodNamed Bd.named Bd.method).1
  have X0 : Stand p l e ({ frames := 0, cells := 0, slots := 0, locals := 0 } : Room) s m #[(.ref a), (.int vv)] below meth c s₁ [] 0 0 := Stand.of_body Bd
  have e0 : s₁.heap = h0 := by rw [← hh, Bd.state]; rfl
  have N0 := Fr.nil n0
  refine own_cast (own_efia02 m a vv) ?_
  show own_Go p e below s s₁ _ (own_Qia02 Z a vv ra b h0 n0) 0 0
  refine own_st (g' := (mkF m 1 #[rv a, iv vv, .unset, .unset, .unset] [(.ref a)])) (fun tt_ kk_ => XS.aloadN X0.here hx rfl (hb hby own_d25_0) rfl rfl kk_) ?_
  refine own_gG X0 hx hZ hown (own_w hw 133 rfl) e0 F_first_a rfl rfl (hb hby own_d25_1) (fun {T475} X475 e475 => ?_)
  refine own_st (g' := (mkF m 6 #[rv a, iv vv, iv (0 : Int32), .unset, .unset] [(.ref a)])) (fun tt_ kk_ => XS.istoreN X475.here hx rfl (hb hby own_d25_4) rfl (l' := #[rv a, iv vv, iv (0 : Int32), .unset, .unset]) rfl (XS.aloadN X475.here hx rfl (hb hby own_d25_5) rfl rfl kk_)) ?_
  refine own_gG X475 hx hZ hown (own_w hw 135 rfl) e475 F_last_a rfl rfl (hb hby own_d25_6) (fun {T476} X476 e476 => ?_)
  refine own_st (g' := (mkF m 23 #[rv a, iv vv, iv (0 : Int32), iv (2 : Int32), iv (1 : Int32)] [(.ref a)])) (fun tt_ kk_ => XS.istoreN X476.here hx rfl (hb hby own_d25_9) rfl (l' := #[rv a, iv vv, iv (0 : Int32), iv (2 : Int32), .unset]) rfl (XS.iloadN X476.here hx rfl (hb hby own_d25_10) rfl (XS.iloadN X476.here hx rfl (hb hby own_d25_11) rfl (XS.icmpNo X476.here hx rfl (hb hby own_d25_12) rfl (tlt (by decide : (0 : Int32) < (2 : Int32))).2.1 (XS.iloadN X476.here hx rfl (hb hby own_d25_15) rfl (XS.iloadN X476.here hx rfl (hb hby own_d25_16) rfl (XS.iadd X476.here hx rfl (hb hby own_d25_17) rfl (XS.iconst X476.here hx rfl (hb hby own_d25_18) (XS.iushr X476.here hx rfl (hb hby own_d25_19) rfl (XS.istore X476.here hx rfl (hb hby own_d25_20) rfl (l' := #[rv a, iv vv, iv (0 : Int32), iv (2 : Int32), iv (1 : Int32)]) rfl (XS.aloadN X476.here hx rfl (hb hby own_d25_22) rfl rfl kk_))))))))))) ?_
  refine own_gG X476 hx hZ hown (own_w hw 131 rfl) e476 F_ranges_a rfl rfl (hb hby own_d25_23) (fun {T477} X477 e477 => ?_)
  refine own_st (g' := (mkF m 32 #[rv a, iv vv, iv (0 : Int32), iv (2 : Int32), iv (1 : Int32)] [(.int (3 : Int32)), (.ref ra)])) (fun tt_ kk_ => XS.iconst X477.here hx rfl (hb hby own_d25_26) (XS.iload X477.here hx rfl (hb hby own_d25_27) rfl (XS.imul X477.here hx rfl (hb hby own_d25_29) rfl (XS.iconst X477.here hx rfl (hb hby own_d25_30) (XS.iadd X477.here hx rfl (hb hby own_d25_31) rfl kk_))))) ?_
  refine own_st (g' := (mkF m 34 #[rv a, iv vv, iv (0 : Int32), iv (2 : Int32), iv (1 : Int32)] [(.int vv), (.int (b + (29 : Int32)))])) (fun tt_ kk_ => own_ldIv (g := (mkF m 32 #[rv a, iv vv, iv (0 : Int32), iv (2 : Int32), iv (1 : Int32)] [(.int (3 : Int32)), (.ref ra)])) X477 hx hZ e477 P_ra (by decide) (by decide) (own_Rv3 _) rfl rfl (hb hby own_d25_32) tt_ (XS.iloadN X477.here hx rfl (hb hby own_d25_33) rfl kk_)) ?_
  by_cases hc34 : (b + (29 : Int32)) < vv
  · skip
    refine own_st (g' := (mkF m 52 #[rv a, iv vv, iv (2 : Int32), iv (2 : Int32), iv (1 : Int32)] [(.int (2 : Int32))])) (fun tt_ kk_ => XS.icmpNo X477.here hx rfl (hb hby own_d25_34) rfl (tlt hc34).2.1 (XS.iload X477.here hx rfl (hb hby own_d25_37) rfl (XS.iconst X477.here hx rfl (hb hby own_d25_39) (XS.iadd X477.here hx rfl (hb hby own_d25_40) rfl (XS.istoreN X477.here hx rfl (hb hby own_d25_41) rfl (l' := #[rv a, iv vv, iv (2 : Int32), iv (2 : Int32), iv (1 : Int32)]) rfl (XS.goto X477.here hx rfl (pc0 := 42) (pc' := 48) rfl (hb hby own_d25_42) (by decide) (by decide) (XS.goto X477.here hx rfl (pc0 := 48) (pc' := 10) rfl (hb hby own_d25_48) (by decide) (by decide) (XS.iloadN X477.here hx rfl (hb hby own_d25_10) rfl (XS.iloadN X477.here hx rfl (hb hby own_d25_11) rfl (XS.icmpYes X477.here hx rfl (pc0 := 12) (pc' := 51) rfl (hb hby own_d25_12) rfl (flt (by decide : ¬ ((2 : Int32) < (2 : Int32)))).2.1 (by decide) (by decide) (XS.iloadN X477.here hx rfl (hb hby own_d25_51) rfl kk_))))))))))) ?_
    exact own_retI X477 hx hlk hret (hb hby own_d25_52) (by decide) (by decide) (by rw [e477]; exact ⟨(by rw [own_ia02, if_pos hc34]), N0, rfl⟩)
  refine own_st (g' := (mkF m 20 #[rv a, iv vv, iv (0 : Int32), iv (1 : Int32), iv (1 : Int32)] [(.int (0 : Int32))])) (fun tt_ kk_ => XS.icmpYes X477.here hx rfl (pc0 := 34) (pc' := 45) rfl (hb hby own_d25_34) rfl (flt hc34).2.1 (by decide) (by decide) (XS.iload X477.here hx rfl (hb hby own_d25_45) rfl (XS.istoreN X477.here hx rfl (hb hby own_d25_47) rfl (l' := #[rv a, iv vv, iv (0 : Int32), iv (1 : Int32), iv (1 : Int32)]) rfl (XS.goto X477.here hx rfl (pc0 := 48) (pc' := 10) rfl (hb hby own_d25_48) (by decide) (by decide) (XS.iloadN X477.here hx rfl (hb hby own_d25_10) rfl (XS.iloadN X477.here hx rfl (hb hby own_d25_11) rfl (XS.icmpNo X477.here hx rfl (hb hby own_d25_12) rfl (tlt (by decide : (0 : Int32) < (1 : Int32))).2.1 (XS.iloadN X477.here hx rfl (hb hby own_d25_15) rfl (XS.iloadN X477.here hx rfl (hb hby own_d25_16) rfl (XS.iadd X477.here hx rfl (hb hby own_d25_17) rfl (XS.iconst X477.here hx rfl (hb hby own_d25_18) (XS.iushr X477.here hx rfl (hb hby own_d25_19) rfl kk_)))))))))))) ?_
  refine own_st (g' := (mkF m 23 #[rv a, iv vv, iv (0 : Int32), iv (1 : Int32), iv (0 : Int32)] [(.ref a)])) (fun tt_ kk_ => XS.istore X477.here hx rfl (hb hby own_d25_20) rfl (l' := #[rv a, iv vv, iv (0 : Int32), iv (1 : Int32), iv (0 : Int32)]) rfl (XS.aloadN X477.here hx rfl (hb hby own_d25_22) rfl rfl kk_)) ?_
  refine own_gG X477 hx hZ hown (own_w hw 131 rfl) e477 F_ranges_a rfl rfl (hb hby own_d25_23) (fun {T478} X478 e478 => ?_)
  refine own_st (g' := (mkF m 32 #[rv a, iv vv, iv (0 : Int32), iv (1 : Int32), iv (0 : Int32)] [(.int (1 : Int32)), (.ref ra)])) (fun tt_ kk_ => XS.iconst X478.here hx rfl (hb hby own_d25_26) (XS.iload X478.here hx rfl (hb hby own_d25_27) rfl (XS.imul X478.here hx rfl (hb hby own_d25_29) rfl (XS.iconst X478.here hx rfl (hb hby own_d25_30) (XS.iadd X478.here hx rfl (hb hby own_d25_31) rfl kk_))))) ?_
  refine own_st (g' := (mkF m 34 #[rv a, iv vv, iv (0 : Int32), iv (1 : Int32), iv (0 : Int32)] [(.int vv), (.int (b + (9 : Int32)))])) (fun tt_ kk_ => own_ldIv (g := (mkF m 32 #[rv a, iv vv, iv (0 : Int32), iv (1 : Int32), iv (0 : Int32)] [(.int (1 : Int32)), (.ref ra)])) X478 hx hZ e478 P_ra (by decide) (by decide) (own_Rv1 _) rfl rfl (hb hby own_d25_32) tt_ (XS.iloadN X478.here hx rfl (hb hby own_d25_33) rfl kk_)) ?_
  by_cases hc34_479 : (b + (9 : Int32)) < vv
  · skip
    refine own_st (g' := (mkF m 52 #[rv a, iv vv, iv (1 : Int32), iv (1 : Int32), iv (0 : Int32)] [(.int (1 : Int32))])) (fun tt_ kk_ => XS.icmpNo X478.here hx rfl (hb hby own_d25_34) rfl (tlt hc34_479).2.1 (XS.iload X478.here hx rfl (hb hby own_d25_37) rfl (XS.iconst X478.here hx rfl (hb hby own_d25_39) (XS.iadd X478.here hx rfl (hb hby own_d25_40) rfl (XS.istoreN X478.here hx rfl (hb hby own_d25_41) rfl (l' := #[rv a, iv vv, iv (1 : Int32), iv (1 : Int32), iv (0 : Int32)]) rfl (XS.goto X478.here hx rfl (pc0 := 42) (pc' := 48) rfl (hb hby own_d25_42) (by decide) (by decide) (XS.goto X478.here hx rfl (pc0 := 48) (pc' := 10) rfl (hb hby own_d25_48) (by decide) (by decide) (XS.iloadN X478.here hx rfl (hb hby own_d25_10) rfl (XS.iloadN X478.here hx rfl (hb hby own_d25_11) rfl (XS.icmpYes X478.here hx rfl (pc0 := 12) (pc' := 51) rfl (hb hby own_d25_12) rfl (flt (by decide : ¬ ((1 : Int32) < (1 : Int32)))).2.1 (by decide) (by decide) (XS.iloadN X478.here hx rfl (hb hby own_d25_51) rfl kk_))))))))))) ?_
    exact own_retI X478 hx hlk hret (hb hby own_d25_52) (by decide) (by decide) (by rw [e478]; exact ⟨(by rw [own_ia02, if_neg hc34, if_pos hc34_479]), N0, rfl⟩)
  refine own_st (g' := (mkF m 52 #[rv a, iv vv, iv (0 : Int32), iv (0 : Int32), iv (0 : Int32)] [(.int (0 : Int32))])) (fun tt_ kk_ => XS.icmpYes X478.here hx rfl (pc0 := 34) (pc' := 45) rfl (hb hby own_d25_34) rfl (flt hc34_479).2.1 (by decide) (by decide) (XS.iload X478.here hx rfl (hb hby own_d25_45) rfl (XS.istoreN X478.here hx rfl (hb hby own_d25_47) rfl (l' := #[rv a, iv vv, iv (0 : Int32), iv (0 : Int32), iv (0 : Int32)]) rfl (XS.goto X478.here hx rfl (pc0 := 48) (pc' := 10) rfl (hb hby own_d25_48) (by decide) (by decide) (XS.iloadN X478.here hx rfl (hb hby own_d25_10) rfl (XS.iloadN X478.here hx rfl (hb hby own_d25_11) rfl (XS.icmpYes X478.here hx rfl (pc0 := 12) (pc' := 51) rfl (hb hby own_d25_12) rfl (flt (by decide : ¬ ((0 : Int32) < (0 : Int32)))).2.1 (by decide) (by decide) (XS.iloadN X478.here hx rfl (hb hby own_d25_51) rfl kk_)))))))) ?_
  exact own_retI X478 hx hlk hret (hb hby own_d25_52) (by decide) (by decide) (by rw [e478]; exact ⟨(by rw [own_ia02, if_neg hc34, if_neg hc34_479]), N0, rfl⟩)
def own_ia12 (b vv : Int32) : Int32 := if (b + (29 : Int32)) < vv then 2 else 1
def own_Qia12 (Z : State) (a : Addr) (vv : Int32) (ra : Addr) (b : Int32) (h0 : Heap) (n0 : Nat) (v : Option Value) (h : Heap) (L : List Loc) : Prop := v = some (.int (own_ia12 b vv)) ∧ Fr n0 L ∧ h = h0
theorem own_efia12 (m : MethodId) (a : Addr) (vv : Int32) : entryFrame m #[(.ref a), (.int vv)] 5 = mkF m 0 #[rv a, iv vv, .unset, .unset, .unset] [] := by first | (simp [entryFrame, mkF, argsToLocals, Value.category]; done) | rfl
set_option maxRecDepth 65536 in
set_option maxHeartbeats 16000000 in
theorem own_rmia12 (l : Launch) (Z : State) (a0 : Array Value) (hw : own_HW Z a0) (ws : List Jvm.Cond) (a : Addr) (vv : Int32) (ra : Addr) (b : Int32) (h0 : Heap) (n0 : Nat) (Z0 : n0 ≤ h0.size) (F_first_a : Fld Z h0 a own_z0 "first" "I" (.int (1 : Int32))) (F_last_a : Fld Z h0 a own_z0 "last" "I" (.int (2 : Int32))) (F_ranges_a : Fld Z h0 a own_z0 "ranges" "[I" (.ref ra)) (P_ra : own_AI Z h0 ra 6 (own_R b)) :
    MetFree l (⟨own_z0, own_z19, "(I)I"⟩ : MethodName) (head1 (Jvm.Cond.code (⟨own_z0, own_z19, "(I)I"⟩ : MethodName) prog_37_method_39_code 5 (some .int) :: ws) ({ frames := 0, cells := 0, slots := 0, locals := 0 } : Room)) (fun aa UU => aa = #[(.ref a), (.int vv)] ∧ Z.Warmed39 UU.vm ∧ UU.heap = h0) (fun _ _ _ _ _ => True) (fun _ U o U' => ∃ v L, o = .returned v ∧ own_Qia12 Z a vv ra b h0 n0 v U'.heap L ∧ FrameEnd U o U' L ({ frames := 0, cells := 0, slots := 0, locals := 0 } : Room).cells ({ frames := 0, cells := 0, slots := 0, locals := 0 } : Room).slots) := by
  refine MetFree.of_bodySF (plainFor_of_name own_pn5) hisR ?_
  intro p e s m args below meth c s₁ Bd hml hP hK
  obtain ⟨rfl, hZ, hh⟩ := hP
  have hx := Bd.exec
  have hlk := Bd.notSynchronized
  have hby := Bd.bytes
  have hret := Bd.returns
  have hown := findClass_of_methodNamed Bd.named
  have hnm := (name_of_methodNamed Bd.named Bd.method).1
  have X0 : Stand p l e ({ frames := 0, cells := 0, slots := 0, locals := 0 } : Room) s m #[(.ref a), (.int vv)] below meth c s₁ [] 0 0 := Stand.of_body Bd
  have e0 : s₁.heap = h0 := by rw [← hh, Bd.state]; rfl
  have N0 := Fr.nil n0
  refine own_cast (own_efia12 m a vv) ?_
  show own_Go p e below s s₁ _ (own_Qia12 Z a vv ra b h0 n0) 0 0
  refine own_st (g' := (mkF m 1 #[rv a, iv vv, .unset, .unset, .unset] [(.ref a)])) (fun tt_ kk_ => XS.aloadN X0.here hx rfl (hb hby own_d25_0) rfl rfl kk_) ?_
  refine own_gG X0 hx hZ hown (own_w hw 133 rfl) e0 F_first_a rfl rfl (hb hby own_d25_1) (fun {T480} X480 e480 => ?_)
  refine own_st (g' := (mkF m 6 #[rv a, iv vv, iv (1 : Int32), .unset, .unset] [(.ref a)])) (fun tt_ kk_ => XS.istoreN X480.here hx rfl (hb hby own_d25_4) rfl (l' := #[rv a, iv vv, iv (1 : Int32), .unset, .unset]) rfl (XS.aloadN X480.here hx rfl (hb hby own_d25_5) rfl rfl kk_)) ?_
  refine own_gG X480 hx hZ hown (own_w hw 135 rfl) e480 F_last_a rfl rfl (hb hby own_d25_6) (fun {T481} X481 e481 => ?_)
  refine own_st (g' := (mkF m 23 #[rv a, iv vv, iv (1 : Int32), iv (2 : Int32), iv (1 : Int32)] [(.ref a)])) (fun tt_ kk_ => XS.istoreN X481.here hx rfl (hb hby own_d25_9) rfl (l' := #[rv a, iv vv, iv (1 : Int32), iv (2 : Int32), .unset]) rfl (XS.iloadN X481.here hx rfl (hb hby own_d25_10) rfl (XS.iloadN X481.here hx rfl (hb hby own_d25_11) rfl (XS.icmpNo X481.here hx rfl (hb hby own_d25_12) rfl (tlt (by decide : (1 : Int32) < (2 : Int32))).2.1 (XS.iloadN X481.here hx rfl (hb hby own_d25_15) rfl (XS.iloadN X481.here hx rfl (hb hby own_d25_16) rfl (XS.iadd X481.here hx rfl (hb hby own_d25_17) rfl (XS.iconst X481.here hx rfl (hb hby own_d25_18) (XS.iushr X481.here hx rfl (hb hby own_d25_19) rfl (XS.istore X481.here hx rfl (hb hby own_d25_20) rfl (l' := #[rv a, iv vv, iv (1 : Int32), iv (2 : Int32), iv (1 : Int32)]) rfl (XS.aloadN X481.here hx rfl (hb hby own_d25_22) rfl rfl kk_))))))))))) ?_
  refine own_gG X481 hx hZ hown (own_w hw 131 rfl) e481 F_ranges_a rfl rfl (hb hby own_d25_23) (fun {T482} X482 e482 => ?_)
  refine own_st (g' := (mkF m 32 #[rv a, iv vv, iv (1 : Int32), iv (2 : Int32), iv (1 : Int32)] [(.int (3 : Int32)), (.ref ra)])) (fun tt_ kk_ => XS.iconst X482.here hx rfl (hb hby own_d25_26) (XS.iload X482.here hx rfl (hb hby own_d25_27) rfl (XS.imul X482.here hx rfl (hb hby own_d25_29) rfl (XS.iconst X482.here hx rfl (hb hby own_d25_30) (XS.iadd X482.here hx rfl (hb hby own_d25_31) rfl kk_))))) ?_
  refine own_st (g' := (mkF m 34 #[rv a, iv vv, iv (1 : Int32), iv (2 : Int32), iv (1 : Int32)] [(.int vv), (.int (b + (29 : Int32)))])) (fun tt_ kk_ => own_ldIv (g := (mkF m 32 #[rv a, iv vv, iv (1 : Int32), iv (2 : Int32), iv (1 : Int32)] [(.int (3 : Int32)), (.ref ra)])) X482 hx hZ e482 P_ra (by decide) (by decide) (own_Rv3 _) rfl rfl (hb hby own_d25_32) tt_ (XS.iloadN X482.here hx rfl (hb hby own_d25_33) rfl kk_)) ?_
  by_cases hc34 : (b + (29 : Int32)) < vv
  · skip
    refine own_st (g' := (mkF m 52 #[rv a, iv vv, iv (2 : Int32), iv (2 : Int32), iv (1 : Int32)] [(.int (2 : Int32))])) (fun tt_ kk_ => XS.icmpNo X482.here hx rfl (hb hby own_d25_34) rfl (tlt hc34).2.1 (XS.iload X482.here hx rfl (hb hby own_d25_37) rfl (XS.iconst X482.here hx rfl (hb hby own_d25_39) (XS.iadd X482.here hx rfl (hb hby own_d25_40) rfl (XS.istoreN X482.here hx rfl (hb hby own_d25_41) rfl (l' := #[rv a, iv vv, iv (2 : Int32), iv (2 : Int32), iv (1 : Int32)]) rfl (XS.goto X482.here hx rfl (pc0 := 42) (pc' := 48) rfl (hb hby own_d25_42) (by decide) (by decide) (XS.goto X482.here hx rfl (pc0 := 48) (pc' := 10) rfl (hb hby own_d25_48) (by decide) (by decide) (XS.iloadN X482.here hx rfl (hb hby own_d25_10) rfl (XS.iloadN X482.here hx rfl (hb hby own_d25_11) rfl (XS.icmpYes X482.here hx rfl (pc0 := 12) (pc' := 51) rfl (hb hby own_d25_12) rfl (flt (by decide : ¬ ((2 : Int32) < (2 : Int32)))).2.1 (by decide) (by decide) (XS.iloadN X482.here hx rfl (hb hby own_d25_51) rfl kk_))))))))))) ?_
    exact own_retI X482 hx hlk hret (hb hby own_d25_52) (by decide) (by decide) (by rw [e482]; exact ⟨(by rw [own_ia12, if_pos hc34]), N0, rfl⟩)
  refine own_st (g' := (mkF m 52 #[rv a, iv vv, iv (1 : Int32), iv (1 : Int32), iv (1 : Int32)] [(.int (1 : Int32))])) (fun tt_ kk_ => XS.icmpYes X482.here hx rfl (pc0 := 34) (pc' := 45) rfl (hb hby own_d25_34) rfl (flt hc34).2.1 (by decide) (by decide) (XS.iload X482.here hx rfl (hb hby own_d25_45) rfl (XS.istoreN X482.here hx rfl (hb hby own_d25_47) rfl (l' := #[rv a, iv vv, iv (1 : Int32), iv (1 : Int32), iv (1 : Int32)]) rfl (XS.goto X482.here hx rfl (pc0 := 48) (pc' := 10) rfl (hb hby own_d25_48) (by decide) (by decide) (XS.iloadN X482.here hx rfl (hb hby own_d25_10) rfl (XS.iloadN X482.here hx rfl (hb hby own_d25_11) rfl (XS.icmpYes X482.here hx rfl (pc0 := 12) (pc' := 51) rfl (hb hby own_d25_12) rfl (flt (by decide : ¬ ((1 : Int32) < (1 : Int32)))).2.1 (by decide) (by decide) (XS.iloadN X482.here hx rfl (hb hby own_d25_51) rfl kk_)))))))) ?_
  exact own_retI X482 hx hlk hret (hb hby own_d25_52) (by decide) (by decide) (by rw [e482]; exact ⟨(by rw [own_ia12, if_neg hc34]), N0, rfl⟩)
def own_ib01 (b vv : Int32) : Int32 := if vv < (b + (20 : Int32)) then 0 else 1
theorem own_d20_0 : own_D own_b20 0 (.aload_n 0) 1 := by decide +kernel
theorem own_d20_1 : own_D own_b20 1 (.getfield 218) 3 := by decide +kernel
theorem own_d20_4 : own_D own_b20 4 (.istore_n 2) 1 := by decide +kernel
theorem own_d20_5 : own_D own_b20 5 (.aload_n 0) 1 := by decide +kernel
theorem own_d20_6 : own_D own_b20 6 (.getfield 72) 3 := by decide +kernel
theorem own_d20_9 : own_D own_b20 9 (.istore_n 3) 1 := by decide +kernel
theorem own_d20_10 : own_D own_b20 10 (.iload_n 2) 1 := by decide +kernel
theorem own_d20_11 : own_D own_b20 11 (.iload_n 3) 1 := by decide +kernel
theorem own_d20_12 : own_D own_b20 12 (.if_icmp .ge 39) 3 := by decide +kernel
theorem own_d20_15 : own_D own_b20 15 (.iload_n 2) 1 := by decide +kernel
theorem own_d20_16 : own_D own_b20 16 (.iload_n 3) 1 := by decide +kernel
theorem own_d20_17 : own_D own_b20 17 .iadd 1 := by decide +kernel
theorem own_d20_18 : own_D own_b20 18 (.iconst 1) 1 := by decide +kernel
theorem own_d20_19 : own_D own_b20 19 .iadd 1 := by decide +kernel
theorem own_d20_20 : own_D own_b20 20 (.iconst 1) 1 := by decide +kernel
theorem own_d20_21 : own_D own_b20 21 .iushr 1 := by decide +kernel
theorem own_d20_22 : own_D own_b20 22 (.istore 4) 2 := by decide +kernel
theorem own_d20_24 : own_D own_b20 24 (.aload_n 0) 1 := by decide +kernel
theorem own_d20_25 : own_D own_b20 25 (.getfield 69) 3 := by decide +kernel
theorem own_d20_28 : own_D own_b20 28 (.iconst 2) 1 := by decide +kernel
theorem own_d20_29 : own_D own_b20 29 (.iload 4) 2 := by decide +kernel
theorem own_d20_31 : own_D own_b20 31 .imul 1 := by decide +kernel
theorem own_d20_32 : own_D own_b20 32 .iaload 1 := by decide +kernel
theorem own_d20_33 : own_D own_b20 33 (.iload_n 1) 1 := by decide +kernel
theorem own_d20_34 : own_D own_b20 34 (.if_icmp .le 11) 3 := by decide +kernel
theorem own_d20_37 : own_D own_b20 37 (.iload 4) 2 := by decide +kernel
theorem own_d20_39 : own_D own_b20 39 (.iconst 1) 1 := by decide +kernel
theorem own_d20_40 : own_D own_b20 40 .isub 1 := by decide +kernel
theorem own_d20_41 : own_D own_b20 41 (.istore_n 3) 1 := by decide +kernel
theorem own_d20_42 : own_D own_b20 42 (.goto 6) 3 := by decide +kernel
theorem own_d20_45 : own_D own_b20 45 (.iload 4) 2 := by decide +kernel
theorem own_d20_47 : own_D own_b20 47 (.istore_n 2) 1 := by decide +kernel
theorem own_d20_48 : own_D own_b20 48 (.goto (-38)) 3 := by decide +kernel
theorem own_d20_51 : own_D own_b20 51 (.iload_n 2) 1 := by decide +kernel
theorem own_d20_52 : own_D own_b20 52 .ireturn 1 := by decide +kernel
def own_Qib01 (Z : State) (a : Addr) (vv : Int32) (ra : Addr) (b : Int32) (h0 : Heap) (n0 : Nat) (v : Option Value) (h : Heap) (L : List Loc) : Prop := v = some (.int (own_ib01 b vv)) ∧ Fr n0 L ∧ h = h0
theorem own_efib01 (m : MethodId) (a : Addr) (vv : Int32) : entryFrame m #[(.ref a), (.int vv)] 5 = mkF m 0 #[rv a, iv vv, .unset, .unset, .unset] [] := by first | (simp [entryFrame, mkF, argsToLocals, Value.category]; done) | rfl
set_option maxRecDepth 65536 in
set_option maxHeartbeats 16000000 in
theorem own_rmib01 (l : Launch) (Z : State) (a0 : Array Value) (hw : own_HW Z a0) (ws : List Jvm.Cond) (a : Addr) (vv : Int32) (ra : Addr) (b : Int32) (h0 : Heap) (n0 : Nat) (Z0 : n0 ≤ h0.size) (F_first_a : Fld Z h0 a own_z0 "first" "I" (.int (0 : Int32))) (F_last_a : Fld Z h0 a own_z0 "last" "I" (.int (1 : Int32))) (F_ranges_a : Fld Z h0 a own_z0 "ranges" "[I" (.ref ra)) (P_ra : own_AI Z h0 ra 6 (own_R b)) :
    MetFree l (⟨own_z0, own_z20, "(I)I"⟩ : MethodName) (head1 (Jvm.Cond.code (⟨own_z0, own_z20, "(I)I"⟩ : MethodName) prog_37_method_40_code 5 (some .int) :: ws) ({ frames := 0, cells := 0, slots := 0, locals := 0 } : Room)) (fun aa UU => aa = #[(.ref a), (.int vv)] ∧ Z.Warmed39 UU.vm ∧ UU.heap = h0) (fun _ _ _ _ _ => True) (fun _ U o U' => ∃ v L, o = .returned v ∧ own_Qib01 Z a vv ra b h0 n0 v U'.heap L ∧ FrameEnd U o U' L ({ frames := 0, cells := 0, slots := 0, locals := 0 } : Room).cells ({ frames := 0, cells := 0, slots := 0, locals := 0 } : Room).slots) := by
  refine MetFree.of_bodySF (plainFor_of_name own_pn5) hisR ?_
  intro p e s m args below meth c s₁ Bd hml hP hK
  obtain ⟨rfl, hZ, hh⟩ := hP
  have hx := Bd.exec
  have hlk := Bd.notSynchronized
  have hby := Bd.bytes
  have hret := Bd.returns
  have hown := findClass_of_methodNamed Bd.named
  have hnm := (name_of_methodNamed Bd.named Bd.method).1
  have X0 : Stand p l e ({ frames := 0, cells := 0, slots := 0, locals := 0 } : Room) s m #[(.ref a), (.int vv)] below meth c s₁ [] 0 0 := Stand.of_body Bd
  have e0 : s₁.heap = h0 := by rw [← hh, Bd.state]; rfl
  have N0 := Fr.nil n0
  refine own_cast (own_efib01 m a vv) ?_
  show own_Go p e below s s₁ _ (own_Qib01 Z a vv ra b h0 n0) 0 0
  refine own_st (g' := (mkF m 1 #[rv a, iv vv, .unset, .unset, .unset] [(.ref a)])) (fun tt_ kk_ => XS.aloadN X0.here hx rfl (hb hby own_d20_0) rfl rfl kk_) ?_
  refine own_gG X0 hx hZ hown (own_w hw 133 rfl) e0 F_first_a rfl rfl (hb hby own_d20_1) (fun {T483} X483 e483 => ?_)
  refine own_st (g' := (mkF m 6 #[rv a, iv vv, iv (0 : Int32), .unset, .unset] [(.ref a)])) (fun tt_ kk_ => XS.istoreN X483.here hx rfl (hb hby own_d20_4) rfl (l' := #[rv a, iv vv, iv (0 : Int32), .unset, .unset]) rfl (XS.aloadN X483.here hx rfl (hb hby own_d20_5) rfl rfl kk_)) ?_
  refine own_gG X483 hx hZ hown (own_w hw 135 rfl) e483 F_last_a rfl rfl (hb hby own_d20_6) (fun {T484} X484 e484 => ?_)
  refine own_st (g' := (mkF m 24 #[rv a, iv vv, iv (0 : Int32), iv (1 : Int32), iv (1 : Int32)] [])) (fun tt_ kk_ => XS.istoreN X484.here hx rfl (hb hby own_d20_9) rfl (l' := #[rv a, iv vv, iv (0 : Int32), iv (1 : Int32), .unset]) rfl (XS.iloadN X484.here hx rfl (hb hby own_d20_10) rfl (XS.iloadN X484.here hx rfl (hb hby own_d20_11) rfl (XS.icmpNo X484.here hx rfl (hb hby own_d20_12) rfl (tlt (by decide : (0 : Int32) < (1 : Int32))).2.1 (XS.iloadN X484.here hx rfl (hb hby own_d20_15) rfl (XS.iloadN X484.here hx rfl (hb hby own_d20_16) rfl (XS.iadd X484.here hx rfl (hb hby own_d20_17) rfl (XS.iconst X484.here hx rfl (hb hby own_d20_18) (XS.iadd X484.here hx rfl (hb hby own_d20_19) rfl (XS.iconst X484.here hx rfl (hb hby own_d20_20) (XS.iushr X484.here hx rfl (hb hby own_d20_21) rfl (XS.istore X484.here hx rfl (hb hby own_d20_22) rfl (l' := #[rv a, iv vv, iv (0 : Int32), iv (1 : Int32), iv (1 : Int32)]) rfl kk_)))))))))))) ?_
  refine own_st (g' := (mkF m 25 #[rv a, iv vv, iv (0 : Int32), iv (1 : Int32), iv (1 : Int32)] [(.ref a)])) (fun tt_ kk_ => XS.aloadN X484.here hx rfl (hb hby own_d20_24) rfl rfl kk_) ?_
  refine own_gG X484 hx hZ hown (own_w hw 131 rfl) e484 F_ranges_a rfl rfl (hb hby own_d20_25) (fun {T485} X485 e485 => ?_)
  refine own_st (g' := (mkF m 32 #[rv a, iv vv, iv (0 : Int32), iv (1 : Int32), iv (1 : Int32)] [(.int (2 : Int32)), (.ref ra)])) (fun tt_ kk_ => XS.iconst X485.here hx rfl (hb hby own_d20_28) (XS.iload X485.here hx rfl (hb hby own_d20_29) rfl (XS.imul X485.here hx rfl (hb hby own_d20_31) rfl kk_))) ?_
  refine own_st (g' := (mkF m 34 #[rv a, iv vv, iv (0 : Int32), iv (1 : Int32), iv (1 : Int32)] [(.int vv), (.int (b + (20 : Int32)))])) (fun tt_ kk_ => own_ldIv (g := (mkF m 32 #[rv a, iv vv, iv (0 : Int32), iv (1 : Int32), iv (1 : Int32)] [(.int (2 : Int32)), (.ref ra)])) X485 hx hZ e485 P_ra (by decide) (by decide) (own_Rv2 _) rfl rfl (hb hby own_d20_32) tt_ (XS.iloadN X485.here hx rfl (hb hby own_d20_33) rfl kk_)) ?_
  by_cases hc34 : vv < (b + (20 : Int32))
  · skip
    refine own_st (g' := (mkF m 52 #[rv a, iv vv, iv (0 : Int32), iv (0 : Int32), iv (1 : Int32)] [(.int (0 : Int32))])) (fun tt_ kk_ => XS.icmpNo X485.here hx rfl (hb hby own_d20_34) rfl (tlt hc34).2.2.2 (XS.iload X485.here hx rfl (hb hby own_d20_37) rfl (XS.iconst X485.here hx rfl (hb hby own_d20_39) (XS.isub X485.here hx rfl (hb hby own_d20_40) rfl (XS.istoreN X485.here hx rfl (hb hby own_d20_41) rfl (l' := #[rv a, iv vv, iv (0 : Int32), iv (0 : Int32), iv (1 : Int32)]) rfl (XS.goto X485.here hx rfl (pc0 := 42) (pc' := 48) rfl (hb hby own_d20_42) (by decide) (by decide) (XS.goto X485.here hx rfl (pc0 := 48) (pc' := 10) rfl (hb hby own_d20_48) (by decide) (by decide) (XS.iloadN X485.here hx rfl (hb hby own_d20_10) rfl (XS.iloadN X485.here hx rfl (hb hby own_d20_11) rfl (XS.icmpYes X485.here hx rfl (pc0 := 12) (pc' := 51) rfl (hb hby own_d20_12) rfl (flt (by decide : ¬ ((0 : Int32) < (0 : Int32)))).2.1 (by decide) (by decide) (XS.iloadN X485.here hx rfl (hb hby own_d20_51) rfl kk_))))))))))) ?_
    exact own_retI X485 hx hlk hret (hb hby own_d20_52) (by decide) (by decide) (by rw [e485]; exact ⟨(by rw [own_ib01, if_pos hc34]), N0, rfl⟩)
  refine own_st (g' := (mkF m 52 #[rv a, iv vv, iv (1 : Int32), iv (1 : Int32), iv (1 : Int32)] [(.int (1 : Int32))])) (fun tt_ kk_ => XS.icmpYes X485.here hx rfl (pc0 := 34) (pc' := 45) rfl (hb hby own_d20_34) rfl (flt hc34).2.2.2 (by decide) (by decide) (XS.iload X485.here hx rfl (hb hby own_d20_45) rfl (XS.istoreN X485.here hx rfl (hb hby own_d20_47) rfl (l' := #[rv a, iv vv, iv (1 : Int32), iv (1 : Int32), iv (1 : Int32)]) rfl (XS.goto X485.here hx rfl (pc0 := 48) (pc' := 10) rfl (hb hby own_d20_48) (by decide) (by decide) (XS.iloadN X485.here hx rfl (hb hby own_d20_10) rfl (XS.iloadN X485.here hx rfl (hb hby own_d20_11) rfl (XS.icmpYes X485.here hx rfl (pc0 := 12) (pc' := 51) rfl (hb hby own_d20_12) rfl (flt (by decide : ¬ ((1 : Int32) < (1 : Int32)))).2.1 (by decide) (by decide) (XS.iloadN X485.here hx rfl (hb hby own_d20_51) rfl kk_)))))))) ?_
  exact own_retI X485 hx hlk hret (hb hby own_d20_52) (by decide) (by decide) (by rw [e485]; exact ⟨(by rw [own_ib01, if_neg hc34]), N0, rfl⟩)
def own_ib02 (b vv : Int32) : Int32 := if vv < (b + (20 : Int32)) then 0 else if vv < (b + (40 : Int32)) then 1 else 2
def own_Qib02 (Z : State) (a : Addr) (vv : Int32) (ra : Addr) (b : Int32) (h0 : Heap) (n0 : Nat) (v : Option Value) (h : Heap) (L : List Loc) : Prop := v = some (.int (own_ib02 b vv)) ∧ Fr n0 L ∧ h = h0
theorem own_efib02 (m : MethodId) (a : Addr) (vv : Int32) : entryFrame m #[(.ref a), (.int vv)] 5 = mkF m 0 #[rv a, iv vv, .unset, .unset, .unset] [] := by first | (simp [entryFrame, mkF, argsToLocals, Value.category]; done) | rfl
set_option maxRecDepth 65536 in
set_option maxHeartbeats 16000000 in
theorem own_rmib02 (l : Launch) (Z : State) (a0 : Array Value) (hw : own_HW Z a0) (ws : List Jvm.Cond) (a : Addr) (vv : Int32) (ra : Addr) (b : Int32) (h0 : Heap) (n0 : Nat) (Z0 : n0 ≤ h0.size) (F_first_a : Fld Z h0 a own_z0 "first" "I" (.int (0 : Int32))) (F_last_a : Fld Z h0 a own_z0 "last" "I" (.int (2 : Int32))) (F_ranges_a : Fld Z h0 a own_z0 "ranges" "[I" (.ref ra)) (P_ra : own_AI Z h0 ra 6 (own_R b)) :
    MetFree l (⟨own_z0, own_z20, "(I)I"⟩ : MethodName) (head1 (Jvm.Cond.code (⟨own_z0, own_z20, "(I)I"⟩ : MethodName) prog_37_method_40_code 5 (some .int) :: ws) ({ frames := 0, cells := 0, slots := 0, locals := 0 } : Room)) (fun aa UU => aa = #[(.ref a), (.int vv)] ∧ Z.Warmed39 UU.vm ∧ UU.heap = h0) (fun _ _ _ _ _ => True) (fun _ U o U' => ∃ v L, o = .returned v ∧ own_Qib02 Z a vv ra b h0 n0 v U'.heap L ∧ FrameEnd U o U' L ({ frames := 0, cells := 0, slots := 0, locals := 0 } : Room).cells ({ frames := 0, cells := 0, slots := 0, locals := 0 } : Room).slots) := by
  refine MetFree.of_bodySF (plainFor_of_name own_pn5) hisR ?_
  intro p e s m args below meth c s₁ Bd hml hP hK
  obtain ⟨rfl, hZ, hh⟩ := hP
  have hx := Bd.exec
  have hlk := Bd.notSynchronized
  have hby := Bd.bytes
  have hret := Bd.returns
  have hown := findClass_of_methodNamed Bd.named
  have hnm := (name_of_methodNamed Bd.named Bd.method).1
  have X0 : Stand p l e ({ frames := 0, cells := 0, slots := 0, locals := 0 } : Room) s m #[(.ref a), (.int vv)] below meth c s₁ [] 0 0 := Stand.of_body Bd
  have e0 : s₁.heap = h0 := by rw [← hh, Bd.state]; rfl
  have N0 := Fr.nil n0
  refine own_cast (own_efib02 m a vv) ?_
  show own_Go p e below s s₁ _ (own_Qib02 Z a vv ra b h0 n0) 0 0
  refine own_st (g' := (mkF m 1 #[rv a, iv vv, .unset, .unset, .unset] [(.ref a)])) (fun tt_ kk_ => XS.aloadN X0.here hx rfl (hb hby own_d20_0) rfl rfl kk_) ?_
  refine own_gG X0 hx hZ hown (own_w hw 133 rfl) e0 F_first_a rfl rfl (hb hby own_d20_1) (fun {T486} X486 e486 => ?_)
  refine own_st (g' := (mkF m 6 #[rv a, iv vv, iv (0 : Int32), .unset, .unset] [(.ref a)])) (fun tt_ kk_ => XS.istoreN X486.here hx rfl (hb hby own_d20_4) rfl (l' := #[rv a, iv vv, iv (0 : Int32), .unset, .unset]) rfl (XS.aloadN X486.here hx rfl (hb hby own_d20_5) rfl rfl kk_)) ?_
  refine own_gG X486 hx hZ hown (own_w hw 135 rfl) e486 F_last_a rfl rfl (hb hby own_d20_6) (fun {T487} X487 e487 => ?_)
  refine own_st (g' := (mkF m 24 #[rv a, iv vv, iv (0 : Int32), iv (2 : Int32), iv (1 : Int32)] [])) (fun tt_ kk_ => XS.istoreN X487.here hx rfl (hb hby own_d20_9) rfl (l' := #[rv a, iv vv, iv (0 : Int32), iv (2 : Int32), .unset]) rfl (XS.iloadN X487.here hx rfl (hb hby own_d20_10) rfl (XS.iloadN X487.here hx rfl (hb hby own_d20_11) rfl (XS.icmpNo X487.here hx rfl (hb hby own_d20_12) rfl (tlt (by decide : (0 : Int32) < (2 : Int32))).2.1 (XS.iloadN X487.here hx rfl (hb hby own_d20_15) rfl (XS.iloadN X487.here hx rfl (hb hby own_d20_16) rfl (XS.iadd X487.here hx rfl (hb hby own_d20_17) rfl (XS.iconst X487.here hx rfl (hb hby own_d20_18) (XS.iadd X487.here hx rfl (hb hby own_d20_19) rfl (XS.iconst X487.here hx rfl (hb hby own_d20_20) (XS.iushr X487.here hx rfl (hb hby own_d20_21) rfl (XS.istore X487.here hx rfl (hb hby own_d20_22) rfl (l' := #[rv a, iv vv, iv (0 : Int32), iv (2 : Int32), iv (1 : Int32)]) rfl kk_)))))))))))) ?_
  refine own_st (g' := (mkF m 25 #[rv a, iv vv, iv (0 : Int32), iv (2 : Int32), iv (1 : Int32)] [(.ref a)])) (fun tt_ kk_ => XS.aloadN X487.here hx rfl (hb hby own_d20_24) rfl rfl kk_) ?_
  refine own_gG X487 hx hZ hown (own_w hw 131 rfl) e487 F_ranges_a rfl rfl (hb hby own_d20_25) (fun {T488} X488 e488 => ?_)
  refine own_st (g' := (mkF m 32 #[rv a, iv vv, iv (0 : Int32), iv (2 : Int32), iv (1 : Int32)] [(.int (2 : Int32)), (.ref ra)])) (fun tt_ kk_ => XS.iconst X488.here hx rfl (hb hby own_d20_28) (XS.iload X488.here hx rfl (hb hby own_d20_29) rfl (XS.imul X488.here hx rfl (hb hby own_d20_31) rfl kk_))) ?_
  refine own_st (g' := (mkF m 34 #[rv a, iv vv, iv (0 : Int32), iv (2 : Int32), iv (1 : Int32)] [(.int vv), (.int (b + (20 : Int32)))])) (fun tt_ kk_ => own_ldIv (g := (mkF m 32 #[rv a, iv vv, iv (0 : Int32), iv (2 : Int32), iv (1 : Int32)] [(.int (2 : Int32)), (.ref ra)])) X488 hx hZ e488 P_ra (by decide) (by decide) (own_Rv2 _) rfl rfl (hb hby own_d20_32) tt_ (XS.iloadN X488.here hx rfl (hb hby own_d20_33) rfl kk_)) ?_
  by_cases hc34 : vv < (b + (20 : Int32))
  · skip
    refine own_st (g' := (mkF m 52 #[rv a, iv vv, iv (0 : Int32), iv (0 : Int32), iv (1 : Int32)] [(.int (0 : Int32))])) (fun tt_ kk_ => XS.icmpNo X488.here hx rfl (hb hby own_d20_34) rfl (tlt hc34).2.2.2 (XS.iload X488.here hx rfl (hb hby own_d20_37) rfl (XS.iconst X488.here hx rfl (hb hby own_d20_39) (XS.isub X488.here hx rfl (hb hby own_d20_40) rfl (XS.istoreN X488.here hx rfl (hb hby own_d20_41) rfl (l' := #[rv a, iv vv, iv (0 : Int32), iv (0 : Int32), iv (1 : Int32)]) rfl (XS.goto X488.here hx rfl (pc0 := 42) (pc' := 48) rfl (hb hby own_d20_42) (by decide) (by decide) (XS.goto X488.here hx rfl (pc0 := 48) (pc' := 10) rfl (hb hby own_d20_48) (by decide) (by decide) (XS.iloadN X488.here hx rfl (hb hby own_d20_10) rfl (XS.iloadN X488.here hx rfl (hb hby own_d20_11) rfl (XS.icmpYes X488.here hx rfl (pc0 := 12) (pc' := 51) rfl (hb hby own_d20_12) rfl (flt (by decide : ¬ ((0 : Int32) < (0 : Int32)))).2.1 (by decide) (by decide) (XS.iloadN X488.here hx rfl (hb hby own_d20_51) rfl kk_))))))))))) ?_
    exact own_retI X488 hx hlk hret (hb hby own_d20_52) (by decide) (by decide) (by rw [e488]; exact ⟨(by rw [own_ib02, if_pos hc34]), N0, rfl⟩)
  refine own_st (g' := (mkF m 20 #[rv a, iv vv, iv (1 : Int32), iv (2 : Int32), iv (1 : Int32)] [(.int (4 : Int32))])) (fun tt_ kk_ => XS.icmpYes X488.here hx rfl (pc0 := 34) (pc' := 45) rfl (hb hby own_d20_34) rfl (flt hc34).2.2.2 (by decide) (by decide) (XS.iload X488.here hx rfl (hb hby own_d20_45) rfl (XS.istoreN X488.here hx rfl (hb hby own_d20_47) rfl (l' := #[rv a, iv vv, iv (1 : Int32), iv (2 : Int32), iv (1 : Int32)]) rfl (XS.goto X488.here hx rfl (pc0 := 48) (pc' := 10) rfl (hb hby own_d20_48) (by decide) (by decide) (XS.iloadN X488.here hx rfl (hb hby own_d20_10) rfl (XS.iloadN X488.here hx rfl (hb hby own_d20_11) rfl (XS.icmpNo X488.here hx rfl (hb hby own_d20_12) rfl (tlt (by decide : (1 : Int32) < (2 : Int32))).2.1 (XS.iloadN X488.here hx rfl (hb hby own_d20_15) rfl (XS.iloadN X488.here hx rfl (hb hby own_d20_16) rfl (XS.iadd X488.here hx rfl (hb hby own_d20_17) rfl (XS.iconst X488.here hx rfl (hb hby own_d20_18) (XS.iadd X488.here hx rfl (hb hby own_d20_19) rfl kk_)))))))))))) ?_
  refine own_st (g' := (mkF m 25 #[rv a, iv vv, iv (1 : Int32), iv (2 : Int32), iv (2 : Int32)] [(.ref a)])) (fun tt_ kk_ => XS.iconst X488.here hx rfl (hb hby own_d20_20) (XS.iushr X488.here hx rfl (hb hby own_d20_21) rfl (XS.istore X488.here hx rfl (hb hby own_d20_22) rfl (l' := #[rv a, iv vv, iv (1 : Int32), iv (2 : Int32), iv (2 : Int32)]) rfl (XS.aloadN X488.here hx rfl (hb hby own_d20_24) rfl rfl kk_)))) ?_
  refine own_gG X488 hx hZ hown (own_w hw 131 rfl) e488 F_ranges_a rfl rfl (hb hby own_d20_25) (fun {T489} X489 e489 => ?_)
  refine own_st (g' := (mkF m 32 #[rv a, iv vv, iv (1 : Int32), iv (2 : Int32), iv (2 : Int32)] [(.int (4 : Int32)), (.ref ra)])) (fun tt_ kk_ => XS.iconst X489.here hx rfl (hb hby own_d20_28) (XS.iload X489.here hx rfl (hb hby own_d20_29) rfl (XS.imul X489.here hx rfl (hb hby own_d20_31) rfl kk_))) ?_
  refine own_st (g' := (mkF m 34 #[rv a, iv vv, iv (1 : Int32), iv (2 : Int32), iv (2 : Int32)] [(.int vv), (.int (b + (40 : Int32)))])) (fun tt_ kk_ => own_ldIv (g := (mkF m 32 #[rv a, iv vv, iv (1 : Int32), iv (2 : Int32), iv (2 : Int32)] [(.int (4 : Int32)), (.ref ra)])) X489 hx hZ e489 P_ra (by decide) (by decide) (own_Rv4 _) rfl rfl (hb hby own_d20_32) tt_ (XS.iloadN X489.here hx rfl (hb hby own_d20_33) rfl kk_)) ?_
  by_cases hc34_490 : vv < (b + (40 : Int32))
  · skip
    refine own_st (g' := (mkF m 52 #[rv a, iv vv, iv (1 : Int32), iv (1 : Int32), iv (2 : Int32)] [(.int (1 : Int32))])) (fun tt_ kk_ => XS.icmpNo X489.here hx rfl (hb hby own_d20_34) rfl (tlt hc34_490).2.2.2 (XS.iload X489.here hx rfl (hb hby own_d20_37) rfl (XS.iconst X489.here hx rfl (hb hby own_d20_39) (XS.isub X489.here hx rfl (hb hby own_d20_40) rfl (XS.istoreN X489.here hx rfl (hb hby own_d20_41) rfl (l' := #[rv a, iv vv, iv (1 : Int32), iv (1 : Int32), iv (2 : Int32)]) rfl (XS.goto X489.here hx rfl (pc0 := 42) (pc' := 48) rfl (hb hby own_d20_42) (by decide) (by decide) (XS.goto X489.here hx rfl (pc0 := 48) (pc' := 10) rfl (hb hby own_d20_48) (by decide) (by decide) (XS.iloadN X489.here hx rfl (hb hby own_d20_10) rfl (XS.iloadN X489.here hx rfl (hb hby own_d20_11) rfl (XS.icmpYes X489.here hx rfl (pc0 := 12) (pc' := 51) rfl (hb hby own_d20_12) rfl (flt (by decide : ¬ ((1 : Int32) < (1 : Int32)))).2.1 (by decide) (by decide) (XS.iloadN X489.here hx rfl (hb hby own_d20_51) rfl kk_))))))))))) ?_
    exact own_retI X489 hx hlk hret (hb hby own_d20_52) (by decide) (by decide) (by rw [e489]; exact ⟨(by rw [own_ib02, if_neg hc34, if_pos hc34_490]), N0, rfl⟩)
  refine own_st (g' := (mkF m 52 #[rv a, iv vv, iv (2 : Int32), iv (2 : Int32), iv (2 : Int32)] [(.int (2 : Int32))])) (fun tt_ kk_ => XS.icmpYes X489.here hx rfl (pc0 := 34) (pc' := 45) rfl (hb hby own_d20_34) rfl (flt hc34_490).2.2.2 (by decide) (by decide) (XS.iload X489.here hx rfl (hb hby own_d20_45) rfl (XS.istoreN X489.here hx rfl (hb hby own_d20_47) rfl (l' := #[rv a, iv vv, iv (2 : Int32), iv (2 : Int32), iv (2 : Int32)]) rfl (XS.goto X489.here hx rfl (pc0 := 48) (pc' := 10) rfl (hb hby own_d20_48) (by decide) (by decide) (XS.iloadN X489.here hx rfl (hb hby own_d20_10) rfl (XS.iloadN X489.here hx rfl (hb hby own_d20_11) rfl (XS.icmpYes X489.here hx rfl (pc0 := 12) (pc' := 51) rfl (hb hby own_d20_12) rfl (flt (by decide : ¬ ((2 : Int32) < (2 : Int32)))).2.1 (by decide) (by decide) (XS.iloadN X489.here hx rfl (hb hby own_d20_51) rfl kk_)))))))) ?_
  exact own_retI X489 hx hlk hret (hb hby own_d20_52) (by decide) (by decide) (by rw [e489]; exact ⟨(by rw [own_ib02, if_neg hc34, if_neg hc34_490]), N0, rfl⟩)
def own_ib12 (b vv : Int32) : Int32 := if vv < (b + (40 : Int32)) then 1 else 2
def own_Qib12 (Z : State) (a : Addr) (vv : Int32) (ra : Addr) (b : Int32) (h0 : Heap) (n0 : Nat) (v : Option Value) (h : Heap) (L : List Loc) : Prop := v = some (.int (own_ib12 b vv)) ∧ Fr n0 L ∧ h = h0
theorem own_efib12 (m : MethodId) (a : Addr) (vv : Int32) : entryFrame m #[(.ref a), (.int vv)] 5 = mkF m 0 #[rv a, iv vv, .unset, .unset, .unset] [] := by first | (simp [entryFrame, mkF, argsToLocals, Value.category]; done) | rfl
set_option maxRecDepth 65536 in
set_option maxHeartbeats 16000000 in
theorem own_rmib12 (l : Launch) (Z : State) (a0 : Array Value) (hw : own_HW Z a0) (ws : List Jvm.Cond) (a : Addr) (vv : Int32) (ra : Addr) (b : Int32) (h0 : Heap) (n0 : Nat) (Z0 : n0 ≤ h0.size) (F_first_a : Fld Z h0 a own_z0 "first" "I" (.int (1 : Int32))) (F_last_a : Fld Z h0 a own_z0 "last" "I" (.int (2 : Int32))) (F_ranges_a : Fld Z h0 a own_z0 "ranges" "[I" (.ref ra)) (P_ra : own_AI Z h0 ra 6 (own_R b)) :
    MetFree l (⟨own_z0, own_z20, "(I)I"⟩ : MethodName) (head1 (Jvm.Cond.code (⟨own_z0, own_z20, "(I)I"⟩ : MethodName) prog_37_method_40_code 5 (some .int) :: ws) ({ frames := 0, cells := 0, slots := 0, locals := 0 } : Room)) (fun aa UU => aa = #[(.ref a), (.int vv)] ∧ Z.Warmed39 UU.vm ∧ UU.heap = h0) (fun _ _ _ _ _ => True) (fun _ U o U' => ∃ v L, o = .returned v ∧ own_Qib12 Z a vv ra b h0 n0 v U'.heap L ∧ FrameEnd U o U' L ({ frames := 0, cells := 0, slots := 0, locals := 0 } : Room).cells ({ frames := 0, cells := 0, slots := 0, locals := 0 } : Room).slots) := by
  refine MetFree.of_bodySF (plainFor_of_name own_pn5) hisR ?_
  intro p e s m args below meth c s₁ Bd hml hP hK
  obtain ⟨rfl, hZ, hh⟩ := hP
  have hx := Bd.exec
  have hlk := Bd.notSynchronized
  have hby := Bd.bytes
  have hret := Bd.returns
  have hown := findClass_of_methodNamed Bd.named
  have hnm := (name_of_methodNamed Bd.named Bd.method).1
  have X0 : Stand p l e ({ frames := 0, cells := 0, slots := 0, locals := 0 } : Room) s m #[(.ref a), (.int vv)] below meth c s₁ [] 0 0 := Stand.of_body Bd
  have e0 : s₁.heap = h0 := by rw [← hh, Bd.state]; rfl
  have N0 := Fr.nil n0
  refine own_cast (own_efib12 m a vv) ?_
  show own_Go p e below s s₁ _ (own_Qib12 Z a vv ra b h0 n0) 0 0
  refine own_st (g' := (mkF m 1 #[rv a, iv vv, .unset, .unset, .unset] [(.ref a)])) (fun tt_ kk_ => XS.aloadN X0.here hx rfl (hb hby own_d20_0) rfl rfl kk_) ?_
  refine own_gG X0 hx hZ hown (own_w hw 133 rfl) e0 F_first_a rfl rfl (hb hby own_d20_1) (fun {T491} X491 e491 => ?_)
  refine own_st (g' := (mkF m 6 #[rv a, iv vv, iv (1 : Int32), .unset, .unset] [(.ref a)])) (fun tt_ kk_ => XS.istoreN X491.here hx rfl (hb hby own_d20_4) rfl (l' := #[rv a, iv vv, iv (1 : Int32), .unset, .unset]) rfl (XS.aloadN X491.here hx rfl (hb hby own_d20_5) rfl rfl kk_)) ?_
  refine own_gG X491 hx hZ hown (own_w hw 135 rfl) e491 F_last_a rfl rfl (hb hby own_d20_6) (fun {T492} X492 e492 => ?_)
  refine own_st (g' := (mkF m 24 #[rv a, iv vv, iv (1 : Int32), iv (2 : Int32), iv (2 : Int32)] [])) (fun tt_ kk_ => XS.istoreN X492.here hx rfl (hb hby own_d20_9) rfl (l' := #[rv a, iv vv, iv (1 : Int32), iv (2 : Int32), .unset]) rfl (XS.iloadN X492.here hx rfl (hb hby own_d20_10) rfl (XS.iloadN X492.here hx rfl (hb hby own_d20_11) rfl (XS.icmpNo X492.here hx rfl (hb hby own_d20_12) rfl (tlt (by decide : (1 : Int32) < (2 : Int32))).2.1 (XS.iloadN X492.here hx rfl (hb hby own_d20_15) rfl (XS.iloadN X492.here hx rfl (hb hby own_d20_16) rfl (XS.iadd X492.here hx rfl (hb hby own_d20_17) rfl (XS.iconst X492.here hx rfl (hb hby own_d20_18) (XS.iadd X492.here hx rfl (hb hby own_d20_19) rfl (XS.iconst X492.here hx rfl (hb hby own_d20_20) (XS.iushr X492.here hx rfl (hb hby own_d20_21) rfl (XS.istore X492.here hx rfl (hb hby own_d20_22) rfl (l' := #[rv a, iv vv, iv (1 : Int32), iv (2 : Int32), iv (2 : Int32)]) rfl kk_)))))))))))) ?_
  refine own_st (g' := (mkF m 25 #[rv a, iv vv, iv (1 : Int32), iv (2 : Int32), iv (2 : Int32)] [(.ref a)])) (fun tt_ kk_ => XS.aloadN X492.here hx rfl (hb hby own_d20_24) rfl rfl kk_) ?_
  refine own_gG X492 hx hZ hown (own_w hw 131 rfl) e492 F_ranges_a rfl rfl (hb hby own_d20_25) (fun {T493} X493 e493 => ?_)
  refine own_st (g' := (mkF m 32 #[rv a, iv vv, iv (1 : Int32), iv (2 : Int32), iv (2 : Int32)] [(.int (4 : Int32)), (.ref ra)])) (fun tt_ kk_ => XS.iconst X493.here hx rfl (hb hby own_d20_28) (XS.iload X493.here hx rfl (hb hby own_d20_29) rfl (XS.imul X493.here hx rfl (hb hby own_d20_31) rfl kk_))) ?_
  refine own_st (g' := (mkF m 34 #[rv a, iv vv, iv (1 : Int32), iv (2 : Int32), iv (2 : Int32)] [(.int vv), (.int (b + (40 : Int32)))])) (fun tt_ kk_ => own_ldIv (g := (mkF m 32 #[rv a, iv vv, iv (1 : Int32), iv (2 : Int32), iv (2 : Int32)] [(.int (4 : Int32)), (.ref ra)])) X493 hx hZ e493 P_ra (by decide) (by decide) (own_Rv4 _) rfl rfl (hb hby own_d20_32) tt_ (XS.iloadN X493.here hx rfl (hb hby own_d20_33) rfl kk_)) ?_
  by_cases hc34 : vv < (b + (40 : Int32))
  · skip
    refine own_st (g' := (mkF m 52 #[rv a, iv vv, iv (1 : Int32), iv (1 : Int32), iv (2 : Int32)] [(.int (1 : Int32))])) (fun tt_ kk_ => XS.icmpNo X493.here hx rfl (hb hby own_d20_34) rfl (tlt hc34).2.2.2 (XS.iload X493.here hx rfl (hb hby own_d20_37) rfl (XS.iconst X493.here hx rfl (hb hby own_d20_39) (XS.isub X493.here hx rfl (hb hby own_d20_40) rfl (XS.istoreN X493.here hx rfl (hb hby own_d20_41) rfl (l' := #[rv a, iv vv, iv (1 : Int32), iv (1 : Int32), iv (2 : Int32)]) rfl (XS.goto X493.here hx rfl (pc0 := 42) (pc' := 48) rfl (hb hby own_d20_42) (by decide) (by decide) (XS.goto X493.here hx rfl (pc0 := 48) (pc' := 10) rfl (hb hby own_d20_48) (by decide) (by decide) (XS.iloadN X493.here hx rfl (hb hby own_d20_10) rfl (XS.iloadN X493.here hx rfl (hb hby own_d20_11) rfl (XS.icmpYes X493.here hx rfl (pc0 := 12) (pc' := 51) rfl (hb hby own_d20_12) rfl (flt (by decide : ¬ ((1 : Int32) < (1 : Int32)))).2.1 (by decide) (by decide) (XS.iloadN X493.here hx rfl (hb hby own_d20_51) rfl kk_))))))))))) ?_
    exact own_retI X493 hx hlk hret (hb hby own_d20_52) (by decide) (by decide) (by rw [e493]; exact ⟨(by rw [own_ib12, if_pos hc34]), N0, rfl⟩)
  refine own_st (g' := (mkF m 52 #[rv a, iv vv, iv (2 : Int32), iv (2 : Int32), iv (2 : Int32)] [(.int (2 : Int32))])) (fun tt_ kk_ => XS.icmpYes X493.here hx rfl (pc0 := 34) (pc' := 45) rfl (hb hby own_d20_34) rfl (flt hc34).2.2.2 (by decide) (by decide) (XS.iload X493.here hx rfl (hb hby own_d20_45) rfl (XS.istoreN X493.here hx rfl (hb hby own_d20_47) rfl (l' := #[rv a, iv vv, iv (2 : Int32), iv (2 : Int32), iv (2 : Int32)]) rfl (XS.goto X493.here hx rfl (pc0 := 48) (pc' := 10) rfl (hb hby own_d20_48) (by decide) (by decide) (XS.iloadN X493.here hx rfl (hb hby own_d20_10) rfl (XS.iloadN X493.here hx rfl (hb hby own_d20_11) rfl (XS.icmpYes X493.here hx rfl (pc0 := 12) (pc' := 51) rfl (hb hby own_d20_12) rfl (flt (by decide : ¬ ((2 : Int32) < (2 : Int32)))).2.1 (by decide) (by decide) (XS.iloadN X493.here hx rfl (hb hby own_d20_51) rfl kk_)))))))) ?_
  exact own_retI X493 hx hlk hret (hb hby own_d20_52) (by decide) (by decide) (by rw [e493]; exact ⟨(by rw [own_ib12, if_neg hc34]), N0, rfl⟩)
def own_cB01 (mn mx vv b : Int32) : Int32 := if vv < mn then 0 else if mx < vv then 0 else if (b + (9 : Int32)) < vv then (if vv < (b + (20 : Int32)) then 0 else 1) else (if vv < b then 0 else 1)
def own_Qcon01 (Z : State) (a : Addr) (vv : Int32) (mn : Int32) (mx : Int32) (ra : Addr) (b : Int32) (h0 : Heap) (n0 : Nat) (v : Option Value) (h : Heap) (L : List Loc) : Prop := v = some (.int (own_cB01 mn mx vv b)) ∧ Fr n0 L ∧ h = h0
theorem own_efcon01 (m : MethodId) (a : Addr) (vv : Int32) : entryFrame m #[(.ref a), (.int vv)] 2 = mkF m 0 #[rv a, iv vv] [] := by first | (simp [entryFrame, mkF, argsToLocals, Value.category]; done) | rfl
set_option maxRecDepth 65536 in
set_option maxHeartbeats 16000000 in
theorem own_rmcon01 (l : Launch) (Z : State) (a0 : Array Value) (hw : own_HW Z a0) (ws : List Jvm.Cond) (a : Addr) (vv : Int32) (mn : Int32) (mx : Int32) (ra : Addr) (b : Int32) (h0 : Heap) (n0 : Nat) (Z0 : n0 ≤ h0.size) (E_a : Exa Z h0 a own_z0) (F_min_a : Fld Z h0 a own_z0 "min" "I" (.int mn)) (F_max_a : Fld Z h0 a own_z0 "max" "I" (.int mx)) (F_small_a : Fld Z h0 a own_z0 "small" "Z" (.int (0 : Int32))) (F_ranges_a : Fld Z h0 a own_z0 "ranges" "[I" (.ref ra)) (F_first_a : Fld Z h0 a own_z0 "first" "I" (.int (0 : Int32))) (F_last_a : Fld Z h0 a own_z0 "last" "I" (.int (1 : Int32))) (P_ra : own_AI Z h0 ra 6 (own_R b)) :
    MetFree l (⟨own_z0, "contains", "(I)Z"⟩ : MethodName) (head1 (Jvm.Cond.code (⟨own_z0, "contains", "(I)Z"⟩ : MethodName) prog_37_method_8_code 2 (some .boolean) :: ws) ({ frames := 1, cells := 0, slots := 0, locals := 18 } : Room)) (fun aa UU => aa = #[(.ref a), (.int vv)] ∧ Z.Warmed39 UU.vm ∧ UU.heap = h0) (fun _ _ _ _ _ => True) (fun _ U o U' => ∃ v L, o = .returned v ∧ own_Qcon01 Z a vv mn mx ra b h0 n0 v U'.heap L ∧ FrameEnd U o U' L ({ frames := 1, cells := 0, slots := 0, locals := 18 } : Room).cells ({ frames := 1, cells := 0, slots := 0, locals := 18 } : Room).slots) := by
  refine MetFree.of_bodySF (plainFor_of_name own_pn5) hisR ?_
  intro p e s m args below meth c s₁ Bd hml hP hK
  obtain ⟨rfl, hZ, hh⟩ := hP
  have hx := Bd.exec
  have hlk := Bd.notSynchronized
  have hby := Bd.bytes
  have hret := Bd.returns
  have hown := findClass_of_methodNamed Bd.named
  have hnm := (name_of_methodNamed Bd.named Bd.method).1
  have X0 : Stand p l e ({ frames := 1, cells := 0, slots := 0, locals := 18 } : Room) s m #[(.ref a), (.int vv)] below meth c s₁ [] 0 0 := Stand.of_body Bd
  have e0 : s₁.heap = h0 := by rw [← hh, Bd.state]; rfl
  have N0 := Fr.nil n0
  refine own_cast (own_efcon01 m a vv) ?_
  show own_Go p e below s s₁ _ (own_Qcon01 Z a vv mn mx ra b h0 n0) 0 0
  refine own_st (g' := (mkF m 2 #[rv a, iv vv] [(.ref a), (.int vv)])) (fun tt_ kk_ => XS.iloadN X0.here hx rfl (hb hby own_d13_0) rfl (XS.aloadN X0.here hx rfl (hb hby own_d13_1) rfl rfl kk_)) ?_
  refine own_gG X0 hx hZ hown (own_w hw 110 rfl) e0 F_min_a rfl rfl (hb hby own_d13_2) (fun {T494} X494 e494 => ?_)
  by_cases hc5 : vv < mn
  · skip
    refine own_st (g' := (mkF m 17 #[rv a, iv vv] [(.int (0 : Int32))])) (fun tt_ kk_ => XS.icmpYes X494.here hx rfl (pc0 := 5) (pc' := 16) rfl (hb hby own_d13_5) rfl (tlt hc5).1 (by decide) (by decide) (XS.iconst X494.here hx rfl (hb hby own_d13_16) kk_)) ?_
    exact own_retN X494 hx hlk (t := .boolean) (Or.inl rfl) hret (hb hby own_d13_17) (by decide) (by decide) (by rw [e494]; exact ⟨(by rw [own_cB01, if_pos hc5]; rfl), N0, rfl⟩)
  refine own_st (g' := (mkF m 10 #[rv a, iv vv] [(.ref a), (.int vv)])) (fun tt_ kk_ => XS.icmpNo X494.here hx rfl (hb hby own_d13_5) rfl (flt hc5).1 (XS.iloadN X494.here hx rfl (hb hby own_d13_8) rfl (XS.aloadN X494.here hx rfl (hb hby own_d13_9) rfl rfl kk_))) ?_
  refine own_gG X494 hx hZ hown (own_w hw 112 rfl) e494 F_max_a rfl rfl (hb hby own_d13_10) (fun {T495} X495 e495 => ?_)
  by_cases hc13 : mx < vv
  · skip
    refine own_st (g' := (mkF m 17 #[rv a, iv vv] [(.int (0 : Int32))])) (fun tt_ kk_ => XS.icmpNo X495.here hx rfl (hb hby own_d13_13) rfl (tlt hc13).2.2.2 (XS.iconst X495.here hx rfl (hb hby own_d13_16) kk_)) ?_
    exact own_retN X495 hx hlk (t := .boolean) (Or.inl rfl) hret (hb hby own_d13_17) (by decide) (by decide) (by rw [e495]; exact ⟨(by rw [own_cB01, if_neg hc5, if_pos hc13]; rfl), N0, rfl⟩)
  refine own_st (g' := (mkF m 19 #[rv a, iv vv] [(.ref a)])) (fun tt_ kk_ => XS.icmpYes X495.here hx rfl (pc0 := 13) (pc' := 18) rfl (hb hby own_d13_13) rfl (flt hc13).2.2.2 (by decide) (by decide) (XS.aloadN X495.here hx rfl (hb hby own_d13_18) rfl rfl kk_)) ?_
  refine own_gG X495 hx hZ hown (own_w hw 121 rfl) e495 F_small_a rfl rfl (hb hby own_d13_19) (fun {T496} X496 e496 => ?_)
  refine own_st (g' := (mkF m 50 #[rv a, iv vv] [(.ref a)])) (fun tt_ kk_ => XS.ifYes X496.here hx rfl (pc0 := 22) (pc' := 49) rfl (hb hby own_d13_22) rfl ((if0 _ _).trans (teq (by decide : (0 : Int32) = (0 : Int32))).1) (by decide) (by decide) (XS.aloadN X496.here hx rfl (hb hby own_d13_49) rfl rfl kk_)) ?_
  refine own_gG X496 hx hZ hown (own_w hw 131 rfl) e496 F_ranges_a rfl rfl (hb hby own_d13_50) (fun {T497} X497 e497 => ?_)
  refine own_st (g' := (mkF m 59 #[rv a, iv vv] [(.ref a)])) (fun tt_ kk_ => XS.ifnonnullYes X497.here hx rfl (pc0 := 53) (pc' := 58) rfl (hb hby own_d13_53) rfl (by decide) (by decide) (XS.aloadN X497.here hx rfl (hb hby own_d13_58) rfl rfl kk_)) ?_
  refine own_gG X497 hx hZ hown (own_w hw 131 rfl) e497 F_ranges_a rfl rfl (hb hby own_d13_59) (fun {T498} X498 e498 => ?_)
  refine own_st (g' := (mkF m 65 #[rv a, iv vv] [(.int vv), (.ref a), (.int (2 : Int32)), (.ref ra)])) (fun tt_ kk_ => XS.iconst X498.here hx rfl (hb hby own_d13_62) (XS.aloadN X498.here hx rfl (hb hby own_d13_63) rfl rfl (XS.iloadN X498.here hx rfl (hb hby own_d13_64) rfl kk_))) ?_
  by_cases hs499 : (b + (9 : Int32)) < vv
  · skip
    obtain ⟨cq500, q500, q500'⟩ := E_a.cell
    obtain ⟨_, _, ⟨T500, L500, k500, n500⟩, -, X500, ⟨Lc500, hQ500, l500, y500, z500⟩, st500⟩ := X498.privateBack hx (y := (⟨own_z0, own_z19, "(I)I"⟩ : MethodName)) hown (mvT hZ (own_w hw 234 rfl)) (mvT hZ (own_w hw 235 rfl)) (own_sel (mvT hZ (own_w hw 235 rfl)) (mvP hZ (own_w hw 236 rfl)) (mvT hZ (own_w hw 84 rfl)) (by decide)) (Cond.privateMethod_at (mvP hZ (own_w hw 236 rfl) (args := #[]))) (mvT hZ (own_w hw 237 rfl)) (by decide) (backOf (W := 2) (own_rmia01 l Z a0 hw [] a vv ra b h0 n0 Z0 F_first_a F_last_a F_ranges_a P_ra) hZ (own_w hw 237 rfl) (own_w hw 85 rfl) (by decide) (by decide)) (g := (mkF m 65 #[rv a, iv vv] [(.int vv), (.ref a), (.int (2 : Int32)), (.ref ra)])) rfl (by rw [hml]; rfl) (Steps.refl _) (a := a) (by rw [e498]; exact q500) q500' (argsL := [(.int vv)]) (rest := [(.int (2 : Int32)), (.ref ra)]) (lenOf own_pd2 rfl) rfl (by show 2 * 0 + _ ≤ _; exact Nat.le_of_eq rfl) (hb hby own_d13_65) (fun _ _ => ⟨rfl, e498, (by decide : 0 + 0 ≤ _), (by decide : 0 + 0 ≤ _)⟩)
    dsimp only [Pt.U, Pt.locs, Pt.cells, Pt.slots] at X500 l500 y500 z500 st500 hQ500
    rw [l500, y500, z500] at X500
    obtain ⟨rfl, N500q, e500⟩ := hQ500
    have N500 := Fr.app N0 N500q
    refine own_st (fun t k => st500.trans k) ?_
    have qs501 : (own_ia01 b vv) = (1 : Int32) := by rw [own_ia01, if_pos hs499]
    rw [qs501]
    refine own_st (g' := (mkF m 69 #[rv a, iv vv] [(.int (2 : Int32)), (.ref ra)])) (fun tt_ kk_ => XS.imul X500.here hx rfl (hb hby own_d13_68) rfl kk_) ?_
    refine own_st (g' := (mkF m 71 #[rv a, iv vv] [(.int vv), (.int (b + (20 : Int32)))])) (fun tt_ kk_ => own_ldIv (g := (mkF m 69 #[rv a, iv vv] [(.int (2 : Int32)), (.ref ra)])) X500 hx hZ e500 P_ra (by decide) (by decide) (own_Rv2 _) rfl rfl (hb hby own_d13_69) tt_ (XS.iloadN X500.here hx rfl (hb hby own_d13_70) rfl kk_)) ?_
    by_cases hc71 : vv < (b + (20 : Int32))
    · skip
      refine own_st (g' := (mkF m 79 #[rv a, iv vv] [(.int (0 : Int32))])) (fun tt_ kk_ => XS.icmpYes X500.here hx rfl (pc0 := 71) (pc' := 78) rfl (hb hby own_d13_71) rfl (tlt hc71).2.2.1 (by decide) (by decide) (XS.iconst X500.here hx rfl (hb hby own_d13_78) kk_)) ?_
      exact own_retN X500 hx hlk (t := .boolean) (Or.inl rfl) hret (hb hby own_d13_79) (by decide) (by decide) (by rw [e500]; exact ⟨(by rw [own_cB01, if_neg hc5, if_neg hc13, if_pos hs499, if_pos hc71]; rfl), N500, rfl⟩)
    refine own_st (g' := (mkF m 79 #[rv a, iv vv] [(.int (1 : Int32))])) (fun tt_ kk_ => XS.icmpNo X500.here hx rfl (hb hby own_d13_71) rfl (flt hc71).2.2.1 (XS.iconst X500.here hx rfl (hb hby own_d13_74) (XS.goto X500.here hx rfl (pc0 := 75) (pc' := 79) rfl (hb hby own_d13_75) (by decide) (by decide) kk_))) ?_
    exact own_retN X500 hx hlk (t := .boolean) (Or.inl rfl) hret (hb hby own_d13_79) (by decide) (by decide) (by rw [e500]; exact ⟨(by rw [own_cB01, if_neg hc5, if_neg hc13, if_pos hs499, if_neg hc71]; rfl), N500, rfl⟩)
  obtain ⟨cq502, q502, q502'⟩ := E_a.cell
  obtain ⟨_, _, ⟨T502, L502, k502, n502⟩, -, X502, ⟨Lc502, hQ502, l502, y502, z502⟩, st502⟩ := X498.privateBack hx (y := (⟨own_z0, own_z19, "(I)I"⟩ : MethodName)) hown (mvT hZ (own_w hw 234 rfl)) (mvT hZ (own_w hw 235 rfl)) (own_sel (mvT hZ (own_w hw 235 rfl)) (mvP hZ (own_w hw 236 rfl)) (mvT hZ (own_w hw 84 rfl)) (by decide)) (Cond.privateMethod_at (mvP hZ (own_w hw 236 rfl) (args := #[]))) (mvT hZ (own_w hw 237 rfl)) (by decide) (backOf (W := 2) (own_rmia01 l Z a0 hw [] a vv ra b h0 n0 Z0 F_first_a F_last_a F_ranges_a P_ra) hZ (own_w hw 237 rfl) (own_w hw 85 rfl) (by decide) (by decide)) (g := (mkF m 65 #[rv a, iv vv] [(.int vv), (.ref a), (.int (2 : Int32)), (.ref ra)])) rfl (by rw [hml]; rfl) (Steps.refl _) (a := a) (by rw [e498]; exact q502) q502' (argsL := [(.int vv)]) (rest := [(.int (2 : Int32)), (.ref ra)]) (lenOf own_pd2 rfl) rfl (by show 2 * 0 + _ ≤ _; exact Nat.le_of_eq rfl) (hb hby own_d13_65) (fun _ _ => ⟨rfl, e498, (by decide : 0 + 0 ≤ _), (by decide : 0 + 0 ≤ _)⟩)
  dsimp only [Pt.U, Pt.locs, Pt.cells, Pt.slots] at X502 l502 y502 z502 st502 hQ502
  rw [l502, y502, z502] at X502
  obtain ⟨rfl, N502q, e502⟩ := hQ502
  have N502 := Fr.app N0 N502q
  refine own_st (fun t k => st502.trans k) ?_
  have qs503 : (own_ia01 b vv) = (0 : Int32) := by rw [own_ia01, if_neg hs499]
  rw [qs503]
  refine own_st (g' := (mkF m 69 #[rv a, iv vv] [(.int (0 : Int32)), (.ref ra)])) (fun tt_ kk_ => XS.imul X502.here hx rfl (hb hby own_d13_68) rfl kk_) ?_
  refine own_st (g' := (mkF m 71 #[rv a, iv vv] [(.int vv), (.int b)])) (fun tt_ kk_ => own_ldIv (g := (mkF m 69 #[rv a, iv vv] [(.int (0 : Int32)), (.ref ra)])) X502 hx hZ e502 P_ra (by decide) (by decide) (own_Rv0 _) rfl rfl (hb hby own_d13_69) tt_ (XS.iloadN X502.here hx rfl (hb hby own_d13_70) rfl kk_)) ?_
  by_cases hc71 : vv < b
  · skip
    refine own_st (g' := (mkF m 79 #[rv a, iv vv] [(.int (0 : Int32))])) (fun tt_ kk_ => XS.icmpYes X502.here hx rfl (pc0 := 71) (pc' := 78) rfl (hb hby own_d13_71) rfl (tlt hc71).2.2.1 (by decide) (by decide) (XS.iconst X502.here hx rfl (hb hby own_d13_78) kk_)) ?_
    exact own_retN X502 hx hlk (t := .boolean) (Or.inl rfl) hret (hb hby own_d13_79) (by decide) (by decide) (by rw [e502]; exact ⟨(by rw [own_cB01, if_neg hc5, if_neg hc13, if_neg hs499, if_pos hc71]; rfl), N502, rfl⟩)
  refine own_st (g' := (mkF m 79 #[rv a, iv vv] [(.int (1 : Int32))])) (fun tt_ kk_ => XS.icmpNo X502.here hx rfl (hb hby own_d13_71) rfl (flt hc71).2.2.1 (XS.iconst X502.here hx rfl (hb hby own_d13_74) (XS.goto X502.here hx rfl (pc0 := 75) (pc' := 79) rfl (hb hby own_d13_75) (by decide) (by decide) kk_))) ?_
  exact own_retN X502 hx hlk (t := .boolean) (Or.inl rfl) hret (hb hby own_d13_79) (by decide) (by decide) (by rw [e502]; exact ⟨(by rw [own_cB01, if_neg hc5, if_neg hc13, if_neg hs499, if_neg hc71]; rfl), N502, rfl⟩)
def own_cB02 (mn mx vv b : Int32) : Int32 := if vv < mn then 0 else if mx < vv then 0 else if (b + (29 : Int32)) < vv then (if vv < (b + (40 : Int32)) then 0 else 1) else if (b + (9 : Int32)) < vv then (if vv < (b + (20 : Int32)) then 0 else 1) else (if vv < b then 0 else 1)
def own_Qcon02 (Z : State) (a : Addr) (vv : Int32) (mn : Int32) (mx : Int32) (ra : Addr) (b : Int32) (h0 : Heap) (n0 : Nat) (v : Option Value) (h : Heap) (L : List Loc) : Prop := v = some (.int (own_cB02 mn mx vv b)) ∧ Fr n0 L ∧ h = h0
theorem own_efcon02 (m : MethodId) (a : Addr) (vv : Int32) : entryFrame m #[(.ref a), (.int vv)] 2 = mkF m 0 #[rv a, iv vv] [] := by first | (simp [entryFrame, mkF, argsToLocals, Value.category]; done) | rfl
set_option maxRecDepth 65536 in
set_option maxHeartbeats 16000000 in
theorem own_rmcon02 (l : Launch) (Z : State) (a0 : Array Value) (hw : own_HW Z a0) (ws : List Jvm.Cond) (a : Addr) (vv : Int32) (mn : Int32) (mx : Int32) (ra : Addr) (b : Int32) (h0 : Heap) (n0 : Nat) (Z0 : n0 ≤ h0.size) (E_a : Exa Z h0 a own_z0) (F_min_a : Fld Z h0 a own_z0 "min" "I" (.int mn)) (F_max_a : Fld Z h0 a own_z0 "max" "I" (.int mx)) (F_small_a : Fld Z h0 a own_z0 "small" "Z" (.int (0 : Int32))) (F_ranges_a : Fld Z h0 a own_z0 "ranges" "[I" (.ref ra)) (F_first_a : Fld Z h0 a own_z0 "first" "I" (.int (0 : Int32))) (F_last_a : Fld Z h0 a own_z0 "last" "I" (.int (2 : Int32))) (P_ra : own_AI Z h0 ra 6 (own_R b)) :
    MetFree l (⟨own_z0, "contains", "(I)Z"⟩ : MethodName) (head1 (Jvm.Cond.code (⟨own_z0, "contains", "(I)Z"⟩ : MethodName) prog_37_method_8_code 2 (some .boolean) :: ws) ({ frames := 1, cells := 0, slots := 0, locals := 18 } : Room)) (fun aa UU => aa = #[(.ref a), (.int vv)] ∧ Z.Warmed39 UU.vm ∧ UU.heap = h0) (fun _ _ _ _ _ => True) (fun _ U o U' => ∃ v L, o = .returned v ∧ own_Qcon02 Z a vv mn mx ra b h0 n0 v U'.heap L ∧ FrameEnd U o U' L ({ frames := 1, cells := 0, slots := 0, locals := 18 } : Room).cells ({ frames := 1, cells := 0, slots := 0, locals := 18 } : Room).slots) := by
  refine MetFree.of_bodySF (plainFor_of_name own_pn5) hisR ?_
  intro p e s m args below meth c s₁ Bd hml hP hK
  obtain ⟨rfl, hZ, hh⟩ := hP
  have hx := Bd.exec
  have hlk := Bd.notSynchronized
  have hby := Bd.bytes
  have hret := Bd.returns
  have hown := findClass_of_methodNamed Bd.named
  have hnm := (name_of_methodNamed Bd.named Bd.method).1
  have X0 : Stand p l e ({ frames := 1, cells := 0, slots := 0, locals := 18 } : Room) s m #[(.ref a), (.int vv)] below meth c s₁ [] 0 0 := Stand.of_body Bd
  have e0 : s₁.heap = h0 := by rw [← hh, Bd.state]; rfl
  have N0 := Fr.nil n0
  refine own_cast (own_efcon02 m a vv) ?_
  show own_Go p e below s s₁ _ (own_Qcon02 Z a vv mn mx ra b h0 n0) 0 0
  refine own_st (g' := (mkF m 2 #[rv a, iv vv] [(.ref a), (.int vv)])) (fun tt_ kk_ => XS.iloadN X0.here hx rfl (hb hby own_d13_0) rfl (XS.aloadN X0.here hx rfl (hb hby own_d13_1) rfl rfl kk_)) ?_
  refine own_gG X0 hx hZ hown (own_w hw 110 rfl) e0 F_min_a rfl rfl (hb hby own_d13_2) (fun {T504} X504 e504 => ?_)
  by_cases hc5 : vv < mn
  · skip
    refine own_st (g' := (mkF m 17 #[rv a, iv vv] [(.int (0 : Int32))])) (fun tt_ kk_ => XS.icmpYes X504.here hx rfl (pc0 := 5) (pc' := 16) rfl (hb hby own_d13_5) rfl (tlt hc5).1 (by decide) (by decide) (XS.iconst X504.here hx rfl (hb hby own_d13_16) kk_)) ?_
    exact own_retN X504 hx hlk (t := .boolean) (Or.inl rfl) hret (hb hby own_d13_17) (by decide) (by decide) (by rw [e504]; exact ⟨(by rw [own_cB02, if_pos hc5]; rfl), N0, rfl⟩)
  refine own_st (g' := (mkF m 10 #[rv a, iv vv] [(.ref a), (.int vv)])) (fun tt_ kk_ => XS.icmpNo X504.here hx rfl (hb hby own_d13_5) rfl (flt hc5).1 (XS.iloadN X504.here hx rfl (hb hby own_d13_8) rfl (XS.aloadN X504.here hx rfl (hb hby own_d13_9) rfl rfl kk_))) ?_
  refine own_gG X504 hx hZ hown (own_w hw 112 rfl) e504 F_max_a rfl rfl (hb hby own_d13_10) (fun {T505} X505 e505 => ?_)
  by_cases hc13 : mx < vv
  · skip
    refine own_st (g' := (mkF m 17 #[rv a, iv vv] [(.int (0 : Int32))])) (fun tt_ kk_ => XS.icmpNo X505.here hx rfl (hb hby own_d13_13) rfl (tlt hc13).2.2.2 (XS.iconst X505.here hx rfl (hb hby own_d13_16) kk_)) ?_
    exact own_retN X505 hx hlk (t := .boolean) (Or.inl rfl) hret (hb hby own_d13_17) (by decide) (by decide) (by rw [e505]; exact ⟨(by rw [own_cB02, if_neg hc5, if_pos hc13]; rfl), N0, rfl⟩)
  refine own_st (g' := (mkF m 19 #[rv a, iv vv] [(.ref a)])) (fun tt_ kk_ => XS.icmpYes X505.here hx rfl (pc0 := 13) (pc' := 18) rfl (hb hby own_d13_13) rfl (flt hc13).2.2.2 (by decide) (by decide) (XS.aloadN X505.here hx rfl (hb hby own_d13_18) rfl rfl kk_)) ?_
  refine own_gG X505 hx hZ hown (own_w hw 121 rfl) e505 F_small_a rfl rfl (hb hby own_d13_19) (fun {T506} X506 e506 => ?_)
  refine own_st (g' := (mkF m 50 #[rv a, iv vv] [(.ref a)])) (fun tt_ kk_ => XS.ifYes X506.here hx rfl (pc0 := 22) (pc' := 49) rfl (hb hby own_d13_22) rfl ((if0 _ _).trans (teq (by decide : (0 : Int32) = (0 : Int32))).1) (by decide) (by decide) (XS.aloadN X506.here hx rfl (hb hby own_d13_49) rfl rfl kk_)) ?_
  refine own_gG X506 hx hZ hown (own_w hw 131 rfl) e506 F_ranges_a rfl rfl (hb hby own_d13_50) (fun {T507} X507 e507 => ?_)
  refine own_st (g' := (mkF m 59 #[rv a, iv vv] [(.ref a)])) (fun tt_ kk_ => XS.ifnonnullYes X507.here hx rfl (pc0 := 53) (pc' := 58) rfl (hb hby own_d13_53) rfl (by decide) (by decide) (XS.aloadN X507.here hx rfl (hb hby own_d13_58) rfl rfl kk_)) ?_
  refine own_gG X507 hx hZ hown (own_w hw 131 rfl) e507 F_ranges_a rfl rfl (hb hby own_d13_59) (fun {T508} X508 e508 => ?_)
  refine own_st (g' := (mkF m 65 #[rv a, iv vv] [(.int vv), (.ref a), (.int (2 : Int32)), (.ref ra)])) (fun tt_ kk_ => XS.iconst X508.here hx rfl (hb hby own_d13_62) (XS.aloadN X508.here hx rfl (hb hby own_d13_63) rfl rfl (XS.iloadN X508.here hx rfl (hb hby own_d13_64) rfl kk_))) ?_
  by_cases hs509 : (b + (29 : Int32)) < vv
  · skip
    obtain ⟨cq510, q510, q510'⟩ := E_a.cell
    obtain ⟨_, _, ⟨T510, L510, k510, n510⟩, -, X510, ⟨Lc510, hQ510, l510, y510, z510⟩, st510⟩ := X508.privateBack hx (y := (⟨own_z0, own_z19, "(I)I"⟩ : MethodName)) hown (mvT hZ (own_w hw 234 rfl)) (mvT hZ (own_w hw 235 rfl)) (own_sel (mvT hZ (own_w hw 235 rfl)) (mvP hZ (own_w hw 236 rfl)) (mvT hZ (own_w hw 84 rfl)) (by decide)) (Cond.privateMethod_at (mvP hZ (own_w hw 236 rfl) (args := #[]))) (mvT hZ (own_w hw 237 rfl)) (by decide) (backOf (W := 2) (own_rmia02 l Z a0 hw [] a vv ra b h0 n0 Z0 F_first_a F_last_a F_ranges_a P_ra) hZ (own_w hw 237 rfl) (own_w hw 85 rfl) (by decide) (by decide)) (g := (mkF m 65 #[rv a, iv vv] [(.int vv), (.ref a), (.int (2 : Int32)), (.ref ra)])) rfl (by rw [hml]; rfl) (Steps.refl _) (a := a) (by rw [e508]; exact q510) q510' (argsL := [(.int vv)]) (rest := [(.int (2 : Int32)), (.ref ra)]) (lenOf own_pd2 rfl) rfl (by show 2 * 0 + _ ≤ _; exact Nat.le_of_eq rfl) (hb hby own_d13_65) (fun _ _ => ⟨rfl, e508, (by decide : 0 + 0 ≤ _), (by decide : 0 + 0 ≤ _)⟩)
    dsimp only [Pt.U, Pt.locs, Pt.cells, Pt.slots] at X510 l510 y510 z510 st510 hQ510
    rw [l510, y510, z510] at X510
    obtain ⟨rfl, N510q, e510⟩ := hQ510
    have N510 := Fr.app N0 N510q
    refine own_st (fun t k => st510.trans k) ?_
    have qs511 : (own_ia02 b vv) = (2 : Int32) := by rw [own_ia02, if_pos hs509]
    rw [qs511]
    refine own_st (g' := (mkF m 69 #[rv a, iv vv] [(.int (4 : Int32)), (.ref ra)])) (fun tt_ kk_ => XS.imul X510.here hx rfl (hb hby own_d13_68) rfl kk_) ?_
    refine own_st (g' := (mkF m 71 #[rv a, iv vv] [(.int vv), (.int (b + (40 : Int32)))])) (fun tt_ kk_ => own_ldIv (g := (mkF m 69 #[rv a, iv vv] [(.int (4 : Int32)), (.ref ra)])) X510 hx hZ e510 P_ra (by decide) (by decide) (own_Rv4 _) rfl rfl (hb hby own_d13_69) tt_ (XS.iloadN X510.here hx rfl (hb hby own_d13_70) rfl kk_)) ?_
    by_cases hc71 : vv < (b + (40 : Int32))
    · skip
      refine own_st (g' := (mkF m 79 #[rv a, iv vv] [(.int (0 : Int32))])) (fun tt_ kk_ => XS.icmpYes X510.here hx rfl (pc0 := 71) (pc' := 78) rfl (hb hby own_d13_71) rfl (tlt hc71).2.2.1 (by decide) (by decide) (XS.iconst X510.here hx rfl (hb hby own_d13_78) kk_)) ?_
      exact own_retN X510 hx hlk (t := .boolean) (Or.inl rfl) hret (hb hby own_d13_79) (by decide) (by decide) (by rw [e510]; exact ⟨(by rw [own_cB02, if_neg hc5, if_neg hc13, if_pos hs509, if_pos hc71]; rfl), N510, rfl⟩)
    refine own_st (g' := (mkF m 79 #[rv a, iv vv] [(.int (1 : Int32))])) (fun tt_ kk_ => XS.icmpNo X510.here hx rfl (hb hby own_d13_71) rfl (flt hc71).2.2.1 (XS.iconst X510.here hx rfl (hb hby own_d13_74) (XS.goto X510.here hx rfl (pc0 := 75) (pc' := 79) rfl (hb hby own_d13_75) (by decide) (by decide) kk_))) ?_
    exact own_retN X510 hx hlk (t := .boolean) (Or.inl rfl) hret (hb hby own_d13_79) (by decide) (by decide) (by rw [e510]; exact ⟨(by rw [own_cB02, if_neg hc5, if_neg hc13, if_pos hs509, if_neg hc71]; rfl), N510, rfl⟩)
  by_cases hs512 : (b + (9 : Int32)) < vv
  · skip
    obtain ⟨cq513, q513, q513'⟩ := E_a.cell
    obtain ⟨_, _, ⟨T513, L513, k513, n513⟩, -, X513, ⟨Lc513, hQ513, l513, y513, z513⟩, st513⟩ := X508.privateBack hx (y := (⟨own_z0, own_z19, "(I)I"⟩ : MethodName)) hown (mvT hZ (own_w hw 234 rfl)) (mvT hZ (own_w hw 235 rfl)) (own_sel (mvT hZ (own_w hw 235 rfl)) (mvP hZ (own_w hw 236 rfl)) (mvT hZ (own_w hw 84 rfl)) (by decide)) (Cond.privateMethod_at (mvP hZ (own_w hw 236 rfl) (args := #[]))) (mvT hZ (own_w hw 237 rfl)) (by decide) (backOf (W := 2) (own_rmia02 l Z a0 hw [] a vv ra b h0 n0 Z0 F_first_a F_last_a F_ranges_a P_ra) hZ (own_w hw 237 rfl) (own_w hw 85 rfl) (by decide) (by decide)) (g := (mkF m 65 #[rv a, iv vv] [(.int vv), (.ref a), (.int (2 : Int32)), (.ref ra)])) rfl (by rw [hml]; rfl) (Steps.refl _) (a := a) (by rw [e508]; exact q513) q513' (argsL := [(.int vv)]) (rest := [(.int (2 : Int32)), (.ref ra)]) (lenOf own_pd2 rfl) rfl (by show 2 * 0 + _ ≤ _; exact Nat.le_of_eq rfl) (hb hby own_d13_65) (fun _ _ => ⟨rfl, e508, (by decide : 0 + 0 ≤ _), (by decide : 0 + 0 ≤ _)⟩)
    dsimp only [Pt.U, Pt.locs, Pt.cells, Pt.slots] at X513 l513 y513 z513 st513 hQ513
    rw [l513, y513, z513] at X513
    obtain ⟨rfl, N513q, e513⟩ := hQ513
    have N513 := Fr.app N0 N513q
    refine own_st (fun t k => st513.trans k) ?_
    have qs514 : (own_ia02 b vv) = (1 : Int32) := by rw [own_ia02, if_neg hs509, if_pos hs512]
    rw [qs514]
    refine own_st (g' := (mkF m 69 #[rv a, iv vv] [(.int (2 : Int32)), (.ref ra)])) (fun tt_ kk_ => XS.imul X513.here hx rfl (hb hby own_d13_68) rfl kk_) ?_
    refine own_st (g' := (mkF m 71 #[rv a, iv vv] [(.int vv), (.int (b + (20 : Int32)))])) (fun tt_ kk_ => own_ldIv (g := (mkF m 69 #[rv a, iv vv] [(.int (2 : Int32)), (.ref ra)])) X513 hx hZ e513 P_ra (by decide) (by decide) (own_Rv2 _) rfl rfl (hb hby own_d13_69) tt_ (XS.iloadN X513.here hx rfl (hb hby own_d13_70) rfl kk_)) ?_
    by_cases hc71 : vv < (b + (20 : Int32))
    · skip
      refine own_st (g' := (mkF m 79 #[rv a, iv vv] [(.int (0 : Int32))])) (fun tt_ kk_ => XS.icmpYes X513.here hx rfl (pc0 := 71) (pc' := 78) rfl (hb hby own_d13_71) rfl (tlt hc71).2.2.1 (by decide) (by decide) (XS.iconst X513.here hx rfl (hb hby own_d13_78) kk_)) ?_
      exact own_retN X513 hx hlk (t := .boolean) (Or.inl rfl) hret (hb hby own_d13_79) (by decide) (by decide) (by rw [e513]; exact ⟨(by rw [own_cB02, if_neg hc5, if_neg hc13, if_neg hs509, if_pos hs512, if_pos hc71]; rfl), N513, rfl⟩)
    refine own_st (g' := (mkF m 79 #[rv a, iv vv] [(.int (1 : Int32))])) (fun tt_ kk_ => XS.icmpNo X513.here hx rfl (hb hby own_d13_71) rfl (flt hc71).2.2.1 (XS.iconst X513.here hx rfl (hb hby own_d13_74) (XS.goto X513.here hx rfl (pc0 := 75) (pc' := 79) rfl (hb hby own_d13_75) (by decide) (by decide) kk_))) ?_
    exact own_retN X513 hx hlk (t := .boolean) (Or.inl rfl) hret (hb hby own_d13_79) (by decide) (by decide) (by rw [e513]; exact ⟨(by rw [own_cB02, if_neg hc5, if_neg hc13, if_neg hs509, if_pos hs512, if_neg hc71]; rfl), N513, rfl⟩)
  obtain ⟨cq515, q515, q515'⟩ := E_a.cell
  obtain ⟨_, _, ⟨T515, L515, k515, n515⟩, -, X515, ⟨Lc515, hQ515, l515, y515, z515⟩, st515⟩ := X508.privateBack hx (y := (⟨own_z0, own_z19, "(I)I"⟩ : MethodName)) hown (mvT hZ (own_w hw 234 rfl)) (mvT hZ (own_w hw 235 rfl)) (own_sel (mvT hZ (own_w hw 235 rfl)) (mvP hZ (own_w hw 236 rfl)) (mvT hZ (own_w hw 84 rfl)) (by decide)) (Cond.privateMethod_at (mvP hZ (own_w hw 236 rfl) (args := #[]))) (mvT hZ (own_w hw 237 rfl)) (by decide) (backOf (W := 2) (own_rmia02 l Z a0 hw [] a vv ra b h0 n0 Z0 F_first_a F_last_a F_ranges_a P_ra) hZ (own_w hw 237 rfl) (own_w hw 85 rfl) (by decide) (by decide)) (g := (mkF m 65 #[rv a, iv vv] [(.int vv), (.ref a), (.int (2 : Int32)), (.ref ra)])) rfl (by rw [hml]; rfl) (Steps.refl _) (a := a) (by rw [e508]; exact q515) q515' (argsL := [(.int vv)]) (rest := [(.int (2 : Int32)), (.ref ra)]) (lenOf own_pd2 rfl) rfl (by show 2 * 0 + _ ≤ _; exact Nat.le_of_eq rfl) (hb hby own_d13_65) (fun _ _ => ⟨rfl, e508, (by decide : 0 + 0 ≤ _), (by decide : 0 + 0 ≤ _)⟩)
  dsimp only [Pt.U, Pt.locs, Pt.cells, Pt.slots] at X515 l515 y515 z515 st515 hQ515
  rw [l515, y515, z515] at X515
  obtain ⟨rfl, N515q, e515⟩ := hQ515
  have N515 := Fr.app N0 N515q
  refine own_st (fun t k => st515.trans k) ?_
  have qs516 : (own_ia02 b vv) = (0 : Int32) := by rw [own_ia02, if_neg hs509, if_neg hs512]
  rw [qs516]
  refine own_st (g' := (mkF m 69 #[rv a, iv vv] [(.int (0 : Int32)), (.ref ra)])) (fun tt_ kk_ => XS.imul X515.here hx rfl (hb hby own_d13_68) rfl kk_) ?_
  refine own_st (g' := (mkF m 71 #[rv a, iv vv] [(.int vv), (.int b)])) (fun tt_ kk_ => own_ldIv (g := (mkF m 69 #[rv a, iv vv] [(.int (0 : Int32)), (.ref ra)])) X515 hx hZ e515 P_ra (by decide) (by decide) (own_Rv0 _) rfl rfl (hb hby own_d13_69) tt_ (XS.iloadN X515.here hx rfl (hb hby own_d13_70) rfl kk_)) ?_
  by_cases hc71 : vv < b
  · skip
    refine own_st (g' := (mkF m 79 #[rv a, iv vv] [(.int (0 : Int32))])) (fun tt_ kk_ => XS.icmpYes X515.here hx rfl (pc0 := 71) (pc' := 78) rfl (hb hby own_d13_71) rfl (tlt hc71).2.2.1 (by decide) (by decide) (XS.iconst X515.here hx rfl (hb hby own_d13_78) kk_)) ?_
    exact own_retN X515 hx hlk (t := .boolean) (Or.inl rfl) hret (hb hby own_d13_79) (by decide) (by decide) (by rw [e515]; exact ⟨(by rw [own_cB02, if_neg hc5, if_neg hc13, if_neg hs509, if_neg hs512, if_pos hc71]; rfl), N515, rfl⟩)
  refine own_st (g' := (mkF m 79 #[rv a, iv vv] [(.int (1 : Int32))])) (fun tt_ kk_ => XS.icmpNo X515.here hx rfl (hb hby own_d13_71) rfl (flt hc71).2.2.1 (XS.iconst X515.here hx rfl (hb hby own_d13_74) (XS.goto X515.here hx rfl (pc0 := 75) (pc' := 79) rfl (hb hby own_d13_75) (by decide) (by decide) kk_))) ?_
  exact own_retN X515 hx hlk (t := .boolean) (Or.inl rfl) hret (hb hby own_d13_79) (by decide) (by decide) (by rw [e515]; exact ⟨(by rw [own_cB02, if_neg hc5, if_neg hc13, if_neg hs509, if_neg hs512, if_neg hc71]; rfl), N515, rfl⟩)
def own_cB12 (mn mx vv b : Int32) : Int32 := if vv < mn then 0 else if mx < vv then 0 else if (b + (29 : Int32)) < vv then (if vv < (b + (40 : Int32)) then 0 else 1) else (if vv < (b + (20 : Int32)) then 0 else 1)
def own_Qcon12 (Z : State) (a : Addr) (vv : Int32) (mn : Int32) (mx : Int32) (ra : Addr) (b : Int32) (h0 : Heap) (n0 : Nat) (v : Option Value) (h : Heap) (L : List Loc) : Prop := v = some (.int (own_cB12 mn mx vv b)) ∧ Fr n0 L ∧ h = h0
theorem own_efcon12 (m : MethodId) (a : Addr) (vv : Int32) : entryFrame m #[(.ref a), (.int vv)] 2 = mkF m 0 #[rv a, iv vv] [] := by first | (simp [entryFrame, mkF, argsToLocals, Value.category]; done) | rfl
set_option maxRecDepth 65536 in
set_option maxHeartbeats 16000000 in
theorem own_rmcon12 (l : Launch) (Z : State) (a0 : Array Value) (hw : own_HW Z a0) (ws : List Jvm.Cond) (a : Addr) (vv : Int32) (mn : Int32) (mx : Int32) (ra : Addr) (b : Int32) (h0 : Heap) (n0 : Nat) (Z0 : n0 ≤ h0.size) (E_a : Exa Z h0 a own_z0) (F_min_a : Fld Z h0 a own_z0 "min" "I" (.int mn)) (F_max_a : Fld Z h0 a own_z0 "max" "I" (.int mx)) (F_small_a : Fld Z h0 a own_z0 "small" "Z" (.int (0 : Int32))) (F_ranges_a : Fld Z h0 a own_z0 "ranges" "[I" (.ref ra)) (F_first_a : Fld Z h0 a own_z0 "first" "I" (.int (1 : Int32))) (F_last_a : Fld Z h0 a own_z0 "last" "I" (.int (2 : Int32))) (P_ra : own_AI Z h0 ra 6 (own_R b)) :
    MetFree l (⟨own_z0, "contains", "(I)Z"⟩ : MethodName) (head1 (Jvm.Cond.code (⟨own_z0, "contains", "(I)Z"⟩ : MethodName) prog_37_method_8_code 2 (some .boolean) :: ws) ({ frames := 1, cells := 0, slots := 0, locals := 18 } : Room)) (fun aa UU => aa = #[(.ref a), (.int vv)] ∧ Z.Warmed39 UU.vm ∧ UU.heap = h0) (fun _ _ _ _ _ => True) (fun _ U o U' => ∃ v L, o = .returned v ∧ own_Qcon12 Z a vv mn mx ra b h0 n0 v U'.heap L ∧ FrameEnd U o U' L ({ frames := 1, cells := 0, slots := 0, locals := 18 } : Room).cells ({ frames := 1, cells := 0, slots := 0, locals := 18 } : Room).slots) := by
  refine MetFree.of_bodySF (plainFor_of_name own_pn5) hisR ?_
  intro p e s m args below meth c s₁ Bd hml hP hK
  obtain ⟨rfl, hZ, hh⟩ := hP
  have hx := Bd.exec
  have hlk := Bd.notSynchronized
  have hby := Bd.bytes
  have hret := Bd.returns
  have hown := findClass_of_methodNamed Bd.named
  have hnm := (name_of_methodNamed Bd.named Bd.method).1
  have X0 : Stand p l e ({ frames := 1, cells := 0, slots := 0, locals := 18 } : Room) s m #[(.ref a), (.int vv)] below meth c s₁ [] 0 0 := Stand.of_body Bd
  have e0 : s₁.heap = h0 := by rw [← hh, Bd.state]; rfl
  have N0 := Fr.nil n0
  refine own_cast (own_efcon12 m a vv) ?_
  show own_Go p e below s s₁ _ (own_Qcon12 Z a vv mn mx ra b h0 n0) 0 0
  refine own_st (g' := (mkF m 2 #[rv a, iv vv] [(.ref a), (.int vv)])) (fun tt_ kk_ => XS.iloadN X0.here hx rfl (hb hby own_d13_0) rfl (XS.aloadN X0.here hx rfl (hb hby own_d13_1) rfl rfl kk_)) ?_
  refine own_gG X0 hx hZ hown (own_w hw 110 rfl) e0 F_min_a rfl rfl (hb hby own_d13_2) (fun {T517} X517 e517 => ?_)
  by_cases hc5 : vv < mn
  · skip
    refine own_st (g' := (mkF m 17 #[rv a, iv vv] [(.int (0 : Int32))])) (fun tt_ kk_ => XS.icmpYes X517.here hx rfl (pc0 := 5) (pc' := 16) rfl (hb hby own_d13_5) rfl (tlt hc5).1 (by decide) (by decide) (XS.iconst X517.here hx rfl (hb hby own_d13_16) kk_)) ?_
    exact own_retN X517 hx hlk (t := .boolean) (Or.inl rfl) hret (hb hby own_d13_17) (by decide) (by decide) (by rw [e517]; exact ⟨(by rw [own_cB12, if_pos hc5]; rfl), N0, rfl⟩)
  refine own_st (g' := (mkF m 10 #[rv a, iv vv] [(.ref a), (.int vv)])) (fun tt_ kk_ => XS.icmpNo X517.here hx rfl (hb hby own_d13_5) rfl (flt hc5).1 (XS.iloadN X517.here hx rfl (hb hby own_d13_8) rfl (XS.aloadN X517.here hx rfl (hb hby own_d13_9) rfl rfl kk_))) ?_
  refine own_gG X517 hx hZ hown (own_w hw 112 rfl) e517 F_max_a rfl rfl (hb hby own_d13_10) (fun {T518} X518 e518 => ?_)
  by_cases hc13 : mx < vv
  · skip
    refine own_st (g' := (mkF m 17 #[rv a, iv vv] [(.int (0 : Int32))])) (fun tt_ kk_ => XS.icmpNo X518.here hx rfl (hb hby own_d13_13) rfl (tlt hc13).2.2.2 (XS.iconst X518.here hx rfl (hb hby own_d13_16) kk_)) ?_
    exact own_retN X518 hx hlk (t := .boolean) (Or.inl rfl) hret (hb hby own_d13_17) (by decide) (by decide) (by rw [e518]; exact ⟨(by rw [own_cB12, if_neg hc5, if_pos hc13]; rfl), N0, rfl⟩)
  refine own_st (g' := (mkF m 19 #[rv a, iv vv] [(.ref a)])) (fun tt_ kk_ => XS.icmpYes X518.here hx rfl (pc0 := 13) (pc' := 18) rfl (hb hby own_d13_13) rfl (flt hc13).2.2.2 (by decide) (by decide) (XS.aloadN X518.here hx rfl (hb hby own_d13_18) rfl rfl kk_)) ?_
  refine own_gG X518 hx hZ hown (own_w hw 121 rfl) e518 F_small_a rfl rfl (hb hby own_d13_19) (fun {T519} X519 e519 => ?_)
  refine own_st (g' := (mkF m 50 #[rv a, iv vv] [(.ref a)])) (fun tt_ kk_ => XS.ifYes X519.here hx rfl (pc0 := 22) (pc' := 49) rfl (hb hby own_d13_22) rfl ((if0 _ _).trans (teq (by decide : (0 : Int32) = (0 : Int32))).1) (by decide) (by decide) (XS.aloadN X519.here hx rfl (hb hby own_d13_49) rfl rfl kk_)) ?_
  refine own_gG X519 hx hZ hown (own_w hw 131 rfl) e519 F_ranges_a rfl rfl (hb hby own_d13_50) (fun {T520} X520 e520 => ?_)
  refine own_st (g' := (mkF m 59 #[rv a, iv vv] [(.ref a)])) (fun tt_ kk_ => XS.ifnonnullYes X520.here hx rfl (pc0 := 53) (pc' := 58) rfl (hb hby own_d13_53) rfl (by decide) (by decide) (XS.aloadN X520.here hx rfl (hb hby own_d13_58) rfl rfl kk_)) ?_
  refine own_gG X520 hx hZ hown (own_w hw 131 rfl) e520 F_ranges_a rfl rfl (hb hby own_d13_59) (fun {T521} X521 e521 => ?_)
  refine own_st (g' := (mkF m 65 #[rv a, iv vv] [(.int vv), (.ref a), (.int (2 : Int32)), (.ref ra)])) (fun tt_ kk_ => XS.iconst X521.here hx rfl (hb hby own_d13_62) (XS.aloadN X521.here hx rfl (hb hby own_d13_63) rfl rfl (XS.iloadN X521.here hx rfl (hb hby own_d13_64) rfl kk_))) ?_
  by_cases hs522 : (b + (29 : Int32)) < vv
  · skip
    obtain ⟨cq523, q523, q523'⟩ := E_a.cell
    obtain ⟨_, _, ⟨T523, L523, k523, n523⟩, -, X523, ⟨Lc523, hQ523, l523, y523, z523⟩, st523⟩ := X521.privateBack hx (y := (⟨own_z0, own_z19, "(I)I"⟩ : MethodName)) hown (mvT hZ (own_w hw 234 rfl)) (mvT hZ (own_w hw 235 rfl)) (own_sel (mvT hZ (own_w hw 235 rfl)) (mvP hZ (own_w hw 236 rfl)) (mvT hZ (own_w hw 84 rfl)) (by decide)) (Cond.privateMethod_at (mvP hZ (own_w hw 236 rfl) (args := #[]))) (mvT hZ (own_w hw 237 rfl)) (by decide) (backOf (W := 2) (own_rmia12 l Z a0 hw [] a vv ra b h0 n0 Z0 F_first_a F_last_a F_ranges_a P_ra) hZ (own_w hw 237 rfl) (own_w hw 85 rfl) (by decide) (by decide)) (g := (mkF m 65 #[rv a, iv vv] [(.int vv), (.ref a), (.int (2 : Int32)), (.ref ra)])) rfl (by rw [hml]; rfl) (Steps.refl _) (a := a) (by rw [e521]; exact q523) q523' (argsL := [(.int vv)]) (rest := [(.int (2 : Int32)), (.ref ra)]) (lenOf own_pd2 rfl) rfl (by show 2 * 0 + _ ≤ _; exact Nat.le_of_eq rfl) (hb hby own_d13_65) (fun _ _ => ⟨rfl, e521, (by decide : 0 + 0 ≤ _), (by decide : 0 + 0 ≤ _)⟩)
    dsimp only [Pt.U, Pt.locs, Pt.cells, Pt.slots] at X523 l523 y523 z523 st523 hQ523
    rw [l523, y523, z523] at X523
    obtain ⟨rfl, N523q, e523⟩ := hQ523
    have N523 := Fr.app N0 N523q
    refine own_st (fun t k => st523.trans k) ?_
    have qs524 : (own_ia12 b vv) = (2 : Int32) := by rw [own_ia12, if_pos hs522]
    rw [qs524]
    refine own_st (g' := (mkF m 69 #[rv a, iv vv] [(.int (4 : Int32)), (.ref ra)])) (fun tt_ kk_ => XS.imul X523.here hx rfl (hb hby own_d13_68) rfl kk_) ?_
    refine own_st (g' := (mkF m 71 #[rv a, iv vv] [(.int vv), (.int (b + (40 : Int32)))])) (fun tt_ kk_ => own_ldIv (g := (mkF m 69 #[rv a, iv vv] [(.int (4 : Int32)), (.ref ra)])) X523 hx hZ e523 P_ra (by decide) (by decide) (own_Rv4 _) rfl rfl (hb hby own_d13_69) tt_ (XS.iloadN X523.here hx rfl (hb hby own_d13_70) rfl kk_)) ?_
    by_cases hc71 : vv < (b + (40 : Int32))
    · skip
      refine own_st (g' := (mkF m 79 #[rv a, iv vv] [(.int (0 : Int32))])) (fun tt_ kk_ => XS.icmpYes X523.here hx rfl (pc0 := 71) (pc' := 78) rfl (hb hby own_d13_71) rfl (tlt hc71).2.2.1 (by decide) (by decide) (XS.iconst X523.here hx rfl (hb hby own_d13_78) kk_)) ?_
      exact own_retN X523 hx hlk (t := .boolean) (Or.inl rfl) hret (hb hby own_d13_79) (by decide) (by decide) (by rw [e523]; exact ⟨(by rw [own_cB12, if_neg hc5, if_neg hc13, if_pos hs522, if_pos hc71]; rfl), N523, rfl⟩)
    refine own_st (g' := (mkF m 79 #[rv a, iv vv] [(.int (1 : Int32))])) (fun tt_ kk_ => XS.icmpNo X523.here hx rfl (hb hby own_d13_71) rfl (flt hc71).2.2.1 (XS.iconst X523.here hx rfl (hb hby own_d13_74) (XS.goto X523.here hx rfl (pc0 := 75) (pc' := 79) rfl (hb hby own_d13_75) (by decide) (by decide) kk_))) ?_
    exact own_retN X523 hx hlk (t := .boolean) (Or.inl rfl) hret (hb hby own_d13_79) (by decide) (by decide) (by rw [e523]; exact ⟨(by rw [own_cB12, if_neg hc5, if_neg hc13, if_pos hs522, if_neg hc71]; rfl), N523, rfl⟩)
  obtain ⟨cq525, q525, q525'⟩ := E_a.cell
  obtain ⟨_, _, ⟨T525, L525, k525, n525⟩, -, X525, ⟨Lc525, hQ525, l525, y525, z525⟩, st525⟩ := X521.privateBack hx (y := (⟨own_z0, own_z19, "(I)I"⟩ : MethodName)) hown (mvT hZ (own_w hw 234 rfl)) (mvT hZ (own_w hw 235 rfl)) (own_sel (mvT hZ (own_w hw 235 rfl)) (mvP hZ (own_w hw 236 rfl)) (mvT hZ (own_w hw 84 rfl)) (by decide)) (Cond.privateMethod_at (mvP hZ (own_w hw 236 rfl) (args := #[]))) (mvT hZ (own_w hw 237 rfl)) (by decide) (backOf (W := 2) (own_rmia12 l Z a0 hw [] a vv ra b h0 n0 Z0 F_first_a F_last_a F_ranges_a P_ra) hZ (own_w hw 237 rfl) (own_w hw 85 rfl) (by decide) (by decide)) (g := (mkF m 65 #[rv a, iv vv] [(.int vv), (.ref a), (.int (2 : Int32)), (.ref ra)])) rfl (by rw [hml]; rfl) (Steps.refl _) (a := a) (by rw [e521]; exact q525) q525' (argsL := [(.int vv)]) (rest := [(.int (2 : Int32)), (.ref ra)]) (lenOf own_pd2 rfl) rfl (by show 2 * 0 + _ ≤ _; exact Nat.le_of_eq rfl) (hb hby own_d13_65) (fun _ _ => ⟨rfl, e521, (by decide : 0 + 0 ≤ _), (by decide : 0 + 0 ≤ _)⟩)
  dsimp only [Pt.U, Pt.locs, Pt.cells, Pt.slots] at X525 l525 y525 z525 st525 hQ525
  rw [l525, y525, z525] at X525
  obtain ⟨rfl, N525q, e525⟩ := hQ525
  have N525 := Fr.app N0 N525q
  refine own_st (fun t k => st525.trans k) ?_
  have qs526 : (own_ia12 b vv) = (1 : Int32) := by rw [own_ia12, if_neg hs522]
  rw [qs526]
  refine own_st (g' := (mkF m 69 #[rv a, iv vv] [(.int (2 : Int32)), (.ref ra)])) (fun tt_ kk_ => XS.imul X525.here hx rfl (hb hby own_d13_68) rfl kk_) ?_
  refine own_st (g' := (mkF m 71 #[rv a, iv vv] [(.int vv), (.int (b + (20 : Int32)))])) (fun tt_ kk_ => own_ldIv (g := (mkF m 69 #[rv a, iv vv] [(.int (2 : Int32)), (.ref ra)])) X525 hx hZ e525 P_ra (by decide) (by decide) (own_Rv2 _) rfl rfl (hb hby own_d13_69) tt_ (XS.iloadN X525.here hx rfl (hb hby own_d13_70) rfl kk_)) ?_
  by_cases hc71 : vv < (b + (20 : Int32))
  · skip
    refine own_st (g' := (mkF m 79 #[rv a, iv vv] [(.int (0 : Int32))])) (fun tt_ kk_ => XS.icmpYes X525.here hx rfl (pc0 := 71) (pc' := 78) rfl (hb hby own_d13_71) rfl (tlt hc71).2.2.1 (by decide) (by decide) (XS.iconst X525.here hx rfl (hb hby own_d13_78) kk_)) ?_
    exact own_retN X525 hx hlk (t := .boolean) (Or.inl rfl) hret (hb hby own_d13_79) (by decide) (by decide) (by rw [e525]; exact ⟨(by rw [own_cB12, if_neg hc5, if_neg hc13, if_neg hs522, if_pos hc71]; rfl), N525, rfl⟩)
  refine own_st (g' := (mkF m 79 #[rv a, iv vv] [(.int (1 : Int32))])) (fun tt_ kk_ => XS.icmpNo X525.here hx rfl (hb hby own_d13_71) rfl (flt hc71).2.2.1 (XS.iconst X525.here hx rfl (hb hby own_d13_74) (XS.goto X525.here hx rfl (pc0 := 75) (pc' := 79) rfl (hb hby own_d13_75) (by decide) (by decide) kk_))) ?_
  exact own_retN X525 hx hlk (t := .boolean) (Or.inl rfl) hret (hb hby own_d13_79) (by decide) (by decide) (by rw [e525]; exact ⟨(by rw [own_cB12, if_neg hc5, if_neg hc13, if_neg hs522, if_neg hc71]; rfl), N525, rfl⟩)
theorem own_d18_0 : own_D own_b18 0 (.aload_n 0) 1 := by decide +kernel
theorem own_d18_1 : own_D own_b18 1 (.getfield 63) 3 := by decide +kernel
theorem own_d18_4 : own_D own_b18 4 (.aload_n 0) 1 := by decide +kernel
theorem own_d18_5 : own_D own_b18 5 (.getfield 18) 3 := by decide +kernel
theorem own_d18_8 : own_D own_b18 8 .arraylength 1 := by decide +kernel
theorem own_d18_9 : own_D own_b18 9 (.if_icmp .ne 7) 3 := by decide +kernel
theorem own_d18_16 : own_D own_b18 16 (.bipush 6) 2 := by decide +kernel
theorem own_d18_18 : own_D own_b18 18 (.aload_n 0) 1 := by decide +kernel
theorem own_d18_19 : own_D own_b18 19 (.getfield 63) 3 := by decide +kernel
theorem own_d18_22 : own_D own_b18 22 .imul 1 := by decide +kernel
theorem own_d18_23 : own_D own_b18 23 (.istore 11) 2 := by decide +kernel
theorem own_d18_25 : own_D own_b18 25 (.aload_n 0) 1 := by decide +kernel
theorem own_d18_26 : own_D own_b18 26 (.getfield 9) 3 := by decide +kernel
theorem own_d18_29 : own_D own_b18 29 (.iload 11) 2 := by decide +kernel
theorem own_d18_31 : own_D own_b18 31 (.iconst 0) 1 := by decide +kernel
theorem own_d18_32 : own_D own_b18 32 .iadd 1 := by decide +kernel
theorem own_d18_33 : own_D own_b18 33 (.aload_n 1) 1 := by decide +kernel
theorem own_d18_34 : own_D own_b18 34 (.invokevirtual 100) 3 := by decide +kernel
theorem own_d18_37 : own_D own_b18 37 .iastore 1 := by decide +kernel
theorem own_d18_38 : own_D own_b18 38 (.aload_n 0) 1 := by decide +kernel
theorem own_d18_39 : own_D own_b18 39 (.getfield 9) 3 := by decide +kernel
theorem own_d18_42 : own_D own_b18 42 (.iload 11) 2 := by decide +kernel
theorem own_d18_44 : own_D own_b18 44 (.iconst 1) 1 := by decide +kernel
theorem own_d18_45 : own_D own_b18 45 .iadd 1 := by decide +kernel
theorem own_d18_46 : own_D own_b18 46 (.iload_n 2) 1 := by decide +kernel
theorem own_d18_47 : own_D own_b18 47 .iastore 1 := by decide +kernel
theorem own_d18_48 : own_D own_b18 48 (.aload_n 0) 1 := by decide +kernel
theorem own_d18_49 : own_D own_b18 49 (.getfield 9) 3 := by decide +kernel
theorem own_d18_52 : own_D own_b18 52 (.iload 11) 2 := by decide +kernel
theorem own_d18_54 : own_D own_b18 54 (.iconst 2) 1 := by decide +kernel
theorem own_d18_55 : own_D own_b18 55 .iadd 1 := by decide +kernel
theorem own_d18_56 : own_D own_b18 56 (.iload_n 3) 1 := by decide +kernel
theorem own_d18_57 : own_D own_b18 57 .iastore 1 := by decide +kernel
theorem own_d18_58 : own_D own_b18 58 (.aload_n 0) 1 := by decide +kernel
theorem own_d18_59 : own_D own_b18 59 (.getfield 9) 3 := by decide +kernel
theorem own_d18_62 : own_D own_b18 62 (.iload 11) 2 := by decide +kernel
theorem own_d18_64 : own_D own_b18 64 (.iconst 3) 1 := by decide +kernel
theorem own_d18_65 : own_D own_b18 65 .iadd 1 := by decide +kernel
theorem own_d18_66 : own_D own_b18 66 (.iload 9) 2 := by decide +kernel
theorem own_d18_68 : own_D own_b18 68 .iastore 1 := by decide +kernel
theorem own_d18_69 : own_D own_b18 69 (.aload_n 0) 1 := by decide +kernel
theorem own_d18_70 : own_D own_b18 70 (.getfield 9) 3 := by decide +kernel
theorem own_d18_73 : own_D own_b18 73 (.iload 11) 2 := by decide +kernel
theorem own_d18_75 : own_D own_b18 75 (.iconst 4) 1 := by decide +kernel
theorem own_d18_76 : own_D own_b18 76 .iadd 1 := by decide +kernel
theorem own_d18_77 : own_D own_b18 77 (.iload 10) 2 := by decide +kernel
theorem own_d18_79 : own_D own_b18 79 .iastore 1 := by decide +kernel
theorem own_d18_80 : own_D own_b18 80 (.aload_n 0) 1 := by decide +kernel
theorem own_d18_81 : own_D own_b18 81 (.getfield 9) 3 := by decide +kernel
theorem own_d18_84 : own_D own_b18 84 (.iload 11) 2 := by decide +kernel
theorem own_d18_86 : own_D own_b18 86 (.iconst 5) 1 := by decide +kernel
theorem own_d18_87 : own_D own_b18 87 .iadd 1 := by decide +kernel
theorem own_d18_88 : own_D own_b18 88 (.aload_n 1) 1 := by decide +kernel
theorem own_d18_89 : own_D own_b18 89 (.invokevirtual 104) 3 := by decide +kernel
theorem own_d18_92 : own_D own_b18 92 .iastore 1 := by decide +kernel
theorem own_d18_93 : own_D own_b18 93 (.aload_n 0) 1 := by decide +kernel
theorem own_d18_94 : own_D own_b18 94 (.getfield 13) 3 := by decide +kernel
theorem own_d18_97 : own_D own_b18 97 (.iconst 2) 1 := by decide +kernel
theorem own_d18_98 : own_D own_b18 98 (.aload_n 0) 1 := by decide +kernel
theorem own_d18_99 : own_D own_b18 99 (.getfield 63) 3 := by decide +kernel
theorem own_d18_102 : own_D own_b18 102 .imul 1 := by decide +kernel
theorem own_d18_103 : own_D own_b18 103 (.lload 4) 2 := by decide +kernel
theorem own_d18_105 : own_D own_b18 105 .lastore 1 := by decide +kernel
theorem own_d18_106 : own_D own_b18 106 (.aload_n 0) 1 := by decide +kernel
theorem own_d18_107 : own_D own_b18 107 (.getfield 13) 3 := by decide +kernel
theorem own_d18_110 : own_D own_b18 110 (.iconst 2) 1 := by decide +kernel
theorem own_d18_111 : own_D own_b18 111 (.aload_n 0) 1 := by decide +kernel
theorem own_d18_112 : own_D own_b18 112 (.getfield 63) 3 := by decide +kernel
theorem own_d18_115 : own_D own_b18 115 .imul 1 := by decide +kernel
theorem own_d18_116 : own_D own_b18 116 (.iconst 1) 1 := by decide +kernel
theorem own_d18_117 : own_D own_b18 117 .iadd 1 := by decide +kernel
theorem own_d18_118 : own_D own_b18 118 (.lload 6) 2 := by decide +kernel
theorem own_d18_120 : own_D own_b18 120 .lastore 1 := by decide +kernel
theorem own_d18_121 : own_D own_b18 121 (.aload_n 0) 1 := by decide +kernel
theorem own_d18_122 : own_D own_b18 122 (.getfield 18) 3 := by decide +kernel
theorem own_d18_125 : own_D own_b18 125 (.aload_n 0) 1 := by decide +kernel
theorem own_d18_126 : own_D own_b18 126 (.getfield 63) 3 := by decide +kernel
theorem own_d18_129 : own_D own_b18 129 (.aload 8) 2 := by decide +kernel
theorem own_d18_131 : own_D own_b18 131 .aastore 1 := by decide +kernel
theorem own_d18_132 : own_D own_b18 132 (.aload_n 0) 1 := by decide +kernel
theorem own_d18_133 : own_D own_b18 133 .dup 1 := by decide +kernel
theorem own_d18_134 : own_D own_b18 134 (.getfield 63) 3 := by decide +kernel
theorem own_d18_137 : own_D own_b18 137 (.iconst 1) 1 := by decide +kernel
theorem own_d18_138 : own_D own_b18 138 .iadd 1 := by decide +kernel
theorem own_d18_139 : own_D own_b18 139 (.putfield 63) 3 := by decide +kernel
theorem own_d18_142 : own_D own_b18 142 .return_ 1 := by decide +kernel
theorem own_pd3 : parseMethodDescriptor "()I" = some ⟨[], some .int⟩ := by decide +kernel
def own_Qtsv (Z : State) (tr : Addr) (a : Addr) (mn : Int32) (mx : Int32) (sz : Int64) (bi : Int64) (rg : Addr) (fi : Int32) (la : Int32) (it : Addr) (lt : Addr) (rt : Addr) (ix : Int32) (st : Int32) (h0 : Heap) (n0 : Nat) (v : Option Value) (h : Heap) (L : List Loc) : Prop := v = none ∧ Fr n0 L ∧ Keep h0 h [tr, it, lt, rt]
theorem own_eftsv (m : MethodId) (tr : Addr) (a : Addr) (mn : Int32) (mx : Int32) (sz : Int64) (bi : Int64) (rg : Addr) (fi : Int32) (la : Int32) : entryFrame m #[(.ref tr), (.ref a), (.int mn), (.int mx), (.long sz), (.long bi), (.ref rg), (.int fi), (.int la)] 12 = mkF m 0 #[rv tr, rv a, iv mn, iv mx, .val (.long sz), .second, .val (.long bi), .second, rv rg, iv fi, iv la, .unset] [] := by first | (simp [entryFrame, mkF, argsToLocals, Value.category]; done) | rfl
set_option maxRecDepth 65536 in
set_option maxHeartbeats 16000000 in
theorem own_rmtsv (l : Launch) (Z : State) (a0 : Array Value) (hw : own_HW Z a0) (ws : List Jvm.Cond) (tr : Addr) (a : Addr) (mn : Int32) (mx : Int32) (sz : Int64) (bi : Int64) (rg : Addr) (fi : Int32) (la : Int32) (it : Addr) (lt : Addr) (rt : Addr) (ix : Int32) (st : Int32) (h0 : Heap) (n0 : Nat) (Z0 : n0 ≤ h0.size) (E_tr : Exa Z h0 tr own_z1) (F_depth_tr : Fld Z h0 tr own_z1 "depth" "I" (.int (0 : Int32))) (F_entries_tr : Fld Z h0 tr own_z1 "entries" "I" (.int (0 : Int32))) (F_ints_tr : Fld Z h0 tr own_z1 "ints" "[I" (.ref it)) (F_longs_tr : Fld Z h0 tr own_z1 "longs" "[J" (.ref lt)) (F_ranges_tr : Fld Z h0 tr own_z1 "ranges" "[[I" (.ref rt)) (P_it : own_AI Z h0 it 384 (fun _ => 0)) (P_lt : own_AJ Z h0 lt 128 (fun _ => 0)) (P_rt : own_AR Z h0 rt 64) (E_a : Exa Z h0 a own_z0) (F_index_a : Fld Z h0 a own_z0 "index" "I" (.int ix)) (F_stamp_a : Fld Z h0 a own_z0 "stamp" "I" (.int st)) (E_rg : Exa Z h0 rg "[I") (ne_a_tr : a ≠ tr) (ne_a_it : a ≠ it) (ne_a_lt : a ≠ lt) (ne_a_rt : a ≠ rt) (ne_tr_it : tr ≠ it) (ne_tr_lt : tr ≠ lt) (ne_tr_rt : tr ≠ rt) (ne_it_lt : it ≠ lt) (ne_it_rt : it ≠ rt) (ne_lt_rt : lt ≠ rt) (g_tr : n0 ≤ tr) (g_it : n0 ≤ it) (g_lt : n0 ≤ lt) (g_rt : n0 ≤ rt) :
    MetFree l (⟨own_z1, "save", own_z21⟩ : MethodName) (head1 (Jvm.Cond.code (⟨own_z1, "save", own_z21⟩ : MethodName) prog_75_method_7_code 12 none :: ws) ({ frames := 1, cells := 0, slots := 0, locals := 14 } : Room)) (fun aa UU => aa = #[(.ref tr), (.ref a), (.int mn), (.int mx), (.long sz), (.long bi), (.ref rg), (.int fi), (.int la)] ∧ Z.Warmed39 UU.vm ∧ UU.heap = h0) (fun _ _ _ _ _ => True) (fun _ U o U' => ∃ v L, o = .returned v ∧ own_Qtsv Z tr a mn mx sz bi rg fi la it lt rt ix st h0 n0 v U'.heap L ∧ FrameEnd U o U' L ({ frames := 1, cells := 0, slots := 0, locals := 14 } : Room).cells ({ frames := 1, cells := 0, slots := 0, locals := 14 } : Room).slots) := by
  refine MetFree.of_bodySF (plainFor_of_name own_pn3) hisR ?_
  intro p e s m args below meth c s₁ Bd hml hP hK
  obtain ⟨rfl, hZ, hh⟩ := hP
  have hx := Bd.exec
  have hlk := Bd.notSynchronized
  have hby := Bd.bytes
  have hret := Bd.returns
  have hown := findClass_of_methodNamed Bd.named
  have hnm := (name_of_methodNamed Bd.named Bd.method).1
  have X0 : Stand p l e ({ frames := 1, cells := 0, slots := 0, locals := 14 } : Room) s m #[(.ref tr), (.ref a), (.int mn), (.int mx), (.long sz), (.long bi), (.ref rg), (.int fi), (.int la)] below meth c s₁ [] 0 0 := Stand.of_body Bd
  have e0 : s₁.heap = h0 := by rw [← hh, Bd.state]; rfl
  have N0 := Fr.nil n0
  refine own_cast (own_eftsv m tr a mn mx sz bi rg fi la) ?_
  show own_Go p e below s s₁ _ (own_Qtsv Z tr a mn mx sz bi rg fi la it lt rt ix st h0 n0) 0 0
  have K0 : Keep h0 h0 [tr, it, lt, rt] := Keep.refl _ _
  refine own_st (g' := (mkF m 1 #[rv tr, rv a, iv mn, iv mx, .val (.long sz), .second, .val (.long bi), .second, rv rg, iv fi, iv la, .unset] [(.ref tr)])) (fun tt_ kk_ => XS.aloadN X0.here hx rfl (hb hby own_d18_0) rfl rfl kk_) ?_
  refine own_gG X0 hx hZ hown (own_w hw 193 rfl) e0 F_entries_tr rfl rfl (hb hby own_d18_1) (fun {T527} X527 e527 => ?_)
  refine own_st (g' := (mkF m 5 #[rv tr, rv a, iv mn, iv mx, .val (.long sz), .second, .val (.long bi), .second, rv rg, iv fi, iv la, .unset] [(.ref tr), (.int (0 : Int32))])) (fun tt_ kk_ => XS.aloadN X527.here hx rfl (hb hby own_d18_4) rfl rfl kk_) ?_
  refine own_gG X527 hx hZ hown (own_w hw 52 rfl) e527 F_ranges_tr rfl rfl (hb hby own_d18_5) (fun {T528} X528 e528 => ?_)
  refine own_st (g' := (mkF m 19 #[rv tr, rv a, iv mn, iv mx, .val (.long sz), .second, .val (.long bi), .second, rv rg, iv fi, iv la, .unset] [(.ref tr), (.int (6 : Int32))])) (fun tt_ kk_ => own_lenR (g := (mkF m 8 #[rv tr, rv a, iv mn, iv mx, .val (.long sz), .second, .val (.long bi), .second, rv rg, iv fi, iv la, .unset] [(.ref rt), (.int (0 : Int32))])) X528 hx hZ e528 P_rt (z := (64 : Int32)) rfl rfl rfl (hb hby own_d18_8) tt_ (XS.icmpYes X528.here hx rfl (pc0 := 9) (pc' := 16) rfl (hb hby own_d18_9) rfl (feq (by decide : ¬ ((0 : Int32) = (64 : Int32)))).2 (by decide) (by decide) (XS.bipush X528.here hx rfl (hb hby own_d18_16) (XS.aloadN X528.here hx rfl (hb hby own_d18_18) rfl rfl kk_)))) ?_
  refine own_gG X528 hx hZ hown (own_w hw 193 rfl) e528 F_entries_tr rfl rfl (hb hby own_d18_19) (fun {T529} X529 e529 => ?_)
  refine own_st (g' := (mkF m 26 #[rv tr, rv a, iv mn, iv mx, .val (.long sz), .second, .val (.long bi), .second, rv rg, iv fi, iv la, iv (0 : Int32)] [(.ref tr)])) (fun tt_ kk_ => XS.imul X529.here hx rfl (hb hby own_d18_22) rfl (XS.istore X529.here hx rfl (hb hby own_d18_23) rfl (l' := #[rv tr, rv a, iv mn, iv mx, .val (.long sz), .second, .val (.long bi), .second, rv rg, iv fi, iv la, iv (0 : Int32)]) rfl (XS.aloadN X529.here hx rfl (hb hby own_d18_25) rfl rfl kk_))) ?_
  refine own_gG X529 hx hZ hown (own_w hw 45 rfl) e529 F_ints_tr rfl rfl (hb hby own_d18_26) (fun {T530} X530 e530 => ?_)
  refine own_st (g' := (mkF m 34 #[rv tr, rv a, iv mn, iv mx, .val (.long sz), .second, .val (.long bi), .second, rv rg, iv fi, iv la, iv (0 : Int32)] [(.ref a), (.int (0 : Int32)), (.ref it)])) (fun tt_ kk_ => XS.iload X530.here hx rfl (hb hby own_d18_29) rfl (XS.iconst X530.here hx rfl (hb hby own_d18_31) (XS.iadd X530.here hx rfl (hb hby own_d18_32) rfl (XS.aloadN X530.here hx rfl (hb hby own_d18_33) rfl rfl kk_)))) ?_
  obtain ⟨cq531, kq531, q531a, q531b, q531c⟩ := isOf hZ e530 E_a
  obtain ⟨_, _, ⟨T531, L531, k531, n531⟩, -, X531, ⟨Lc531, hQ531, l531, y531, z531⟩, st531⟩ := X530.virtualBack hx (y := (⟨own_z0, "index", "()I"⟩ : MethodName)) (z := (⟨own_z0, "index", "()I"⟩ : MethodName)) hown (mvT hZ (own_w hw 195 rfl)) (mvT hZ (own_w hw 196 rfl)) (notFace_of_selects (args := #[]) (mvT hZ (own_w hw 198 rfl))) (mvT hZ (own_w hw 198 rfl)) (mvT hZ (own_w hw 197 rfl)) (by decide) (backOf (W := 2) (own_rmgidx l Z a0 hw [] a ix h0 n0 Z0 F_index_a) hZ (own_w hw 199 rfl) (own_w hw 85 rfl) (by decide) (by decide)) q531a q531c (g := (mkF m 34 #[rv tr, rv a, iv mn, iv mx, .val (.long sz), .second, .val (.long bi), .second, rv rg, iv fi, iv la, iv (0 : Int32)] [(.ref a), (.int (0 : Int32)), (.ref it)])) rfl (by rw [hml]; rfl) (Steps.refl _) (argsL := []) (rest := [(.int (0 : Int32)), (.ref it)]) (lenOf own_pd3 rfl) rfl (by show 2 * 0 + _ ≤ _; exact Nat.le_of_eq rfl) (hb hby own_d18_34) (fun _ _ => ⟨rfl, e530, (by decide : 0 + 0 ≤ _), (by decide : 0 + 0 ≤ _)⟩)
  dsimp only [Pt.U, Pt.locs, Pt.cells, Pt.slots] at X531 l531 y531 z531 st531 hQ531
  rw [l531, y531, z531] at X531
  obtain ⟨rfl, N531q, e531⟩ := hQ531
  have N531 := Fr.app N0 N531q
  refine own_st (fun t k => st531.trans k) ?_
  obtain ⟨T532, h532, X532, e532, W532, P532, st532⟩ := own_stI X531 hx hZ e531 P_it (by decide) (by decide) (g := (mkF m 37 #[rv tr, rv a, iv mn, iv mx, .val (.long sz), .second, .val (.long bi), .second, rv rg, iv fi, iv la, iv (0 : Int32)] [(.int ix), (.int (0 : Int32)), (.ref it)])) rfl rfl (hb hby own_d18_37)
  have N532 := Fr.snoc X532 N531 g_it
  have Z532 : n0 ≤ h532.size := Nat.le_trans Z0 (Keep.of_wr W532).1
  have K532 : Keep h0 h532 [tr, it, lt, rt] := K0.wr W532 (Or.inl (List.mem_of_getElem? (i := 1) rfl))
  refine own_st st532 ?_
  refine own_st (g' := (mkF m 39 #[rv tr, rv a, iv mn, iv mx, .val (.long sz), .second, .val (.long bi), .second, rv rg, iv fi, iv la, iv (0 : Int32)] [(.ref tr)])) (fun tt_ kk_ => XS.aloadN X532.here hx rfl (hb hby own_d18_38) rfl rfl kk_) ?_
  have F534 := (F_ints_tr.other W532 (Or.inl ne_tr_it))
  refine own_gG X532 hx hZ hown (own_w hw 45 rfl) e532 F534 rfl rfl (hb hby own_d18_39) (fun {T533} X533 e533 => ?_)
  refine own_st (g' := (mkF m 47 #[rv tr, rv a, iv mn, iv mx, .val (.long sz), .second, .val (.long bi), .second, rv rg, iv fi, iv la, iv (0 : Int32)] [(.int mn), (.int (1 : Int32)), (.ref it)])) (fun tt_ kk_ => XS.iload X533.here hx rfl (hb hby own_d18_42) rfl (XS.iconst X533.here hx rfl (hb hby own_d18_44) (XS.iadd X533.here hx rfl (hb hby own_d18_45) rfl (XS.iloadN X533.here hx rfl (hb hby own_d18_46) rfl kk_)))) ?_
  obtain ⟨T535, h535, X535, e535, W535, P535, st535⟩ := own_stI X533 hx hZ e533 P532 (by decide) (by decide) (g := (mkF m 47 #[rv tr, rv a, iv mn, iv mx, .val (.long sz), .second, .val (.long bi), .second, rv rg, iv fi, iv la, iv (0 : Int32)] [(.int mn), (.int (1 : Int32)), (.ref it)])) rfl rfl (hb hby own_d18_47)
  have N535 := Fr.snoc X535 N532 g_it
  have Z535 : n0 ≤ h535.size := Nat.le_trans Z532 (Keep.of_wr W535).1
  have K535 : Keep h0 h535 [tr, it, lt, rt] := K532.wr W535 (Or.inl (List.mem_of_getElem? (i := 1) rfl))
  refine own_st st535 ?_
  refine own_st (g' := (mkF m 49 #[rv tr, rv a, iv mn, iv mx, .val (.long sz), .second, .val (.long bi), .second, rv rg, iv fi, iv la, iv (0 : Int32)] [(.ref tr)])) (fun tt_ kk_ => XS.aloadN X535.here hx rfl (hb hby own_d18_48) rfl rfl kk_) ?_
  have F537 := (F534.other W535 (Or.inl ne_tr_it))
  refine own_gG X535 hx hZ hown (own_w hw 45 rfl) e535 F537 rfl rfl (hb hby own_d18_49) (fun {T536} X536 e536 => ?_)
  refine own_st (g' := (mkF m 57 #[rv tr, rv a, iv mn, iv mx, .val (.long sz), .second, .val (.long bi), .second, rv rg, iv fi, iv la, iv (0 : Int32)] [(.int mx), (.int (2 : Int32)), (.ref it)])) (fun tt_ kk_ => XS.iload X536.here hx rfl (hb hby own_d18_52) rfl (XS.iconst X536.here hx rfl (hb hby own_d18_54) (XS.iadd X536.here hx rfl (hb hby own_d18_55) rfl (XS.iloadN X536.here hx rfl (hb hby own_d18_56) rfl kk_)))) ?_
  obtain ⟨T538, h538, X538, e538, W538, P538, st538⟩ := own_stI X536 hx hZ e536 P535 (by decide) (by decide) (g := (mkF m 57 #[rv tr, rv a, iv mn, iv mx, .val (.long sz), .second, .val (.long bi), .second, rv rg, iv fi, iv la, iv (0 : Int32)] [(.int mx), (.int (2 : Int32)), (.ref it)])) rfl rfl (hb hby own_d18_57)
  have N538 := Fr.snoc X538 N535 g_it
  have Z538 : n0 ≤ h538.size := Nat.le_trans Z535 (Keep.of_wr W538).1
  have K538 : Keep h0 h538 [tr, it, lt, rt] := K535.wr W538 (Or.inl (List.mem_of_getElem? (i := 1) rfl))
  refine own_st st538 ?_
  refine own_st (g' := (mkF m 59 #[rv tr, rv a, iv mn, iv mx, .val (.long sz), .second, .val (.long bi), .second, rv rg, iv fi, iv la, iv (0 : Int32)] [(.ref tr)])) (fun tt_ kk_ => XS.aloadN X538.here hx rfl (hb hby own_d18_58) rfl rfl kk_) ?_
  have F540 := (F537.other W538 (Or.inl ne_tr_it))
  refine own_gG X538 hx hZ hown (own_w hw 45 rfl) e538 F540 rfl rfl (hb hby own_d18_59) (fun {T539} X539 e539 => ?_)
  refine own_st (g' := (mkF m 68 #[rv tr, rv a, iv mn, iv mx, .val (.long sz), .second, .val (.long bi), .second, rv rg, iv fi, iv la, iv (0 : Int32)] [(.int fi), (.int (3 : Int32)), (.ref it)])) (fun tt_ kk_ => XS.iload X539.here hx rfl (hb hby own_d18_62) rfl (XS.iconst X539.here hx rfl (hb hby own_d18_64) (XS.iadd X539.here hx rfl (hb hby own_d18_65) rfl (XS.iload X539.here hx rfl (hb hby own_d18_66) rfl kk_)))) ?_
  obtain ⟨T541, h541, X541, e541, W541, P541, st541⟩ := own_stI X539 hx hZ e539 P538 (by decide) (by decide) (g := (mkF m 68 #[rv tr, rv a, iv mn, iv mx, .val (.long sz), .second, .val (.long bi), .second, rv rg, iv fi, iv la, iv (0 : Int32)] [(.int fi), (.int (3 : Int32)), (.ref it)])) rfl rfl (hb hby own_d18_68)
  have N541 := Fr.snoc X541 N538 g_it
  have Z541 : n0 ≤ h541.size := Nat.le_trans Z538 (Keep.of_wr W541).1
  have K541 : Keep h0 h541 [tr, it, lt, rt] := K538.wr W541 (Or.inl (List.mem_of_getElem? (i := 1) rfl))
  refine own_st st541 ?_
  refine own_st (g' := (mkF m 70 #[rv tr, rv a, iv mn, iv mx, .val (.long sz), .second, .val (.long bi), .second, rv rg, iv fi, iv la, iv (0 : Int32)] [(.ref tr)])) (fun tt_ kk_ => XS.aloadN X541.here hx rfl (hb hby own_d18_69) rfl rfl kk_) ?_
  have F543 := (F540.other W541 (Or.inl ne_tr_it))
  refine own_gG X541 hx hZ hown (own_w hw 45 rfl) e541 F543 rfl rfl (hb hby own_d18_70) (fun {T542} X542 e542 => ?_)
  refine own_st (g' := (mkF m 79 #[rv tr, rv a, iv mn, iv mx, .val (.long sz), .second, .val (.long bi), .second, rv rg, iv fi, iv la, iv (0 : Int32)] [(.int la), (.int (4 : Int32)), (.ref it)])) (fun tt_ kk_ => XS.iload X542.here hx rfl (hb hby own_d18_73) rfl (XS.iconst X542.here hx rfl (hb hby own_d18_75) (XS.iadd X542.here hx rfl (hb hby own_d18_76) rfl (XS.iload X542.here hx rfl (hb hby own_d18_77) rfl kk_)))) ?_
  obtain ⟨T544, h544, X544, e544, W544, P544, st544⟩ := own_stI X542 hx hZ e542 P541 (by decide) (by decide) (g := (mkF m 79 #[rv tr, rv a, iv mn, iv mx, .val (.long sz), .second, .val (.long bi), .second, rv rg, iv fi, iv la, iv (0 : Int32)] [(.int la), (.int (4 : Int32)), (.ref it)])) rfl rfl (hb hby own_d18_79)
  have N544 := Fr.snoc X544 N541 g_it
  have Z544 : n0 ≤ h544.size := Nat.le_trans Z541 (Keep.of_wr W544).1
  have K544 : Keep h0 h544 [tr, it, lt, rt] := K541.wr W544 (Or.inl (List.mem_of_getElem? (i := 1) rfl))
  refine own_st st544 ?_
  refine own_st (g' := (mkF m 81 #[rv tr, rv a, iv mn, iv mx, .val (.long sz), .second, .val (.long bi), .second, rv rg, iv fi, iv la, iv (0 : Int32)] [(.ref tr)])) (fun tt_ kk_ => XS.aloadN X544.here hx rfl (hb hby own_d18_80) rfl rfl kk_) ?_
  have F546 := (F543.other W544 (Or.inl ne_tr_it))
  refine own_gG X544 hx hZ hown (own_w hw 45 rfl) e544 F546 rfl rfl (hb hby own_d18_81) (fun {T545} X545 e545 => ?_)
  refine own_st (g' := (mkF m 89 #[rv tr, rv a, iv mn, iv mx, .val (.long sz), .second, .val (.long bi), .second, rv rg, iv fi, iv la, iv (0 : Int32)] [(.ref a), (.int (5 : Int32)), (.ref it)])) (fun tt_ kk_ => XS.iload X545.here hx rfl (hb hby own_d18_84) rfl (XS.iconst X545.here hx rfl (hb hby own_d18_86) (XS.iadd X545.here hx rfl (hb hby own_d18_87) rfl (XS.aloadN X545.here hx rfl (hb hby own_d18_88) rfl rfl kk_)))) ?_
  have F547 := (((((E_a.wr W532).wr W535).wr W538).wr W541).wr W544)
  have F548 := (((((F_stamp_a.other W532 (Or.inl ne_a_it)).other W535 (Or.inl ne_a_it)).other W538 (Or.inl ne_a_it)).other W541 (Or.inl ne_a_it)).other W544 (Or.inl ne_a_it))
  obtain ⟨cq549, kq549, q549a, q549b, q549c⟩ := isOf hZ e545 F547
  obtain ⟨_, _, ⟨T549, L549, k549, n549⟩, -, X549, ⟨Lc549, hQ549, l549, y549, z549⟩, st549⟩ := X545.virtualBack hx (y := (⟨own_z0, "stamp", "()I"⟩ : MethodName)) (z := (⟨own_z0, "stamp", "()I"⟩ : MethodName)) hown (mvT hZ (own_w hw 200 rfl)) (mvT hZ (own_w hw 155 rfl)) (notFace_of_selects (args := #[]) (mvT hZ (own_w hw 157 rfl))) (mvT hZ (own_w hw 157 rfl)) (mvT hZ (own_w hw 156 rfl)) (by decide) (backOf (W := 2) (own_rmgstp l Z a0 hw [] a st h544 n0 Z544 F548) hZ (own_w hw 158 rfl) (own_w hw 85 rfl) (by decide) (by decide)) q549a q549c (g := (mkF m 89 #[rv tr, rv a, iv mn, iv mx, .val (.long sz), .second, .val (.long bi), .second, rv rg, iv fi, iv la, iv (0 : Int32)] [(.ref a), (.int (5 : Int32)), (.ref it)])) rfl (by rw [hml]; rfl) (Steps.refl _) (argsL := []) (rest := [(.int (5 : Int32)), (.ref it)]) (lenOf own_pd3 rfl) rfl (by show 2 * 0 + _ ≤ _; exact Nat.le_of_eq rfl) (hb hby own_d18_89) (fun _ _ => ⟨rfl, e545, (by decide : 0 + 0 ≤ _), (by decide : 0 + 0 ≤ _)⟩)
  dsimp only [Pt.U, Pt.locs, Pt.cells, Pt.slots] at X549 l549 y549 z549 st549 hQ549
  rw [l549, y549, z549] at X549
  obtain ⟨rfl, N549q, e549⟩ := hQ549
  have N549 := Fr.app N544 N549q
  refine own_st (fun t k => st549.trans k) ?_
  obtain ⟨T550, h550, X550, e550, W550, P550, st550⟩ := own_stI X549 hx hZ e549 P544 (by decide) (by decide) (g := (mkF m 92 #[rv tr, rv a, iv mn, iv mx, .val (.long sz), .second, .val (.long bi), .second, rv rg, iv fi, iv la, iv (0 : Int32)] [(.int st), (.int (5 : Int32)), (.ref it)])) rfl rfl (hb hby own_d18_92)
  have N550 := Fr.snoc X550 N549 g_it
  have Z550 : n0 ≤ h550.size := Nat.le_trans Z544 (Keep.of_wr W550).1
  have K550 : Keep h0 h550 [tr, it, lt, rt] := K544.wr W550 (Or.inl (List.mem_of_getElem? (i := 1) rfl))
  refine own_st st550 ?_
  refine own_st (g' := (mkF m 94 #[rv tr, rv a, iv mn, iv mx, .val (.long sz), .second, .val (.long bi), .second, rv rg, iv fi, iv la, iv (0 : Int32)] [(.ref tr)])) (fun tt_ kk_ => XS.aloadN X550.here hx rfl (hb hby own_d18_93) rfl rfl kk_) ?_
  have F552 := ((((((F_longs_tr.other W532 (Or.inl ne_tr_it)).other W535 (Or.inl ne_tr_it)).other W538 (Or.inl ne_tr_it)).other W541 (Or.inl ne_tr_it)).other W544 (Or.inl ne_tr_it)).other W550 (Or.inl ne_tr_it))
  refine own_gG X550 hx hZ hown (own_w hw 48 rfl) e550 F552 rfl rfl (hb hby own_d18_94) (fun {T551} X551 e551 => ?_)
  refine own_st (g' := (mkF m 99 #[rv tr, rv a, iv mn, iv mx, .val (.long sz), .second, .val (.long bi), .second, rv rg, iv fi, iv la, iv (0 : Int32)] [(.ref tr), (.int (2 : Int32)), (.ref lt)])) (fun tt_ kk_ => XS.iconst X551.here hx rfl (hb hby own_d18_97) (XS.aloadN X551.here hx rfl (hb hby own_d18_98) rfl rfl kk_)) ?_
  have F554 := ((((((F_entries_tr.other W532 (Or.inl ne_tr_it)).other W535 (Or.inl ne_tr_it)).other W538 (Or.inl ne_tr_it)).other W541 (Or.inl ne_tr_it)).other W544 (Or.inl ne_tr_it)).other W550 (Or.inl ne_tr_it))
  refine own_gG X551 hx hZ hown (own_w hw 193 rfl) e551 F554 rfl rfl (hb hby own_d18_99) (fun {T553} X553 e553 => ?_)
  refine own_st (g' := (mkF m 105 #[rv tr, rv a, iv mn, iv mx, .val (.long sz), .second, .val (.long bi), .second, rv rg, iv fi, iv la, iv (0 : Int32)] [(.long sz), (.int (0 : Int32)), (.ref lt)])) (fun tt_ kk_ => XS.imul X553.here hx rfl (hb hby own_d18_102) rfl (XS.lload X553.here hx rfl (hb hby own_d18_103) rfl kk_)) ?_
  have F555 := ((((((P_lt.other W532 (Ne.symm ne_it_lt)).other W535 (Ne.symm ne_it_lt)).other W538 (Ne.symm ne_it_lt)).other W541 (Ne.symm ne_it_lt)).other W544 (Ne.symm ne_it_lt)).other W550 (Ne.symm ne_it_lt))
  obtain ⟨T556, h556, X556, e556, W556, P556, st556⟩ := own_stJ X553 hx hZ e553 F555 (by decide) (by decide) (g := (mkF m 105 #[rv tr, rv a, iv mn, iv mx, .val (.long sz), .second, .val (.long bi), .second, rv rg, iv fi, iv la, iv (0 : Int32)] [(.long sz), (.int (0 : Int32)), (.ref lt)])) rfl rfl (hb hby own_d18_105)
  have N556 := Fr.snoc X556 N550 g_lt
  have Z556 : n0 ≤ h556.size := Nat.le_trans Z550 (Keep.of_wr W556).1
  have K556 : Keep h0 h556 [tr, it, lt, rt] := K550.wr W556 (Or.inl (List.mem_of_getElem? (i := 2) rfl))
  refine own_st st556 ?_
  refine own_st (g' := (mkF m 107 #[rv tr, rv a, iv mn, iv mx, .val (.long sz), .second, .val (.long bi), .second, rv rg, iv fi, iv la, iv (0 : Int32)] [(.ref tr)])) (fun tt_ kk_ => XS.aloadN X556.here hx rfl (hb hby own_d18_106) rfl rfl kk_) ?_
  have F558 := (F552.other W556 (Or.inl ne_tr_lt))
  refine own_gG X556 hx hZ hown (own_w hw 48 rfl) e556 F558 rfl rfl (hb hby own_d18_107) (fun {T557} X557 e557 => ?_)
  refine own_st (g' := (mkF m 112 #[rv tr, rv a, iv mn, iv mx, .val (.long sz), .second, .val (.long bi), .second, rv rg, iv fi, iv la, iv (0 : Int32)] [(.ref tr), (.int (2 : Int32)), (.ref lt)])) (fun tt_ kk_ => XS.iconst X557.here hx rfl (hb hby own_d18_110) (XS.aloadN X557.here hx rfl (hb hby own_d18_111) rfl rfl kk_)) ?_
  have F560 := (F554.other W556 (Or.inl ne_tr_lt))
  refine own_gG X557 hx hZ hown (own_w hw 193 rfl) e557 F560 rfl rfl (hb hby own_d18_112) (fun {T559} X559 e559 => ?_)
  refine own_st (g' := (mkF m 120 #[rv tr, rv a, iv mn, iv mx, .val (.long sz), .second, .val (.long bi), .second, rv rg, iv fi, iv la, iv (0 : Int32)] [(.long bi), (.int (1 : Int32)), (.ref lt)])) (fun tt_ kk_ => XS.imul X559.here hx rfl (hb hby own_d18_115) rfl (XS.iconst X559.here hx rfl (hb hby own_d18_116) (XS.iadd X559.here hx rfl (hb hby own_d18_117) rfl (XS.lload X559.here hx rfl (hb hby own_d18_118) rfl kk_)))) ?_
  obtain ⟨T561, h561, X561, e561, W561, P561, st561⟩ := own_stJ X559 hx hZ e559 P556 (by decide) (by decide) (g := (mkF m 120 #[rv tr, rv a, iv mn, iv mx, .val (.long sz), .second, .val (.long bi), .second, rv rg, iv fi, iv la, iv (0 : Int32)] [(.long bi), (.int (1 : Int32)), (.ref lt)])) rfl rfl (hb hby own_d18_120)
  have N561 := Fr.snoc X561 N556 g_lt
  have Z561 : n0 ≤ h561.size := Nat.le_trans Z556 (Keep.of_wr W561).1
  have K561 : Keep h0 h561 [tr, it, lt, rt] := K556.wr W561 (Or.inl (List.mem_of_getElem? (i := 2) rfl))
  refine own_st st561 ?_
  refine own_st (g' := (mkF m 122 #[rv tr, rv a, iv mn, iv mx, .val (.long sz), .second, .val (.long bi), .second, rv rg, iv fi, iv la, iv (0 : Int32)] [(.ref tr)])) (fun tt_ kk_ => XS.aloadN X561.here hx rfl (hb hby own_d18_121) rfl rfl kk_) ?_
  have F563 := ((((((((F_ranges_tr.other W532 (Or.inl ne_tr_it)).other W535 (Or.inl ne_tr_it)).other W538 (Or.inl ne_tr_it)).other W541 (Or.inl ne_tr_it)).other W544 (Or.inl ne_tr_it)).other W550 (Or.inl ne_tr_it)).other W556 (Or.inl ne_tr_lt)).other W561 (Or.inl ne_tr_lt))
  refine own_gG X561 hx hZ hown (own_w hw 52 rfl) e561 F563 rfl rfl (hb hby own_d18_122) (fun {T562} X562 e562 => ?_)
  refine own_st (g' := (mkF m 126 #[rv tr, rv a, iv mn, iv mx, .val (.long sz), .second, .val (.long bi), .second, rv rg, iv fi, iv la, iv (0 : Int32)] [(.ref tr), (.ref rt)])) (fun tt_ kk_ => XS.aloadN X562.here hx rfl (hb hby own_d18_125) rfl rfl kk_) ?_
  have F565 := (F560.other W561 (Or.inl ne_tr_lt))
  refine own_gG X562 hx hZ hown (own_w hw 193 rfl) e562 F565 rfl rfl (hb hby own_d18_126) (fun {T564} X564 e564 => ?_)
  refine own_st (g' := (mkF m 131 #[rv tr, rv a, iv mn, iv mx, .val (.long sz), .second, .val (.long bi), .second, rv rg, iv fi, iv la, iv (0 : Int32)] [(.ref rg), (.int (0 : Int32)), (.ref rt)])) (fun tt_ kk_ => XS.aload X564.here hx rfl (hb hby own_d18_129) rfl rfl kk_) ?_
  have F566 := ((((((((P_rt.other W532 (Ne.symm ne_it_rt)).other W535 (Ne.symm ne_it_rt)).other W538 (Ne.symm ne_it_rt)).other W541 (Ne.symm ne_it_rt)).other W544 (Ne.symm ne_it_rt)).other W550 (Ne.symm ne_it_rt)).other W556 (Ne.symm ne_lt_rt)).other W561 (Ne.symm ne_lt_rt))
  have F567 := ((((((((E_rg.wr W532).wr W535).wr W538).wr W541).wr W544).wr W550).wr W556).wr W561)
  obtain ⟨T568, h568, X568, e568, W568, st568⟩ := own_stR X564 hx hZ e564 F566 (Ins.self F567) (by decide) (by decide) (g := (mkF m 131 #[rv tr, rv a, iv mn, iv mx, .val (.long sz), .second, .val (.long bi), .second, rv rg, iv fi, iv la, iv (0 : Int32)] [(.ref rg), (.int (0 : Int32)), (.ref rt)])) rfl rfl (hb hby own_d18_131)
  have N568 := Fr.snoc X568 N561 g_rt
  have Z568 : n0 ≤ h568.size := Nat.le_trans Z561 (Keep.of_wr W568).1
  have K568 : Keep h0 h568 [tr, it, lt, rt] := K561.wr W568 (Or.inl (List.mem_of_getElem? (i := 3) rfl))
  refine own_st st568 ?_
  refine own_st (g' := (mkF m 134 #[rv tr, rv a, iv mn, iv mx, .val (.long sz), .second, .val (.long bi), .second, rv rg, iv fi, iv la, iv (0 : Int32)] [(.ref tr), (.ref tr)])) (fun tt_ kk_ => XS.aloadN X568.here hx rfl (hb hby own_d18_132) rfl rfl (XS.dup X568.here hx rfl (hb hby own_d18_133) rfl rfl kk_)) ?_
  have F570 := (F565.other W568 (Or.inl ne_tr_rt))
  refine own_gG X568 hx hZ hown (own_w hw 193 rfl) e568 F570 rfl rfl (hb hby own_d18_134) (fun {T569} X569 e569 => ?_)
  refine own_st (g' := (mkF m 139 #[rv tr, rv a, iv mn, iv mx, .val (.long sz), .second, .val (.long bi), .second, rv rg, iv fi, iv la, iv (0 : Int32)] [(.int (1 : Int32)), (.ref tr)])) (fun tt_ kk_ => XS.iconst X569.here hx rfl (hb hby own_d18_137) (XS.iadd X569.here hx rfl (hb hby own_d18_138) rfl kk_)) ?_
  have F572 := (((((((((E_tr.wr W532).wr W535).wr W538).wr W541).wr W544).wr W550).wr W556).wr W561).wr W568)
  obtain ⟨T571, h571, X571, e571, W571, st571⟩ := putF X569 hx hZ hown (host := "") (Or.inl (own_w hw 193 rfl)) Via.refl e569 F570 F572 (Or.inl (own_w hw 194 rfl)) (own_w hw 38 rfl) (ty := .int) (by decide) rfl rfl (g := (mkF m 139 #[rv tr, rv a, iv mn, iv mx, .val (.long sz), .second, .val (.long bi), .second, rv rg, iv fi, iv la, iv (0 : Int32)] [(.int (1 : Int32)), (.ref tr)])) rfl rfl (hb hby own_d18_139)
  have N571 := Fr.snoc X571 N568 g_tr
  have Z571 : n0 ≤ h571.size := Nat.le_trans Z568 (Keep.of_wr W571).1
  have K571 : Keep h0 h571 [tr, it, lt, rt] := K568.wr W571 (Or.inl (List.mem_of_getElem? (i := 0) rfl))
  have F571 : Fld Z h571 tr own_z1 "entries" "I" (.int (1 : Int32)) := F570.same W571
  refine own_st st571 ?_
  exact own_retV X571 hx hlk hret (hb hby own_d18_142) (by decide) (by decide) (by rw [e571]; exact ⟨rfl, N571, K571⟩)
theorem own_d15_0 : own_D own_b15 0 (.aload_n 0) 1 := by decide +kernel
theorem own_d15_1 : own_D own_b15 1 (.getfield 21) 3 := by decide +kernel
theorem own_d15_4 : own_D own_b15 4 (.invokevirtual 244) 3 := by decide +kernel
theorem own_d15_7 : own_D own_b15 7 (.astore_n 1) 1 := by decide +kernel
theorem own_d15_8 : own_D own_b15 8 (.aload_n 1) 1 := by decide +kernel
theorem own_d15_9 : own_D own_b15 9 (.invokevirtual 250) 3 := by decide +kernel
theorem own_d15_12 : own_D own_b15 12 (.istore_n 2) 1 := by decide +kernel
theorem own_d15_13 : own_D own_b15 13 (.aload_n 0) 1 := by decide +kernel
theorem own_d15_14 : own_D own_b15 14 (.getfield 124) 3 := by decide +kernel
theorem own_d15_17 : own_D own_b15 17 (.iload_n 2) 1 := by decide +kernel
theorem own_d15_18 : own_D own_b15 18 (.if_icmp .eq 41) 3 := by decide +kernel
theorem own_d15_21 : own_D own_b15 21 (.aload_n 1) 1 := by decide +kernel
theorem own_d15_22 : own_D own_b15 22 (.aload_n 0) 1 := by decide +kernel
theorem own_d15_23 : own_D own_b15 23 (.aload_n 0) 1 := by decide +kernel
theorem own_d15_24 : own_D own_b15 24 (.getfield 33) 3 := by decide +kernel
theorem own_d15_27 : own_D own_b15 27 (.aload_n 0) 1 := by decide +kernel
theorem own_d15_28 : own_D own_b15 28 (.getfield 36) 3 := by decide +kernel
theorem own_d15_31 : own_D own_b15 31 (.aload_n 0) 1 := by decide +kernel
theorem own_d15_32 : own_D own_b15 32 (.getfield 45) 3 := by decide +kernel
theorem own_d15_35 : own_D own_b15 35 (.aload_n 0) 1 := by decide +kernel
theorem own_d15_36 : own_D own_b15 36 (.getfield 57) 3 := by decide +kernel
theorem own_d15_39 : own_D own_b15 39 (.aload_n 0) 1 := by decide +kernel
theorem own_d15_40 : own_D own_b15 40 (.getfield 69) 3 := by decide +kernel
theorem own_d15_43 : own_D own_b15 43 (.aload_n 0) 1 := by decide +kernel
theorem own_d15_44 : own_D own_b15 44 (.getfield 218) 3 := by decide +kernel
theorem own_d15_47 : own_D own_b15 47 (.aload_n 0) 1 := by decide +kernel
theorem own_d15_48 : own_D own_b15 48 (.getfield 72) 3 := by decide +kernel
theorem own_d15_51 : own_D own_b15 51 (.invokevirtual 255) 3 := by decide +kernel
theorem own_d15_54 : own_D own_b15 54 (.aload_n 0) 1 := by decide +kernel
theorem own_d15_55 : own_D own_b15 55 (.iload_n 2) 1 := by decide +kernel
theorem own_d15_56 : own_D own_b15 56 (.putfield 124) 3 := by decide +kernel
theorem own_d15_59 : own_D own_b15 59 .return_ 1 := by decide +kernel
theorem own_pd4 : parseMethodDescriptor "()Lcom/example/propagule/propagule/Trail;" = some ⟨[], some (.object "com/example/propagule/propagule/Trail")⟩ := by decide +kernel
theorem own_pd5 : parseMethodDescriptor "(Lcom/example/propagule/propagule/IntVar;IIJJ[III)V" = some ⟨[(.object "com/example/propagule/propagule/IntVar"), .int, .int, .long, .long, (.array .int), .int, .int], none⟩ := by decide +kernel
def own_Qsav (Z : State) (a : Addr) (mn : Int32) (mx : Int32) (sz : Int64) (bi : Int64) (rg : Addr) (fi : Int32) (la : Int32) (st : Int32) (mo : Addr) (sm : Int32) (ix : Int32) (wa : Addr) (tr : Addr) (it : Addr) (lt : Addr) (rt : Addr) (h0 : Heap) (n0 : Nat) (v : Option Value) (h : Heap) (L : List Loc) : Prop := v = none ∧ Fr n0 L ∧ Keep h0 h [a, tr, it, lt, rt] ∧ Exa Z h a own_z0 ∧ Fld Z h a own_z0 "min" "I" (.int mn) ∧ Fld Z h a own_z0 "max" "I" (.int mx) ∧ Fld Z h a own_z0 "size" "J" (.long sz) ∧ Fld Z h a own_z0 "ranges" "[I" (.ref rg) ∧ Fld Z h a own_z0 "first" "I" (.int fi) ∧ Fld Z h a own_z0 "last" "I" (.int la) ∧ Fld Z h a own_z0 "model" own_z4 (.ref mo) ∧ Fld Z h a own_z0 "small" "Z" (.int sm) ∧ Fld Z h a own_z0 "watchers" own_z3 (.ref wa) ∧ Fld Z h a own_z0 own_z9 "I" (.int (0 : Int32)) ∧ Fld Z h a own_z0 "boundsFrom" "I" (.int (0 : Int32)) ∧ Fld Z h a own_z0 "toldFrom" "I" (.int (0 : Int32))
theorem own_efsav (m : MethodId) (a : Addr) : entryFrame m #[(.ref a)] 3 = mkF m 0 #[rv a, .unset, .unset] [] := by first | (simp [entryFrame, mkF, argsToLocals, Value.category]; done) | rfl
set_option maxRecDepth 65536 in
set_option maxHeartbeats 16000000 in
theorem own_rmsav (l : Launch) (Z : State) (a0 : Array Value) (hw : own_HW Z a0) (ws : List Jvm.Cond) (a : Addr) (mn : Int32) (mx : Int32) (sz : Int64) (bi : Int64) (rg : Addr) (fi : Int32) (la : Int32) (st : Int32) (mo : Addr) (sm : Int32) (ix : Int32) (wa : Addr) (tr : Addr) (it : Addr) (lt : Addr) (rt : Addr) (h0 : Heap) (n0 : Nat) (Z0 : n0 ≤ h0.size) (E_a : Exa Z h0 a own_z0) (F_min_a : Fld Z h0 a own_z0 "min" "I" (.int mn)) (F_max_a : Fld Z h0 a own_z0 "max" "I" (.int mx)) (F_size_a : Fld Z h0 a own_z0 "size" "J" (.long sz)) (F_bits_a : Fld Z h0 a own_z0 "bits" "J" (.long bi)) (F_ranges_a : Fld Z h0 a own_z0 "ranges" "[I" (.ref rg)) (F_first_a : Fld Z h0 a own_z0 "first" "I" (.int fi)) (F_last_a : Fld Z h0 a own_z0 "last" "I" (.int la)) (F_stamp_a : Fld Z h0 a own_z0 "stamp" "I" (.int st)) (F_model_a : Fld Z h0 a own_z0 "model" own_z4 (.ref mo)) (F_small_a : Fld Z h0 a own_z0 "small" "Z" (.int sm)) (F_index_a : Fld Z h0 a own_z0 "index" "I" (.int ix)) (F_watchers_a : Fld Z h0 a own_z0 "watchers" own_z3 (.ref wa)) (F_watcherCount_a : Fld Z h0 a own_z0 own_z9 "I" (.int (0 : Int32))) (F_boundsFrom_a : Fld Z h0 a own_z0 "boundsFrom" "I" (.int (0 : Int32))) (F_toldFrom_a : Fld Z h0 a own_z0 "toldFrom" "I" (.int (0 : Int32))) (E_rg : Exa Z h0 rg "[I") (E_mo : Exa Z h0 mo own_z2) (F_trail_mo : Fld Z h0 mo own_z2 "trail" own_z7 (.ref tr)) (E_tr : Exa Z h0 tr own_z1) (F_depth_tr : Fld Z h0 tr own_z1 "depth" "I" (.int (0 : Int32))) (F_entries_tr : Fld Z h0 tr own_z1 "entries" "I" (.int (0 : Int32))) (F_ints_tr : Fld Z h0 tr own_z1 "ints" "[I" (.ref it)) (F_longs_tr : Fld Z h0 tr own_z1 "longs" "[J" (.ref lt)) (F_ranges_tr : Fld Z h0 tr own_z1 "ranges" "[[I" (.ref rt)) (P_it : own_AI Z h0 it 384 (fun _ => 0)) (P_lt : own_AJ Z h0 lt 128 (fun _ => 0)) (P_rt : own_AR Z h0 rt 64) (ne_a_tr : a ≠ tr) (ne_a_it : a ≠ it) (ne_a_lt : a ≠ lt) (ne_a_rt : a ≠ rt) (ne_tr_it : tr ≠ it) (ne_tr_lt : tr ≠ lt) (ne_tr_rt : tr ≠ rt) (ne_it_lt : it ≠ lt) (ne_it_rt : it ≠ rt) (ne_lt_rt : lt ≠ rt) (ne_mo_a : mo ≠ a) (ne_mo_tr : mo ≠ tr) (ne_mo_it : mo ≠ it) (ne_mo_lt : mo ≠ lt) (ne_mo_rt : mo ≠ rt) (ne_rg_a : rg ≠ a) (ne_rg_tr : rg ≠ tr) (ne_rg_it : rg ≠ it) (ne_rg_lt : rg ≠ lt) (ne_rg_rt : rg ≠ rt) (g_a : n0 ≤ a) (g_tr : n0 ≤ tr) (g_it : n0 ≤ it) (g_lt : n0 ≤ lt) (g_rt : n0 ≤ rt) :
    MetFree l (⟨own_z0, "save", "()V"⟩ : MethodName) (head1 (Jvm.Cond.code (⟨own_z0, "save", "()V"⟩ : MethodName) prog_37_method_36_code 3 none :: ws) ({ frames := 2, cells := 0, slots := 0, locals := 37 } : Room)) (fun aa UU => aa = #[(.ref a)] ∧ Z.Warmed39 UU.vm ∧ UU.heap = h0) (fun _ _ _ _ _ => True) (fun _ U o U' => ∃ v L, o = .returned v ∧ own_Qsav Z a mn mx sz bi rg fi la st mo sm ix wa tr it lt rt h0 n0 v U'.heap L ∧ FrameEnd U o U' L ({ frames := 2, cells := 0, slots := 0, locals := 37 } : Room).cells ({ frames := 2, cells := 0, slots := 0, locals := 37 } : Room).slots) := by
  refine MetFree.of_bodySF (plainFor_of_name own_pn5) hisR ?_
  intro p e s m args below meth c s₁ Bd hml hP hK
  obtain ⟨rfl, hZ, hh⟩ := hP
  have hx := Bd.exec
  have hlk := Bd.notSynchronized
  have hby := Bd.bytes
  have hret := Bd.returns
  have hown := findClass_of_methodNamed Bd.named
  have hnm := (name_of_methodNamed Bd.named Bd.method).1
  have X0 : Stand p l e ({ frames := 2, cells := 0, slots := 0, locals := 37 } : Room) s m #[(.ref a)] below meth c s₁ [] 0 0 := Stand.of_body Bd
  have e0 : s₁.heap = h0 := by rw [← hh, Bd.state]; rfl
  have N0 := Fr.nil n0
  refine own_cast (own_efsav m a) ?_
  show own_Go p e below s s₁ _ (own_Qsav Z a mn mx sz bi rg fi la st mo sm ix wa tr it lt rt h0 n0) 0 0
  have K0 : Keep h0 h0 [a, tr, it, lt, rt] := Keep.refl _ _
  refine own_st (g' := (mkF m 1 #[rv a, .unset, .unset] [(.ref a)])) (fun tt_ kk_ => XS.aloadN X0.here hx rfl (hb hby own_d15_0) rfl rfl kk_) ?_
  refine own_gG X0 hx hZ hown (own_w hw 104 rfl) e0 F_model_a rfl rfl (hb hby own_d15_1) (fun {T573} X573 e573 => ?_)
  obtain ⟨cq574, kq574, q574a, q574b, q574c⟩ := isOf hZ e573 E_mo
  obtain ⟨_, _, ⟨T574, L574, k574, n574⟩, -, X574, ⟨Lc574, hQ574, l574, y574, z574⟩, st574⟩ := X573.virtualBack hx (y := (⟨own_z2, "trail", own_z27⟩ : MethodName)) (z := (⟨own_z2, "trail", own_z27⟩ : MethodName)) hown (mvT hZ (own_w hw 176 rfl)) (mvT hZ (own_w hw 177 rfl)) (notFace_of_selects (args := #[]) (mvT hZ (own_w hw 179 rfl))) (mvT hZ (own_w hw 179 rfl)) (mvT hZ (own_w hw 178 rfl)) (by decide) (backOf (W := 0) (own_rmgtra l Z a0 hw [] mo tr h0 n0 Z0 F_trail_mo) hZ (own_w hw 180 rfl) (own_w hw 2 rfl) (by decide) (by decide)) q574a q574c (g := (mkF m 4 #[rv a, .unset, .unset] [(.ref mo)])) rfl (by rw [hml]; rfl) (Steps.refl _) (argsL := []) (rest := []) (lenOf own_pd4 rfl) rfl (by show 2 * 0 + _ ≤ _; exact Nat.le_of_eq rfl) (hb hby own_d15_4) (fun _ _ => ⟨rfl, e573, (by decide : 0 + 0 ≤ _), (by decide : 0 + 0 ≤ _)⟩)
  dsimp only [Pt.U, Pt.locs, Pt.cells, Pt.slots] at X574 l574 y574 z574 st574 hQ574
  rw [l574, y574, z574] at X574
  obtain ⟨rfl, N574q, e574⟩ := hQ574
  have N574 := Fr.app N0 N574q
  refine own_st (fun t k => st574.trans k) ?_
  refine own_st (g' := (mkF m 9 #[rv a, rv tr, .unset] [(.ref tr)])) (fun tt_ kk_ => XS.astoreN X574.here hx rfl (hb hby own_d15_7) rfl rfl (l' := #[rv a, rv tr, .unset]) rfl (XS.aloadN X574.here hx rfl (hb hby own_d15_8) rfl rfl kk_)) ?_
  obtain ⟨cq575, kq575, q575a, q575b, q575c⟩ := isOf hZ e574 E_tr
  obtain ⟨_, _, ⟨T575, L575, k575, n575⟩, -, X575, ⟨Lc575, hQ575, l575, y575, z575⟩, st575⟩ := X574.virtualBack hx (y := (⟨own_z1, "depth", "()I"⟩ : MethodName)) (z := (⟨own_z1, "depth", "()I"⟩ : MethodName)) hown (mvT hZ (own_w hw 181 rfl)) (mvT hZ (own_w hw 182 rfl)) (notFace_of_selects (args := #[]) (mvT hZ (own_w hw 184 rfl))) (mvT hZ (own_w hw 184 rfl)) (mvT hZ (own_w hw 183 rfl)) (by decide) (backOf (W := 0) (own_rmgdep l Z a0 hw [] tr (0 : Int32) h0 n0 Z0 F_depth_tr) hZ (own_w hw 185 rfl) (own_w hw 39 rfl) (by decide) (by decide)) q575a q575c (g := (mkF m 9 #[rv a, rv tr, .unset] [(.ref tr)])) rfl (by rw [hml]; rfl) (Steps.refl _) (argsL := []) (rest := []) (lenOf own_pd3 rfl) rfl (by show 2 * 0 + _ ≤ _; exact Nat.le_of_eq rfl) (hb hby own_d15_9) (fun _ _ => ⟨rfl, e574, (by decide : 0 + 0 ≤ _), (by decide : 0 + 0 ≤ _)⟩)
  dsimp only [Pt.U, Pt.locs, Pt.cells, Pt.slots] at X575 l575 y575 z575 st575 hQ575
  rw [l575, y575, z575] at X575
  obtain ⟨rfl, N575q, e575⟩ := hQ575
  have N575 := Fr.app N574 N575q
  refine own_st (fun t k => st575.trans k) ?_
  refine own_st (g' := (mkF m 14 #[rv a, rv tr, iv (0 : Int32)] [(.ref a)])) (fun tt_ kk_ => XS.istoreN X575.here hx rfl (hb hby own_d15_12) rfl (l' := #[rv a, rv tr, iv (0 : Int32)]) rfl (XS.aloadN X575.here hx rfl (hb hby own_d15_13) rfl rfl kk_)) ?_
  refine own_gG X575 hx hZ hown (own_w hw 137 rfl) e575 F_stamp_a rfl rfl (hb hby own_d15_14) (fun {T576} X576 e576 => ?_)
  refine own_st (g' := (mkF m 18 #[rv a, rv tr, iv (0 : Int32)] [(.int (0 : Int32)), (.int st)])) (fun tt_ kk_ => XS.iloadN X576.here hx rfl (hb hby own_d15_17) rfl kk_) ?_
  by_cases hc18 : st = (0 : Int32)
  · skip
    refine own_st (g' := (mkF m 59 #[rv a, rv tr, iv (0 : Int32)] [])) (fun tt_ kk_ => XS.icmpYes X576.here hx rfl (pc0 := 18) (pc' := 59) rfl (hb hby own_d15_18) rfl (teq hc18).1 (by decide) (by decide) kk_) ?_
    exact own_retV X576 hx hlk hret (hb hby own_d15_59) (by decide) (by decide) (by rw [e576]; exact ⟨rfl, N575, K0, E_a, F_min_a, F_max_a, F_size_a, F_ranges_a, F_first_a, F_last_a, F_model_a, F_small_a, F_watchers_a, F_watcherCount_a, F_boundsFrom_a, F_toldFrom_a⟩)
  refine own_st (g' := (mkF m 24 #[rv a, rv tr, iv (0 : Int32)] [(.ref a), (.ref a), (.ref tr)])) (fun tt_ kk_ => XS.icmpNo X576.here hx rfl (hb hby own_d15_18) rfl (feq hc18).1 (XS.aloadN X576.here hx rfl (hb hby own_d15_21) rfl rfl (XS.aloadN X576.here hx rfl (hb hby own_d15_22) rfl rfl (XS.aloadN X576.here hx rfl (hb hby own_d15_23) rfl rfl kk_)))) ?_
  refine own_gG X576 hx hZ hown (own_w hw 110 rfl) e576 F_min_a rfl rfl (hb hby own_d15_24) (fun {T577} X577 e577 => ?_)
  refine own_st (g' := (mkF m 28 #[rv a, rv tr, iv (0 : Int32)] [(.ref a), (.int mn), (.ref a), (.ref tr)])) (fun tt_ kk_ => XS.aloadN X577.here hx rfl (hb hby own_d15_27) rfl rfl kk_) ?_
  refine own_gG X577 hx hZ hown (own_w hw 112 rfl) e577 F_max_a rfl rfl (hb hby own_d15_28) (fun {T578} X578 e578 => ?_)
  refine own_st (g' := (mkF m 32 #[rv a, rv tr, iv (0 : Int32)] [(.ref a), (.int mx), (.int mn), (.ref a), (.ref tr)])) (fun tt_ kk_ => XS.aloadN X578.here hx rfl (hb hby own_d15_31) rfl rfl kk_) ?_
  refine own_gG X578 hx hZ hown (own_w hw 118 rfl) e578 F_size_a rfl rfl (hb hby own_d15_32) (fun {T579} X579 e579 => ?_)
  refine own_st (g' := (mkF m 36 #[rv a, rv tr, iv (0 : Int32)] [(.ref a), (.long sz), (.int mx), (.int mn), (.ref a), (.ref tr)])) (fun tt_ kk_ => XS.aloadN X579.here hx rfl (hb hby own_d15_35) rfl rfl kk_) ?_
  refine own_gG X579 hx hZ hown (own_w hw 124 rfl) e579 F_bits_a rfl rfl (hb hby own_d15_36) (fun {T580} X580 e580 => ?_)
  refine own_st (g' := (mkF m 40 #[rv a, rv tr, iv (0 : Int32)] [(.ref a), (.long bi), (.long sz), (.int mx), (.int mn), (.ref a), (.ref tr)])) (fun tt_ kk_ => XS.aloadN X580.here hx rfl (hb hby own_d15_39) rfl rfl kk_) ?_
  refine own_gG X580 hx hZ hown (own_w hw 131 rfl) e580 F_ranges_a rfl rfl (hb hby own_d15_40) (fun {T581} X581 e581 => ?_)
  refine own_st (g' := (mkF m 44 #[rv a, rv tr, iv (0 : Int32)] [(.ref a), (.ref rg), (.long bi), (.long sz), (.int mx), (.int mn), (.ref a), (.ref tr)])) (fun tt_ kk_ => XS.aloadN X581.here hx rfl (hb hby own_d15_43) rfl rfl kk_) ?_
  refine own_gG X581 hx hZ hown (own_w hw 133 rfl) e581 F_first_a rfl rfl (hb hby own_d15_44) (fun {T582} X582 e582 => ?_)
  refine own_st (g' := (mkF m 48 #[rv a, rv tr, iv (0 : Int32)] [(.ref a), (.int fi), (.ref rg), (.long bi), (.long sz), (.int mx), (.int mn), (.ref a), (.ref tr)])) (fun tt_ kk_ => XS.aloadN X582.here hx rfl (hb hby own_d15_47) rfl rfl kk_) ?_
  refine own_gG X582 hx hZ hown (own_w hw 135 rfl) e582 F_last_a rfl rfl (hb hby own_d15_48) (fun {T583} X583 e583 => ?_)
  obtain ⟨cq584, kq584, q584a, q584b, q584c⟩ := isOf hZ e583 E_tr
  obtain ⟨_, _, ⟨T584, L584, k584, n584⟩, -, X584, ⟨Lc584, hQ584, l584, y584, z584⟩, st584⟩ := X583.virtualBack hx (y := (⟨own_z1, "save", own_z21⟩ : MethodName)) (z := (⟨own_z1, "save", own_z21⟩ : MethodName)) hown (mvT hZ (own_w hw 188 rfl)) (mvT hZ (own_w hw 189 rfl)) (notFace_of_selects (args := #[]) (mvT hZ (own_w hw 191 rfl))) (mvT hZ (own_w hw 191 rfl)) (mvT hZ (own_w hw 190 rfl)) (by decide) (backOf (W := 0) (own_rmtsv l Z a0 hw [] tr a mn mx sz bi rg fi la it lt rt ix st h0 n0 Z0 E_tr F_depth_tr F_entries_tr F_ints_tr F_longs_tr F_ranges_tr P_it P_lt P_rt E_a F_index_a F_stamp_a E_rg ne_a_tr ne_a_it ne_a_lt ne_a_rt ne_tr_it ne_tr_lt ne_tr_rt ne_it_lt ne_it_rt ne_lt_rt g_tr g_it g_lt g_rt) hZ (own_w hw 192 rfl) (own_w hw 39 rfl) (by decide) (by decide)) q584a q584c (g := (mkF m 51 #[rv a, rv tr, iv (0 : Int32)] [(.int la), (.int fi), (.ref rg), (.long bi), (.long sz), (.int mx), (.int mn), (.ref a), (.ref tr)])) rfl (by rw [hml]; rfl) (Steps.refl _) (argsL := [(.ref a), (.int mn), (.int mx), (.long sz), (.long bi), (.ref rg), (.int fi), (.int la)]) (rest := []) (lenOf own_pd5 rfl) rfl (by show 2 * 0 + _ ≤ _; exact Nat.le_of_eq rfl) (hb hby own_d15_51) (fun _ _ => ⟨rfl, e583, (by decide : 0 + 0 ≤ _), (by decide : 0 + 0 ≤ _)⟩)
  dsimp only [Pt.U, Pt.locs, Pt.cells, Pt.slots] at X584 l584 y584 z584 st584 hQ584
  rw [l584, y584, z584] at X584
  obtain ⟨rfl, N584q, K584q⟩ := hQ584
  obtain ⟨h584, e584⟩ : ∃ z, T584.heap = z := ⟨_, rfl⟩
  rw [e584] at K584q
  have Z584 : n0 ≤ h584.size := Nat.le_trans Z0 K584q.1
  have K584 : Keep h0 h584 [a, tr, it, lt, rt] := K0.trans K584q (allS (P := fun x => x ∈ [a, tr, it, lt, rt] ∨ h0.size ≤ x) (Or.inl (List.mem_of_getElem? (i := 1) rfl)) (allS (P := fun x => x ∈ [a, tr, it, lt, rt] ∨ h0.size ≤ x) (Or.inl (List.mem_of_getElem? (i := 2) rfl)) (allS (P := fun x => x ∈ [a, tr, it, lt, rt] ∨ h0.size ≤ x) (Or.inl (List.mem_of_getElem? (i := 3) rfl)) (allS (P := fun x => x ∈ [a, tr, it, lt, rt] ∨ h0.size ≤ x) (Or.inl (List.mem_of_getElem? (i := 4) rfl)) all0))))
  have N584 := Fr.app N575 N584q
  refine own_st (fun t k => st584.trans k) ?_
  refine own_st (g' := (mkF m 56 #[rv a, rv tr, iv (0 : Int32)] [(.int (0 : Int32)), (.ref a)])) (fun tt_ kk_ => XS.aloadN X584.here hx rfl (hb hby own_d15_54) rfl rfl (XS.iloadN X584.here hx rfl (hb hby own_d15_55) rfl kk_)) ?_
  have F586 := (F_stamp_a.keep K584q (ninS ne_a_tr (ninS ne_a_it (ninS ne_a_lt (ninS ne_a_rt nin0)))))
  have F587 := (E_a.keep K584q)
  obtain ⟨T585, h585, X585, e585, W585, st585⟩ := putF X584 hx hZ hown (host := "") (Or.inl (own_w hw 137 rfl)) Via.refl e584 F586 F587 (Or.inl (own_w hw 138 rfl)) (own_w hw 84 rfl) (ty := .int) (by decide) rfl rfl (g := (mkF m 56 #[rv a, rv tr, iv (0 : Int32)] [(.int (0 : Int32)), (.ref a)])) rfl rfl (hb hby own_d15_56)
  have N585 := Fr.snoc X585 N584 g_a
  have Z585 : n0 ≤ h585.size := Nat.le_trans Z584 (Keep.of_wr W585).1
  have K585 : Keep h0 h585 [a, tr, it, lt, rt] := K584.wr W585 (Or.inl (List.mem_of_getElem? (i := 0) rfl))
  have F585 : Fld Z h585 a own_z0 "stamp" "I" (.int (0 : Int32)) := F586.same W585
  refine own_st st585 ?_
  have F588 := (F587.wr W585)
  have F589 := ((F_min_a.keep K584q (ninS ne_a_tr (ninS ne_a_it (ninS ne_a_lt (ninS ne_a_rt nin0))))).other W585 (Or.inr (Ne.symm (own_sn200 hw))))
  have F590 := ((F_max_a.keep K584q (ninS ne_a_tr (ninS ne_a_it (ninS ne_a_lt (ninS ne_a_rt nin0))))).other W585 (Or.inr (Ne.symm (own_sn201 hw))))
  have F591 := ((F_size_a.keep K584q (ninS ne_a_tr (ninS ne_a_it (ninS ne_a_lt (ninS ne_a_rt nin0))))).other W585 (Or.inr (Ne.symm (own_sn204 hw))))
  have F592 := ((F_ranges_a.keep K584q (ninS ne_a_tr (ninS ne_a_it (ninS ne_a_lt (ninS ne_a_rt nin0))))).other W585 (Or.inr (Ne.symm (own_sn246 hw))))
  have F593 := ((F_first_a.keep K584q (ninS ne_a_tr (ninS ne_a_it (ninS ne_a_lt (ninS ne_a_rt nin0))))).other W585 (Or.inr (Ne.symm (own_sn247 hw))))
  have F594 := ((F_last_a.keep K584q (ninS ne_a_tr (ninS ne_a_it (ninS ne_a_lt (ninS ne_a_rt nin0))))).other W585 (Or.inr (Ne.symm (own_sn248 hw))))
  have F595 := ((F_model_a.keep K584q (ninS ne_a_tr (ninS ne_a_it (ninS ne_a_lt (ninS ne_a_rt nin0))))).other W585 (Or.inr (Ne.symm (own_sn197 hw))))
  have F596 := ((F_small_a.keep K584q (ninS ne_a_tr (ninS ne_a_it (ninS ne_a_lt (ninS ne_a_rt nin0))))).other W585 (Or.inr (Ne.symm (own_sn205 hw))))
  have F597 := ((F_watchers_a.keep K584q (ninS ne_a_tr (ninS ne_a_it (ninS ne_a_lt (ninS ne_a_rt nin0))))).other W585 (Or.inr (Ne.symm (own_sn195 hw))))
  have F598 := ((F_watcherCount_a.keep K584q (ninS ne_a_tr (ninS ne_a_it (ninS ne_a_lt (ninS ne_a_rt nin0))))).other W585 (Or.inr (own_sn252 hw)))
  have F599 := ((F_boundsFrom_a.keep K584q (ninS ne_a_tr (ninS ne_a_it (ninS ne_a_lt (ninS ne_a_rt nin0))))).other W585 (Or.inr (own_sn256 hw)))
  have F600 := ((F_toldFrom_a.keep K584q (ninS ne_a_tr (ninS ne_a_it (ninS ne_a_lt (ninS ne_a_rt nin0))))).other W585 (Or.inr (own_sn260 hw)))
  exact own_retV X585 hx hlk hret (hb hby own_d15_59) (by decide) (by decide) (by rw [e585]; exact ⟨rfl, N585, K585, F588, F589, F590, F591, F592, F593, F594, F595, F596, F597, F598, F599, F600⟩)
theorem own_d24_0 : own_D own_b24 0 (.iload_n 2) 1 := by decide +kernel
theorem own_d24_1 : own_D own_b24 1 (.istore 4) 2 := by decide +kernel
theorem own_d24_3 : own_D own_b24 3 (.iload 4) 2 := by decide +kernel
theorem own_d24_5 : own_D own_b24 5 (.iload_n 3) 1 := by decide +kernel
theorem own_d24_6 : own_D own_b24 6 (.if_icmp .ge 64) 3 := by decide +kernel
theorem own_d24_70 : own_D own_b24 70 .return_ 1 := by decide +kernel
def own_Qsch (Z : State) (a : Addr) (wa : Addr) (h0 : Heap) (n0 : Nat) (v : Option Value) (h : Heap) (L : List Loc) : Prop := v = none ∧ Fr n0 L ∧ h = h0
theorem own_efsch (m : MethodId) (a : Addr) (wa : Addr) : entryFrame m #[(.ref a), (.ref wa), (.int (0 : Int32)), (.int (0 : Int32))] 6 = mkF m 0 #[rv a, rv wa, iv (0 : Int32), iv (0 : Int32), .unset, .unset] [] := by first | (simp [entryFrame, mkF, argsToLocals, Value.category]; done) | rfl
set_option maxRecDepth 65536 in
set_option maxHeartbeats 16000000 in
theorem own_rmsch (l : Launch) (Z : State) (a0 : Array Value) (hw : own_HW Z a0) (ws : List Jvm.Cond) (a : Addr) (wa : Addr) (h0 : Heap) (n0 : Nat) (Z0 : n0 ≤ h0.size) :
    MetFree l (⟨own_z2, "schedule", own_z14⟩ : MethodName) (head1 (Jvm.Cond.code (⟨own_z2, "schedule", own_z14⟩ : MethodName) prog_46_method_19_code 6 none :: ws) ({ frames := 0, cells := 0, slots := 0, locals := 0 } : Room)) (fun aa UU => aa = #[(.ref a), (.ref wa), (.int (0 : Int32)), (.int (0 : Int32))] ∧ Z.Warmed39 UU.vm ∧ UU.heap = h0) (fun _ _ _ _ _ => True) (fun _ U o U' => ∃ v L, o = .returned v ∧ own_Qsch Z a wa h0 n0 v U'.heap L ∧ FrameEnd U o U' L ({ frames := 0, cells := 0, slots := 0, locals := 0 } : Room).cells ({ frames := 0, cells := 0, slots := 0, locals := 0 } : Room).slots) := by
  refine MetFree.of_bodySF (plainFor_of_name own_pn4) hisR ?_
  intro p e s m args below meth c s₁ Bd hml hP hK
  obtain ⟨rfl, hZ, hh⟩ := hP
  have hx := Bd.exec
  have hlk := Bd.notSynchronized
  have hby := Bd.bytes
  have hret := Bd.returns
  have hown := findClass_of_methodNamed Bd.named
  have hnm := (name_of_methodNamed Bd.named Bd.method).1
  have X0 : Stand p l e ({ frames := 0, cells := 0, slots := 0, locals := 0 } : Room) s m #[(.ref a), (.ref wa), (.int (0 : Int32)), (.int (0 : Int32))] below meth c s₁ [] 0 0 := Stand.of_body Bd
  have e0 : s₁.heap = h0 := by rw [← hh, Bd.state]; rfl
  have N0 := Fr.nil n0
  refine own_cast (own_efsch m a wa) ?_
  show own_Go p e below s s₁ _ (own_Qsch Z a wa h0 n0) 0 0
  refine own_st (g' := (mkF m 70 #[rv a, rv wa, iv (0 : Int32), iv (0 : Int32), iv (0 : Int32), .unset] [])) (fun tt_ kk_ => XS.iloadN X0.here hx rfl (hb hby own_d24_0) rfl (XS.istore X0.here hx rfl (hb hby own_d24_1) rfl (l' := #[rv a, rv wa, iv (0 : Int32), iv (0 : Int32), iv (0 : Int32), .unset]) rfl (XS.iload X0.here hx rfl (hb hby own_d24_3) rfl (XS.iloadN X0.here hx rfl (hb hby own_d24_5) rfl (XS.icmpYes X0.here hx rfl (pc0 := 6) (pc' := 70) rfl (hb hby own_d24_6) rfl (flt (by decide : ¬ ((0 : Int32) < (0 : Int32)))).2.1 (by decide) (by decide) kk_))))) ?_
  exact own_retV X0 hx hlk hret (hb hby own_d24_70) (by decide) (by decide) (by rw [e0]; exact ⟨rfl, N0, rfl⟩)
theorem own_d23_0 : own_D own_b23 0 (.aload_n 1) 1 := by decide +kernel
theorem own_d23_1 : own_D own_b23 1 (.getstatic 224) 3 := by decide +kernel
theorem own_d23_4 : own_D own_b23 4 (.if_acmp .ne 7) 3 := by decide +kernel
theorem own_d23_7 : own_D own_b23 7 (.iconst 0) 1 := by decide +kernel
theorem own_d23_8 : own_D own_b23 8 (.goto 21) 3 := by decide +kernel
theorem own_d23_11 : own_D own_b23 11 (.aload_n 1) 1 := by decide +kernel
theorem own_d23_12 : own_D own_b23 12 (.getstatic 228) 3 := by decide +kernel
theorem own_d23_15 : own_D own_b23 15 (.if_acmp .ne 10) 3 := by decide +kernel
theorem own_d23_18 : own_D own_b23 18 (.aload_n 0) 1 := by decide +kernel
theorem own_d23_19 : own_D own_b23 19 (.getfield 189) 3 := by decide +kernel
theorem own_d23_22 : own_D own_b23 22 (.goto 7) 3 := by decide +kernel
theorem own_d23_29 : own_D own_b23 29 (.istore_n 2) 1 := by decide +kernel
theorem own_d23_30 : own_D own_b23 30 (.aload_n 0) 1 := by decide +kernel
theorem own_d23_31 : own_D own_b23 31 (.getfield 199) 3 := by decide +kernel
theorem own_d23_34 : own_D own_b23 34 (.istore_n 3) 1 := by decide +kernel
theorem own_d23_35 : own_D own_b23 35 (.iload_n 3) 1 := by decide +kernel
theorem own_d23_36 : own_D own_b23 36 (.aload_n 0) 1 := by decide +kernel
theorem own_d23_37 : own_D own_b23 37 (.getfield 202) 3 := by decide +kernel
theorem own_d23_40 : own_D own_b23 40 (.if_icmp .ge 29) 3 := by decide +kernel
theorem own_d23_69 : own_D own_b23 69 (.aload_n 0) 1 := by decide +kernel
theorem own_d23_70 : own_D own_b23 70 (.getfield 21) 3 := by decide +kernel
theorem own_d23_73 : own_D own_b23 73 (.aload_n 0) 1 := by decide +kernel
theorem own_d23_74 : own_D own_b23 74 (.getfield 11) 3 := by decide +kernel
theorem own_d23_77 : own_D own_b23 77 (.iload_n 2) 1 := by decide +kernel
theorem own_d23_78 : own_D own_b23 78 (.aload_n 0) 1 := by decide +kernel
theorem own_d23_79 : own_D own_b23 79 (.getfield 202) 3 := by decide +kernel
theorem own_d23_82 : own_D own_b23 82 (.invokevirtual 262) 3 := by decide +kernel
theorem own_d23_85 : own_D own_b23 85 .return_ 1 := by decide +kernel
theorem own_pd6 : parseMethodDescriptor "([Lcom/example/propagule/propagule/Constraint;II)V" = some ⟨[(.array (.object "com/example/propagule/propagule/Constraint")), .int, .int], none⟩ := by decide +kernel
def own_Qwak (Z : State) (a : Addr) (eb : Addr) (ef : Addr) (mo : Addr) (wa : Addr) (h0 : Heap) (n0 : Nat) (v : Option Value) (h : Heap) (L : List Loc) : Prop := v = none ∧ Fr n0 L ∧ h = h0
theorem own_efwak (m : MethodId) (a : Addr) (eb : Addr) : entryFrame m #[(.ref a), (.ref eb)] 4 = mkF m 0 #[rv a, rv eb, .unset, .unset] [] := by first | (simp [entryFrame, mkF, argsToLocals, Value.category]; done) | rfl
set_option maxRecDepth 65536 in
set_option maxHeartbeats 16000000 in
theorem own_rmwak (l : Launch) (Z : State) (a0 : Array Value) (hw : own_HW Z a0) (ws : List Jvm.Cond) (a : Addr) (eb : Addr) (ef : Addr) (mo : Addr) (wa : Addr) (h0 : Heap) (n0 : Nat) (Z0 : n0 ≤ h0.size) (E_mo : Exa Z h0 mo own_z2) (F_model_a : Fld Z h0 a own_z0 "model" own_z4 (.ref mo)) (F_watchers_a : Fld Z h0 a own_z0 "watchers" own_z3 (.ref wa)) (F_watcherCount_a : Fld Z h0 a own_z0 own_z9 "I" (.int (0 : Int32))) (F_boundsFrom_a : Fld Z h0 a own_z0 "boundsFrom" "I" (.int (0 : Int32))) (F_toldFrom_a : Fld Z h0 a own_z0 "toldFrom" "I" (.int (0 : Int32))) (S_f : Sta Z h0 own_z6 "FIX" own_z5 (.ref ef)) (S_b : Sta Z h0 own_z6 "BOUNDS" own_z5 (.ref eb)) :
    MetFree l (⟨own_z0, "wake", own_z11⟩ : MethodName) (head1 (Jvm.Cond.code (⟨own_z0, "wake", own_z11⟩ : MethodName) prog_37_method_37_code 4 none :: ws) ({ frames := 1, cells := 0, slots := 0, locals := 17 } : Room)) (fun aa UU => aa = #[(.ref a), (.ref eb)] ∧ Z.Warmed39 UU.vm ∧ UU.heap = h0) (fun _ _ _ _ _ => True) (fun _ U o U' => ∃ v L, o = .returned v ∧ own_Qwak Z a eb ef mo wa h0 n0 v U'.heap L ∧ FrameEnd U o U' L ({ frames := 1, cells := 0, slots := 0, locals := 17 } : Room).cells ({ frames := 1, cells := 0, slots := 0, locals := 17 } : Room).slots) := by
  refine MetFree.of_bodySF (plainFor_of_name own_pn5) hisR ?_
  intro p e s m args below meth c s₁ Bd hml hP hK
  obtain ⟨rfl, hZ, hh⟩ := hP
  have hx := Bd.exec
  have hlk := Bd.notSynchronized
  have hby := Bd.bytes
  have hret := Bd.returns
  have hown := findClass_of_methodNamed Bd.named
  have hnm := (name_of_methodNamed Bd.named Bd.method).1
  have X0 : Stand p l e ({ frames := 1, cells := 0, slots := 0, locals := 17 } : Room) s m #[(.ref a), (.ref eb)] below meth c s₁ [] 0 0 := Stand.of_body Bd
  have e0 : s₁.heap = h0 := by rw [← hh, Bd.state]; rfl
  have N0 := Fr.nil n0
  refine own_cast (own_efwak m a eb) ?_
  show own_Go p e below s s₁ _ (own_Qwak Z a eb ef mo wa h0 n0) 0 0
  refine own_st (g' := (mkF m 1 #[rv a, rv eb, .unset, .unset] [(.ref eb)])) (fun tt_ kk_ => XS.aloadN X0.here hx rfl (hb hby own_d23_0) rfl rfl kk_) ?_
  obtain ⟨T601, X601, e601, st601⟩ := getS2 X0 hx hZ hown (host := "") (Or.inl (own_w hw 221 rfl)) Via.refl e0 S_f (g := (mkF m 1 #[rv a, rv eb, .unset, .unset] [(.ref eb)])) rfl (hb hby own_d23_1)
  refine own_st st601 ?_
  by_cases ha602 : eb = ef
  · skip
    refine own_st (g' := (mkF m 31 #[rv a, rv eb, iv (0 : Int32), .unset] [(.ref a)])) (fun tt_ kk_ => Jvm.RoadKit.acmp (g := (mkF m 4 #[rv a, rv eb, .unset, .unset] [(.ref ef), (.ref eb)])) X601 hx rfl rfl rfl (pc0 := 4) (pc' := 7) (same := true) rfl (hb hby own_d23_4) rfl (decide_eq_true (congrArg Value.ref ha602)) (by decide) (by decide) (XS.iconst X601.here hx rfl (hb hby own_d23_7) (XS.goto X601.here hx rfl (pc0 := 8) (pc' := 29) rfl (hb hby own_d23_8) (by decide) (by decide) (XS.istoreN X601.here hx rfl (hb hby own_d23_29) rfl (l' := #[rv a, rv eb, iv (0 : Int32), .unset]) rfl (XS.aloadN X601.here hx rfl (hb hby own_d23_30) rfl rfl kk_))))) ?_
    refine own_gG X601 hx hZ hown (own_w hw 225 rfl) e601 F_toldFrom_a rfl rfl (hb hby own_d23_31) (fun {T603} X603 e603 => ?_)
    refine own_st (g' := (mkF m 37 #[rv a, rv eb, iv (0 : Int32), iv (0 : Int32)] [(.ref a), (.int (0 : Int32))])) (fun tt_ kk_ => XS.istoreN X603.here hx rfl (hb hby own_d23_34) rfl (l' := #[rv a, rv eb, iv (0 : Int32), iv (0 : Int32)]) rfl (XS.iloadN X603.here hx rfl (hb hby own_d23_35) rfl (XS.aloadN X603.here hx rfl (hb hby own_d23_36) rfl rfl kk_))) ?_
    refine own_gG X603 hx hZ hown (own_w hw 227 rfl) e603 F_watcherCount_a rfl rfl (hb hby own_d23_37) (fun {T604} X604 e604 => ?_)
    refine own_st (g' := (mkF m 70 #[rv a, rv eb, iv (0 : Int32), iv (0 : Int32)] [(.ref a)])) (fun tt_ kk_ => XS.icmpYes X604.here hx rfl (pc0 := 40) (pc' := 69) rfl (hb hby own_d23_40) rfl (flt (by decide : ¬ ((0 : Int32) < (0 : Int32)))).2.1 (by decide) (by decide) (XS.aloadN X604.here hx rfl (hb hby own_d23_69) rfl rfl kk_)) ?_
    refine own_gG X604 hx hZ hown (own_w hw 104 rfl) e604 F_model_a rfl rfl (hb hby own_d23_70) (fun {T605} X605 e605 => ?_)
    refine own_st (g' := (mkF m 74 #[rv a, rv eb, iv (0 : Int32), iv (0 : Int32)] [(.ref a), (.ref mo)])) (fun tt_ kk_ => XS.aloadN X605.here hx rfl (hb hby own_d23_73) rfl rfl kk_) ?_
    refine own_gG X605 hx hZ hown (own_w hw 100 rfl) e605 F_watchers_a rfl rfl (hb hby own_d23_74) (fun {T606} X606 e606 => ?_)
    refine own_st (g' := (mkF m 79 #[rv a, rv eb, iv (0 : Int32), iv (0 : Int32)] [(.ref a), (.int (0 : Int32)), (.ref wa), (.ref mo)])) (fun tt_ kk_ => XS.iloadN X606.here hx rfl (hb hby own_d23_77) rfl (XS.aloadN X606.here hx rfl (hb hby own_d23_78) rfl rfl kk_)) ?_
    refine own_gG X606 hx hZ hown (own_w hw 227 rfl) e606 F_watcherCount_a rfl rfl (hb hby own_d23_79) (fun {T607} X607 e607 => ?_)
    obtain ⟨cq608, kq608, q608a, q608b, q608c⟩ := isOf hZ e607 E_mo
    obtain ⟨_, _, ⟨T608, L608, k608, n608⟩, -, X608, ⟨Lc608, hQ608, l608, y608, z608⟩, st608⟩ := X607.virtualBack hx (y := (⟨own_z2, "schedule", own_z14⟩ : MethodName)) (z := (⟨own_z2, "schedule", own_z14⟩ : MethodName)) hown (mvT hZ (own_w hw 229 rfl)) (mvT hZ (own_w hw 230 rfl)) (notFace_of_selects (args := #[]) (mvT hZ (own_w hw 232 rfl))) (mvT hZ (own_w hw 232 rfl)) (mvT hZ (own_w hw 231 rfl)) (by decide) (backOf (W := 0) (own_rmsch l Z a0 hw [] mo wa h0 n0 Z0 ) hZ (own_w hw 233 rfl) (own_w hw 2 rfl) (by decide) (by decide)) q608a q608c (g := (mkF m 82 #[rv a, rv eb, iv (0 : Int32), iv (0 : Int32)] [(.int (0 : Int32)), (.int (0 : Int32)), (.ref wa), (.ref mo)])) rfl (by rw [hml]; rfl) (Steps.refl _) (argsL := [(.ref wa), (.int (0 : Int32)), (.int (0 : Int32))]) (rest := []) (lenOf own_pd6 rfl) rfl (by show 2 * 0 + _ ≤ _; exact Nat.le_of_eq rfl) (hb hby own_d23_82) (fun _ _ => ⟨rfl, e607, (by decide : 0 + 0 ≤ _), (by decide : 0 + 0 ≤ _)⟩)
    dsimp only [Pt.U, Pt.locs, Pt.cells, Pt.slots] at X608 l608 y608 z608 st608 hQ608
    rw [l608, y608, z608] at X608
    obtain ⟨rfl, N608q, e608⟩ := hQ608
    have N608 := Fr.app N0 N608q
    refine own_st (fun t k => st608.trans k) ?_
    exact own_retV X608 hx hlk hret (hb hby own_d23_85) (by decide) (by decide) (by rw [e608]; exact ⟨rfl, N608, rfl⟩)
  refine own_st (g' := (mkF m 12 #[rv a, rv eb, .unset, .unset] [(.ref eb)])) (fun tt_ kk_ => Jvm.RoadKit.acmp (g := (mkF m 4 #[rv a, rv eb, .unset, .unset] [(.ref ef), (.ref eb)])) X601 hx rfl rfl rfl (pc0 := 4) (pc' := 11) (same := false) rfl (hb hby own_d23_4) rfl (decide_eq_false fun q => ha602 (Value.ref.inj q)) (by decide) (by decide) (XS.aloadN X601.here hx rfl (hb hby own_d23_11) rfl rfl kk_)) ?_
  obtain ⟨T609, X609, e609, st609⟩ := getS2 X601 hx hZ hown (host := "") (Or.inl (own_w hw 214 rfl)) Via.refl e601 S_b (g := (mkF m 12 #[rv a, rv eb, .unset, .unset] [(.ref eb)])) rfl (hb hby own_d23_12)
  refine own_st st609 ?_
  refine own_st (g' := (mkF m 19 #[rv a, rv eb, .unset, .unset] [(.ref a)])) (fun tt_ kk_ => Jvm.RoadKit.acmp (g := (mkF m 15 #[rv a, rv eb, .unset, .unset] [(.ref eb), (.ref eb)])) X609 hx rfl rfl rfl (pc0 := 15) (pc' := 18) (same := true) rfl (hb hby own_d23_15) rfl (decide_eq_true rfl) (by decide) (by decide) (XS.aloadN X609.here hx rfl (hb hby own_d23_18) rfl rfl kk_)) ?_
  refine own_gG X609 hx hZ hown (own_w hw 223 rfl) e609 F_boundsFrom_a rfl rfl (hb hby own_d23_19) (fun {T610} X610 e610 => ?_)
  refine own_st (g' := (mkF m 31 #[rv a, rv eb, iv (0 : Int32), .unset] [(.ref a)])) (fun tt_ kk_ => XS.goto X610.here hx rfl (pc0 := 22) (pc' := 29) rfl (hb hby own_d23_22) (by decide) (by decide) (XS.istoreN X610.here hx rfl (hb hby own_d23_29) rfl (l' := #[rv a, rv eb, iv (0 : Int32), .unset]) rfl (XS.aloadN X610.here hx rfl (hb hby own_d23_30) rfl rfl kk_))) ?_
  refine own_gG X610 hx hZ hown (own_w hw 225 rfl) e610 F_toldFrom_a rfl rfl (hb hby own_d23_31) (fun {T611} X611 e611 => ?_)
  refine own_st (g' := (mkF m 37 #[rv a, rv eb, iv (0 : Int32), iv (0 : Int32)] [(.ref a), (.int (0 : Int32))])) (fun tt_ kk_ => XS.istoreN X611.here hx rfl (hb hby own_d23_34) rfl (l' := #[rv a, rv eb, iv (0 : Int32), iv (0 : Int32)]) rfl (XS.iloadN X611.here hx rfl (hb hby own_d23_35) rfl (XS.aloadN X611.here hx rfl (hb hby own_d23_36) rfl rfl kk_))) ?_
  refine own_gG X611 hx hZ hown (own_w hw 227 rfl) e611 F_watcherCount_a rfl rfl (hb hby own_d23_37) (fun {T612} X612 e612 => ?_)
  refine own_st (g' := (mkF m 70 #[rv a, rv eb, iv (0 : Int32), iv (0 : Int32)] [(.ref a)])) (fun tt_ kk_ => XS.icmpYes X612.here hx rfl (pc0 := 40) (pc' := 69) rfl (hb hby own_d23_40) rfl (flt (by decide : ¬ ((0 : Int32) < (0 : Int32)))).2.1 (by decide) (by decide) (XS.aloadN X612.here hx rfl (hb hby own_d23_69) rfl rfl kk_)) ?_
  refine own_gG X612 hx hZ hown (own_w hw 104 rfl) e612 F_model_a rfl rfl (hb hby own_d23_70) (fun {T613} X613 e613 => ?_)
  refine own_st (g' := (mkF m 74 #[rv a, rv eb, iv (0 : Int32), iv (0 : Int32)] [(.ref a), (.ref mo)])) (fun tt_ kk_ => XS.aloadN X613.here hx rfl (hb hby own_d23_73) rfl rfl kk_) ?_
  refine own_gG X613 hx hZ hown (own_w hw 100 rfl) e613 F_watchers_a rfl rfl (hb hby own_d23_74) (fun {T614} X614 e614 => ?_)
  refine own_st (g' := (mkF m 79 #[rv a, rv eb, iv (0 : Int32), iv (0 : Int32)] [(.ref a), (.int (0 : Int32)), (.ref wa), (.ref mo)])) (fun tt_ kk_ => XS.iloadN X614.here hx rfl (hb hby own_d23_77) rfl (XS.aloadN X614.here hx rfl (hb hby own_d23_78) rfl rfl kk_)) ?_
  refine own_gG X614 hx hZ hown (own_w hw 227 rfl) e614 F_watcherCount_a rfl rfl (hb hby own_d23_79) (fun {T615} X615 e615 => ?_)
  obtain ⟨cq616, kq616, q616a, q616b, q616c⟩ := isOf hZ e615 E_mo
  obtain ⟨_, _, ⟨T616, L616, k616, n616⟩, -, X616, ⟨Lc616, hQ616, l616, y616, z616⟩, st616⟩ := X615.virtualBack hx (y := (⟨own_z2, "schedule", own_z14⟩ : MethodName)) (z := (⟨own_z2, "schedule", own_z14⟩ : MethodName)) hown (mvT hZ (own_w hw 229 rfl)) (mvT hZ (own_w hw 230 rfl)) (notFace_of_selects (args := #[]) (mvT hZ (own_w hw 232 rfl))) (mvT hZ (own_w hw 232 rfl)) (mvT hZ (own_w hw 231 rfl)) (by decide) (backOf (W := 0) (own_rmsch l Z a0 hw [] mo wa h0 n0 Z0 ) hZ (own_w hw 233 rfl) (own_w hw 2 rfl) (by decide) (by decide)) q616a q616c (g := (mkF m 82 #[rv a, rv eb, iv (0 : Int32), iv (0 : Int32)] [(.int (0 : Int32)), (.int (0 : Int32)), (.ref wa), (.ref mo)])) rfl (by rw [hml]; rfl) (Steps.refl _) (argsL := [(.ref wa), (.int (0 : Int32)), (.int (0 : Int32))]) (rest := []) (lenOf own_pd6 rfl) rfl (by show 2 * 0 + _ ≤ _; exact Nat.le_of_eq rfl) (hb hby own_d23_82) (fun _ _ => ⟨rfl, e615, (by decide : 0 + 0 ≤ _), (by decide : 0 + 0 ≤ _)⟩)
  dsimp only [Pt.U, Pt.locs, Pt.cells, Pt.slots] at X616 l616 y616 z616 st616 hQ616
  rw [l616, y616, z616] at X616
  obtain ⟨rfl, N616q, e616⟩ := hQ616
  have N616 := Fr.app N0 N616q
  refine own_st (fun t k => st616.trans k) ?_
  exact own_retV X616 hx hlk hret (hb hby own_d23_85) (by decide) (by decide) (by rw [e616]; exact ⟨rfl, N616, rfl⟩)
def own_Qwaf (Z : State) (a : Addr) (eb : Addr) (ef : Addr) (mo : Addr) (wa : Addr) (h0 : Heap) (n0 : Nat) (v : Option Value) (h : Heap) (L : List Loc) : Prop := v = none ∧ Fr n0 L ∧ h = h0
theorem own_efwaf (m : MethodId) (a : Addr) (ef : Addr) : entryFrame m #[(.ref a), (.ref ef)] 4 = mkF m 0 #[rv a, rv ef, .unset, .unset] [] := by first | (simp [entryFrame, mkF, argsToLocals, Value.category]; done) | rfl
set_option maxRecDepth 65536 in
set_option maxHeartbeats 16000000 in
theorem own_rmwaf (l : Launch) (Z : State) (a0 : Array Value) (hw : own_HW Z a0) (ws : List Jvm.Cond) (a : Addr) (eb : Addr) (ef : Addr) (mo : Addr) (wa : Addr) (h0 : Heap) (n0 : Nat) (Z0 : n0 ≤ h0.size) (E_mo : Exa Z h0 mo own_z2) (F_model_a : Fld Z h0 a own_z0 "model" own_z4 (.ref mo)) (F_watchers_a : Fld Z h0 a own_z0 "watchers" own_z3 (.ref wa)) (F_watcherCount_a : Fld Z h0 a own_z0 own_z9 "I" (.int (0 : Int32))) (F_boundsFrom_a : Fld Z h0 a own_z0 "boundsFrom" "I" (.int (0 : Int32))) (F_toldFrom_a : Fld Z h0 a own_z0 "toldFrom" "I" (.int (0 : Int32))) (S_f : Sta Z h0 own_z6 "FIX" own_z5 (.ref ef)) (S_b : Sta Z h0 own_z6 "BOUNDS" own_z5 (.ref eb)) :
    MetFree l (⟨own_z0, "wake", own_z11⟩ : MethodName) (head1 (Jvm.Cond.code (⟨own_z0, "wake", own_z11⟩ : MethodName) prog_37_method_37_code 4 none :: ws) ({ frames := 1, cells := 0, slots := 0, locals := 17 } : Room)) (fun aa UU => aa = #[(.ref a), (.ref ef)] ∧ Z.Warmed39 UU.vm ∧ UU.heap = h0) (fun _ _ _ _ _ => True) (fun _ U o U' => ∃ v L, o = .returned v ∧ own_Qwaf Z a eb ef mo wa h0 n0 v U'.heap L ∧ FrameEnd U o U' L ({ frames := 1, cells := 0, slots := 0, locals := 17 } : Room).cells ({ frames := 1, cells := 0, slots := 0, locals := 17 } : Room).slots) := by
  refine MetFree.of_bodySF (plainFor_of_name own_pn5) hisR ?_
  intro p e s m args below meth c s₁ Bd hml hP hK
  obtain ⟨rfl, hZ, hh⟩ := hP
  have hx := Bd.exec
  have hlk := Bd.notSynchronized
  have hby := Bd.bytes
  have hret := Bd.returns
  have hown := findClass_of_methodNamed Bd.named
  have hnm := (name_of_methodNamed Bd.named Bd.method).1
  have X0 : Stand p l e ({ frames := 1, cells := 0, slots := 0, locals := 17 } : Room) s m #[(.ref a), (.ref ef)] below meth c s₁ [] 0 0 := Stand.of_body Bd
  have e0 : s₁.heap = h0 := by rw [← hh, Bd.state]; rfl
  have N0 := Fr.nil n0
  refine own_cast (own_efwaf m a ef) ?_
  show own_Go p e below s s₁ _ (own_Qwaf Z a eb ef mo wa h0 n0) 0 0
  refine own_st (g' := (mkF m 1 #[rv a, rv ef, .unset, .unset] [(.ref ef)])) (fun tt_ kk_ => XS.aloadN X0.here hx rfl (hb hby own_d23_0) rfl rfl kk_) ?_
  obtain ⟨T617, X617, e617, st617⟩ := getS2 X0 hx hZ hown (host := "") (Or.inl (own_w hw 221 rfl)) Via.refl e0 S_f (g := (mkF m 1 #[rv a, rv ef, .unset, .unset] [(.ref ef)])) rfl (hb hby own_d23_1)
  refine own_st st617 ?_
  refine own_st (g' := (mkF m 31 #[rv a, rv ef, iv (0 : Int32), .unset] [(.ref a)])) (fun tt_ kk_ => Jvm.RoadKit.acmp (g := (mkF m 4 #[rv a, rv ef, .unset, .unset] [(.ref ef), (.ref ef)])) X617 hx rfl rfl rfl (pc0 := 4) (pc' := 7) (same := true) rfl (hb hby own_d23_4) rfl (decide_eq_true rfl) (by decide) (by decide) (XS.iconst X617.here hx rfl (hb hby own_d23_7) (XS.goto X617.here hx rfl (pc0 := 8) (pc' := 29) rfl (hb hby own_d23_8) (by decide) (by decide) (XS.istoreN X617.here hx rfl (hb hby own_d23_29) rfl (l' := #[rv a, rv ef, iv (0 : Int32), .unset]) rfl (XS.aloadN X617.here hx rfl (hb hby own_d23_30) rfl rfl kk_))))) ?_
  refine own_gG X617 hx hZ hown (own_w hw 225 rfl) e617 F_toldFrom_a rfl rfl (hb hby own_d23_31) (fun {T618} X618 e618 => ?_)
  refine own_st (g' := (mkF m 37 #[rv a, rv ef, iv (0 : Int32), iv (0 : Int32)] [(.ref a), (.int (0 : Int32))])) (fun tt_ kk_ => XS.istoreN X618.here hx rfl (hb hby own_d23_34) rfl (l' := #[rv a, rv ef, iv (0 : Int32), iv (0 : Int32)]) rfl (XS.iloadN X618.here hx rfl (hb hby own_d23_35) rfl (XS.aloadN X618.here hx rfl (hb hby own_d23_36) rfl rfl kk_))) ?_
  refine own_gG X618 hx hZ hown (own_w hw 227 rfl) e618 F_watcherCount_a rfl rfl (hb hby own_d23_37) (fun {T619} X619 e619 => ?_)
  refine own_st (g' := (mkF m 70 #[rv a, rv ef, iv (0 : Int32), iv (0 : Int32)] [(.ref a)])) (fun tt_ kk_ => XS.icmpYes X619.here hx rfl (pc0 := 40) (pc' := 69) rfl (hb hby own_d23_40) rfl (flt (by decide : ¬ ((0 : Int32) < (0 : Int32)))).2.1 (by decide) (by decide) (XS.aloadN X619.here hx rfl (hb hby own_d23_69) rfl rfl kk_)) ?_
  refine own_gG X619 hx hZ hown (own_w hw 104 rfl) e619 F_model_a rfl rfl (hb hby own_d23_70) (fun {T620} X620 e620 => ?_)
  refine own_st (g' := (mkF m 74 #[rv a, rv ef, iv (0 : Int32), iv (0 : Int32)] [(.ref a), (.ref mo)])) (fun tt_ kk_ => XS.aloadN X620.here hx rfl (hb hby own_d23_73) rfl rfl kk_) ?_
  refine own_gG X620 hx hZ hown (own_w hw 100 rfl) e620 F_watchers_a rfl rfl (hb hby own_d23_74) (fun {T621} X621 e621 => ?_)
  refine own_st (g' := (mkF m 79 #[rv a, rv ef, iv (0 : Int32), iv (0 : Int32)] [(.ref a), (.int (0 : Int32)), (.ref wa), (.ref mo)])) (fun tt_ kk_ => XS.iloadN X621.here hx rfl (hb hby own_d23_77) rfl (XS.aloadN X621.here hx rfl (hb hby own_d23_78) rfl rfl kk_)) ?_
  refine own_gG X621 hx hZ hown (own_w hw 227 rfl) e621 F_watcherCount_a rfl rfl (hb hby own_d23_79) (fun {T622} X622 e622 => ?_)
  obtain ⟨cq623, kq623, q623a, q623b, q623c⟩ := isOf hZ e622 E_mo
  obtain ⟨_, _, ⟨T623, L623, k623, n623⟩, -, X623, ⟨Lc623, hQ623, l623, y623, z623⟩, st623⟩ := X622.virtualBack hx (y := (⟨own_z2, "schedule", own_z14⟩ : MethodName)) (z := (⟨own_z2, "schedule", own_z14⟩ : MethodName)) hown (mvT hZ (own_w hw 229 rfl)) (mvT hZ (own_w hw 230 rfl)) (notFace_of_selects (args := #[]) (mvT hZ (own_w hw 232 rfl))) (mvT hZ (own_w hw 232 rfl)) (mvT hZ (own_w hw 231 rfl)) (by decide) (backOf (W := 0) (own_rmsch l Z a0 hw [] mo wa h0 n0 Z0 ) hZ (own_w hw 233 rfl) (own_w hw 2 rfl) (by decide) (by decide)) q623a q623c (g := (mkF m 82 #[rv a, rv ef, iv (0 : Int32), iv (0 : Int32)] [(.int (0 : Int32)), (.int (0 : Int32)), (.ref wa), (.ref mo)])) rfl (by rw [hml]; rfl) (Steps.refl _) (argsL := [(.ref wa), (.int (0 : Int32)), (.int (0 : Int32))]) (rest := []) (lenOf own_pd6 rfl) rfl (by show 2 * 0 + _ ≤ _; exact Nat.le_of_eq rfl) (hb hby own_d23_82) (fun _ _ => ⟨rfl, e622, (by decide : 0 + 0 ≤ _), (by decide : 0 + 0 ≤ _)⟩)
  dsimp only [Pt.U, Pt.locs, Pt.cells, Pt.slots] at X623 l623 y623 z623 st623 hQ623
  rw [l623, y623, z623] at X623
  obtain ⟨rfl, N623q, e623⟩ := hQ623
  have N623 := Fr.app N0 N623q
  refine own_st (fun t k => st623.trans k) ?_
  exact own_retV X623 hx hlk hret (hb hby own_d23_85) (by decide) (by decide) (by rw [e623]; exact ⟨rfl, N623, rfl⟩)
theorem own_d22_0 : own_D own_b22 0 (.aload_n 0) 1 := by decide +kernel
theorem own_d22_1 : own_D own_b22 1 (.getfield 218) 3 := by decide +kernel
theorem own_d22_4 : own_D own_b22 4 (.aload_n 0) 1 := by decide +kernel
theorem own_d22_5 : own_D own_b22 5 (.getfield 72) 3 := by decide +kernel
theorem own_d22_8 : own_D own_b22 8 (.if_icmp .ne 36) 3 := by decide +kernel
theorem own_d22_11 : own_D own_b22 11 (.aload_n 0) 1 := by decide +kernel
theorem own_d22_12 : own_D own_b22 12 .aconst_null 1 := by decide +kernel
theorem own_d22_13 : own_D own_b22 13 (.putfield 69) 3 := by decide +kernel
theorem own_d22_16 : own_D own_b22 16 (.aload_n 0) 1 := by decide +kernel
theorem own_d22_17 : own_D own_b22 17 (.iconst 0) 1 := by decide +kernel
theorem own_d22_18 : own_D own_b22 18 (.putfield 218) 3 := by decide +kernel
theorem own_d22_21 : own_D own_b22 21 (.aload_n 0) 1 := by decide +kernel
theorem own_d22_22 : own_D own_b22 22 (.iconst 0) 1 := by decide +kernel
theorem own_d22_23 : own_D own_b22 23 (.putfield 72) 3 := by decide +kernel
theorem own_d22_26 : own_D own_b22 26 (.aload_n 0) 1 := by decide +kernel
theorem own_d22_27 : own_D own_b22 27 (.aload_n 0) 1 := by decide +kernel
theorem own_d22_28 : own_D own_b22 28 (.getfield 36) 3 := by decide +kernel
theorem own_d22_31 : own_D own_b22 31 .i2l 1 := by decide +kernel
theorem own_d22_32 : own_D own_b22 32 (.aload_n 0) 1 := by decide +kernel
theorem own_d22_33 : own_D own_b22 33 (.getfield 33) 3 := by decide +kernel
theorem own_d22_36 : own_D own_b22 36 .i2l 1 := by decide +kernel
theorem own_d22_37 : own_D own_b22 37 .lsub 1 := by decide +kernel
theorem own_d22_38 : own_D own_b22 38 (.lconst 1) 1 := by decide +kernel
theorem own_d22_39 : own_D own_b22 39 .ladd 1 := by decide +kernel
theorem own_d22_40 : own_D own_b22 40 (.putfield 45) 3 := by decide +kernel
theorem own_d22_43 : own_D own_b22 43 .return_ 1 := by decide +kernel
theorem own_d22_44 : own_D own_b22 44 (.aload_n 0) 1 := by decide +kernel
theorem own_d22_45 : own_D own_b22 45 (.getfield 69) 3 := by decide +kernel
theorem own_d22_48 : own_D own_b22 48 (.iconst 2) 1 := by decide +kernel
theorem own_d22_49 : own_D own_b22 49 (.aload_n 0) 1 := by decide +kernel
theorem own_d22_50 : own_D own_b22 50 (.getfield 218) 3 := by decide +kernel
theorem own_d22_53 : own_D own_b22 53 .imul 1 := by decide +kernel
theorem own_d22_54 : own_D own_b22 54 (.iconst 1) 1 := by decide +kernel
theorem own_d22_55 : own_D own_b22 55 .iadd 1 := by decide +kernel
theorem own_d22_56 : own_D own_b22 56 .iaload 1 := by decide +kernel
theorem own_d22_57 : own_D own_b22 57 .i2l 1 := by decide +kernel
theorem own_d22_58 : own_D own_b22 58 (.aload_n 0) 1 := by decide +kernel
theorem own_d22_59 : own_D own_b22 59 (.getfield 33) 3 := by decide +kernel
theorem own_d22_62 : own_D own_b22 62 .i2l 1 := by decide +kernel
theorem own_d22_63 : own_D own_b22 63 .lsub 1 := by decide +kernel
theorem own_d22_64 : own_D own_b22 64 (.lconst 1) 1 := by decide +kernel
theorem own_d22_65 : own_D own_b22 65 .ladd 1 := by decide +kernel
theorem own_d22_66 : own_D own_b22 66 (.aload_n 0) 1 := by decide +kernel
theorem own_d22_67 : own_D own_b22 67 (.getfield 36) 3 := by decide +kernel
theorem own_d22_70 : own_D own_b22 70 .i2l 1 := by decide +kernel
theorem own_d22_71 : own_D own_b22 71 .ladd 1 := by decide +kernel
theorem own_d22_72 : own_D own_b22 72 (.aload_n 0) 1 := by decide +kernel
theorem own_d22_73 : own_D own_b22 73 (.getfield 69) 3 := by decide +kernel
theorem own_d22_76 : own_D own_b22 76 (.iconst 2) 1 := by decide +kernel
theorem own_d22_77 : own_D own_b22 77 (.aload_n 0) 1 := by decide +kernel
theorem own_d22_78 : own_D own_b22 78 (.getfield 72) 3 := by decide +kernel
theorem own_d22_81 : own_D own_b22 81 .imul 1 := by decide +kernel
theorem own_d22_82 : own_D own_b22 82 .iaload 1 := by decide +kernel
theorem own_d22_83 : own_D own_b22 83 .i2l 1 := by decide +kernel
theorem own_d22_84 : own_D own_b22 84 .lsub 1 := by decide +kernel
theorem own_d22_85 : own_D own_b22 85 (.lconst 1) 1 := by decide +kernel
theorem own_d22_86 : own_D own_b22 86 .ladd 1 := by decide +kernel
theorem own_d22_87 : own_D own_b22 87 (.lstore_n 1) 1 := by decide +kernel
theorem own_d22_88 : own_D own_b22 88 (.aload_n 0) 1 := by decide +kernel
theorem own_d22_89 : own_D own_b22 89 (.getfield 218) 3 := by decide +kernel
theorem own_d22_92 : own_D own_b22 92 (.iconst 1) 1 := by decide +kernel
theorem own_d22_93 : own_D own_b22 93 .iadd 1 := by decide +kernel
theorem own_d22_94 : own_D own_b22 94 (.istore_n 3) 1 := by decide +kernel
theorem own_d22_95 : own_D own_b22 95 (.iload_n 3) 1 := by decide +kernel
theorem own_d22_96 : own_D own_b22 96 (.aload_n 0) 1 := by decide +kernel
theorem own_d22_97 : own_D own_b22 97 (.getfield 72) 3 := by decide +kernel
theorem own_d22_100 : own_D own_b22 100 (.if_icmp .ge 35) 3 := by decide +kernel
theorem own_d22_103 : own_D own_b22 103 (.lload_n 1) 1 := by decide +kernel
theorem own_d22_104 : own_D own_b22 104 (.aload_n 0) 1 := by decide +kernel
theorem own_d22_105 : own_D own_b22 105 (.getfield 69) 3 := by decide +kernel
theorem own_d22_108 : own_D own_b22 108 (.iconst 2) 1 := by decide +kernel
theorem own_d22_109 : own_D own_b22 109 (.iload_n 3) 1 := by decide +kernel
theorem own_d22_110 : own_D own_b22 110 .imul 1 := by decide +kernel
theorem own_d22_111 : own_D own_b22 111 (.iconst 1) 1 := by decide +kernel
theorem own_d22_112 : own_D own_b22 112 .iadd 1 := by decide +kernel
theorem own_d22_113 : own_D own_b22 113 .iaload 1 := by decide +kernel
theorem own_d22_114 : own_D own_b22 114 .i2l 1 := by decide +kernel
theorem own_d22_115 : own_D own_b22 115 (.aload_n 0) 1 := by decide +kernel
theorem own_d22_116 : own_D own_b22 116 (.getfield 69) 3 := by decide +kernel
theorem own_d22_119 : own_D own_b22 119 (.iconst 2) 1 := by decide +kernel
theorem own_d22_120 : own_D own_b22 120 (.iload_n 3) 1 := by decide +kernel
theorem own_d22_121 : own_D own_b22 121 .imul 1 := by decide +kernel
theorem own_d22_122 : own_D own_b22 122 .iaload 1 := by decide +kernel
theorem own_d22_123 : own_D own_b22 123 .i2l 1 := by decide +kernel
theorem own_d22_124 : own_D own_b22 124 .lsub 1 := by decide +kernel
theorem own_d22_125 : own_D own_b22 125 (.lconst 1) 1 := by decide +kernel
theorem own_d22_126 : own_D own_b22 126 .ladd 1 := by decide +kernel
theorem own_d22_127 : own_D own_b22 127 .ladd 1 := by decide +kernel
theorem own_d22_128 : own_D own_b22 128 (.lstore_n 1) 1 := by decide +kernel
theorem own_d22_129 : own_D own_b22 129 (.iinc 3 1) 3 := by decide +kernel
theorem own_d22_132 : own_D own_b22 132 (.goto (-37)) 3 := by decide +kernel
theorem own_d22_135 : own_D own_b22 135 (.aload_n 0) 1 := by decide +kernel
theorem own_d22_136 : own_D own_b22 136 (.lload_n 1) 1 := by decide +kernel
theorem own_d22_137 : own_D own_b22 137 (.putfield 45) 3 := by decide +kernel
theorem own_d22_140 : own_D own_b22 140 .return_ 1 := by decide +kernel
def own_Qrec00 (Z : State) (a : Addr) (mn : Int32) (mx : Int32) (osz : Int64) (ra : Addr) (b : Int32) (mo : Addr) (wa : Addr) (h0 : Heap) (n0 : Nat) (v : Option Value) (h : Heap) (L : List Loc) : Prop := v = none ∧ Fr n0 L ∧ Keep h0 h [a] ∧ Exa Z h a own_z0 ∧ Fld Z h a own_z0 "size" "J" (.long (((mx.toInt64) - (mn.toInt64)) + (1 : Int64))) ∧ Fld Z h a own_z0 "model" own_z4 (.ref mo) ∧ Fld Z h a own_z0 "watchers" own_z3 (.ref wa) ∧ Fld Z h a own_z0 own_z9 "I" (.int (0 : Int32)) ∧ Fld Z h a own_z0 "boundsFrom" "I" (.int (0 : Int32)) ∧ Fld Z h a own_z0 "toldFrom" "I" (.int (0 : Int32))
theorem own_efrec00 (m : MethodId) (a : Addr) : entryFrame m #[(.ref a)] 4 = mkF m 0 #[rv a, .unset, .unset, .unset] [] := by first | (simp [entryFrame, mkF, argsToLocals, Value.category]; done) | rfl
set_option maxRecDepth 65536 in
set_option maxHeartbeats 16000000 in
theorem own_rmrec00 (l : Launch) (Z : State) (a0 : Array Value) (hw : own_HW Z a0) (ws : List Jvm.Cond) (a : Addr) (mn : Int32) (mx : Int32) (osz : Int64) (ra : Addr) (b : Int32) (mo : Addr) (wa : Addr) (h0 : Heap) (n0 : Nat) (Z0 : n0 ≤ h0.size) (E_a : Exa Z h0 a own_z0) (F_min_a : Fld Z h0 a own_z0 "min" "I" (.int mn)) (F_max_a : Fld Z h0 a own_z0 "max" "I" (.int mx)) (F_size_a : Fld Z h0 a own_z0 "size" "J" (.long osz)) (F_first_a : Fld Z h0 a own_z0 "first" "I" (.int (0 : Int32))) (F_last_a : Fld Z h0 a own_z0 "last" "I" (.int (0 : Int32))) (F_ranges_a : Fld Z h0 a own_z0 "ranges" "[I" (.ref ra)) (P_ra : own_AI Z h0 ra 6 (own_R b)) (F_model_a : Fld Z h0 a own_z0 "model" own_z4 (.ref mo)) (F_watchers_a : Fld Z h0 a own_z0 "watchers" own_z3 (.ref wa)) (F_watcherCount_a : Fld Z h0 a own_z0 own_z9 "I" (.int (0 : Int32))) (F_boundsFrom_a : Fld Z h0 a own_z0 "boundsFrom" "I" (.int (0 : Int32))) (F_toldFrom_a : Fld Z h0 a own_z0 "toldFrom" "I" (.int (0 : Int32))) (ne_a_ra : a ≠ ra) (g_a : n0 ≤ a) :
    MetFree l (⟨own_z0, "recount", "()V"⟩ : MethodName) (head1 (Jvm.Cond.code (⟨own_z0, "recount", "()V"⟩ : MethodName) prog_37_method_38_code 4 none :: ws) ({ frames := 0, cells := 0, slots := 0, locals := 0 } : Room)) (fun aa UU => aa = #[(.ref a)] ∧ Z.Warmed39 UU.vm ∧ UU.heap = h0) (fun _ _ _ _ _ => True) (fun _ U o U' => ∃ v L, o = .returned v ∧ own_Qrec00 Z a mn mx osz ra b mo wa h0 n0 v U'.heap L ∧ FrameEnd U o U' L ({ frames := 0, cells := 0, slots := 0, locals := 0 } : Room).cells ({ frames := 0, cells := 0, slots := 0, locals := 0 } : Room).slots) := by
  refine MetFree.of_bodySF (plainFor_of_name own_pn5) hisR ?_
  intro p e s m args below meth c s₁ Bd hml hP hK
  obtain ⟨rfl, hZ, hh⟩ := hP
  have hx := Bd.exec
  have hlk := Bd.notSynchronized
  have hby := Bd.bytes
  have hret := Bd.returns
  have hown := findClass_of_methodNamed Bd.named
  have hnm := (name_of_methodNamed Bd.named Bd.method).1
  have X0 : Stand p l e ({ frames := 0, cells := 0, slots := 0, locals := 0 } : Room) s m #[(.ref a)] below meth c s₁ [] 0 0 := Stand.of_body Bd
  have e0 : s₁.heap = h0 := by rw [← hh, Bd.state]; rfl
  have N0 := Fr.nil n0
  refine own_cast (own_efrec00 m a) ?_
  show own_Go p e below s s₁ _ (own_Qrec00 Z a mn mx osz ra b mo wa h0 n0) 0 0
  have K0 : Keep h0 h0 [a] := Keep.refl _ _
  refine own_st (g' := (mkF m 1 #[rv a, .unset, .unset, .unset] [(.ref a)])) (fun tt_ kk_ => XS.aloadN X0.here hx rfl (hb hby own_d22_0) rfl rfl kk_) ?_
  refine own_gG X0 hx hZ hown (own_w hw 133 rfl) e0 F_first_a rfl rfl (hb hby own_d22_1) (fun {T624} X624 e624 => ?_)
  refine own_st (g' := (mkF m 5 #[rv a, .unset, .unset, .unset] [(.ref a), (.int (0 : Int32))])) (fun tt_ kk_ => XS.aloadN X624.here hx rfl (hb hby own_d22_4) rfl rfl kk_) ?_
  refine own_gG X624 hx hZ hown (own_w hw 135 rfl) e624 F_last_a rfl rfl (hb hby own_d22_5) (fun {T625} X625 e625 => ?_)
  refine own_st (g' := (mkF m 13 #[rv a, .unset, .unset, .unset] [.null, (.ref a)])) (fun tt_ kk_ => XS.icmpNo X625.here hx rfl (hb hby own_d22_8) rfl (teq (by decide : (0 : Int32) = (0 : Int32))).2 (XS.aloadN X625.here hx rfl (hb hby own_d22_11) rfl rfl (XS.aconstNull X625.here hx rfl (hb hby own_d22_12) kk_))) ?_
  obtain ⟨T626, h626, X626, e626, W626, st626⟩ := putF X625 hx hZ hown (host := "") (Or.inl (own_w hw 131 rfl)) Via.refl e625 F_ranges_a E_a (Or.inl (own_w hw 132 rfl)) (own_w hw 84 rfl) (ty := (.array .int)) (by decide) rfl rfl (g := (mkF m 13 #[rv a, .unset, .unset, .unset] [.null, (.ref a)])) rfl rfl (hb hby own_d22_13)
  have N626 := Fr.snoc X626 N0 g_a
  have Z626 : n0 ≤ h626.size := Nat.le_trans Z0 (Keep.of_wr W626).1
  have K626 : Keep h0 h626 [a] := K0.wr W626 (Or.inl (List.mem_of_getElem? (i := 0) rfl))
  have F626 : Fld Z h626 a own_z0 "ranges" "[I" .null := F_ranges_a.same W626
  refine own_st st626 ?_
  refine own_st (g' := (mkF m 18 #[rv a, .unset, .unset, .unset] [(.int (0 : Int32)), (.ref a)])) (fun tt_ kk_ => XS.aloadN X626.here hx rfl (hb hby own_d22_16) rfl rfl (XS.iconst X626.here hx rfl (hb hby own_d22_17) kk_)) ?_
  have F628 := (F_first_a.other W626 (Or.inr (own_sn243 hw)))
  have F629 := (E_a.wr W626)
  obtain ⟨T627, h627, X627, e627, W627, st627⟩ := putF X626 hx hZ hown (host := "") (Or.inl (own_w hw 133 rfl)) Via.refl e626 F628 F629 (Or.inl (own_w hw 134 rfl)) (own_w hw 84 rfl) (ty := .int) (by decide) rfl rfl (g := (mkF m 18 #[rv a, .unset, .unset, .unset] [(.int (0 : Int32)), (.ref a)])) rfl rfl (hb hby own_d22_18)
  have N627 := Fr.snoc X627 N626 g_a
  have Z627 : n0 ≤ h627.size := Nat.le_trans Z626 (Keep.of_wr W627).1
  have K627 : Keep h0 h627 [a] := K626.wr W627 (Or.inl (List.mem_of_getElem? (i := 0) rfl))
  have F627 : Fld Z h627 a own_z0 "first" "I" (.int (0 : Int32)) := F628.same W627
  refine own_st st627 ?_
  refine own_st (g' := (mkF m 23 #[rv a, .unset, .unset, .unset] [(.int (0 : Int32)), (.ref a)])) (fun tt_ kk_ => XS.aloadN X627.here hx rfl (hb hby own_d22_21) rfl rfl (XS.iconst X627.here hx rfl (hb hby own_d22_22) kk_)) ?_
  have F631 := ((F_last_a.other W626 (Or.inr (own_sn244 hw))).other W627 (Or.inr (own_sn245 hw)))
  have F632 := (F629.wr W627)
  obtain ⟨T630, h630, X630, e630, W630, st630⟩ := putF X627 hx hZ hown (host := "") (Or.inl (own_w hw 135 rfl)) Via.refl e627 F631 F632 (Or.inl (own_w hw 136 rfl)) (own_w hw 84 rfl) (ty := .int) (by decide) rfl rfl (g := (mkF m 23 #[rv a, .unset, .unset, .unset] [(.int (0 : Int32)), (.ref a)])) rfl rfl (hb hby own_d22_23)
  have N630 := Fr.snoc X630 N627 g_a
  have Z630 : n0 ≤ h630.size := Nat.le_trans Z627 (Keep.of_wr W630).1
  have K630 : Keep h0 h630 [a] := K627.wr W630 (Or.inl (List.mem_of_getElem? (i := 0) rfl))
  have F630 : Fld Z h630 a own_z0 "last" "I" (.int (0 : Int32)) := F631.same W630
  refine own_st st630 ?_
  refine own_st (g' := (mkF m 28 #[rv a, .unset, .unset, .unset] [(.ref a), (.ref a)])) (fun tt_ kk_ => XS.aloadN X630.here hx rfl (hb hby own_d22_26) rfl rfl (XS.aloadN X630.here hx rfl (hb hby own_d22_27) rfl rfl kk_)) ?_
  have F634 := (((F_max_a.other W626 (Or.inr (Ne.symm (own_sn165 hw)))).other W627 (Or.inr (Ne.symm (own_sn177 hw)))).other W630 (Or.inr (Ne.symm (own_sn189 hw))))
  refine own_gG X630 hx hZ hown (own_w hw 112 rfl) e630 F634 rfl rfl (hb hby own_d22_28) (fun {T633} X633 e633 => ?_)
  refine own_st (g' := (mkF m 33 #[rv a, .unset, .unset, .unset] [(.ref a), (.long (mx.toInt64)), (.ref a)])) (fun tt_ kk_ => XS.i2l X633.here hx rfl (hb hby own_d22_31) rfl (XS.aloadN X633.here hx rfl (hb hby own_d22_32) rfl rfl kk_)) ?_
  have F636 := (((F_min_a.other W626 (Or.inr (Ne.symm (own_sn164 hw)))).other W627 (Or.inr (Ne.symm (own_sn176 hw)))).other W630 (Or.inr (Ne.symm (own_sn188 hw))))
  refine own_gG X633 hx hZ hown (own_w hw 110 rfl) e633 F636 rfl rfl (hb hby own_d22_33) (fun {T635} X635 e635 => ?_)
  refine own_st (g' := (mkF m 40 #[rv a, .unset, .unset, .unset] [(.long (((mx.toInt64) - (mn.toInt64)) + (1 : Int64))), (.ref a)])) (fun tt_ kk_ => XS.i2l X635.here hx rfl (hb hby own_d22_36) rfl (XS.lsub X635.here hx rfl (hb hby own_d22_37) rfl (XS.lconst X635.here hx rfl (hb hby own_d22_38) (XS.ladd X635.here hx rfl (hb hby own_d22_39) rfl kk_)))) ?_
  have F638 := (((F_size_a.other W626 (Or.inr (Ne.symm (own_sn168 hw)))).other W627 (Or.inr (Ne.symm (own_sn180 hw)))).other W630 (Or.inr (Ne.symm (own_sn192 hw))))
  have F639 := (F632.wr W630)
  obtain ⟨T637, h637, X637, e637, W637, st637⟩ := putF X635 hx hZ hown (host := "") (Or.inl (own_w hw 118 rfl)) Via.refl e635 F638 F639 (Or.inl (own_w hw 119 rfl)) (own_w hw 84 rfl) (ty := .long) (by decide) rfl rfl (g := (mkF m 40 #[rv a, .unset, .unset, .unset] [(.long (((mx.toInt64) - (mn.toInt64)) + (1 : Int64))), (.ref a)])) rfl rfl (hb hby own_d22_40)
  have N637 := Fr.snoc X637 N630 g_a
  have Z637 : n0 ≤ h637.size := Nat.le_trans Z630 (Keep.of_wr W637).1
  have K637 : Keep h0 h637 [a] := K630.wr W637 (Or.inl (List.mem_of_getElem? (i := 0) rfl))
  have F637 : Fld Z h637 a own_z0 "size" "J" (.long (((mx.toInt64) - (mn.toInt64)) + (1 : Int64))) := F638.same W637
  refine own_st st637 ?_
  have F640 := (F639.wr W637)
  have F641 := ((((F_model_a.other W626 (Or.inr (Ne.symm (own_sn161 hw)))).other W627 (Or.inr (Ne.symm (own_sn173 hw)))).other W630 (Or.inr (Ne.symm (own_sn185 hw)))).other W637 (Or.inr (Ne.symm (own_sn131 hw))))
  have F642 := ((((F_watchers_a.other W626 (Or.inr (Ne.symm (own_sn159 hw)))).other W627 (Or.inr (Ne.symm (own_sn171 hw)))).other W630 (Or.inr (Ne.symm (own_sn183 hw)))).other W637 (Or.inr (Ne.symm (own_sn129 hw))))
  have F643 := ((((F_watcherCount_a.other W626 (Or.inr (own_sn249 hw))).other W627 (Or.inr (own_sn250 hw))).other W630 (Or.inr (own_sn251 hw))).other W637 (Or.inr (own_sn216 hw)))
  have F644 := ((((F_boundsFrom_a.other W626 (Or.inr (own_sn253 hw))).other W627 (Or.inr (own_sn254 hw))).other W630 (Or.inr (own_sn255 hw))).other W637 (Or.inr (own_sn228 hw)))
  have F645 := ((((F_toldFrom_a.other W626 (Or.inr (own_sn257 hw))).other W627 (Or.inr (own_sn258 hw))).other W630 (Or.inr (own_sn259 hw))).other W637 (Or.inr (own_sn240 hw)))
  exact own_retV X637 hx hlk hret (hb hby own_d22_43) (by decide) (by decide) (by rw [e637]; exact ⟨rfl, N637, K637, F640, F637, F641, F642, F643, F644, F645⟩)
def own_Qrec01 (Z : State) (a : Addr) (mn : Int32) (mx : Int32) (osz : Int64) (ra : Addr) (b : Int32) (mo : Addr) (wa : Addr) (h0 : Heap) (n0 : Nat) (v : Option Value) (h : Heap) (L : List Loc) : Prop := v = none ∧ Fr n0 L ∧ Keep h0 h [a] ∧ Exa Z h a own_z0 ∧ Fld Z h a own_z0 "size" "J" (.long (((((((b + (9 : Int32)).toInt64) - (mn.toInt64)) + (1 : Int64)) + (mx.toInt64)) - ((b + (20 : Int32)).toInt64)) + (1 : Int64))) ∧ Fld Z h a own_z0 "model" own_z4 (.ref mo) ∧ Fld Z h a own_z0 "watchers" own_z3 (.ref wa) ∧ Fld Z h a own_z0 own_z9 "I" (.int (0 : Int32)) ∧ Fld Z h a own_z0 "boundsFrom" "I" (.int (0 : Int32)) ∧ Fld Z h a own_z0 "toldFrom" "I" (.int (0 : Int32))
theorem own_efrec01 (m : MethodId) (a : Addr) : entryFrame m #[(.ref a)] 4 = mkF m 0 #[rv a, .unset, .unset, .unset] [] := by first | (simp [entryFrame, mkF, argsToLocals, Value.category]; done) | rfl
set_option maxRecDepth 65536 in
set_option maxHeartbeats 16000000 in
theorem own_rmrec01 (l : Launch) (Z : State) (a0 : Array Value) (hw : own_HW Z a0) (ws : List Jvm.Cond) (a : Addr) (mn : Int32) (mx : Int32) (osz : Int64) (ra : Addr) (b : Int32) (mo : Addr) (wa : Addr) (h0 : Heap) (n0 : Nat) (Z0 : n0 ≤ h0.size) (E_a : Exa Z h0 a own_z0) (F_min_a : Fld Z h0 a own_z0 "min" "I" (.int mn)) (F_max_a : Fld Z h0 a own_z0 "max" "I" (.int mx)) (F_size_a : Fld Z h0 a own_z0 "size" "J" (.long osz)) (F_first_a : Fld Z h0 a own_z0 "first" "I" (.int (0 : Int32))) (F_last_a : Fld Z h0 a own_z0 "last" "I" (.int (1 : Int32))) (F_ranges_a : Fld Z h0 a own_z0 "ranges" "[I" (.ref ra)) (P_ra : own_AI Z h0 ra 6 (own_R b)) (F_model_a : Fld Z h0 a own_z0 "model" own_z4 (.ref mo)) (F_watchers_a : Fld Z h0 a own_z0 "watchers" own_z3 (.ref wa)) (F_watcherCount_a : Fld Z h0 a own_z0 own_z9 "I" (.int (0 : Int32))) (F_boundsFrom_a : Fld Z h0 a own_z0 "boundsFrom" "I" (.int (0 : Int32))) (F_toldFrom_a : Fld Z h0 a own_z0 "toldFrom" "I" (.int (0 : Int32))) (ne_a_ra : a ≠ ra) (g_a : n0 ≤ a) :
    MetFree l (⟨own_z0, "recount", "()V"⟩ : MethodName) (head1 (Jvm.Cond.code (⟨own_z0, "recount", "()V"⟩ : MethodName) prog_37_method_38_code 4 none :: ws) ({ frames := 0, cells := 0, slots := 0, locals := 0 } : Room)) (fun aa UU => aa = #[(.ref a)] ∧ Z.Warmed39 UU.vm ∧ UU.heap = h0) (fun _ _ _ _ _ => True) (fun _ U o U' => ∃ v L, o = .returned v ∧ own_Qrec01 Z a mn mx osz ra b mo wa h0 n0 v U'.heap L ∧ FrameEnd U o U' L ({ frames := 0, cells := 0, slots := 0, locals := 0 } : Room).cells ({ frames := 0, cells := 0, slots := 0, locals := 0 } : Room).slots) := by
  refine MetFree.of_bodySF (plainFor_of_name own_pn5) hisR ?_
  intro p e s m args below meth c s₁ Bd hml hP hK
  obtain ⟨rfl, hZ, hh⟩ := hP
  have hx := Bd.exec
  have hlk := Bd.notSynchronized
  have hby := Bd.bytes
  have hret := Bd.returns
  have hown := findClass_of_methodNamed Bd.named
  have hnm := (name_of_methodNamed Bd.named Bd.method).1
  have X0 : Stand p l e ({ frames := 0, cells := 0, slots := 0, locals := 0 } : Room) s m #[(.ref a)] below meth c s₁ [] 0 0 := Stand.of_body Bd
  have e0 : s₁.heap = h0 := by rw [← hh, Bd.state]; rfl
  have N0 := Fr.nil n0
  refine own_cast (own_efrec01 m a) ?_
  show own_Go p e below s s₁ _ (own_Qrec01 Z a mn mx osz ra b mo wa h0 n0) 0 0
  have K0 : Keep h0 h0 [a] := Keep.refl _ _
  refine own_st (g' := (mkF m 1 #[rv a, .unset, .unset, .unset] [(.ref a)])) (fun tt_ kk_ => XS.aloadN X0.here hx rfl (hb hby own_d22_0) rfl rfl kk_) ?_
  refine own_gG X0 hx hZ hown (own_w hw 133 rfl) e0 F_first_a rfl rfl (hb hby own_d22_1) (fun {T646} X646 e646 => ?_)
  refine own_st (g' := (mkF m 5 #[rv a, .unset, .unset, .unset] [(.ref a), (.int (0 : Int32))])) (fun tt_ kk_ => XS.aloadN X646.here hx rfl (hb hby own_d22_4) rfl rfl kk_) ?_
  refine own_gG X646 hx hZ hown (own_w hw 135 rfl) e646 F_last_a rfl rfl (hb hby own_d22_5) (fun {T647} X647 e647 => ?_)
  refine own_st (g' := (mkF m 45 #[rv a, .unset, .unset, .unset] [(.ref a)])) (fun tt_ kk_ => XS.icmpYes X647.here hx rfl (pc0 := 8) (pc' := 44) rfl (hb hby own_d22_8) rfl (feq (by decide : ¬ ((0 : Int32) = (1 : Int32)))).2 (by decide) (by decide) (XS.aloadN X647.here hx rfl (hb hby own_d22_44) rfl rfl kk_)) ?_
  refine own_gG X647 hx hZ hown (own_w hw 131 rfl) e647 F_ranges_a rfl rfl (hb hby own_d22_45) (fun {T648} X648 e648 => ?_)
  refine own_st (g' := (mkF m 50 #[rv a, .unset, .unset, .unset] [(.ref a), (.int (2 : Int32)), (.ref ra)])) (fun tt_ kk_ => XS.iconst X648.here hx rfl (hb hby own_d22_48) (XS.aloadN X648.here hx rfl (hb hby own_d22_49) rfl rfl kk_)) ?_
  refine own_gG X648 hx hZ hown (own_w hw 133 rfl) e648 F_first_a rfl rfl (hb hby own_d22_50) (fun {T649} X649 e649 => ?_)
  refine own_st (g' := (mkF m 56 #[rv a, .unset, .unset, .unset] [(.int (1 : Int32)), (.ref ra)])) (fun tt_ kk_ => XS.imul X649.here hx rfl (hb hby own_d22_53) rfl (XS.iconst X649.here hx rfl (hb hby own_d22_54) (XS.iadd X649.here hx rfl (hb hby own_d22_55) rfl kk_))) ?_
  refine own_st (g' := (mkF m 59 #[rv a, .unset, .unset, .unset] [(.ref a), (.long ((b + (9 : Int32)).toInt64))])) (fun tt_ kk_ => own_ldIv (g := (mkF m 56 #[rv a, .unset, .unset, .unset] [(.int (1 : Int32)), (.ref ra)])) X649 hx hZ e649 P_ra (by decide) (by decide) (own_Rv1 _) rfl rfl (hb hby own_d22_56) tt_ (XS.i2l X649.here hx rfl (hb hby own_d22_57) rfl (XS.aloadN X649.here hx rfl (hb hby own_d22_58) rfl rfl kk_))) ?_
  refine own_gG X649 hx hZ hown (own_w hw 110 rfl) e649 F_min_a rfl rfl (hb hby own_d22_59) (fun {T650} X650 e650 => ?_)
  refine own_st (g' := (mkF m 67 #[rv a, .unset, .unset, .unset] [(.ref a), (.long ((((b + (9 : Int32)).toInt64) - (mn.toInt64)) + (1 : Int64)))])) (fun tt_ kk_ => XS.i2l X650.here hx rfl (hb hby own_d22_62) rfl (XS.lsub X650.here hx rfl (hb hby own_d22_63) rfl (XS.lconst X650.here hx rfl (hb hby own_d22_64) (XS.ladd X650.here hx rfl (hb hby own_d22_65) rfl (XS.aloadN X650.here hx rfl (hb hby own_d22_66) rfl rfl kk_))))) ?_
  refine own_gG X650 hx hZ hown (own_w hw 112 rfl) e650 F_max_a rfl rfl (hb hby own_d22_67) (fun {T651} X651 e651 => ?_)
  refine own_st (g' := (mkF m 73 #[rv a, .unset, .unset, .unset] [(.ref a), (.long (((((b + (9 : Int32)).toInt64) - (mn.toInt64)) + (1 : Int64)) + (mx.toInt64)))])) (fun tt_ kk_ => XS.i2l X651.here hx rfl (hb hby own_d22_70) rfl (XS.ladd X651.here hx rfl (hb hby own_d22_71) rfl (XS.aloadN X651.here hx rfl (hb hby own_d22_72) rfl rfl kk_))) ?_
  refine own_gG X651 hx hZ hown (own_w hw 131 rfl) e651 F_ranges_a rfl rfl (hb hby own_d22_73) (fun {T652} X652 e652 => ?_)
  refine own_st (g' := (mkF m 78 #[rv a, .unset, .unset, .unset] [(.ref a), (.int (2 : Int32)), (.ref ra), (.long (((((b + (9 : Int32)).toInt64) - (mn.toInt64)) + (1 : Int64)) + (mx.toInt64)))])) (fun tt_ kk_ => XS.iconst X652.here hx rfl (hb hby own_d22_76) (XS.aloadN X652.here hx rfl (hb hby own_d22_77) rfl rfl kk_)) ?_
  refine own_gG X652 hx hZ hown (own_w hw 135 rfl) e652 F_last_a rfl rfl (hb hby own_d22_78) (fun {T653} X653 e653 => ?_)
  refine own_st (g' := (mkF m 82 #[rv a, .unset, .unset, .unset] [(.int (2 : Int32)), (.ref ra), (.long (((((b + (9 : Int32)).toInt64) - (mn.toInt64)) + (1 : Int64)) + (mx.toInt64)))])) (fun tt_ kk_ => XS.imul X653.here hx rfl (hb hby own_d22_81) rfl kk_) ?_
  refine own_st (g' := (mkF m 89 #[rv a, .val (.long (((((((b + (9 : Int32)).toInt64) - (mn.toInt64)) + (1 : Int64)) + (mx.toInt64)) - ((b + (20 : Int32)).toInt64)) + (1 : Int64))), .second, .unset] [(.ref a)])) (fun tt_ kk_ => own_ldIv (g := (mkF m 82 #[rv a, .unset, .unset, .unset] [(.int (2 : Int32)), (.ref ra), (.long (((((b + (9 : Int32)).toInt64) - (mn.toInt64)) + (1 : Int64)) + (mx.toInt64)))])) X653 hx hZ e653 P_ra (by decide) (by decide) (own_Rv2 _) rfl rfl (hb hby own_d22_82) tt_ (XS.i2l X653.here hx rfl (hb hby own_d22_83) rfl (XS.lsub X653.here hx rfl (hb hby own_d22_84) rfl (XS.lconst X653.here hx rfl (hb hby own_d22_85) (XS.ladd X653.here hx rfl (hb hby own_d22_86) rfl (XS.lstoreN X653.here hx rfl (hb hby own_d22_87) rfl (l' := #[rv a, .val (.long (((((((b + (9 : Int32)).toInt64) - (mn.toInt64)) + (1 : Int64)) + (mx.toInt64)) - ((b + (20 : Int32)).toInt64)) + (1 : Int64))), .second, .unset]) rfl (XS.aloadN X653.here hx rfl (hb hby own_d22_88) rfl rfl kk_))))))) ?_
  refine own_gG X653 hx hZ hown (own_w hw 133 rfl) e653 F_first_a rfl rfl (hb hby own_d22_89) (fun {T654} X654 e654 => ?_)
  refine own_st (g' := (mkF m 97 #[rv a, .val (.long (((((((b + (9 : Int32)).toInt64) - (mn.toInt64)) + (1 : Int64)) + (mx.toInt64)) - ((b + (20 : Int32)).toInt64)) + (1 : Int64))), .second, iv (1 : Int32)] [(.ref a), (.int (1 : Int32))])) (fun tt_ kk_ => XS.iconst X654.here hx rfl (hb hby own_d22_92) (XS.iadd X654.here hx rfl (hb hby own_d22_93) rfl (XS.istoreN X654.here hx rfl (hb hby own_d22_94) rfl (l' := #[rv a, .val (.long (((((((b + (9 : Int32)).toInt64) - (mn.toInt64)) + (1 : Int64)) + (mx.toInt64)) - ((b + (20 : Int32)).toInt64)) + (1 : Int64))), .second, iv (1 : Int32)]) rfl (XS.iloadN X654.here hx rfl (hb hby own_d22_95) rfl (XS.aloadN X654.here hx rfl (hb hby own_d22_96) rfl rfl kk_))))) ?_
  refine own_gG X654 hx hZ hown (own_w hw 135 rfl) e654 F_last_a rfl rfl (hb hby own_d22_97) (fun {T655} X655 e655 => ?_)
  refine own_st (g' := (mkF m 137 #[rv a, .val (.long (((((((b + (9 : Int32)).toInt64) - (mn.toInt64)) + (1 : Int64)) + (mx.toInt64)) - ((b + (20 : Int32)).toInt64)) + (1 : Int64))), .second, iv (1 : Int32)] [(.long (((((((b + (9 : Int32)).toInt64) - (mn.toInt64)) + (1 : Int64)) + (mx.toInt64)) - ((b + (20 : Int32)).toInt64)) + (1 : Int64))), (.ref a)])) (fun tt_ kk_ => XS.icmpYes X655.here hx rfl (pc0 := 100) (pc' := 135) rfl (hb hby own_d22_100) rfl (flt (by decide : ¬ ((1 : Int32) < (1 : Int32)))).2.1 (by decide) (by decide) (XS.aloadN X655.here hx rfl (hb hby own_d22_135) rfl rfl (XS.lloadN X655.here hx rfl (hb hby own_d22_136) rfl kk_))) ?_
  obtain ⟨T656, h656, X656, e656, W656, st656⟩ := putF X655 hx hZ hown (host := "") (Or.inl (own_w hw 118 rfl)) Via.refl e655 F_size_a E_a (Or.inl (own_w hw 119 rfl)) (own_w hw 84 rfl) (ty := .long) (by decide) rfl rfl (g := (mkF m 137 #[rv a, .val (.long (((((((b + (9 : Int32)).toInt64) - (mn.toInt64)) + (1 : Int64)) + (mx.toInt64)) - ((b + (20 : Int32)).toInt64)) + (1 : Int64))), .second, iv (1 : Int32)] [(.long (((((((b + (9 : Int32)).toInt64) - (mn.toInt64)) + (1 : Int64)) + (mx.toInt64)) - ((b + (20 : Int32)).toInt64)) + (1 : Int64))), (.ref a)])) rfl rfl (hb hby own_d22_137)
  have N656 := Fr.snoc X656 N0 g_a
  have Z656 : n0 ≤ h656.size := Nat.le_trans Z0 (Keep.of_wr W656).1
  have K656 : Keep h0 h656 [a] := K0.wr W656 (Or.inl (List.mem_of_getElem? (i := 0) rfl))
  have F656 : Fld Z h656 a own_z0 "size" "J" (.long (((((((b + (9 : Int32)).toInt64) - (mn.toInt64)) + (1 : Int64)) + (mx.toInt64)) - ((b + (20 : Int32)).toInt64)) + (1 : Int64))) := F_size_a.same W656
  refine own_st st656 ?_
  have F657 := (E_a.wr W656)
  have F658 := (F_model_a.other W656 (Or.inr (Ne.symm (own_sn131 hw))))
  have F659 := (F_watchers_a.other W656 (Or.inr (Ne.symm (own_sn129 hw))))
  have F660 := (F_watcherCount_a.other W656 (Or.inr (own_sn216 hw)))
  have F661 := (F_boundsFrom_a.other W656 (Or.inr (own_sn228 hw)))
  have F662 := (F_toldFrom_a.other W656 (Or.inr (own_sn240 hw)))
  exact own_retV X656 hx hlk hret (hb hby own_d22_140) (by decide) (by decide) (by rw [e656]; exact ⟨rfl, N656, K656, F657, F656, F658, F659, F660, F661, F662⟩)
def own_Qrec02 (Z : State) (a : Addr) (mn : Int32) (mx : Int32) (osz : Int64) (ra : Addr) (b : Int32) (mo : Addr) (wa : Addr) (h0 : Heap) (n0 : Nat) (v : Option Value) (h : Heap) (L : List Loc) : Prop := v = none ∧ Fr n0 L ∧ Keep h0 h [a] ∧ Exa Z h a own_z0 ∧ Fld Z h a own_z0 "size" "J" (.long ((((((((b + (9 : Int32)).toInt64) - (mn.toInt64)) + (1 : Int64)) + (mx.toInt64)) - ((b + (40 : Int32)).toInt64)) + (1 : Int64)) + ((((b + (29 : Int32)).toInt64) - ((b + (20 : Int32)).toInt64)) + (1 : Int64)))) ∧ Fld Z h a own_z0 "model" own_z4 (.ref mo) ∧ Fld Z h a own_z0 "watchers" own_z3 (.ref wa) ∧ Fld Z h a own_z0 own_z9 "I" (.int (0 : Int32)) ∧ Fld Z h a own_z0 "boundsFrom" "I" (.int (0 : Int32)) ∧ Fld Z h a own_z0 "toldFrom" "I" (.int (0 : Int32))
theorem own_efrec02 (m : MethodId) (a : Addr) : entryFrame m #[(.ref a)] 4 = mkF m 0 #[rv a, .unset, .unset, .unset] [] := by first | (simp [entryFrame, mkF, argsToLocals, Value.category]; done) | rfl
set_option maxRecDepth 65536 in
set_option maxHeartbeats 16000000 in
theorem own_rmrec02 (l : Launch) (Z : State) (a0 : Array Value) (hw : own_HW Z a0) (ws : List Jvm.Cond) (a : Addr) (mn : Int32) (mx : Int32) (osz : Int64) (ra : Addr) (b : Int32) (mo : Addr) (wa : Addr) (h0 : Heap) (n0 : Nat) (Z0 : n0 ≤ h0.size) (E_a : Exa Z h0 a own_z0) (F_min_a : Fld Z h0 a own_z0 "min" "I" (.int mn)) (F_max_a : Fld Z h0 a own_z0 "max" "I" (.int mx)) (F_size_a : Fld Z h0 a own_z0 "size" "J" (.long osz)) (F_first_a : Fld Z h0 a own_z0 "first" "I" (.int (0 : Int32))) (F_last_a : Fld Z h0 a own_z0 "last" "I" (.int (2 : Int32))) (F_ranges_a : Fld Z h0 a own_z0 "ranges" "[I" (.ref ra)) (P_ra : own_AI Z h0 ra 6 (own_R b)) (F_model_a : Fld Z h0 a own_z0 "model" own_z4 (.ref mo)) (F_watchers_a : Fld Z h0 a own_z0 "watchers" own_z3 (.ref wa)) (F_watcherCount_a : Fld Z h0 a own_z0 own_z9 "I" (.int (0 : Int32))) (F_boundsFrom_a : Fld Z h0 a own_z0 "boundsFrom" "I" (.int (0 : Int32))) (F_toldFrom_a : Fld Z h0 a own_z0 "toldFrom" "I" (.int (0 : Int32))) (ne_a_ra : a ≠ ra) (g_a : n0 ≤ a) :
    MetFree l (⟨own_z0, "recount", "()V"⟩ : MethodName) (head1 (Jvm.Cond.code (⟨own_z0, "recount", "()V"⟩ : MethodName) prog_37_method_38_code 4 none :: ws) ({ frames := 0, cells := 0, slots := 0, locals := 0 } : Room)) (fun aa UU => aa = #[(.ref a)] ∧ Z.Warmed39 UU.vm ∧ UU.heap = h0) (fun _ _ _ _ _ => True) (fun _ U o U' => ∃ v L, o = .returned v ∧ own_Qrec02 Z a mn mx osz ra b mo wa h0 n0 v U'.heap L ∧ FrameEnd U o U' L ({ frames := 0, cells := 0, slots := 0, locals := 0 } : Room).cells ({ frames := 0, cells := 0, slots := 0, locals := 0 } : Room).slots) := by
  refine MetFree.of_bodySF (plainFor_of_name own_pn5) hisR ?_
  intro p e s m args below meth c s₁ Bd hml hP hK
  obtain ⟨rfl, hZ, hh⟩ := hP
  have hx := Bd.exec
  have hlk := Bd.notSynchronized
  have hby := Bd.bytes
  have hret := Bd.returns
  have hown := findClass_of_methodNamed Bd.named
  have hnm := (name_of_methodNamed Bd.named Bd.method).1
  have X0 : Stand p l e ({ frames := 0, cells := 0, slots := 0, locals := 0 } : Room) s m #[(.ref a)] below meth c s₁ [] 0 0 := Stand.of_body Bd
  have e0 : s₁.heap = h0 := by rw [← hh, Bd.state]; rfl
  have N0 := Fr.nil n0
  refine own_cast (own_efrec02 m a) ?_
  show own_Go p e below s s₁ _ (own_Qrec02 Z a mn mx osz ra b mo wa h0 n0) 0 0
  have K0 : Keep h0 h0 [a] := Keep.refl _ _
  refine own_st (g' := (mkF m 1 #[rv a, .unset, .unset, .unset] [(.ref a)])) (fun tt_ kk_ => XS.aloadN X0.here hx rfl (hb hby own_d22_0) rfl rfl kk_) ?_
  refine own_gG X0 hx hZ hown (own_w hw 133 rfl) e0 F_first_a rfl rfl (hb hby own_d22_1) (fun {T663} X663 e663 => ?_)
  refine own_st (g' := (mkF m 5 #[rv a, .unset, .unset, .unset] [(.ref a), (.int (0 : Int32))])) (fun tt_ kk_ => XS.aloadN X663.here hx rfl (hb hby own_d22_4) rfl rfl kk_) ?_
  refine own_gG X663 hx hZ hown (own_w hw 135 rfl) e663 F_last_a rfl rfl (hb hby own_d22_5) (fun {T664} X664 e664 => ?_)
  refine own_st (g' := (mkF m 45 #[rv a, .unset, .unset, .unset] [(.ref a)])) (fun tt_ kk_ => XS.icmpYes X664.here hx rfl (pc0 := 8) (pc' := 44) rfl (hb hby own_d22_8) rfl (feq (by decide : ¬ ((0 : Int32) = (2 : Int32)))).2 (by decide) (by decide) (XS.aloadN X664.here hx rfl (hb hby own_d22_44) rfl rfl kk_)) ?_
  refine own_gG X664 hx hZ hown (own_w hw 131 rfl) e664 F_ranges_a rfl rfl (hb hby own_d22_45) (fun {T665} X665 e665 => ?_)
  refine own_st (g' := (mkF m 50 #[rv a, .unset, .unset, .unset] [(.ref a), (.int (2 : Int32)), (.ref ra)])) (fun tt_ kk_ => XS.iconst X665.here hx rfl (hb hby own_d22_48) (XS.aloadN X665.here hx rfl (hb hby own_d22_49) rfl rfl kk_)) ?_
  refine own_gG X665 hx hZ hown (own_w hw 133 rfl) e665 F_first_a rfl rfl (hb hby own_d22_50) (fun {T666} X666 e666 => ?_)
  refine own_st (g' := (mkF m 56 #[rv a, .unset, .unset, .unset] [(.int (1 : Int32)), (.ref ra)])) (fun tt_ kk_ => XS.imul X666.here hx rfl (hb hby own_d22_53) rfl (XS.iconst X666.here hx rfl (hb hby own_d22_54) (XS.iadd X666.here hx rfl (hb hby own_d22_55) rfl kk_))) ?_
  refine own_st (g' := (mkF m 59 #[rv a, .unset, .unset, .unset] [(.ref a), (.long ((b + (9 : Int32)).toInt64))])) (fun tt_ kk_ => own_ldIv (g := (mkF m 56 #[rv a, .unset, .unset, .unset] [(.int (1 : Int32)), (.ref ra)])) X666 hx hZ e666 P_ra (by decide) (by decide) (own_Rv1 _) rfl rfl (hb hby own_d22_56) tt_ (XS.i2l X666.here hx rfl (hb hby own_d22_57) rfl (XS.aloadN X666.here hx rfl (hb hby own_d22_58) rfl rfl kk_))) ?_
  refine own_gG X666 hx hZ hown (own_w hw 110 rfl) e666 F_min_a rfl rfl (hb hby own_d22_59) (fun {T667} X667 e667 => ?_)
  refine own_st (g' := (mkF m 67 #[rv a, .unset, .unset, .unset] [(.ref a), (.long ((((b + (9 : Int32)).toInt64) - (mn.toInt64)) + (1 : Int64)))])) (fun tt_ kk_ => XS.i2l X667.here hx rfl (hb hby own_d22_62) rfl (XS.lsub X667.here hx rfl (hb hby own_d22_63) rfl (XS.lconst X667.here hx rfl (hb hby own_d22_64) (XS.ladd X667.here hx rfl (hb hby own_d22_65) rfl (XS.aloadN X667.here hx rfl (hb hby own_d22_66) rfl rfl kk_))))) ?_
  refine own_gG X667 hx hZ hown (own_w hw 112 rfl) e667 F_max_a rfl rfl (hb hby own_d22_67) (fun {T668} X668 e668 => ?_)
  refine own_st (g' := (mkF m 73 #[rv a, .unset, .unset, .unset] [(.ref a), (.long (((((b + (9 : Int32)).toInt64) - (mn.toInt64)) + (1 : Int64)) + (mx.toInt64)))])) (fun tt_ kk_ => XS.i2l X668.here hx rfl (hb hby own_d22_70) rfl (XS.ladd X668.here hx rfl (hb hby own_d22_71) rfl (XS.aloadN X668.here hx rfl (hb hby own_d22_72) rfl rfl kk_))) ?_
  refine own_gG X668 hx hZ hown (own_w hw 131 rfl) e668 F_ranges_a rfl rfl (hb hby own_d22_73) (fun {T669} X669 e669 => ?_)
  refine own_st (g' := (mkF m 78 #[rv a, .unset, .unset, .unset] [(.ref a), (.int (2 : Int32)), (.ref ra), (.long (((((b + (9 : Int32)).toInt64) - (mn.toInt64)) + (1 : Int64)) + (mx.toInt64)))])) (fun tt_ kk_ => XS.iconst X669.here hx rfl (hb hby own_d22_76) (XS.aloadN X669.here hx rfl (hb hby own_d22_77) rfl rfl kk_)) ?_
  refine own_gG X669 hx hZ hown (own_w hw 135 rfl) e669 F_last_a rfl rfl (hb hby own_d22_78) (fun {T670} X670 e670 => ?_)
  refine own_st (g' := (mkF m 82 #[rv a, .unset, .unset, .unset] [(.int (4 : Int32)), (.ref ra), (.long (((((b + (9 : Int32)).toInt64) - (mn.toInt64)) + (1 : Int64)) + (mx.toInt64)))])) (fun tt_ kk_ => XS.imul X670.here hx rfl (hb hby own_d22_81) rfl kk_) ?_
  refine own_st (g' := (mkF m 89 #[rv a, .val (.long (((((((b + (9 : Int32)).toInt64) - (mn.toInt64)) + (1 : Int64)) + (mx.toInt64)) - ((b + (40 : Int32)).toInt64)) + (1 : Int64))), .second, .unset] [(.ref a)])) (fun tt_ kk_ => own_ldIv (g := (mkF m 82 #[rv a, .unset, .unset, .unset] [(.int (4 : Int32)), (.ref ra), (.long (((((b + (9 : Int32)).toInt64) - (mn.toInt64)) + (1 : Int64)) + (mx.toInt64)))])) X670 hx hZ e670 P_ra (by decide) (by decide) (own_Rv4 _) rfl rfl (hb hby own_d22_82) tt_ (XS.i2l X670.here hx rfl (hb hby own_d22_83) rfl (XS.lsub X670.here hx rfl (hb hby own_d22_84) rfl (XS.lconst X670.here hx rfl (hb hby own_d22_85) (XS.ladd X670.here hx rfl (hb hby own_d22_86) rfl (XS.lstoreN X670.here hx rfl (hb hby own_d22_87) rfl (l' := #[rv a, .val (.long (((((((b + (9 : Int32)).toInt64) - (mn.toInt64)) + (1 : Int64)) + (mx.toInt64)) - ((b + (40 : Int32)).toInt64)) + (1 : Int64))), .second, .unset]) rfl (XS.aloadN X670.here hx rfl (hb hby own_d22_88) rfl rfl kk_))))))) ?_
  refine own_gG X670 hx hZ hown (own_w hw 133 rfl) e670 F_first_a rfl rfl (hb hby own_d22_89) (fun {T671} X671 e671 => ?_)
  refine own_st (g' := (mkF m 97 #[rv a, .val (.long (((((((b + (9 : Int32)).toInt64) - (mn.toInt64)) + (1 : Int64)) + (mx.toInt64)) - ((b + (40 : Int32)).toInt64)) + (1 : Int64))), .second, iv (1 : Int32)] [(.ref a), (.int (1 : Int32))])) (fun tt_ kk_ => XS.iconst X671.here hx rfl (hb hby own_d22_92) (XS.iadd X671.here hx rfl (hb hby own_d22_93) rfl (XS.istoreN X671.here hx rfl (hb hby own_d22_94) rfl (l' := #[rv a, .val (.long (((((((b + (9 : Int32)).toInt64) - (mn.toInt64)) + (1 : Int64)) + (mx.toInt64)) - ((b + (40 : Int32)).toInt64)) + (1 : Int64))), .second, iv (1 : Int32)]) rfl (XS.iloadN X671.here hx rfl (hb hby own_d22_95) rfl (XS.aloadN X671.here hx rfl (hb hby own_d22_96) rfl rfl kk_))))) ?_
  refine own_gG X671 hx hZ hown (own_w hw 135 rfl) e671 F_last_a rfl rfl (hb hby own_d22_97) (fun {T672} X672 e672 => ?_)
  refine own_st (g' := (mkF m 105 #[rv a, .val (.long (((((((b + (9 : Int32)).toInt64) - (mn.toInt64)) + (1 : Int64)) + (mx.toInt64)) - ((b + (40 : Int32)).toInt64)) + (1 : Int64))), .second, iv (1 : Int32)] [(.ref a), (.long (((((((b + (9 : Int32)).toInt64) - (mn.toInt64)) + (1 : Int64)) + (mx.toInt64)) - ((b + (40 : Int32)).toInt64)) + (1 : Int64)))])) (fun tt_ kk_ => XS.icmpNo X672.here hx rfl (hb hby own_d22_100) rfl (tlt (by decide : (1 : Int32) < (2 : Int32))).2.1 (XS.lloadN X672.here hx rfl (hb hby own_d22_103) rfl (XS.aloadN X672.here hx rfl (hb hby own_d22_104) rfl rfl kk_))) ?_
  refine own_gG X672 hx hZ hown (own_w hw 131 rfl) e672 F_ranges_a rfl rfl (hb hby own_d22_105) (fun {T673} X673 e673 => ?_)
  refine own_st (g' := (mkF m 113 #[rv a, .val (.long (((((((b + (9 : Int32)).toInt64) - (mn.toInt64)) + (1 : Int64)) + (mx.toInt64)) - ((b + (40 : Int32)).toInt64)) + (1 : Int64))), .second, iv (1 : Int32)] [(.int (3 : Int32)), (.ref ra), (.long (((((((b + (9 : Int32)).toInt64) - (mn.toInt64)) + (1 : Int64)) + (mx.toInt64)) - ((b + (40 : Int32)).toInt64)) + (1 : Int64)))])) (fun tt_ kk_ => XS.iconst X673.here hx rfl (hb hby own_d22_108) (XS.iloadN X673.here hx rfl (hb hby own_d22_109) rfl (XS.imul X673.here hx rfl (hb hby own_d22_110) rfl (XS.iconst X673.here hx rfl (hb hby own_d22_111) (XS.iadd X673.here hx rfl (hb hby own_d22_112) rfl kk_))))) ?_
  refine own_st (g' := (mkF m 116 #[rv a, .val (.long (((((((b + (9 : Int32)).toInt64) - (mn.toInt64)) + (1 : Int64)) + (mx.toInt64)) - ((b + (40 : Int32)).toInt64)) + (1 : Int64))), .second, iv (1 : Int32)] [(.ref a), (.long ((b + (29 : Int32)).toInt64)), (.long (((((((b + (9 : Int32)).toInt64) - (mn.toInt64)) + (1 : Int64)) + (mx.toInt64)) - ((b + (40 : Int32)).toInt64)) + (1 : Int64)))])) (fun tt_ kk_ => own_ldIv (g := (mkF m 113 #[rv a, .val (.long (((((((b + (9 : Int32)).toInt64) - (mn.toInt64)) + (1 : Int64)) + (mx.toInt64)) - ((b + (40 : Int32)).toInt64)) + (1 : Int64))), .second, iv (1 : Int32)] [(.int (3 : Int32)), (.ref ra), (.long (((((((b + (9 : Int32)).toInt64) - (mn.toInt64)) + (1 : Int64)) + (mx.toInt64)) - ((b + (40 : Int32)).toInt64)) + (1 : Int64)))])) X673 hx hZ e673 P_ra (by decide) (by decide) (own_Rv3 _) rfl rfl (hb hby own_d22_113) tt_ (XS.i2l X673.here hx rfl (hb hby own_d22_114) rfl (XS.aloadN X673.here hx rfl (hb hby own_d22_115) rfl rfl kk_))) ?_
  refine own_gG X673 hx hZ hown (own_w hw 131 rfl) e673 F_ranges_a rfl rfl (hb hby own_d22_116) (fun {T674} X674 e674 => ?_)
  refine own_st (g' := (mkF m 122 #[rv a, .val (.long (((((((b + (9 : Int32)).toInt64) - (mn.toInt64)) + (1 : Int64)) + (mx.toInt64)) - ((b + (40 : Int32)).toInt64)) + (1 : Int64))), .second, iv (1 : Int32)] [(.int (2 : Int32)), (.ref ra), (.long ((b + (29 : Int32)).toInt64)), (.long (((((((b + (9 : Int32)).toInt64) - (mn.toInt64)) + (1 : Int64)) + (mx.toInt64)) - ((b + (40 : Int32)).toInt64)) + (1 : Int64)))])) (fun tt_ kk_ => XS.iconst X674.here hx rfl (hb hby own_d22_119) (XS.iloadN X674.here hx rfl (hb hby own_d22_120) rfl (XS.imul X674.here hx rfl (hb hby own_d22_121) rfl kk_))) ?_
  refine own_st (g' := (mkF m 97 #[rv a, .val (.long ((((((((b + (9 : Int32)).toInt64) - (mn.toInt64)) + (1 : Int64)) + (mx.toInt64)) - ((b + (40 : Int32)).toInt64)) + (1 : Int64)) + ((((b + (29 : Int32)).toInt64) - ((b + (20 : Int32)).toInt64)) + (1 : Int64)))), .second, iv (2 : Int32)] [(.ref a), (.int (2 : Int32))])) (fun tt_ kk_ => own_ldIv (g := (mkF m 122 #[rv a, .val (.long (((((((b + (9 : Int32)).toInt64) - (mn.toInt64)) + (1 : Int64)) + (mx.toInt64)) - ((b + (40 : Int32)).toInt64)) + (1 : Int64))), .second, iv (1 : Int32)] [(.int (2 : Int32)), (.ref ra), (.long ((b + (29 : Int32)).toInt64)), (.long (((((((b + (9 : Int32)).toInt64) - (mn.toInt64)) + (1 : Int64)) + (mx.toInt64)) - ((b + (40 : Int32)).toInt64)) + (1 : Int64)))])) X674 hx hZ e674 P_ra (by decide) (by decide) (own_Rv2 _) rfl rfl (hb hby own_d22_122) tt_ (XS.i2l X674.here hx rfl (hb hby own_d22_123) rfl (XS.lsub X674.here hx rfl (hb hby own_d22_124) rfl (XS.lconst X674.here hx rfl (hb hby own_d22_125) (XS.ladd X674.here hx rfl (hb hby own_d22_126) rfl (XS.ladd X674.here hx rfl (hb hby own_d22_127) rfl (XS.lstoreN X674.here hx rfl (hb hby own_d22_128) rfl (l' := #[rv a, .val (.long ((((((((b + (9 : Int32)).toInt64) - (mn.toInt64)) + (1 : Int64)) + (mx.toInt64)) - ((b + (40 : Int32)).toInt64)) + (1 : Int64)) + ((((b + (29 : Int32)).toInt64) - ((b + (20 : Int32)).toInt64)) + (1 : Int64)))), .second, iv (1 : Int32)]) rfl (XS.iinc X674.here hx rfl (hb hby own_d22_129) rfl (l' := #[rv a, .val (.long ((((((((b + (9 : Int32)).toInt64) - (mn.toInt64)) + (1 : Int64)) + (mx.toInt64)) - ((b + (40 : Int32)).toInt64)) + (1 : Int64)) + ((((b + (29 : Int32)).toInt64) - ((b + (20 : Int32)).toInt64)) + (1 : Int64)))), .second, iv (2 : Int32)]) rfl (XS.goto X674.here hx rfl (pc0 := 132) (pc' := 95) rfl (hb hby own_d22_132) (by decide) (by decide) (XS.iloadN X674.here hx rfl (hb hby own_d22_95) rfl (XS.aloadN X674.here hx rfl (hb hby own_d22_96) rfl rfl kk_))))))))))) ?_
  refine own_gG X674 hx hZ hown (own_w hw 135 rfl) e674 F_last_a rfl rfl (hb hby own_d22_97) (fun {T675} X675 e675 => ?_)
  refine own_st (g' := (mkF m 137 #[rv a, .val (.long ((((((((b + (9 : Int32)).toInt64) - (mn.toInt64)) + (1 : Int64)) + (mx.toInt64)) - ((b + (40 : Int32)).toInt64)) + (1 : Int64)) + ((((b + (29 : Int32)).toInt64) - ((b + (20 : Int32)).toInt64)) + (1 : Int64)))), .second, iv (2 : Int32)] [(.long ((((((((b + (9 : Int32)).toInt64) - (mn.toInt64)) + (1 : Int64)) + (mx.toInt64)) - ((b + (40 : Int32)).toInt64)) + (1 : Int64)) + ((((b + (29 : Int32)).toInt64) - ((b + (20 : Int32)).toInt64)) + (1 : Int64)))), (.ref a)])) (fun tt_ kk_ => XS.icmpYes X675.here hx rfl (pc0 := 100) (pc' := 135) rfl (hb hby own_d22_100) rfl (flt (by decide : ¬ ((2 : Int32) < (2 : Int32)))).2.1 (by decide) (by decide) (XS.aloadN X675.here hx rfl (hb hby own_d22_135) rfl rfl (XS.lloadN X675.here hx rfl (hb hby own_d22_136) rfl kk_))) ?_
  obtain ⟨T676, h676, X676, e676, W676, st676⟩ := putF X675 hx hZ hown (host := "") (Or.inl (own_w hw 118 rfl)) Via.refl e675 F_size_a E_a (Or.inl (own_w hw 119 rfl)) (own_w hw 84 rfl) (ty := .long) (by decide) rfl rfl (g := (mkF m 137 #[rv a, .val (.long ((((((((b + (9 : Int32)).toInt64) - (mn.toInt64)) + (1 : Int64)) + (mx.toInt64)) - ((b + (40 : Int32)).toInt64)) + (1 : Int64)) + ((((b + (29 : Int32)).toInt64) - ((b + (20 : Int32)).toInt64)) + (1 : Int64)))), .second, iv (2 : Int32)] [(.long ((((((((b + (9 : Int32)).toInt64) - (mn.toInt64)) + (1 : Int64)) + (mx.toInt64)) - ((b + (40 : Int32)).toInt64)) + (1 : Int64)) + ((((b + (29 : Int32)).toInt64) - ((b + (20 : Int32)).toInt64)) + (1 : Int64)))), (.ref a)])) rfl rfl (hb hby own_d22_137)
  have N676 := Fr.snoc X676 N0 g_a
  have Z676 : n0 ≤ h676.size := Nat.le_trans Z0 (Keep.of_wr W676).1
  have K676 : Keep h0 h676 [a] := K0.wr W676 (Or.inl (List.mem_of_getElem? (i := 0) rfl))
  have F676 : Fld Z h676 a own_z0 "size" "J" (.long ((((((((b + (9 : Int32)).toInt64) - (mn.toInt64)) + (1 : Int64)) + (mx.toInt64)) - ((b + (40 : Int32)).toInt64)) + (1 : Int64)) + ((((b + (29 : Int32)).toInt64) - ((b + (20 : Int32)).toInt64)) + (1 : Int64)))) := F_size_a.same W676
  refine own_st st676 ?_
  have F677 := (E_a.wr W676)
  have F678 := (F_model_a.other W676 (Or.inr (Ne.symm (own_sn131 hw))))
  have F679 := (F_watchers_a.other W676 (Or.inr (Ne.symm (own_sn129 hw))))
  have F680 := (F_watcherCount_a.other W676 (Or.inr (own_sn216 hw)))
  have F681 := (F_boundsFrom_a.other W676 (Or.inr (own_sn228 hw)))
  have F682 := (F_toldFrom_a.other W676 (Or.inr (own_sn240 hw)))
  exact own_retV X676 hx hlk hret (hb hby own_d22_140) (by decide) (by decide) (by rw [e676]; exact ⟨rfl, N676, K676, F677, F676, F678, F679, F680, F681, F682⟩)
def own_Qrec11 (Z : State) (a : Addr) (mn : Int32) (mx : Int32) (osz : Int64) (ra : Addr) (b : Int32) (mo : Addr) (wa : Addr) (h0 : Heap) (n0 : Nat) (v : Option Value) (h : Heap) (L : List Loc) : Prop := v = none ∧ Fr n0 L ∧ Keep h0 h [a] ∧ Exa Z h a own_z0 ∧ Fld Z h a own_z0 "size" "J" (.long (((mx.toInt64) - (mn.toInt64)) + (1 : Int64))) ∧ Fld Z h a own_z0 "model" own_z4 (.ref mo) ∧ Fld Z h a own_z0 "watchers" own_z3 (.ref wa) ∧ Fld Z h a own_z0 own_z9 "I" (.int (0 : Int32)) ∧ Fld Z h a own_z0 "boundsFrom" "I" (.int (0 : Int32)) ∧ Fld Z h a own_z0 "toldFrom" "I" (.int (0 : Int32))
theorem own_efrec11 (m : MethodId) (a : Addr) : entryFrame m #[(.ref a)] 4 = mkF m 0 #[rv a, .unset, .unset, .unset] [] := by first | (simp [entryFrame, mkF, argsToLocals, Value.category]; done) | rfl
set_option maxRecDepth 65536 in
set_option maxHeartbeats 16000000 in
theorem own_rmrec11 (l : Launch) (Z : State) (a0 : Array Value) (hw : own_HW Z a0) (ws : List Jvm.Cond) (a : Addr) (mn : Int32) (mx : Int32) (osz : Int64) (ra : Addr) (b : Int32) (mo : Addr) (wa : Addr) (h0 : Heap) (n0 : Nat) (Z0 : n0 ≤ h0.size) (E_a : Exa Z h0 a own_z0) (F_min_a : Fld Z h0 a own_z0 "min" "I" (.int mn)) (F_max_a : Fld Z h0 a own_z0 "max" "I" (.int mx)) (F_size_a : Fld Z h0 a own_z0 "size" "J" (.long osz)) (F_first_a : Fld Z h0 a own_z0 "first" "I" (.int (1 : Int32))) (F_last_a : Fld Z h0 a own_z0 "last" "I" (.int (1 : Int32))) (F_ranges_a : Fld Z h0 a own_z0 "ranges" "[I" (.ref ra)) (P_ra : own_AI Z h0 ra 6 (own_R b)) (F_model_a : Fld Z h0 a own_z0 "model" own_z4 (.ref mo)) (F_watchers_a : Fld Z h0 a own_z0 "watchers" own_z3 (.ref wa)) (F_watcherCount_a : Fld Z h0 a own_z0 own_z9 "I" (.int (0 : Int32))) (F_boundsFrom_a : Fld Z h0 a own_z0 "boundsFrom" "I" (.int (0 : Int32))) (F_toldFrom_a : Fld Z h0 a own_z0 "toldFrom" "I" (.int (0 : Int32))) (ne_a_ra : a ≠ ra) (g_a : n0 ≤ a) :
    MetFree l (⟨own_z0, "recount", "()V"⟩ : MethodName) (head1 (Jvm.Cond.code (⟨own_z0, "recount", "()V"⟩ : MethodName) prog_37_method_38_code 4 none :: ws) ({ frames := 0, cells := 0, slots := 0, locals := 0 } : Room)) (fun aa UU => aa = #[(.ref a)] ∧ Z.Warmed39 UU.vm ∧ UU.heap = h0) (fun _ _ _ _ _ => True) (fun _ U o U' => ∃ v L, o = .returned v ∧ own_Qrec11 Z a mn mx osz ra b mo wa h0 n0 v U'.heap L ∧ FrameEnd U o U' L ({ frames := 0, cells := 0, slots := 0, locals := 0 } : Room).cells ({ frames := 0, cells := 0, slots := 0, locals := 0 } : Room).slots) := by
  refine MetFree.of_bodySF (plainFor_of_name own_pn5) hisR ?_
  intro p e s m args below meth c s₁ Bd hml hP hK
  obtain ⟨rfl, hZ, hh⟩ := hP
  have hx := Bd.exec
  have hlk := Bd.notSynchronized
  have hby := Bd.bytes
  have hret := Bd.returns
  have hown := findClass_of_methodNamed Bd.named
  have hnm := (name_of_methodNamed Bd.named Bd.method).1
  have X0 : Stand p l e ({ frames := 0, cells := 0, slots := 0, locals := 0 } : Room) s m #[(.ref a)] below meth c s₁ [] 0 0 := Stand.of_body Bd
  have e0 : s₁.heap = h0 := by rw [← hh, Bd.state]; rfl
  have N0 := Fr.nil n0
  refine own_cast (own_efrec11 m a) ?_
  show own_Go p e below s s₁ _ (own_Qrec11 Z a mn mx osz ra b mo wa h0 n0) 0 0
  have K0 : Keep h0 h0 [a] := Keep.refl _ _
  refine own_st (g' := (mkF m 1 #[rv a, .unset, .unset, .unset] [(.ref a)])) (fun tt_ kk_ => XS.aloadN X0.here hx rfl (hb hby own_d22_0) rfl rfl kk_) ?_
  refine own_gG X0 hx hZ hown (own_w hw 133 rfl) e0 F_first_a rfl rfl (hb hby own_d22_1) (fun {T683} X683 e683 => ?_)
  refine own_st (g' := (mkF m 5 #[rv a, .unset, .unset, .unset] [(.ref a), (.int (1 : Int32))])) (fun tt_ kk_ => XS.aloadN X683.here hx rfl (hb hby own_d22_4) rfl rfl kk_) ?_
  refine own_gG X683 hx hZ hown (own_w hw 135 rfl) e683 F_last_a rfl rfl (hb hby own_d22_5) (fun {T684} X684 e684 => ?_)
  refine own_st (g' := (mkF m 13 #[rv a, .unset, .unset, .unset] [.null, (.ref a)])) (fun tt_ kk_ => XS.icmpNo X684.here hx rfl (hb hby own_d22_8) rfl (teq (by decide : (1 : Int32) = (1 : Int32))).2 (XS.aloadN X684.here hx rfl (hb hby own_d22_11) rfl rfl (XS.aconstNull X684.here hx rfl (hb hby own_d22_12) kk_))) ?_
  obtain ⟨T685, h685, X685, e685, W685, st685⟩ := putF X684 hx hZ hown (host := "") (Or.inl (own_w hw 131 rfl)) Via.refl e684 F_ranges_a E_a (Or.inl (own_w hw 132 rfl)) (own_w hw 84 rfl) (ty := (.array .int)) (by decide) rfl rfl (g := (mkF m 13 #[rv a, .unset, .unset, .unset] [.null, (.ref a)])) rfl rfl (hb hby own_d22_13)
  have N685 := Fr.snoc X685 N0 g_a
  have Z685 : n0 ≤ h685.size := Nat.le_trans Z0 (Keep.of_wr W685).1
  have K685 : Keep h0 h685 [a] := K0.wr W685 (Or.inl (List.mem_of_getElem? (i := 0) rfl))
  have F685 : Fld Z h685 a own_z0 "ranges" "[I" .null := F_ranges_a.same W685
  refine own_st st685 ?_
  refine own_st (g' := (mkF m 18 #[rv a, .unset, .unset, .unset] [(.int (0 : Int32)), (.ref a)])) (fun tt_ kk_ => XS.aloadN X685.here hx rfl (hb hby own_d22_16) rfl rfl (XS.iconst X685.here hx rfl (hb hby own_d22_17) kk_)) ?_
  have F687 := (F_first_a.other W685 (Or.inr (own_sn243 hw)))
  have F688 := (E_a.wr W685)
  obtain ⟨T686, h686, X686, e686, W686, st686⟩ := putF X685 hx hZ hown (host := "") (Or.inl (own_w hw 133 rfl)) Via.refl e685 F687 F688 (Or.inl (own_w hw 134 rfl)) (own_w hw 84 rfl) (ty := .int) (by decide) rfl rfl (g := (mkF m 18 #[rv a, .unset, .unset, .unset] [(.int (0 : Int32)), (.ref a)])) rfl rfl (hb hby own_d22_18)
  have N686 := Fr.snoc X686 N685 g_a
  have Z686 : n0 ≤ h686.size := Nat.le_trans Z685 (Keep.of_wr W686).1
  have K686 : Keep h0 h686 [a] := K685.wr W686 (Or.inl (List.mem_of_getElem? (i := 0) rfl))
  have F686 : Fld Z h686 a own_z0 "first" "I" (.int (0 : Int32)) := F687.same W686
  refine own_st st686 ?_
  refine own_st (g' := (mkF m 23 #[rv a, .unset, .unset, .unset] [(.int (0 : Int32)), (.ref a)])) (fun tt_ kk_ => XS.aloadN X686.here hx rfl (hb hby own_d22_21) rfl rfl (XS.iconst X686.here hx rfl (hb hby own_d22_22) kk_)) ?_
  have F690 := ((F_last_a.other W685 (Or.inr (own_sn244 hw))).other W686 (Or.inr (own_sn245 hw)))
  have F691 := (F688.wr W686)
  obtain ⟨T689, h689, X689, e689, W689, st689⟩ := putF X686 hx hZ hown (host := "") (Or.inl (own_w hw 135 rfl)) Via.refl e686 F690 F691 (Or.inl (own_w hw 136 rfl)) (own_w hw 84 rfl) (ty := .int) (by decide) rfl rfl (g := (mkF m 23 #[rv a, .unset, .unset, .unset] [(.int (0 : Int32)), (.ref a)])) rfl rfl (hb hby own_d22_23)
  have N689 := Fr.snoc X689 N686 g_a
  have Z689 : n0 ≤ h689.size := Nat.le_trans Z686 (Keep.of_wr W689).1
  have K689 : Keep h0 h689 [a] := K686.wr W689 (Or.inl (List.mem_of_getElem? (i := 0) rfl))
  have F689 : Fld Z h689 a own_z0 "last" "I" (.int (0 : Int32)) := F690.same W689
  refine own_st st689 ?_
  refine own_st (g' := (mkF m 28 #[rv a, .unset, .unset, .unset] [(.ref a), (.ref a)])) (fun tt_ kk_ => XS.aloadN X689.here hx rfl (hb hby own_d22_26) rfl rfl (XS.aloadN X689.here hx rfl (hb hby own_d22_27) rfl rfl kk_)) ?_
  have F693 := (((F_max_a.other W685 (Or.inr (Ne.symm (own_sn165 hw)))).other W686 (Or.inr (Ne.symm (own_sn177 hw)))).other W689 (Or.inr (Ne.symm (own_sn189 hw))))
  refine own_gG X689 hx hZ hown (own_w hw 112 rfl) e689 F693 rfl rfl (hb hby own_d22_28) (fun {T692} X692 e692 => ?_)
  refine own_st (g' := (mkF m 33 #[rv a, .unset, .unset, .unset] [(.ref a), (.long (mx.toInt64)), (.ref a)])) (fun tt_ kk_ => XS.i2l X692.here hx rfl (hb hby own_d22_31) rfl (XS.aloadN X692.here hx rfl (hb hby own_d22_32) rfl rfl kk_)) ?_
  have F695 := (((F_min_a.other W685 (Or.inr (Ne.symm (own_sn164 hw)))).other W686 (Or.inr (Ne.symm (own_sn176 hw)))).other W689 (Or.inr (Ne.symm (own_sn188 hw))))
  refine own_gG X692 hx hZ hown (own_w hw 110 rfl) e692 F695 rfl rfl (hb hby own_d22_33) (fun {T694} X694 e694 => ?_)
  refine own_st (g' := (mkF m 40 #[rv a, .unset, .unset, .unset] [(.long (((mx.toInt64) - (mn.toInt64)) + (1 : Int64))), (.ref a)])) (fun tt_ kk_ => XS.i2l X694.here hx rfl (hb hby own_d22_36) rfl (XS.lsub X694.here hx rfl (hb hby own_d22_37) rfl (XS.lconst X694.here hx rfl (hb hby own_d22_38) (XS.ladd X694.here hx rfl (hb hby own_d22_39) rfl kk_)))) ?_
  have F697 := (((F_size_a.other W685 (Or.inr (Ne.symm (own_sn168 hw)))).other W686 (Or.inr (Ne.symm (own_sn180 hw)))).other W689 (Or.inr (Ne.symm (own_sn192 hw))))
  have F698 := (F691.wr W689)
  obtain ⟨T696, h696, X696, e696, W696, st696⟩ := putF X694 hx hZ hown (host := "") (Or.inl (own_w hw 118 rfl)) Via.refl e694 F697 F698 (Or.inl (own_w hw 119 rfl)) (own_w hw 84 rfl) (ty := .long) (by decide) rfl rfl (g := (mkF m 40 #[rv a, .unset, .unset, .unset] [(.long (((mx.toInt64) - (mn.toInt64)) + (1 : Int64))), (.ref a)])) rfl rfl (hb hby own_d22_40)
  have N696 := Fr.snoc X696 N689 g_a
  have Z696 : n0 ≤ h696.size := Nat.le_trans Z689 (Keep.of_wr W696).1
  have K696 : Keep h0 h696 [a] := K689.wr W696 (Or.inl (List.mem_of_getElem? (i := 0) rfl))
  have F696 : Fld Z h696 a own_z0 "size" "J" (.long (((mx.toInt64) - (mn.toInt64)) + (1 : Int64))) := F697.same W696
  refine own_st st696 ?_
  have F699 := (F698.wr W696)
  have F700 := ((((F_model_a.other W685 (Or.inr (Ne.symm (own_sn161 hw)))).other W686 (Or.inr (Ne.symm (own_sn173 hw)))).other W689 (Or.inr (Ne.symm (own_sn185 hw)))).other W696 (Or.inr (Ne.symm (own_sn131 hw))))
  have F701 := ((((F_watchers_a.other W685 (Or.inr (Ne.symm (own_sn159 hw)))).other W686 (Or.inr (Ne.symm (own_sn171 hw)))).other W689 (Or.inr (Ne.symm (own_sn183 hw)))).other W696 (Or.inr (Ne.symm (own_sn129 hw))))
  have F702 := ((((F_watcherCount_a.other W685 (Or.inr (own_sn249 hw))).other W686 (Or.inr (own_sn250 hw))).other W689 (Or.inr (own_sn251 hw))).other W696 (Or.inr (own_sn216 hw)))
  have F703 := ((((F_boundsFrom_a.other W685 (Or.inr (own_sn253 hw))).other W686 (Or.inr (own_sn254 hw))).other W689 (Or.inr (own_sn255 hw))).other W696 (Or.inr (own_sn228 hw)))
  have F704 := ((((F_toldFrom_a.other W685 (Or.inr (own_sn257 hw))).other W686 (Or.inr (own_sn258 hw))).other W689 (Or.inr (own_sn259 hw))).other W696 (Or.inr (own_sn240 hw)))
  exact own_retV X696 hx hlk hret (hb hby own_d22_43) (by decide) (by decide) (by rw [e696]; exact ⟨rfl, N696, K696, F699, F696, F700, F701, F702, F703, F704⟩)
def own_Qrec12 (Z : State) (a : Addr) (mn : Int32) (mx : Int32) (osz : Int64) (ra : Addr) (b : Int32) (mo : Addr) (wa : Addr) (h0 : Heap) (n0 : Nat) (v : Option Value) (h : Heap) (L : List Loc) : Prop := v = none ∧ Fr n0 L ∧ Keep h0 h [a] ∧ Exa Z h a own_z0 ∧ Fld Z h a own_z0 "size" "J" (.long (((((((b + (29 : Int32)).toInt64) - (mn.toInt64)) + (1 : Int64)) + (mx.toInt64)) - ((b + (40 : Int32)).toInt64)) + (1 : Int64))) ∧ Fld Z h a own_z0 "model" own_z4 (.ref mo) ∧ Fld Z h a own_z0 "watchers" own_z3 (.ref wa) ∧ Fld Z h a own_z0 own_z9 "I" (.int (0 : Int32)) ∧ Fld Z h a own_z0 "boundsFrom" "I" (.int (0 : Int32)) ∧ Fld Z h a own_z0 "toldFrom" "I" (.int (0 : Int32))
theorem own_efrec12 (m : MethodId) (a : Addr) : entryFrame m #[(.ref a)] 4 = mkF m 0 #[rv a, .unset, .unset, .unset] [] := by first | (simp [entryFrame, mkF, argsToLocals, Value.category]; done) | rfl
set_option maxRecDepth 65536 in
set_option maxHeartbeats 16000000 in
theorem own_rmrec12 (l : Launch) (Z : State) (a0 : Array Value) (hw : own_HW Z a0) (ws : List Jvm.Cond) (a : Addr) (mn : Int32) (mx : Int32) (osz : Int64) (ra : Addr) (b : Int32) (mo : Addr) (wa : Addr) (h0 : Heap) (n0 : Nat) (Z0 : n0 ≤ h0.size) (E_a : Exa Z h0 a own_z0) (F_min_a : Fld Z h0 a own_z0 "min" "I" (.int mn)) (F_max_a : Fld Z h0 a own_z0 "max" "I" (.int mx)) (F_size_a : Fld Z h0 a own_z0 "size" "J" (.long osz)) (F_first_a : Fld Z h0 a own_z0 "first" "I" (.int (1 : Int32))) (F_last_a : Fld Z h0 a own_z0 "last" "I" (.int (2 : Int32))) (F_ranges_a : Fld Z h0 a own_z0 "ranges" "[I" (.ref ra)) (P_ra : own_AI Z h0 ra 6 (own_R b)) (F_model_a : Fld Z h0 a own_z0 "model" own_z4 (.ref mo)) (F_watchers_a : Fld Z h0 a own_z0 "watchers" own_z3 (.ref wa)) (F_watcherCount_a : Fld Z h0 a own_z0 own_z9 "I" (.int (0 : Int32))) (F_boundsFrom_a : Fld Z h0 a own_z0 "boundsFrom" "I" (.int (0 : Int32))) (F_toldFrom_a : Fld Z h0 a own_z0 "toldFrom" "I" (.int (0 : Int32))) (ne_a_ra : a ≠ ra) (g_a : n0 ≤ a) :
    MetFree l (⟨own_z0, "recount", "()V"⟩ : MethodName) (head1 (Jvm.Cond.code (⟨own_z0, "recount", "()V"⟩ : MethodName) prog_37_method_38_code 4 none :: ws) ({ frames := 0, cells := 0, slots := 0, locals := 0 } : Room)) (fun aa UU => aa = #[(.ref a)] ∧ Z.Warmed39 UU.vm ∧ UU.heap = h0) (fun _ _ _ _ _ => True) (fun _ U o U' => ∃ v L, o = .returned v ∧ own_Qrec12 Z a mn mx osz ra b mo wa h0 n0 v U'.heap L ∧ FrameEnd U o U' L ({ frames := 0, cells := 0, slots := 0, locals := 0 } : Room).cells ({ frames := 0, cells := 0, slots := 0, locals := 0 } : Room).slots) := by
  refine MetFree.of_bodySF (plainFor_of_name own_pn5) hisR ?_
  intro p e s m args below meth c s₁ Bd hml hP hK
  obtain ⟨rfl, hZ, hh⟩ := hP
  have hx := Bd.exec
  have hlk := Bd.notSynchronized
  have hby := Bd.bytes
  have hret := Bd.returns
  have hown := findClass_of_methodNamed Bd.named
  have hnm := (name_of_methodNamed Bd.named Bd.method).1
  have X0 : Stand p l e ({ frames := 0, cells := 0, slots := 0, locals := 0 } : Room) s m #[(.ref a)] below meth c s₁ [] 0 0 := Stand.of_body Bd
  have e0 : s₁.heap = h0 := by rw [← hh, Bd.state]; rfl
  have N0 := Fr.nil n0
  refine own_cast (own_efrec12 m a) ?_
  show own_Go p e below s s₁ _ (own_Qrec12 Z a mn mx osz ra b mo wa h0 n0) 0 0
  have K0 : Keep h0 h0 [a] := Keep.refl _ _
  refine own_st (g' := (mkF m 1 #[rv a, .unset, .unset, .unset] [(.ref a)])) (fun tt_ kk_ => XS.aloadN X0.here hx rfl (hb hby own_d22_0) rfl rfl kk_) ?_
  refine own_gG X0 hx hZ hown (own_w hw 133 rfl) e0 F_first_a rfl rfl (hb hby own_d22_1) (fun {T705} X705 e705 => ?_)
  refine own_st (g' := (mkF m 5 #[rv a, .unset, .unset, .unset] [(.ref a), (.int (1 : Int32))])) (fun tt_ kk_ => XS.aloadN X705.here hx rfl (hb hby own_d22_4) rfl rfl kk_) ?_
  refine own_gG X705 hx hZ hown (own_w hw 135 rfl) e705 F_last_a rfl rfl (hb hby own_d22_5) (fun {T706} X706 e706 => ?_)
  refine own_st (g' := (mkF m 45 #[rv a, .unset, .unset, .unset] [(.ref a)])) (fun tt_ kk_ => XS.icmpYes X706.here hx rfl (pc0 := 8) (pc' := 44) rfl (hb hby own_d22_8) rfl (feq (by decide : ¬ ((1 : Int32) = (2 : Int32)))).2 (by decide) (by decide) (XS.aloadN X706.here hx rfl (hb hby own_d22_44) rfl rfl kk_)) ?_
  refine own_gG X706 hx hZ hown (own_w hw 131 rfl) e706 F_ranges_a rfl rfl (hb hby own_d22_45) (fun {T707} X707 e707 => ?_)
  refine own_st (g' := (mkF m 50 #[rv a, .unset, .unset, .unset] [(.ref a), (.int (2 : Int32)), (.ref ra)])) (fun tt_ kk_ => XS.iconst X707.here hx rfl (hb hby own_d22_48) (XS.aloadN X707.here hx rfl (hb hby own_d22_49) rfl rfl kk_)) ?_
  refine own_gG X707 hx hZ hown (own_w hw 133 rfl) e707 F_first_a rfl rfl (hb hby own_d22_50) (fun {T708} X708 e708 => ?_)
  refine own_st (g' := (mkF m 56 #[rv a, .unset, .unset, .unset] [(.int (3 : Int32)), (.ref ra)])) (fun tt_ kk_ => XS.imul X708.here hx rfl (hb hby own_d22_53) rfl (XS.iconst X708.here hx rfl (hb hby own_d22_54) (XS.iadd X708.here hx rfl (hb hby own_d22_55) rfl kk_))) ?_
  refine own_st (g' := (mkF m 59 #[rv a, .unset, .unset, .unset] [(.ref a), (.long ((b + (29 : Int32)).toInt64))])) (fun tt_ kk_ => own_ldIv (g := (mkF m 56 #[rv a, .unset, .unset, .unset] [(.int (3 : Int32)), (.ref ra)])) X708 hx hZ e708 P_ra (by decide) (by decide) (own_Rv3 _) rfl rfl (hb hby own_d22_56) tt_ (XS.i2l X708.here hx rfl (hb hby own_d22_57) rfl (XS.aloadN X708.here hx rfl (hb hby own_d22_58) rfl rfl kk_))) ?_
  refine own_gG X708 hx hZ hown (own_w hw 110 rfl) e708 F_min_a rfl rfl (hb hby own_d22_59) (fun {T709} X709 e709 => ?_)
  refine own_st (g' := (mkF m 67 #[rv a, .unset, .unset, .unset] [(.ref a), (.long ((((b + (29 : Int32)).toInt64) - (mn.toInt64)) + (1 : Int64)))])) (fun tt_ kk_ => XS.i2l X709.here hx rfl (hb hby own_d22_62) rfl (XS.lsub X709.here hx rfl (hb hby own_d22_63) rfl (XS.lconst X709.here hx rfl (hb hby own_d22_64) (XS.ladd X709.here hx rfl (hb hby own_d22_65) rfl (XS.aloadN X709.here hx rfl (hb hby own_d22_66) rfl rfl kk_))))) ?_
  refine own_gG X709 hx hZ hown (own_w hw 112 rfl) e709 F_max_a rfl rfl (hb hby own_d22_67) (fun {T710} X710 e710 => ?_)
  refine own_st (g' := (mkF m 73 #[rv a, .unset, .unset, .unset] [(.ref a), (.long (((((b + (29 : Int32)).toInt64) - (mn.toInt64)) + (1 : Int64)) + (mx.toInt64)))])) (fun tt_ kk_ => XS.i2l X710.here hx rfl (hb hby own_d22_70) rfl (XS.ladd X710.here hx rfl (hb hby own_d22_71) rfl (XS.aloadN X710.here hx rfl (hb hby own_d22_72) rfl rfl kk_))) ?_
  refine own_gG X710 hx hZ hown (own_w hw 131 rfl) e710 F_ranges_a rfl rfl (hb hby own_d22_73) (fun {T711} X711 e711 => ?_)
  refine own_st (g' := (mkF m 78 #[rv a, .unset, .unset, .unset] [(.ref a), (.int (2 : Int32)), (.ref ra), (.long (((((b + (29 : Int32)).toInt64) - (mn.toInt64)) + (1 : Int64)) + (mx.toInt64)))])) (fun tt_ kk_ => XS.iconst X711.here hx rfl (hb hby own_d22_76) (XS.aloadN X711.here hx rfl (hb hby own_d22_77) rfl rfl kk_)) ?_
  refine own_gG X711 hx hZ hown (own_w hw 135 rfl) e711 F_last_a rfl rfl (hb hby own_d22_78) (fun {T712} X712 e712 => ?_)
  refine own_st (g' := (mkF m 82 #[rv a, .unset, .unset, .unset] [(.int (4 : Int32)), (.ref ra), (.long (((((b + (29 : Int32)).toInt64) - (mn.toInt64)) + (1 : Int64)) + (mx.toInt64)))])) (fun tt_ kk_ => XS.imul X712.here hx rfl (hb hby own_d22_81) rfl kk_) ?_
  refine own_st (g' := (mkF m 89 #[rv a, .val (.long (((((((b + (29 : Int32)).toInt64) - (mn.toInt64)) + (1 : Int64)) + (mx.toInt64)) - ((b + (40 : Int32)).toInt64)) + (1 : Int64))), .second, .unset] [(.ref a)])) (fun tt_ kk_ => own_ldIv (g := (mkF m 82 #[rv a, .unset, .unset, .unset] [(.int (4 : Int32)), (.ref ra), (.long (((((b + (29 : Int32)).toInt64) - (mn.toInt64)) + (1 : Int64)) + (mx.toInt64)))])) X712 hx hZ e712 P_ra (by decide) (by decide) (own_Rv4 _) rfl rfl (hb hby own_d22_82) tt_ (XS.i2l X712.here hx rfl (hb hby own_d22_83) rfl (XS.lsub X712.here hx rfl (hb hby own_d22_84) rfl (XS.lconst X712.here hx rfl (hb hby own_d22_85) (XS.ladd X712.here hx rfl (hb hby own_d22_86) rfl (XS.lstoreN X712.here hx rfl (hb hby own_d22_87) rfl (l' := #[rv a, .val (.long (((((((b + (29 : Int32)).toInt64) - (mn.toInt64)) + (1 : Int64)) + (mx.toInt64)) - ((b + (40 : Int32)).toInt64)) + (1 : Int64))), .second, .unset]) rfl (XS.aloadN X712.here hx rfl (hb hby own_d22_88) rfl rfl kk_))))))) ?_
  refine own_gG X712 hx hZ hown (own_w hw 133 rfl) e712 F_first_a rfl rfl (hb hby own_d22_89) (fun {T713} X713 e713 => ?_)
  refine own_st (g' := (mkF m 97 #[rv a, .val (.long (((((((b + (29 : Int32)).toInt64) - (mn.toInt64)) + (1 : Int64)) + (mx.toInt64)) - ((b + (40 : Int32)).toInt64)) + (1 : Int64))), .second, iv (2 : Int32)] [(.ref a), (.int (2 : Int32))])) (fun tt_ kk_ => XS.iconst X713.here hx rfl (hb hby own_d22_92) (XS.iadd X713.here hx rfl (hb hby own_d22_93) rfl (XS.istoreN X713.here hx rfl (hb hby own_d22_94) rfl (l' := #[rv a, .val (.long (((((((b + (29 : Int32)).toInt64) - (mn.toInt64)) + (1 : Int64)) + (mx.toInt64)) - ((b + (40 : Int32)).toInt64)) + (1 : Int64))), .second, iv (2 : Int32)]) rfl (XS.iloadN X713.here hx rfl (hb hby own_d22_95) rfl (XS.aloadN X713.here hx rfl (hb hby own_d22_96) rfl rfl kk_))))) ?_
  refine own_gG X713 hx hZ hown (own_w hw 135 rfl) e713 F_last_a rfl rfl (hb hby own_d22_97) (fun {T714} X714 e714 => ?_)
  refine own_st (g' := (mkF m 137 #[rv a, .val (.long (((((((b + (29 : Int32)).toInt64) - (mn.toInt64)) + (1 : Int64)) + (mx.toInt64)) - ((b + (40 : Int32)).toInt64)) + (1 : Int64))), .second, iv (2 : Int32)] [(.long (((((((b + (29 : Int32)).toInt64) - (mn.toInt64)) + (1 : Int64)) + (mx.toInt64)) - ((b + (40 : Int32)).toInt64)) + (1 : Int64))), (.ref a)])) (fun tt_ kk_ => XS.icmpYes X714.here hx rfl (pc0 := 100) (pc' := 135) rfl (hb hby own_d22_100) rfl (flt (by decide : ¬ ((2 : Int32) < (2 : Int32)))).2.1 (by decide) (by decide) (XS.aloadN X714.here hx rfl (hb hby own_d22_135) rfl rfl (XS.lloadN X714.here hx rfl (hb hby own_d22_136) rfl kk_))) ?_
  obtain ⟨T715, h715, X715, e715, W715, st715⟩ := putF X714 hx hZ hown (host := "") (Or.inl (own_w hw 118 rfl)) Via.refl e714 F_size_a E_a (Or.inl (own_w hw 119 rfl)) (own_w hw 84 rfl) (ty := .long) (by decide) rfl rfl (g := (mkF m 137 #[rv a, .val (.long (((((((b + (29 : Int32)).toInt64) - (mn.toInt64)) + (1 : Int64)) + (mx.toInt64)) - ((b + (40 : Int32)).toInt64)) + (1 : Int64))), .second, iv (2 : Int32)] [(.long (((((((b + (29 : Int32)).toInt64) - (mn.toInt64)) + (1 : Int64)) + (mx.toInt64)) - ((b + (40 : Int32)).toInt64)) + (1 : Int64))), (.ref a)])) rfl rfl (hb hby own_d22_137)
  have N715 := Fr.snoc X715 N0 g_a
  have Z715 : n0 ≤ h715.size := Nat.le_trans Z0 (Keep.of_wr W715).1
  have K715 : Keep h0 h715 [a] := K0.wr W715 (Or.inl (List.mem_of_getElem? (i := 0) rfl))
  have F715 : Fld Z h715 a own_z0 "size" "J" (.long (((((((b + (29 : Int32)).toInt64) - (mn.toInt64)) + (1 : Int64)) + (mx.toInt64)) - ((b + (40 : Int32)).toInt64)) + (1 : Int64))) := F_size_a.same W715
  refine own_st st715 ?_
  have F716 := (E_a.wr W715)
  have F717 := (F_model_a.other W715 (Or.inr (Ne.symm (own_sn131 hw))))
  have F718 := (F_watchers_a.other W715 (Or.inr (Ne.symm (own_sn129 hw))))
  have F719 := (F_watcherCount_a.other W715 (Or.inr (own_sn216 hw)))
  have F720 := (F_boundsFrom_a.other W715 (Or.inr (own_sn228 hw)))
  have F721 := (F_toldFrom_a.other W715 (Or.inr (own_sn240 hw)))
  exact own_retV X715 hx hlk hret (hb hby own_d22_140) (by decide) (by decide) (by rw [e715]; exact ⟨rfl, N715, K715, F716, F715, F717, F718, F719, F720, F721⟩)
theorem own_d14_0 : own_D own_b14 0 (.lload_n 1) 1 := by decide +kernel
theorem own_d14_1 : own_D own_b14 1 (.aload_n 0) 1 := by decide +kernel
theorem own_d14_2 : own_D own_b14 2 (.getfield 36) 3 := by decide +kernel
theorem own_d14_5 : own_D own_b14 5 .i2l 1 := by decide +kernel
theorem own_d14_6 : own_D own_b14 6 .lcmp 1 := by decide +kernel
theorem own_d14_7 : own_D own_b14 7 (.ifCond .lt 5) 3 := by decide +kernel
theorem own_d14_12 : own_D own_b14 12 (.lload_n 1) 1 := by decide +kernel
theorem own_d14_13 : own_D own_b14 13 (.aload_n 0) 1 := by decide +kernel
theorem own_d14_14 : own_D own_b14 14 (.getfield 33) 3 := by decide +kernel
theorem own_d14_17 : own_D own_b14 17 .i2l 1 := by decide +kernel
theorem own_d14_18 : own_D own_b14 18 .lcmp 1 := by decide +kernel
theorem own_d14_19 : own_D own_b14 19 (.ifCond .ge 5) 3 := by decide +kernel
theorem own_d14_24 : own_D own_b14 24 (.lload_n 1) 1 := by decide +kernel
theorem own_d14_25 : own_D own_b14 25 .l2i 1 := by decide +kernel
theorem own_d14_26 : own_D own_b14 26 (.istore_n 3) 1 := by decide +kernel
theorem own_d14_27 : own_D own_b14 27 (.aload_n 0) 1 := by decide +kernel
theorem own_d14_28 : own_D own_b14 28 (.invokevirtual 212) 3 := by decide +kernel
theorem own_d14_31 : own_D own_b14 31 (.aload_n 0) 1 := by decide +kernel
theorem own_d14_32 : own_D own_b14 32 (.getfield 51) 3 := by decide +kernel
theorem own_d14_35 : own_D own_b14 35 (.ifCond .eq 59) 3 := by decide +kernel
theorem own_d14_94 : own_D own_b14 94 (.aload_n 0) 1 := by decide +kernel
theorem own_d14_95 : own_D own_b14 95 (.getfield 69) 3 := by decide +kernel
theorem own_d14_98 : own_D own_b14 98 (.ifnonnull 28) 3 := by decide +kernel
theorem own_d14_126 : own_D own_b14 126 (.aload_n 0) 1 := by decide +kernel
theorem own_d14_127 : own_D own_b14 127 (.aload_n 0) 1 := by decide +kernel
theorem own_d14_128 : own_D own_b14 128 (.iload_n 3) 1 := by decide +kernel
theorem own_d14_129 : own_D own_b14 129 (.invokevirtual 238) 3 := by decide +kernel
theorem own_d14_132 : own_D own_b14 132 (.putfield 72) 3 := by decide +kernel
theorem own_d14_135 : own_D own_b14 135 (.aload_n 0) 1 := by decide +kernel
theorem own_d14_136 : own_D own_b14 136 (.aload_n 0) 1 := by decide +kernel
theorem own_d14_137 : own_D own_b14 137 (.getfield 69) 3 := by decide +kernel
theorem own_d14_140 : own_D own_b14 140 (.iconst 2) 1 := by decide +kernel
theorem own_d14_141 : own_D own_b14 141 (.aload_n 0) 1 := by decide +kernel
theorem own_d14_142 : own_D own_b14 142 (.getfield 72) 3 := by decide +kernel
theorem own_d14_145 : own_D own_b14 145 .imul 1 := by decide +kernel
theorem own_d14_146 : own_D own_b14 146 (.iconst 1) 1 := by decide +kernel
theorem own_d14_147 : own_D own_b14 147 .iadd 1 := by decide +kernel
theorem own_d14_148 : own_D own_b14 148 .iaload 1 := by decide +kernel
theorem own_d14_149 : own_D own_b14 149 (.iload_n 3) 1 := by decide +kernel
theorem own_d14_150 : own_D own_b14 150 (.invokestatic 136) 3 := by decide +kernel
theorem own_d14_153 : own_D own_b14 153 (.putfield 36) 3 := by decide +kernel
theorem own_d14_156 : own_D own_b14 156 (.aload_n 0) 1 := by decide +kernel
theorem own_d14_157 : own_D own_b14 157 (.invokevirtual 221) 3 := by decide +kernel
theorem own_d14_160 : own_D own_b14 160 (.aload_n 0) 1 := by decide +kernel
theorem own_d14_161 : own_D own_b14 161 (.aload_n 0) 1 := by decide +kernel
theorem own_d14_162 : own_D own_b14 162 (.getfield 45) 3 := by decide +kernel
theorem own_d14_165 : own_D own_b14 165 (.lconst 1) 1 := by decide +kernel
theorem own_d14_166 : own_D own_b14 166 .lcmp 1 := by decide +kernel
theorem own_d14_167 : own_D own_b14 167 (.ifCond .ne 9) 3 := by decide +kernel
theorem own_d14_170 : own_D own_b14 170 (.getstatic 224) 3 := by decide +kernel
theorem own_d14_173 : own_D own_b14 173 (.goto 6) 3 := by decide +kernel
theorem own_d14_176 : own_D own_b14 176 (.getstatic 228) 3 := by decide +kernel
theorem own_d14_179 : own_D own_b14 179 (.invokevirtual 231) 3 := by decide +kernel
theorem own_d14_182 : own_D own_b14 182 (.iconst 1) 1 := by decide +kernel
theorem own_d14_183 : own_D own_b14 183 .ireturn 1 := by decide +kernel
theorem own_pd7 : parseMethodDescriptor "(II)I" = some ⟨[.int, .int], some .int⟩ := by decide +kernel
theorem own_pd8 : parseMethodDescriptor "(Lcom/example/propagule/propagule/Event;)V" = some ⟨[(.object "com/example/propagule/propagule/Event")], none⟩ := by decide +kernel
def own_Qrab011 (Z : State) (a : Addr) (bd : Int64) (mn : Int32) (mx : Int32) (sz : Int64) (bi : Int64) (rg : Addr) (st : Int32) (mo : Addr) (ix : Int32) (wa : Addr) (tr : Addr) (it : Addr) (lt : Addr) (rt : Addr) (b : Int32) (ef : Addr) (eb : Addr) (h0 : Heap) (n0 : Nat) (v : Option Value) (h : Heap) (L : List Loc) : Prop := v = some (.int (1 : Int32)) ∧ Fr n0 L ∧ Keep h0 h [a, tr, it, lt, rt] ∧ Exa Z h a own_z0 ∧ Fld Z h a own_z0 "size" "J" (.long (((((((b + (9 : Int32)).toInt64) - (mn.toInt64)) + (1 : Int64)) + ((own_f21_0 (b + (29 : Int32)) (bd.toInt32)).toInt64)) - ((b + (20 : Int32)).toInt64)) + (1 : Int64)))
theorem own_efrab011 (m : MethodId) (a : Addr) (bd : Int64) : entryFrame m #[(.ref a), (.long bd)] 4 = mkF m 0 #[rv a, .val (.long bd), .second, .unset] [] := by first | (simp [entryFrame, mkF, argsToLocals, Value.category]; done) | rfl
set_option maxRecDepth 65536 in
set_option maxHeartbeats 16000000 in
theorem own_rmrab011 (l : Launch) (Z : State) (a0 : Array Value) (hw : own_HW Z a0) (ws : List Jvm.Cond) (a : Addr) (bd : Int64) (mn : Int32) (mx : Int32) (sz : Int64) (bi : Int64) (rg : Addr) (st : Int32) (mo : Addr) (ix : Int32) (wa : Addr) (tr : Addr) (it : Addr) (lt : Addr) (rt : Addr) (b : Int32) (ef : Addr) (eb : Addr) (h0 : Heap) (n0 : Nat) (Z0 : n0 ≤ h0.size) (E_a : Exa Z h0 a own_z0) (F_min_a : Fld Z h0 a own_z0 "min" "I" (.int mn)) (F_max_a : Fld Z h0 a own_z0 "max" "I" (.int mx)) (F_size_a : Fld Z h0 a own_z0 "size" "J" (.long sz)) (F_bits_a : Fld Z h0 a own_z0 "bits" "J" (.long bi)) (F_ranges_a : Fld Z h0 a own_z0 "ranges" "[I" (.ref rg)) (F_stamp_a : Fld Z h0 a own_z0 "stamp" "I" (.int st)) (F_first_a : Fld Z h0 a own_z0 "first" "I" (.int (0 : Int32))) (F_last_a : Fld Z h0 a own_z0 "last" "I" (.int (1 : Int32))) (F_model_a : Fld Z h0 a own_z0 "model" own_z4 (.ref mo)) (F_index_a : Fld Z h0 a own_z0 "index" "I" (.int ix)) (F_watchers_a : Fld Z h0 a own_z0 "watchers" own_z3 (.ref wa)) (F_watcherCount_a : Fld Z h0 a own_z0 own_z9 "I" (.int (0 : Int32))) (F_boundsFrom_a : Fld Z h0 a own_z0 "boundsFrom" "I" (.int (0 : Int32))) (F_toldFrom_a : Fld Z h0 a own_z0 "toldFrom" "I" (.int (0 : Int32))) (F_small_a : Fld Z h0 a own_z0 "small" "Z" (.int (0 : Int32))) (E_rg : Exa Z h0 rg "[I") (P_rg : own_AI Z h0 rg 6 (own_R b)) (E_mo : Exa Z h0 mo own_z2) (F_trail_mo : Fld Z h0 mo own_z2 "trail" own_z7 (.ref tr)) (E_tr : Exa Z h0 tr own_z1) (F_depth_tr : Fld Z h0 tr own_z1 "depth" "I" (.int (0 : Int32))) (F_entries_tr : Fld Z h0 tr own_z1 "entries" "I" (.int (0 : Int32))) (F_ints_tr : Fld Z h0 tr own_z1 "ints" "[I" (.ref it)) (F_longs_tr : Fld Z h0 tr own_z1 "longs" "[J" (.ref lt)) (F_ranges_tr : Fld Z h0 tr own_z1 "ranges" "[[I" (.ref rt)) (P_it : own_AI Z h0 it 384 (fun _ => 0)) (P_lt : own_AJ Z h0 lt 128 (fun _ => 0)) (P_rt : own_AR Z h0 rt 64) (S_f : Sta Z h0 own_z6 "FIX" own_z5 (.ref ef)) (S_b : Sta Z h0 own_z6 "BOUNDS" own_z5 (.ref eb)) (h1 : (lcmpW bd (mx.toInt64)) < (0 : Int32)) (h2 : ¬ ((lcmpW bd (mn.toInt64)) < (0 : Int32))) (hq0 : ¬ ((bd.toInt32) < (b + (20 : Int32)))) (h9 : ¬ ((lcmpW (((((((b + (9 : Int32)).toInt64) - (mn.toInt64)) + (1 : Int64)) + ((own_f21_0 (b + (29 : Int32)) (bd.toInt32)).toInt64)) - ((b + (20 : Int32)).toInt64)) + (1 : Int64)) (1 : Int64)) = (0 : Int32))) (ne_a_tr : a ≠ tr) (ne_a_it : a ≠ it) (ne_a_lt : a ≠ lt) (ne_a_rt : a ≠ rt) (ne_tr_it : tr ≠ it) (ne_tr_lt : tr ≠ lt) (ne_tr_rt : tr ≠ rt) (ne_it_lt : it ≠ lt) (ne_it_rt : it ≠ rt) (ne_lt_rt : lt ≠ rt) (ne_mo_a : mo ≠ a) (ne_mo_tr : mo ≠ tr) (ne_mo_it : mo ≠ it) (ne_mo_lt : mo ≠ lt) (ne_mo_rt : mo ≠ rt) (ne_rg_a : rg ≠ a) (ne_rg_tr : rg ≠ tr) (ne_rg_it : rg ≠ it) (ne_rg_lt : rg ≠ lt) (ne_rg_rt : rg ≠ rt) (g_a : n0 ≤ a) (g_tr : n0 ≤ tr) (g_it : n0 ≤ it) (g_lt : n0 ≤ lt) (g_rt : n0 ≤ rt) :
    MetFree l (⟨own_z0, own_z18, "(J)Z"⟩ : MethodName) (head1 (Jvm.Cond.code (⟨own_z0, own_z18, "(J)Z"⟩ : MethodName) prog_37_method_31_code 4 (some .boolean) :: ws) ({ frames := 3, cells := 0, slots := 0, locals := 51 } : Room)) (fun aa UU => aa = #[(.ref a), (.long bd)] ∧ Z.Warmed39 UU.vm ∧ UU.heap = h0) (fun _ _ _ _ _ => True) (fun _ U o U' => ∃ v L, o = .returned v ∧ own_Qrab011 Z a bd mn mx sz bi rg st mo ix wa tr it lt rt b ef eb h0 n0 v U'.heap L ∧ FrameEnd U o U' L ({ frames := 3, cells := 0, slots := 0, locals := 51 } : Room).cells ({ frames := 3, cells := 0, slots := 0, locals := 51 } : Room).slots) := by
  refine MetFree.of_bodySF (plainFor_of_name own_pn5) hisR ?_
  intro p e s m args below meth c s₁ Bd hml hP hK
  obtain ⟨rfl, hZ, hh⟩ := hP
  have hx := Bd.exec
  have hlk := Bd.notSynchronized
  have hby := Bd.bytes
  have hret := Bd.returns
  have hown := findClass_of_methodNamed Bd.named
  have hnm := (name_of_methodNamed Bd.named Bd.method).1
  have X0 : Stand p l e ({ frames := 3, cells := 0, slots := 0, locals := 51 } : Room) s m #[(.ref a), (.long bd)] below meth c s₁ [] 0 0 := Stand.of_body Bd
  have e0 : s₁.heap = h0 := by rw [← hh, Bd.state]; rfl
  have N0 := Fr.nil n0
  refine own_cast (own_efrab011 m a bd) ?_
  show own_Go p e below s s₁ _ (own_Qrab011 Z a bd mn mx sz bi rg st mo ix wa tr it lt rt b ef eb h0 n0) 0 0
  have K0 : Keep h0 h0 [a, tr, it, lt, rt] := Keep.refl _ _
  refine own_st (g' := (mkF m 2 #[rv a, .val (.long bd), .second, .unset] [(.ref a), (.long bd)])) (fun tt_ kk_ => XS.lloadN X0.here hx rfl (hb hby own_d14_0) rfl (XS.aloadN X0.here hx rfl (hb hby own_d14_1) rfl rfl kk_)) ?_
  refine own_gG X0 hx hZ hown (own_w hw 112 rfl) e0 F_max_a rfl rfl (hb hby own_d14_2) (fun {T722} X722 e722 => ?_)
  refine own_st (g' := (mkF m 7 #[rv a, .val (.long bd), .second, .unset] [(.int (lcmpW bd (mx.toInt64)))])) (fun tt_ kk_ => XS.i2l X722.here hx rfl (hb hby own_d14_5) rfl (XS.lcmp X722.here hx rfl (hb hby own_d14_6) rfl kk_)) ?_
  refine own_st (g' := (mkF m 14 #[rv a, .val (.long bd), .second, .unset] [(.ref a), (.long bd)])) (fun tt_ kk_ => XS.ifYes X722.here hx rfl (pc0 := 7) (pc' := 12) rfl (hb hby own_d14_7) rfl ((if0 _ _).trans (tlt h1).1) (by decide) (by decide) (XS.lloadN X722.here hx rfl (hb hby own_d14_12) rfl (XS.aloadN X722.here hx rfl (hb hby own_d14_13) rfl rfl kk_))) ?_
  refine own_gG X722 hx hZ hown (own_w hw 110 rfl) e722 F_min_a rfl rfl (hb hby own_d14_14) (fun {T723} X723 e723 => ?_)
  refine own_st (g' := (mkF m 19 #[rv a, .val (.long bd), .second, .unset] [(.int (lcmpW bd (mn.toInt64)))])) (fun tt_ kk_ => XS.i2l X723.here hx rfl (hb hby own_d14_17) rfl (XS.lcmp X723.here hx rfl (hb hby own_d14_18) rfl kk_)) ?_
  refine own_st (g' := (mkF m 28 #[rv a, .val (.long bd), .second, iv (bd.toInt32)] [(.ref a)])) (fun tt_ kk_ => XS.ifYes X723.here hx rfl (pc0 := 19) (pc' := 24) rfl (hb hby own_d14_19) rfl ((if0 _ _).trans (flt h2).2.1) (by decide) (by decide) (XS.lloadN X723.here hx rfl (hb hby own_d14_24) rfl (XS.l2i X723.here hx rfl (hb hby own_d14_25) rfl (XS.istoreN X723.here hx rfl (hb hby own_d14_26) rfl (l' := #[rv a, .val (.long bd), .second, iv (bd.toInt32)]) rfl (XS.aloadN X723.here hx rfl (hb hby own_d14_27) rfl rfl kk_))))) ?_
  obtain ⟨cq724, q724, q724'⟩ := E_a.cell
  obtain ⟨_, _, ⟨T724, L724, k724, n724⟩, -, X724, ⟨Lc724, hQ724, l724, y724, z724⟩, st724⟩ := X723.privateBack hx (y := (⟨own_z0, "save", "()V"⟩ : MethodName)) hown (mvT hZ (own_w hw 172 rfl)) (mvT hZ (own_w hw 173 rfl)) (own_sel (mvT hZ (own_w hw 173 rfl)) (mvP hZ (own_w hw 174 rfl)) (mvT hZ (own_w hw 84 rfl)) (by decide)) (Cond.privateMethod_at (mvP hZ (own_w hw 174 rfl) (args := #[]))) (mvT hZ (own_w hw 175 rfl)) (by decide) (backOf (W := 0) (own_rmsav l Z a0 hw [] a mn mx sz bi rg (0 : Int32) (1 : Int32) st mo (0 : Int32) ix wa tr it lt rt h0 n0 Z0 E_a F_min_a F_max_a F_size_a F_bits_a F_ranges_a F_first_a F_last_a F_stamp_a F_model_a F_small_a F_index_a F_watchers_a F_watcherCount_a F_boundsFrom_a F_toldFrom_a E_rg E_mo F_trail_mo E_tr F_depth_tr F_entries_tr F_ints_tr F_longs_tr F_ranges_tr P_it P_lt P_rt ne_a_tr ne_a_it ne_a_lt ne_a_rt ne_tr_it ne_tr_lt ne_tr_rt ne_it_lt ne_it_rt ne_lt_rt ne_mo_a ne_mo_tr ne_mo_it ne_mo_lt ne_mo_rt ne_rg_a ne_rg_tr ne_rg_it ne_rg_lt ne_rg_rt g_a g_tr g_it g_lt g_rt) hZ (own_w hw 175 rfl) (own_w hw 85 rfl) (by decide) (by decide)) (g := (mkF m 28 #[rv a, .val (.long bd), .second, iv (bd.toInt32)] [(.ref a)])) rfl (by rw [hml]; rfl) (Steps.refl _) (a := a) (by rw [e723]; exact q724) q724' (argsL := []) (rest := []) (lenOf own_pd0 rfl) rfl (by show 2 * 0 + _ ≤ _; exact Nat.le_of_eq rfl) (hb hby own_d14_28) (fun _ _ => ⟨rfl, e723, (by decide : 0 + 0 ≤ _), (by decide : 0 + 0 ≤ _)⟩)
  dsimp only [Pt.U, Pt.locs, Pt.cells, Pt.slots] at X724 l724 y724 z724 st724 hQ724
  rw [l724, y724, z724] at X724
  obtain ⟨rfl, N724q, K724q, f724_0, f724_1, f724_2, f724_3, f724_4, f724_5, f724_6, f724_7, f724_8, f724_9, f724_10, f724_11, f724_12⟩ := hQ724
  obtain ⟨h724, e724⟩ : ∃ z, T724.heap = z := ⟨_, rfl⟩
  rw [e724] at K724q f724_0 f724_1 f724_2 f724_3 f724_4 f724_5 f724_6 f724_7 f724_8 f724_9 f724_10 f724_11 f724_12
  have Z724 : n0 ≤ h724.size := Nat.le_trans Z0 K724q.1
  have K724 : Keep h0 h724 [a, tr, it, lt, rt] := K0.trans K724q (allS (P := fun x => x ∈ [a, tr, it, lt, rt] ∨ h0.size ≤ x) (Or.inl (List.mem_of_getElem? (i := 0) rfl)) (allS (P := fun x => x ∈ [a, tr, it, lt, rt] ∨ h0.size ≤ x) (Or.inl (List.mem_of_getElem? (i := 1) rfl)) (allS (P := fun x => x ∈ [a, tr, it, lt, rt] ∨ h0.size ≤ x) (Or.inl (List.mem_of_getElem? (i := 2) rfl)) (allS (P := fun x => x ∈ [a, tr, it, lt, rt] ∨ h0.size ≤ x) (Or.inl (List.mem_of_getElem? (i := 3) rfl)) (allS (P := fun x => x ∈ [a, tr, it, lt, rt] ∨ h0.size ≤ x) (Or.inl (List.mem_of_getElem? (i := 4) rfl)) all0)))))
  have N724 := Fr.app N0 N724q
  refine own_st (fun t k => st724.trans k) ?_
  refine own_st (g' := (mkF m 32 #[rv a, .val (.long bd), .second, iv (bd.toInt32)] [(.ref a)])) (fun tt_ kk_ => XS.aloadN X724.here hx rfl (hb hby own_d14_31) rfl rfl kk_) ?_
  refine own_gG X724 hx hZ hown (own_w hw 121 rfl) e724 f724_8 rfl rfl (hb hby own_d14_32) (fun {T725} X725 e725 => ?_)
  refine own_st (g' := (mkF m 95 #[rv a, .val (.long bd), .second, iv (bd.toInt32)] [(.ref a)])) (fun tt_ kk_ => XS.ifYes X725.here hx rfl (pc0 := 35) (pc' := 94) rfl (hb hby own_d14_35) rfl ((if0 _ _).trans (teq (by decide : (0 : Int32) = (0 : Int32))).1) (by decide) (by decide) (XS.aloadN X725.here hx rfl (hb hby own_d14_94) rfl rfl kk_)) ?_
  refine own_gG X725 hx hZ hown (own_w hw 131 rfl) e725 f724_4 rfl rfl (hb hby own_d14_95) (fun {T726} X726 e726 => ?_)
  refine own_st (g' := (mkF m 129 #[rv a, .val (.long bd), .second, iv (bd.toInt32)] [(.int (bd.toInt32)), (.ref a), (.ref a)])) (fun tt_ kk_ => XS.ifnonnullYes X726.here hx rfl (pc0 := 98) (pc' := 126) rfl (hb hby own_d14_98) rfl (by decide) (by decide) (XS.aloadN X726.here hx rfl (hb hby own_d14_126) rfl rfl (XS.aloadN X726.here hx rfl (hb hby own_d14_127) rfl rfl (XS.iloadN X726.here hx rfl (hb hby own_d14_128) rfl kk_)))) ?_
  have F727 := (P_rg.keep K724q (ninS ne_rg_a (ninS ne_rg_tr (ninS ne_rg_it (ninS ne_rg_lt (ninS ne_rg_rt nin0))))))
  obtain ⟨cq728, q728, q728'⟩ := f724_0.cell
  obtain ⟨_, _, ⟨T728, L728, k728, n728⟩, -, X728, ⟨Lc728, hQ728, l728, y728, z728⟩, st728⟩ := X726.privateBack hx (y := (⟨own_z0, own_z20, "(I)I"⟩ : MethodName)) hown (mvT hZ (own_w hw 202 rfl)) (mvT hZ (own_w hw 203 rfl)) (own_sel (mvT hZ (own_w hw 203 rfl)) (mvP hZ (own_w hw 204 rfl)) (mvT hZ (own_w hw 84 rfl)) (by decide)) (Cond.privateMethod_at (mvP hZ (own_w hw 204 rfl) (args := #[]))) (mvT hZ (own_w hw 205 rfl)) (by decide) (backOf (W := 1) (own_rmib01 l Z a0 hw [] a (bd.toInt32) rg b h724 n0 Z724 f724_5 f724_6 f724_4 F727) hZ (own_w hw 205 rfl) (own_w hw 85 rfl) (by decide) (by decide)) (g := (mkF m 129 #[rv a, .val (.long bd), .second, iv (bd.toInt32)] [(.int (bd.toInt32)), (.ref a), (.ref a)])) rfl (by rw [hml]; rfl) (Steps.refl _) (a := a) (by rw [e726]; exact q728) q728' (argsL := [(.int (bd.toInt32))]) (rest := [(.ref a)]) (lenOf own_pd2 rfl) rfl (by show 2 * 0 + _ ≤ _; exact Nat.le_of_eq rfl) (hb hby own_d14_129) (fun _ _ => ⟨rfl, e726, (by decide : 0 + 0 ≤ _), (by decide : 0 + 0 ≤ _)⟩)
  dsimp only [Pt.U, Pt.locs, Pt.cells, Pt.slots] at X728 l728 y728 z728 st728 hQ728
  rw [l728, y728, z728] at X728
  obtain ⟨rfl, N728q, e728⟩ := hQ728
  have N728 := Fr.app N724 N728q
  refine own_st (fun t k => st728.trans k) ?_
  have qs729 : (own_ib01 b (bd.toInt32)) = (1 : Int32) := by rw [own_ib01, if_neg hq0]
  rw [qs729]
  obtain ⟨T730, h730, X730, e730, W730, st730⟩ := putF X728 hx hZ hown (host := "") (Or.inl (own_w hw 135 rfl)) Via.refl e728 f724_6 f724_0 (Or.inl (own_w hw 136 rfl)) (own_w hw 84 rfl) (ty := .int) (by decide) rfl rfl (g := (mkF m 132 #[rv a, .val (.long bd), .second, iv (bd.toInt32)] [(.int (1 : Int32)), (.ref a)])) rfl rfl (hb hby own_d14_132)
  have N730 := Fr.snoc X730 N728 g_a
  have Z730 : n0 ≤ h730.size := Nat.le_trans Z724 (Keep.of_wr W730).1
  have K730 : Keep h0 h730 [a, tr, it, lt, rt] := K724.wr W730 (Or.inl (List.mem_of_getElem? (i := 0) rfl))
  have F730 : Fld Z h730 a own_z0 "last" "I" (.int (1 : Int32)) := f724_6.same W730
  refine own_st st730 ?_
  refine own_st (g' := (mkF m 137 #[rv a, .val (.long bd), .second, iv (bd.toInt32)] [(.ref a), (.ref a)])) (fun tt_ kk_ => XS.aloadN X730.here hx rfl (hb hby own_d14_135) rfl rfl (XS.aloadN X730.here hx rfl (hb hby own_d14_136) rfl rfl kk_)) ?_
  have F732 := (f724_4.other W730 (Or.inr (Ne.symm (own_sn244 hw))))
  refine own_gG X730 hx hZ hown (own_w hw 131 rfl) e730 F732 rfl rfl (hb hby own_d14_137) (fun {T731} X731 e731 => ?_)
  refine own_st (g' := (mkF m 142 #[rv a, .val (.long bd), .second, iv (bd.toInt32)] [(.ref a), (.int (2 : Int32)), (.ref rg), (.ref a)])) (fun tt_ kk_ => XS.iconst X731.here hx rfl (hb hby own_d14_140) (XS.aloadN X731.here hx rfl (hb hby own_d14_141) rfl rfl kk_)) ?_
  refine own_gG X731 hx hZ hown (own_w hw 135 rfl) e731 F730 rfl rfl (hb hby own_d14_142) (fun {T733} X733 e733 => ?_)
  refine own_st (g' := (mkF m 148 #[rv a, .val (.long bd), .second, iv (bd.toInt32)] [(.int (3 : Int32)), (.ref rg), (.ref a)])) (fun tt_ kk_ => XS.imul X733.here hx rfl (hb hby own_d14_145) rfl (XS.iconst X733.here hx rfl (hb hby own_d14_146) (XS.iadd X733.here hx rfl (hb hby own_d14_147) rfl kk_))) ?_
  have F734 := (F727.other W730 ne_rg_a)
  refine own_st (g' := (mkF m 150 #[rv a, .val (.long bd), .second, iv (bd.toInt32)] [(.int (bd.toInt32)), (.int (b + (29 : Int32))), (.ref a)])) (fun tt_ kk_ => own_ldIv (g := (mkF m 148 #[rv a, .val (.long bd), .second, iv (bd.toInt32)] [(.int (3 : Int32)), (.ref rg), (.ref a)])) X733 hx hZ e733 F734 (by decide) (by decide) (own_Rv3 _) rfl rfl (hb hby own_d14_148) tt_ (XS.iloadN X733.here hx rfl (hb hby own_d14_149) rfl kk_)) ?_
  obtain ⟨_, _, ⟨T735, L735, k735, n735⟩, -, X735, ⟨Lc735, hQ735, l735, y735, z735⟩, st735⟩ := Jvm.LawKit.callS X733 hx (y := (⟨"java/lang/Math", "min", "(II)I"⟩ : MethodName)) hown (mvT hZ (own_w hw 206 rfl)) (mvT hZ (own_w hw 207 rfl)) (mvT hZ (own_w hw 208 rfl)) (mvT hZ (own_w hw 209 rfl)) (by decide) (backOf (W := 1) (own_rm21 l Z a0 hw [] (b + (29 : Int32)) (bd.toInt32) h730 n0) hZ (own_w hw 209 rfl) (own_w hw 208 rfl) (by decide) (by decide)) (g := (mkF m 150 #[rv a, .val (.long bd), .second, iv (bd.toInt32)] [(.int (bd.toInt32)), (.int (b + (29 : Int32))), (.ref a)])) rfl (by rw [hml]; rfl) (argsL := [(.int (b + (29 : Int32))), (.int (bd.toInt32))]) (rest := [(.ref a)]) (lenOf own_pd7 rfl) rfl (by show 2 * 0 + _ ≤ _; exact Nat.le_of_eq rfl) (hb hby own_d14_150) (fun _ _ => ⟨rfl, e733, (by decide : 0 + 0 ≤ _), (by decide : 0 + 0 ≤ _)⟩)
  dsimp only [Pt.U, Pt.locs, Pt.cells, Pt.slots] at X735 l735 y735 z735 st735 hQ735
  rw [l735, y735, z735] at X735
  obtain ⟨rfl, N735q, e735⟩ := hQ735
  have N735 := Fr.app N730 N735q
  refine own_st st735 ?_
  have F737 := (f724_2.other W730 (Or.inr (Ne.symm (own_sn189 hw))))
  have F738 := (f724_0.wr W730)
  obtain ⟨T736, h736, X736, e736, W736, st736⟩ := putF X735 hx hZ hown (host := "") (Or.inl (own_w hw 112 rfl)) Via.refl e735 F737 F738 (Or.inl (own_w hw 113 rfl)) (own_w hw 84 rfl) (ty := .int) (by decide) rfl rfl (g := (mkF m 153 #[rv a, .val (.long bd), .second, iv (bd.toInt32)] [(.int (own_f21_0 (b + (29 : Int32)) (bd.toInt32))), (.ref a)])) rfl rfl (hb hby own_d14_153)
  have N736 := Fr.snoc X736 N735 g_a
  have Z736 : n0 ≤ h736.size := Nat.le_trans Z730 (Keep.of_wr W736).1
  have K736 : Keep h0 h736 [a, tr, it, lt, rt] := K730.wr W736 (Or.inl (List.mem_of_getElem? (i := 0) rfl))
  have F736 : Fld Z h736 a own_z0 "max" "I" (.int (own_f21_0 (b + (29 : Int32)) (bd.toInt32))) := F737.same W736
  refine own_st st736 ?_
  refine own_st (g' := (mkF m 157 #[rv a, .val (.long bd), .second, iv (bd.toInt32)] [(.ref a)])) (fun tt_ kk_ => XS.aloadN X736.here hx rfl (hb hby own_d14_156) rfl rfl kk_) ?_
  have F739 := (F738.wr W736)
  have F740 := ((f724_1.other W730 (Or.inr (Ne.symm (own_sn188 hw)))).other W736 (Or.inr (Ne.symm (own_sn113 hw))))
  have F741 := ((f724_3.other W730 (Or.inr (Ne.symm (own_sn192 hw)))).other W736 (Or.inr (own_sn135 hw)))
  have F742 := ((f724_5.other W730 (Or.inr (Ne.symm (own_sn245 hw)))).other W736 (Or.inr (own_sn177 hw)))
  have F743 := (F730.other W736 (Or.inr (own_sn189 hw)))
  have F744 := (F732.other W736 (Or.inr (own_sn165 hw)))
  have F745 := (F734.other W736 ne_rg_a)
  have F746 := ((f724_7.other W730 (Or.inr (Ne.symm (own_sn185 hw)))).other W736 (Or.inr (Ne.symm (own_sn110 hw))))
  have F747 := ((f724_9.other W730 (Or.inr (Ne.symm (own_sn183 hw)))).other W736 (Or.inr (Ne.symm (own_sn108 hw))))
  have F748 := ((f724_10.other W730 (Or.inr (own_sn251 hw))).other W736 (Or.inr (own_sn213 hw)))
  have F749 := ((f724_11.other W730 (Or.inr (own_sn255 hw))).other W736 (Or.inr (own_sn225 hw)))
  have F750 := ((f724_12.other W730 (Or.inr (own_sn259 hw))).other W736 (Or.inr (own_sn237 hw)))
  obtain ⟨cq751, q751, q751'⟩ := F739.cell
  obtain ⟨_, _, ⟨T751, L751, k751, n751⟩, -, X751, ⟨Lc751, hQ751, l751, y751, z751⟩, st751⟩ := X736.privateBack hx (y := (⟨own_z0, "recount", "()V"⟩ : MethodName)) hown (mvT hZ (own_w hw 210 rfl)) (mvT hZ (own_w hw 211 rfl)) (own_sel (mvT hZ (own_w hw 211 rfl)) (mvP hZ (own_w hw 212 rfl)) (mvT hZ (own_w hw 84 rfl)) (by decide)) (Cond.privateMethod_at (mvP hZ (own_w hw 212 rfl) (args := #[]))) (mvT hZ (own_w hw 213 rfl)) (by decide) (backOf (W := 0) (own_rmrec01 l Z a0 hw [] a mn (own_f21_0 (b + (29 : Int32)) (bd.toInt32)) sz rg b mo wa h736 n0 Z736 F739 F740 F736 F741 F742 F743 F744 F745 F746 F747 F748 F749 F750 (Ne.symm ne_rg_a) g_a) hZ (own_w hw 213 rfl) (own_w hw 85 rfl) (by decide) (by decide)) (g := (mkF m 157 #[rv a, .val (.long bd), .second, iv (bd.toInt32)] [(.ref a)])) rfl (by rw [hml]; rfl) (Steps.refl _) (a := a) (by rw [e736]; exact q751) q751' (argsL := []) (rest := []) (lenOf own_pd0 rfl) rfl (by show 2 * 0 + _ ≤ _; exact Nat.le_of_eq rfl) (hb hby own_d14_157) (fun _ _ => ⟨rfl, e736, (by decide : 0 + 0 ≤ _), (by decide : 0 + 0 ≤ _)⟩)
  dsimp only [Pt.U, Pt.locs, Pt.cells, Pt.slots] at X751 l751 y751 z751 st751 hQ751
  rw [l751, y751, z751] at X751
  obtain ⟨rfl, N751q, K751q, f751_0, f751_1, f751_2, f751_3, f751_4, f751_5, f751_6⟩ := hQ751
  obtain ⟨h751, e751⟩ : ∃ z, T751.heap = z := ⟨_, rfl⟩
  rw [e751] at K751q f751_0 f751_1 f751_2 f751_3 f751_4 f751_5 f751_6
  have Z751 : n0 ≤ h751.size := Nat.le_trans Z736 K751q.1
  have K751 : Keep h0 h751 [a, tr, it, lt, rt] := K736.trans K751q (allS (P := fun x => x ∈ [a, tr, it, lt, rt] ∨ h0.size ≤ x) (Or.inl (List.mem_of_getElem? (i := 0) rfl)) all0)
  have N751 := Fr.app N736 N751q
  refine own_st (fun t k => st751.trans k) ?_
  refine own_st (g' := (mkF m 162 #[rv a, .val (.long bd), .second, iv (bd.toInt32)] [(.ref a), (.ref a)])) (fun tt_ kk_ => XS.aloadN X751.here hx rfl (hb hby own_d14_160) rfl rfl (XS.aloadN X751.here hx rfl (hb hby own_d14_161) rfl rfl kk_)) ?_
  refine own_gG X751 hx hZ hown (own_w hw 118 rfl) e751 f751_1 rfl rfl (hb hby own_d14_162) (fun {T752} X752 e752 => ?_)
  refine own_st (g' := (mkF m 167 #[rv a, .val (.long bd), .second, iv (bd.toInt32)] [(.int (lcmpW (((((((b + (9 : Int32)).toInt64) - (mn.toInt64)) + (1 : Int64)) + ((own_f21_0 (b + (29 : Int32)) (bd.toInt32)).toInt64)) - ((b + (20 : Int32)).toInt64)) + (1 : Int64)) (1 : Int64))), (.ref a)])) (fun tt_ kk_ => XS.lconst X752.here hx rfl (hb hby own_d14_165) (XS.lcmp X752.here hx rfl (hb hby own_d14_166) rfl kk_)) ?_
  refine own_st (g' := (mkF m 176 #[rv a, .val (.long bd), .second, iv (bd.toInt32)] [(.ref a)])) (fun tt_ kk_ => XS.ifYes X752.here hx rfl (pc0 := 167) (pc' := 176) rfl (hb hby own_d14_167) rfl ((if0 _ _).trans (feq h9).2) (by decide) (by decide) kk_) ?_
  have F754 := (own_Sta_keep (((own_Sta_keepN S_b K724q (allS (own_plE E_a) (allS (own_plE E_tr) (allS (own_plI P_it) (allS (own_plJ P_lt) (allS (own_plR P_rt) all0)))))).wr W730).wr W736) F739 K751q)
  obtain ⟨T753, X753, e753, st753⟩ := getS2 X752 hx hZ hown (host := "") (Or.inl (own_w hw 214 rfl)) Via.refl e752 F754 (g := (mkF m 176 #[rv a, .val (.long bd), .second, iv (bd.toInt32)] [(.ref a)])) rfl (hb hby own_d14_176)
  refine own_st st753 ?_
  have F755 := ((((E_mo.keep K724q).wr W730).wr W736).keep K751q)
  have F756 := (own_Sta_keep (((own_Sta_keepN S_f K724q (allS (own_plE E_a) (allS (own_plE E_tr) (allS (own_plI P_it) (allS (own_plJ P_lt) (allS (own_plR P_rt) all0)))))).wr W730).wr W736) F739 K751q)
  obtain ⟨cq757, q757, q757'⟩ := f751_0.cell
  obtain ⟨_, _, ⟨T757, L757, k757, n757⟩, -, X757, ⟨Lc757, hQ757, l757, y757, z757⟩, st757⟩ := X753.privateBack hx (y := (⟨own_z0, "wake", own_z11⟩ : MethodName)) hown (mvT hZ (own_w hw 217 rfl)) (mvT hZ (own_w hw 218 rfl)) (own_sel (mvT hZ (own_w hw 218 rfl)) (mvP hZ (own_w hw 219 rfl)) (mvT hZ (own_w hw 84 rfl)) (by decide)) (Cond.privateMethod_at (mvP hZ (own_w hw 219 rfl) (args := #[]))) (mvT hZ (own_w hw 220 rfl)) (by decide) (backOf (W := 0) (own_rmwak l Z a0 hw [] a eb ef mo wa h751 n0 Z751 F755 f751_2 f751_3 f751_4 f751_5 f751_6 F756 F754) hZ (own_w hw 220 rfl) (own_w hw 85 rfl) (by decide) (by decide)) (g := (mkF m 179 #[rv a, .val (.long bd), .second, iv (bd.toInt32)] [(.ref eb), (.ref a)])) rfl (by rw [hml]; rfl) (Steps.refl _) (a := a) (by rw [e753]; exact q757) q757' (argsL := [(.ref eb)]) (rest := []) (lenOf own_pd8 rfl) rfl (by show 2 * 0 + _ ≤ _; exact Nat.le_of_eq rfl) (hb hby own_d14_179) (fun _ _ => ⟨rfl, e753, (by decide : 0 + 0 ≤ _), (by decide : 0 + 0 ≤ _)⟩)
  dsimp only [Pt.U, Pt.locs, Pt.cells, Pt.slots] at X757 l757 y757 z757 st757 hQ757
  rw [l757, y757, z757] at X757
  obtain ⟨rfl, N757q, e757⟩ := hQ757
  have N757 := Fr.app N751 N757q
  refine own_st (fun t k => st757.trans k) ?_
  refine own_st (g' := (mkF m 183 #[rv a, .val (.long bd), .second, iv (bd.toInt32)] [(.int (1 : Int32))])) (fun tt_ kk_ => XS.iconst X757.here hx rfl (hb hby own_d14_182) kk_) ?_
  exact own_retN X757 hx hlk (t := .boolean) (Or.inl rfl) hret (hb hby own_d14_183) (by decide) (by decide) (by rw [e757]; exact ⟨rfl, N757, K751, f751_0, f751_1⟩)
def own_Qrab010 (Z : State) (a : Addr) (bd : Int64) (mn : Int32) (mx : Int32) (sz : Int64) (bi : Int64) (rg : Addr) (st : Int32) (mo : Addr) (ix : Int32) (wa : Addr) (tr : Addr) (it : Addr) (lt : Addr) (rt : Addr) (b : Int32) (ef : Addr) (eb : Addr) (h0 : Heap) (n0 : Nat) (v : Option Value) (h : Heap) (L : List Loc) : Prop := v = some (.int (1 : Int32)) ∧ Fr n0 L ∧ Keep h0 h [a, tr, it, lt, rt] ∧ Exa Z h a own_z0 ∧ Fld Z h a own_z0 "size" "J" (.long ((((own_f21_0 (b + (9 : Int32)) (bd.toInt32)).toInt64) - (mn.toInt64)) + (1 : Int64)))
theorem own_efrab010 (m : MethodId) (a : Addr) (bd : Int64) : entryFrame m #[(.ref a), (.long bd)] 4 = mkF m 0 #[rv a, .val (.long bd), .second, .unset] [] := by first | (simp [entryFrame, mkF, argsToLocals, Value.category]; done) | rfl
set_option maxRecDepth 65536 in
set_option maxHeartbeats 16000000 in
theorem own_rmrab010 (l : Launch) (Z : State) (a0 : Array Value) (hw : own_HW Z a0) (ws : List Jvm.Cond) (a : Addr) (bd : Int64) (mn : Int32) (mx : Int32) (sz : Int64) (bi : Int64) (rg : Addr) (st : Int32) (mo : Addr) (ix : Int32) (wa : Addr) (tr : Addr) (it : Addr) (lt : Addr) (rt : Addr) (b : Int32) (ef : Addr) (eb : Addr) (h0 : Heap) (n0 : Nat) (Z0 : n0 ≤ h0.size) (E_a : Exa Z h0 a own_z0) (F_min_a : Fld Z h0 a own_z0 "min" "I" (.int mn)) (F_max_a : Fld Z h0 a own_z0 "max" "I" (.int mx)) (F_size_a : Fld Z h0 a own_z0 "size" "J" (.long sz)) (F_bits_a : Fld Z h0 a own_z0 "bits" "J" (.long bi)) (F_ranges_a : Fld Z h0 a own_z0 "ranges" "[I" (.ref rg)) (F_stamp_a : Fld Z h0 a own_z0 "stamp" "I" (.int st)) (F_first_a : Fld Z h0 a own_z0 "first" "I" (.int (0 : Int32))) (F_last_a : Fld Z h0 a own_z0 "last" "I" (.int (1 : Int32))) (F_model_a : Fld Z h0 a own_z0 "model" own_z4 (.ref mo)) (F_index_a : Fld Z h0 a own_z0 "index" "I" (.int ix)) (F_watchers_a : Fld Z h0 a own_z0 "watchers" own_z3 (.ref wa)) (F_watcherCount_a : Fld Z h0 a own_z0 own_z9 "I" (.int (0 : Int32))) (F_boundsFrom_a : Fld Z h0 a own_z0 "boundsFrom" "I" (.int (0 : Int32))) (F_toldFrom_a : Fld Z h0 a own_z0 "toldFrom" "I" (.int (0 : Int32))) (F_small_a : Fld Z h0 a own_z0 "small" "Z" (.int (0 : Int32))) (E_rg : Exa Z h0 rg "[I") (P_rg : own_AI Z h0 rg 6 (own_R b)) (E_mo : Exa Z h0 mo own_z2) (F_trail_mo : Fld Z h0 mo own_z2 "trail" own_z7 (.ref tr)) (E_tr : Exa Z h0 tr own_z1) (F_depth_tr : Fld Z h0 tr own_z1 "depth" "I" (.int (0 : Int32))) (F_entries_tr : Fld Z h0 tr own_z1 "entries" "I" (.int (0 : Int32))) (F_ints_tr : Fld Z h0 tr own_z1 "ints" "[I" (.ref it)) (F_longs_tr : Fld Z h0 tr own_z1 "longs" "[J" (.ref lt)) (F_ranges_tr : Fld Z h0 tr own_z1 "ranges" "[[I" (.ref rt)) (P_it : own_AI Z h0 it 384 (fun _ => 0)) (P_lt : own_AJ Z h0 lt 128 (fun _ => 0)) (P_rt : own_AR Z h0 rt 64) (S_f : Sta Z h0 own_z6 "FIX" own_z5 (.ref ef)) (S_b : Sta Z h0 own_z6 "BOUNDS" own_z5 (.ref eb)) (h1 : (lcmpW bd (mx.toInt64)) < (0 : Int32)) (h2 : ¬ ((lcmpW bd (mn.toInt64)) < (0 : Int32))) (hq0 : (bd.toInt32) < (b + (20 : Int32))) (ne_a_tr : a ≠ tr) (ne_a_it : a ≠ it) (ne_a_lt : a ≠ lt) (ne_a_rt : a ≠ rt) (ne_tr_it : tr ≠ it) (ne_tr_lt : tr ≠ lt) (ne_tr_rt : tr ≠ rt) (ne_it_lt : it ≠ lt) (ne_it_rt : it ≠ rt) (ne_lt_rt : lt ≠ rt) (ne_mo_a : mo ≠ a) (ne_mo_tr : mo ≠ tr) (ne_mo_it : mo ≠ it) (ne_mo_lt : mo ≠ lt) (ne_mo_rt : mo ≠ rt) (ne_rg_a : rg ≠ a) (ne_rg_tr : rg ≠ tr) (ne_rg_it : rg ≠ it) (ne_rg_lt : rg ≠ lt) (ne_rg_rt : rg ≠ rt) (g_a : n0 ≤ a) (g_tr : n0 ≤ tr) (g_it : n0 ≤ it) (g_lt : n0 ≤ lt) (g_rt : n0 ≤ rt) :
    MetFree l (⟨own_z0, own_z18, "(J)Z"⟩ : MethodName) (head1 (Jvm.Cond.code (⟨own_z0, own_z18, "(J)Z"⟩ : MethodName) prog_37_method_31_code 4 (some .boolean) :: ws) ({ frames := 3, cells := 0, slots := 0, locals := 51 } : Room)) (fun aa UU => aa = #[(.ref a), (.long bd)] ∧ Z.Warmed39 UU.vm ∧ UU.heap = h0) (fun _ _ _ _ _ => True) (fun _ U o U' => ∃ v L, o = .returned v ∧ own_Qrab010 Z a bd mn mx sz bi rg st mo ix wa tr it lt rt b ef eb h0 n0 v U'.heap L ∧ FrameEnd U o U' L ({ frames := 3, cells := 0, slots := 0, locals := 51 } : Room).cells ({ frames := 3, cells := 0, slots := 0, locals := 51 } : Room).slots) := by
  refine MetFree.of_bodySF (plainFor_of_name own_pn5) hisR ?_
  intro p e s m args below meth c s₁ Bd hml hP hK
  obtain ⟨rfl, hZ, hh⟩ := hP
  have hx := Bd.exec
  have hlk := Bd.notSynchronized
  have hby := Bd.bytes
  have hret := Bd.returns
  have hown := findClass_of_methodNamed Bd.named
  have hnm := (name_of_methodNamed Bd.named Bd.method).1
  have X0 : Stand p l e ({ frames := 3, cells := 0, slots := 0, locals := 51 } : Room) s m #[(.ref a), (.long bd)] below meth c s₁ [] 0 0 := Stand.of_body Bd
  have e0 : s₁.heap = h0 := by rw [← hh, Bd.state]; rfl
  have N0 := Fr.nil n0
  refine own_cast (own_efrab010 m a bd) ?_
  show own_Go p e below s s₁ _ (own_Qrab010 Z a bd mn mx sz bi rg st mo ix wa tr it lt rt b ef eb h0 n0) 0 0
  have K0 : Keep h0 h0 [a, tr, it, lt, rt] := Keep.refl _ _
  refine own_st (g' := (mkF m 2 #[rv a, .val (.long bd), .second, .unset] [(.ref a), (.long bd)])) (fun tt_ kk_ => XS.lloadN X0.here hx rfl (hb hby own_d14_0) rfl (XS.aloadN X0.here hx rfl (hb hby own_d14_1) rfl rfl kk_)) ?_
  refine own_gG X0 hx hZ hown (own_w hw 112 rfl) e0 F_max_a rfl rfl (hb hby own_d14_2) (fun {T758} X758 e758 => ?_)
  refine own_st (g' := (mkF m 7 #[rv a, .val (.long bd), .second, .unset] [(.int (lcmpW bd (mx.toInt64)))])) (fun tt_ kk_ => XS.i2l X758.here hx rfl (hb hby own_d14_5) rfl (XS.lcmp X758.here hx rfl (hb hby own_d14_6) rfl kk_)) ?_
  refine own_st (g' := (mkF m 14 #[rv a, .val (.long bd), .second, .unset] [(.ref a), (.long bd)])) (fun tt_ kk_ => XS.ifYes X758.here hx rfl (pc0 := 7) (pc' := 12) rfl (hb hby own_d14_7) rfl ((if0 _ _).trans (tlt h1).1) (by decide) (by decide) (XS.lloadN X758.here hx rfl (hb hby own_d14_12) rfl (XS.aloadN X758.here hx rfl (hb hby own_d14_13) rfl rfl kk_))) ?_
  refine own_gG X758 hx hZ hown (own_w hw 110 rfl) e758 F_min_a rfl rfl (hb hby own_d14_14) (fun {T759} X759 e759 => ?_)
  refine own_st (g' := (mkF m 19 #[rv a, .val (.long bd), .second, .unset] [(.int (lcmpW bd (mn.toInt64)))])) (fun tt_ kk_ => XS.i2l X759.here hx rfl (hb hby own_d14_17) rfl (XS.lcmp X759.here hx rfl (hb hby own_d14_18) rfl kk_)) ?_
  refine own_st (g' := (mkF m 28 #[rv a, .val (.long bd), .second, iv (bd.toInt32)] [(.ref a)])) (fun tt_ kk_ => XS.ifYes X759.here hx rfl (pc0 := 19) (pc' := 24) rfl (hb hby own_d14_19) rfl ((if0 _ _).trans (flt h2).2.1) (by decide) (by decide) (XS.lloadN X759.here hx rfl (hb hby own_d14_24) rfl (XS.l2i X759.here hx rfl (hb hby own_d14_25) rfl (XS.istoreN X759.here hx rfl (hb hby own_d14_26) rfl (l' := #[rv a, .val (.long bd), .second, iv (bd.toInt32)]) rfl (XS.aloadN X759.here hx rfl (hb hby own_d14_27) rfl rfl kk_))))) ?_
  obtain ⟨cq760, q760, q760'⟩ := E_a.cell
  obtain ⟨_, _, ⟨T760, L760, k760, n760⟩, -, X760, ⟨Lc760, hQ760, l760, y760, z760⟩, st760⟩ := X759.privateBack hx (y := (⟨own_z0, "save", "()V"⟩ : MethodName)) hown (mvT hZ (own_w hw 172 rfl)) (mvT hZ (own_w hw 173 rfl)) (own_sel (mvT hZ (own_w hw 173 rfl)) (mvP hZ (own_w hw 174 rfl)) (mvT hZ (own_w hw 84 rfl)) (by decide)) (Cond.privateMethod_at (mvP hZ (own_w hw 174 rfl) (args := #[]))) (mvT hZ (own_w hw 175 rfl)) (by decide) (backOf (W := 0) (own_rmsav l Z a0 hw [] a mn mx sz bi rg (0 : Int32) (1 : Int32) st mo (0 : Int32) ix wa tr it lt rt h0 n0 Z0 E_a F_min_a F_max_a F_size_a F_bits_a F_ranges_a F_first_a F_last_a F_stamp_a F_model_a F_small_a F_index_a F_watchers_a F_watcherCount_a F_boundsFrom_a F_toldFrom_a E_rg E_mo F_trail_mo E_tr F_depth_tr F_entries_tr F_ints_tr F_longs_tr F_ranges_tr P_it P_lt P_rt ne_a_tr ne_a_it ne_a_lt ne_a_rt ne_tr_it ne_tr_lt ne_tr_rt ne_it_lt ne_it_rt ne_lt_rt ne_mo_a ne_mo_tr ne_mo_it ne_mo_lt ne_mo_rt ne_rg_a ne_rg_tr ne_rg_it ne_rg_lt ne_rg_rt g_a g_tr g_it g_lt g_rt) hZ (own_w hw 175 rfl) (own_w hw 85 rfl) (by decide) (by decide)) (g := (mkF m 28 #[rv a, .val (.long bd), .second, iv (bd.toInt32)] [(.ref a)])) rfl (by rw [hml]; rfl) (Steps.refl _) (a := a) (by rw [e759]; exact q760) q760' (argsL := []) (rest := []) (lenOf own_pd0 rfl) rfl (by show 2 * 0 + _ ≤ _; exact Nat.le_of_eq rfl) (hb hby own_d14_28) (fun _ _ => ⟨rfl, e759, (by decide : 0 + 0 ≤ _), (by decide : 0 + 0 ≤ _)⟩)
  dsimp only [Pt.U, Pt.locs, Pt.cells, Pt.slots] at X760 l760 y760 z760 st760 hQ760
  rw [l760, y760, z760] at X760
  obtain ⟨rfl, N760q, K760q, f760_0, f760_1, f760_2, f760_3, f760_4, f760_5, f760_6, f760_7, f760_8, f760_9, f760_10, f760_11, f760_12⟩ := hQ760
  obtain ⟨h760, e760⟩ : ∃ z, T760.heap = z := ⟨_, rfl⟩
  rw [e760] at K760q f760_0 f760_1 f760_2 f760_3 f760_4 f760_5 f760_6 f760_7 f760_8 f760_9 f760_10 f760_11 f760_12
  have Z760 : n0 ≤ h760.size := Nat.le_trans Z0 K760q.1
  have K760 : Keep h0 h760 [a, tr, it, lt, rt] := K0.trans K760q (allS (P := fun x => x ∈ [a, tr, it, lt, rt] ∨ h0.size ≤ x) (Or.inl (List.mem_of_getElem? (i := 0) rfl)) (allS (P := fun x => x ∈ [a, tr, it, lt, rt] ∨ h0.size ≤ x) (Or.inl (List.mem_of_getElem? (i := 1) rfl)) (allS (P := fun x => x ∈ [a, tr, it, lt, rt] ∨ h0.size ≤ x) (Or.inl (List.mem_of_getElem? (i := 2) rfl)) (allS (P := fun x => x ∈ [a, tr, it, lt, rt] ∨ h0.size ≤ x) (Or.inl (List.mem_of_getElem? (i := 3) rfl)) (allS (P := fun x => x ∈ [a, tr, it, lt, rt] ∨ h0.size ≤ x) (Or.inl (List.mem_of_getElem? (i := 4) rfl)) all0)))))
  have N760 := Fr.app N0 N760q
  refine own_st (fun t k => st760.trans k) ?_
  refine own_st (g' := (mkF m 32 #[rv a, .val (.long bd), .second, iv (bd.toInt32)] [(.ref a)])) (fun tt_ kk_ => XS.aloadN X760.here hx rfl (hb hby own_d14_31) rfl rfl kk_) ?_
  refine own_gG X760 hx hZ hown (own_w hw 121 rfl) e760 f760_8 rfl rfl (hb hby own_d14_32) (fun {T761} X761 e761 => ?_)
  refine own_st (g' := (mkF m 95 #[rv a, .val (.long bd), .second, iv (bd.toInt32)] [(.ref a)])) (fun tt_ kk_ => XS.ifYes X761.here hx rfl (pc0 := 35) (pc' := 94) rfl (hb hby own_d14_35) rfl ((if0 _ _).trans (teq (by decide : (0 : Int32) = (0 : Int32))).1) (by decide) (by decide) (XS.aloadN X761.here hx rfl (hb hby own_d14_94) rfl rfl kk_)) ?_
  refine own_gG X761 hx hZ hown (own_w hw 131 rfl) e761 f760_4 rfl rfl (hb hby own_d14_95) (fun {T762} X762 e762 => ?_)
  refine own_st (g' := (mkF m 129 #[rv a, .val (.long bd), .second, iv (bd.toInt32)] [(.int (bd.toInt32)), (.ref a), (.ref a)])) (fun tt_ kk_ => XS.ifnonnullYes X762.here hx rfl (pc0 := 98) (pc' := 126) rfl (hb hby own_d14_98) rfl (by decide) (by decide) (XS.aloadN X762.here hx rfl (hb hby own_d14_126) rfl rfl (XS.aloadN X762.here hx rfl (hb hby own_d14_127) rfl rfl (XS.iloadN X762.here hx rfl (hb hby own_d14_128) rfl kk_)))) ?_
  have F763 := (P_rg.keep K760q (ninS ne_rg_a (ninS ne_rg_tr (ninS ne_rg_it (ninS ne_rg_lt (ninS ne_rg_rt nin0))))))
  obtain ⟨cq764, q764, q764'⟩ := f760_0.cell
  obtain ⟨_, _, ⟨T764, L764, k764, n764⟩, -, X764, ⟨Lc764, hQ764, l764, y764, z764⟩, st764⟩ := X762.privateBack hx (y := (⟨own_z0, own_z20, "(I)I"⟩ : MethodName)) hown (mvT hZ (own_w hw 202 rfl)) (mvT hZ (own_w hw 203 rfl)) (own_sel (mvT hZ (own_w hw 203 rfl)) (mvP hZ (own_w hw 204 rfl)) (mvT hZ (own_w hw 84 rfl)) (by decide)) (Cond.privateMethod_at (mvP hZ (own_w hw 204 rfl) (args := #[]))) (mvT hZ (own_w hw 205 rfl)) (by decide) (backOf (W := 1) (own_rmib01 l Z a0 hw [] a (bd.toInt32) rg b h760 n0 Z760 f760_5 f760_6 f760_4 F763) hZ (own_w hw 205 rfl) (own_w hw 85 rfl) (by decide) (by decide)) (g := (mkF m 129 #[rv a, .val (.long bd), .second, iv (bd.toInt32)] [(.int (bd.toInt32)), (.ref a), (.ref a)])) rfl (by rw [hml]; rfl) (Steps.refl _) (a := a) (by rw [e762]; exact q764) q764' (argsL := [(.int (bd.toInt32))]) (rest := [(.ref a)]) (lenOf own_pd2 rfl) rfl (by show 2 * 0 + _ ≤ _; exact Nat.le_of_eq rfl) (hb hby own_d14_129) (fun _ _ => ⟨rfl, e762, (by decide : 0 + 0 ≤ _), (by decide : 0 + 0 ≤ _)⟩)
  dsimp only [Pt.U, Pt.locs, Pt.cells, Pt.slots] at X764 l764 y764 z764 st764 hQ764
  rw [l764, y764, z764] at X764
  obtain ⟨rfl, N764q, e764⟩ := hQ764
  have N764 := Fr.app N760 N764q
  refine own_st (fun t k => st764.trans k) ?_
  have qs765 : (own_ib01 b (bd.toInt32)) = (0 : Int32) := by rw [own_ib01, if_pos hq0]
  rw [qs765]
  obtain ⟨T766, h766, X766, e766, W766, st766⟩ := putF X764 hx hZ hown (host := "") (Or.inl (own_w hw 135 rfl)) Via.refl e764 f760_6 f760_0 (Or.inl (own_w hw 136 rfl)) (own_w hw 84 rfl) (ty := .int) (by decide) rfl rfl (g := (mkF m 132 #[rv a, .val (.long bd), .second, iv (bd.toInt32)] [(.int (0 : Int32)), (.ref a)])) rfl rfl (hb hby own_d14_132)
  have N766 := Fr.snoc X766 N764 g_a
  have Z766 : n0 ≤ h766.size := Nat.le_trans Z760 (Keep.of_wr W766).1
  have K766 : Keep h0 h766 [a, tr, it, lt, rt] := K760.wr W766 (Or.inl (List.mem_of_getElem? (i := 0) rfl))
  have F766 : Fld Z h766 a own_z0 "last" "I" (.int (0 : Int32)) := f760_6.same W766
  refine own_st st766 ?_
  refine own_st (g' := (mkF m 137 #[rv a, .val (.long bd), .second, iv (bd.toInt32)] [(.ref a), (.ref a)])) (fun tt_ kk_ => XS.aloadN X766.here hx rfl (hb hby own_d14_135) rfl rfl (XS.aloadN X766.here hx rfl (hb hby own_d14_136) rfl rfl kk_)) ?_
  have F768 := (f760_4.other W766 (Or.inr (Ne.symm (own_sn244 hw))))
  refine own_gG X766 hx hZ hown (own_w hw 131 rfl) e766 F768 rfl rfl (hb hby own_d14_137) (fun {T767} X767 e767 => ?_)
  refine own_st (g' := (mkF m 142 #[rv a, .val (.long bd), .second, iv (bd.toInt32)] [(.ref a), (.int (2 : Int32)), (.ref rg), (.ref a)])) (fun tt_ kk_ => XS.iconst X767.here hx rfl (hb hby own_d14_140) (XS.aloadN X767.here hx rfl (hb hby own_d14_141) rfl rfl kk_)) ?_
  refine own_gG X767 hx hZ hown (own_w hw 135 rfl) e767 F766 rfl rfl (hb hby own_d14_142) (fun {T769} X769 e769 => ?_)
  refine own_st (g' := (mkF m 148 #[rv a, .val (.long bd), .second, iv (bd.toInt32)] [(.int (1 : Int32)), (.ref rg), (.ref a)])) (fun tt_ kk_ => XS.imul X769.here hx rfl (hb hby own_d14_145) rfl (XS.iconst X769.here hx rfl (hb hby own_d14_146) (XS.iadd X769.here hx rfl (hb hby own_d14_147) rfl kk_))) ?_
  have F770 := (F763.other W766 ne_rg_a)
  refine own_st (g' := (mkF m 150 #[rv a, .val (.long bd), .second, iv (bd.toInt32)] [(.int (bd.toInt32)), (.int (b + (9 : Int32))), (.ref a)])) (fun tt_ kk_ => own_ldIv (g := (mkF m 148 #[rv a, .val (.long bd), .second, iv (bd.toInt32)] [(.int (1 : Int32)), (.ref rg), (.ref a)])) X769 hx hZ e769 F770 (by decide) (by decide) (own_Rv1 _) rfl rfl (hb hby own_d14_148) tt_ (XS.iloadN X769.here hx rfl (hb hby own_d14_149) rfl kk_)) ?_
  obtain ⟨_, _, ⟨T771, L771, k771, n771⟩, -, X771, ⟨Lc771, hQ771, l771, y771, z771⟩, st771⟩ := Jvm.LawKit.callS X769 hx (y := (⟨"java/lang/Math", "min", "(II)I"⟩ : MethodName)) hown (mvT hZ (own_w hw 206 rfl)) (mvT hZ (own_w hw 207 rfl)) (mvT hZ (own_w hw 208 rfl)) (mvT hZ (own_w hw 209 rfl)) (by decide) (backOf (W := 1) (own_rm21 l Z a0 hw [] (b + (9 : Int32)) (bd.toInt32) h766 n0) hZ (own_w hw 209 rfl) (own_w hw 208 rfl) (by decide) (by decide)) (g := (mkF m 150 #[rv a, .val (.long bd), .second, iv (bd.toInt32)] [(.int (bd.toInt32)), (.int (b + (9 : Int32))), (.ref a)])) rfl (by rw [hml]; rfl) (argsL := [(.int (b + (9 : Int32))), (.int (bd.toInt32))]) (rest := [(.ref a)]) (lenOf own_pd7 rfl) rfl (by show 2 * 0 + _ ≤ _; exact Nat.le_of_eq rfl) (hb hby own_d14_150) (fun _ _ => ⟨rfl, e769, (by decide : 0 + 0 ≤ _), (by decide : 0 + 0 ≤ _)⟩)
  dsimp only [Pt.U, Pt.locs, Pt.cells, Pt.slots] at X771 l771 y771 z771 st771 hQ771
  rw [l771, y771, z771] at X771
  obtain ⟨rfl, N771q, e771⟩ := hQ771
  have N771 := Fr.app N766 N771q
  refine own_st st771 ?_
  have F773 := (f760_2.other W766 (Or.inr (Ne.symm (own_sn189 hw))))
  have F774 := (f760_0.wr W766)
  obtain ⟨T772, h772, X772, e772, W772, st772⟩ := putF X771 hx hZ hown (host := "") (Or.inl (own_w hw 112 rfl)) Via.refl e771 F773 F774 (Or.inl (own_w hw 113 rfl)) (own_w hw 84 rfl) (ty := .int) (by decide) rfl rfl (g := (mkF m 153 #[rv a, .val (.long bd), .second, iv (bd.toInt32)] [(.int (own_f21_0 (b + (9 : Int32)) (bd.toInt32))), (.ref a)])) rfl rfl (hb hby own_d14_153)
  have N772 := Fr.snoc X772 N771 g_a
  have Z772 : n0 ≤ h772.size := Nat.le_trans Z766 (Keep.of_wr W772).1
  have K772 : Keep h0 h772 [a, tr, it, lt, rt] := K766.wr W772 (Or.inl (List.mem_of_getElem? (i := 0) rfl))
  have F772 : Fld Z h772 a own_z0 "max" "I" (.int (own_f21_0 (b + (9 : Int32)) (bd.toInt32))) := F773.same W772
  refine own_st st772 ?_
  refine own_st (g' := (mkF m 157 #[rv a, .val (.long bd), .second, iv (bd.toInt32)] [(.ref a)])) (fun tt_ kk_ => XS.aloadN X772.here hx rfl (hb hby own_d14_156) rfl rfl kk_) ?_
  have F775 := (F774.wr W772)
  have F776 := ((f760_1.other W766 (Or.inr (Ne.symm (own_sn188 hw)))).other W772 (Or.inr (Ne.symm (own_sn113 hw))))
  have F777 := ((f760_3.other W766 (Or.inr (Ne.symm (own_sn192 hw)))).other W772 (Or.inr (own_sn135 hw)))
  have F778 := ((f760_5.other W766 (Or.inr (Ne.symm (own_sn245 hw)))).other W772 (Or.inr (own_sn177 hw)))
  have F779 := (F766.other W772 (Or.inr (own_sn189 hw)))
  have F780 := (F768.other W772 (Or.inr (own_sn165 hw)))
  have F781 := (F770.other W772 ne_rg_a)
  have F782 := ((f760_7.other W766 (Or.inr (Ne.symm (own_sn185 hw)))).other W772 (Or.inr (Ne.symm (own_sn110 hw))))
  have F783 := ((f760_9.other W766 (Or.inr (Ne.symm (own_sn183 hw)))).other W772 (Or.inr (Ne.symm (own_sn108 hw))))
  have F784 := ((f760_10.other W766 (Or.inr (own_sn251 hw))).other W772 (Or.inr (own_sn213 hw)))
  have F785 := ((f760_11.other W766 (Or.inr (own_sn255 hw))).other W772 (Or.inr (own_sn225 hw)))
  have F786 := ((f760_12.other W766 (Or.inr (own_sn259 hw))).other W772 (Or.inr (own_sn237 hw)))
  obtain ⟨cq787, q787, q787'⟩ := F775.cell
  obtain ⟨_, _, ⟨T787, L787, k787, n787⟩, -, X787, ⟨Lc787, hQ787, l787, y787, z787⟩, st787⟩ := X772.privateBack hx (y := (⟨own_z0, "recount", "()V"⟩ : MethodName)) hown (mvT hZ (own_w hw 210 rfl)) (mvT hZ (own_w hw 211 rfl)) (own_sel (mvT hZ (own_w hw 211 rfl)) (mvP hZ (own_w hw 212 rfl)) (mvT hZ (own_w hw 84 rfl)) (by decide)) (Cond.privateMethod_at (mvP hZ (own_w hw 212 rfl) (args := #[]))) (mvT hZ (own_w hw 213 rfl)) (by decide) (backOf (W := 0) (own_rmrec00 l Z a0 hw [] a mn (own_f21_0 (b + (9 : Int32)) (bd.toInt32)) sz rg b mo wa h772 n0 Z772 F775 F776 F772 F777 F778 F779 F780 F781 F782 F783 F784 F785 F786 (Ne.symm ne_rg_a) g_a) hZ (own_w hw 213 rfl) (own_w hw 85 rfl) (by decide) (by decide)) (g := (mkF m 157 #[rv a, .val (.long bd), .second, iv (bd.toInt32)] [(.ref a)])) rfl (by rw [hml]; rfl) (Steps.refl _) (a := a) (by rw [e772]; exact q787) q787' (argsL := []) (rest := []) (lenOf own_pd0 rfl) rfl (by show 2 * 0 + _ ≤ _; exact Nat.le_of_eq rfl) (hb hby own_d14_157) (fun _ _ => ⟨rfl, e772, (by decide : 0 + 0 ≤ _), (by decide : 0 + 0 ≤ _)⟩)
  dsimp only [Pt.U, Pt.locs, Pt.cells, Pt.slots] at X787 l787 y787 z787 st787 hQ787
  rw [l787, y787, z787] at X787
  obtain ⟨rfl, N787q, K787q, f787_0, f787_1, f787_2, f787_3, f787_4, f787_5, f787_6⟩ := hQ787
  obtain ⟨h787, e787⟩ : ∃ z, T787.heap = z := ⟨_, rfl⟩
  rw [e787] at K787q f787_0 f787_1 f787_2 f787_3 f787_4 f787_5 f787_6
  have Z787 : n0 ≤ h787.size := Nat.le_trans Z772 K787q.1
  have K787 : Keep h0 h787 [a, tr, it, lt, rt] := K772.trans K787q (allS (P := fun x => x ∈ [a, tr, it, lt, rt] ∨ h0.size ≤ x) (Or.inl (List.mem_of_getElem? (i := 0) rfl)) all0)
  have N787 := Fr.app N772 N787q
  refine own_st (fun t k => st787.trans k) ?_
  refine own_st (g' := (mkF m 162 #[rv a, .val (.long bd), .second, iv (bd.toInt32)] [(.ref a), (.ref a)])) (fun tt_ kk_ => XS.aloadN X787.here hx rfl (hb hby own_d14_160) rfl rfl (XS.aloadN X787.here hx rfl (hb hby own_d14_161) rfl rfl kk_)) ?_
  refine own_gG X787 hx hZ hown (own_w hw 118 rfl) e787 f787_1 rfl rfl (hb hby own_d14_162) (fun {T788} X788 e788 => ?_)
  refine own_st (g' := (mkF m 167 #[rv a, .val (.long bd), .second, iv (bd.toInt32)] [(.int (lcmpW ((((own_f21_0 (b + (9 : Int32)) (bd.toInt32)).toInt64) - (mn.toInt64)) + (1 : Int64)) (1 : Int64))), (.ref a)])) (fun tt_ kk_ => XS.lconst X788.here hx rfl (hb hby own_d14_165) (XS.lcmp X788.here hx rfl (hb hby own_d14_166) rfl kk_)) ?_
  by_cases hc167 : (lcmpW ((((own_f21_0 (b + (9 : Int32)) (bd.toInt32)).toInt64) - (mn.toInt64)) + (1 : Int64)) (1 : Int64)) = (0 : Int32)
  · skip
    refine own_st (g' := (mkF m 170 #[rv a, .val (.long bd), .second, iv (bd.toInt32)] [(.ref a)])) (fun tt_ kk_ => XS.ifNo X788.here hx rfl (hb hby own_d14_167) rfl ((if0 _ _).trans (teq hc167).2) kk_) ?_
    have F790 := (own_Sta_keep (((own_Sta_keepN S_f K760q (allS (own_plE E_a) (allS (own_plE E_tr) (allS (own_plI P_it) (allS (own_plJ P_lt) (allS (own_plR P_rt) all0)))))).wr W766).wr W772) F775 K787q)
    obtain ⟨T789, X789, e789, st789⟩ := getS2 X788 hx hZ hown (host := "") (Or.inl (own_w hw 221 rfl)) Via.refl e788 F790 (g := (mkF m 170 #[rv a, .val (.long bd), .second, iv (bd.toInt32)] [(.ref a)])) rfl (hb hby own_d14_170)
    refine own_st st789 ?_
    refine own_st (g' := (mkF m 179 #[rv a, .val (.long bd), .second, iv (bd.toInt32)] [(.ref ef), (.ref a)])) (fun tt_ kk_ => XS.goto X789.here hx rfl (pc0 := 173) (pc' := 179) rfl (hb hby own_d14_173) (by decide) (by decide) kk_) ?_
    have F791 := ((((E_mo.keep K760q).wr W766).wr W772).keep K787q)
    have F792 := (own_Sta_keep (((own_Sta_keepN S_b K760q (allS (own_plE E_a) (allS (own_plE E_tr) (allS (own_plI P_it) (allS (own_plJ P_lt) (allS (own_plR P_rt) all0)))))).wr W766).wr W772) F775 K787q)
    obtain ⟨cq793, q793, q793'⟩ := f787_0.cell
    obtain ⟨_, _, ⟨T793, L793, k793, n793⟩, -, X793, ⟨Lc793, hQ793, l793, y793, z793⟩, st793⟩ := X789.privateBack hx (y := (⟨own_z0, "wake", own_z11⟩ : MethodName)) hown (mvT hZ (own_w hw 217 rfl)) (mvT hZ (own_w hw 218 rfl)) (own_sel (mvT hZ (own_w hw 218 rfl)) (mvP hZ (own_w hw 219 rfl)) (mvT hZ (own_w hw 84 rfl)) (by decide)) (Cond.privateMethod_at (mvP hZ (own_w hw 219 rfl) (args := #[]))) (mvT hZ (own_w hw 220 rfl)) (by decide) (backOf (W := 0) (own_rmwaf l Z a0 hw [] a eb ef mo wa h787 n0 Z787 F791 f787_2 f787_3 f787_4 f787_5 f787_6 F790 F792) hZ (own_w hw 220 rfl) (own_w hw 85 rfl) (by decide) (by decide)) (g := (mkF m 179 #[rv a, .val (.long bd), .second, iv (bd.toInt32)] [(.ref ef), (.ref a)])) rfl (by rw [hml]; rfl) (Steps.refl _) (a := a) (by rw [e789]; exact q793) q793' (argsL := [(.ref ef)]) (rest := []) (lenOf own_pd8 rfl) rfl (by show 2 * 0 + _ ≤ _; exact Nat.le_of_eq rfl) (hb hby own_d14_179) (fun _ _ => ⟨rfl, e789, (by decide : 0 + 0 ≤ _), (by decide : 0 + 0 ≤ _)⟩)
    dsimp only [Pt.U, Pt.locs, Pt.cells, Pt.slots] at X793 l793 y793 z793 st793 hQ793
    rw [l793, y793, z793] at X793
    obtain ⟨rfl, N793q, e793⟩ := hQ793
    have N793 := Fr.app N787 N793q
    refine own_st (fun t k => st793.trans k) ?_
    refine own_st (g' := (mkF m 183 #[rv a, .val (.long bd), .second, iv (bd.toInt32)] [(.int (1 : Int32))])) (fun tt_ kk_ => XS.iconst X793.here hx rfl (hb hby own_d14_182) kk_) ?_
    exact own_retN X793 hx hlk (t := .boolean) (Or.inl rfl) hret (hb hby own_d14_183) (by decide) (by decide) (by rw [e793]; exact ⟨rfl, N793, K787, f787_0, f787_1⟩)
  refine own_st (g' := (mkF m 176 #[rv a, .val (.long bd), .second, iv (bd.toInt32)] [(.ref a)])) (fun tt_ kk_ => XS.ifYes X788.here hx rfl (pc0 := 167) (pc' := 176) rfl (hb hby own_d14_167) rfl ((if0 _ _).trans (feq hc167).2) (by decide) (by decide) kk_) ?_
  have F795 := (own_Sta_keep (((own_Sta_keepN S_b K760q (allS (own_plE E_a) (allS (own_plE E_tr) (allS (own_plI P_it) (allS (own_plJ P_lt) (allS (own_plR P_rt) all0)))))).wr W766).wr W772) F775 K787q)
  obtain ⟨T794, X794, e794, st794⟩ := getS2 X788 hx hZ hown (host := "") (Or.inl (own_w hw 214 rfl)) Via.refl e788 F795 (g := (mkF m 176 #[rv a, .val (.long bd), .second, iv (bd.toInt32)] [(.ref a)])) rfl (hb hby own_d14_176)
  refine own_st st794 ?_
  have F796 := ((((E_mo.keep K760q).wr W766).wr W772).keep K787q)
  have F797 := (own_Sta_keep (((own_Sta_keepN S_f K760q (allS (own_plE E_a) (allS (own_plE E_tr) (allS (own_plI P_it) (allS (own_plJ P_lt) (allS (own_plR P_rt) all0)))))).wr W766).wr W772) F775 K787q)
  obtain ⟨cq798, q798, q798'⟩ := f787_0.cell
  obtain ⟨_, _, ⟨T798, L798, k798, n798⟩, -, X798, ⟨Lc798, hQ798, l798, y798, z798⟩, st798⟩ := X794.privateBack hx (y := (⟨own_z0, "wake", own_z11⟩ : MethodName)) hown (mvT hZ (own_w hw 217 rfl)) (mvT hZ (own_w hw 218 rfl)) (own_sel (mvT hZ (own_w hw 218 rfl)) (mvP hZ (own_w hw 219 rfl)) (mvT hZ (own_w hw 84 rfl)) (by decide)) (Cond.privateMethod_at (mvP hZ (own_w hw 219 rfl) (args := #[]))) (mvT hZ (own_w hw 220 rfl)) (by decide) (backOf (W := 0) (own_rmwak l Z a0 hw [] a eb ef mo wa h787 n0 Z787 F796 f787_2 f787_3 f787_4 f787_5 f787_6 F797 F795) hZ (own_w hw 220 rfl) (own_w hw 85 rfl) (by decide) (by decide)) (g := (mkF m 179 #[rv a, .val (.long bd), .second, iv (bd.toInt32)] [(.ref eb), (.ref a)])) rfl (by rw [hml]; rfl) (Steps.refl _) (a := a) (by rw [e794]; exact q798) q798' (argsL := [(.ref eb)]) (rest := []) (lenOf own_pd8 rfl) rfl (by show 2 * 0 + _ ≤ _; exact Nat.le_of_eq rfl) (hb hby own_d14_179) (fun _ _ => ⟨rfl, e794, (by decide : 0 + 0 ≤ _), (by decide : 0 + 0 ≤ _)⟩)
  dsimp only [Pt.U, Pt.locs, Pt.cells, Pt.slots] at X798 l798 y798 z798 st798 hQ798
  rw [l798, y798, z798] at X798
  obtain ⟨rfl, N798q, e798⟩ := hQ798
  have N798 := Fr.app N787 N798q
  refine own_st (fun t k => st798.trans k) ?_
  refine own_st (g' := (mkF m 183 #[rv a, .val (.long bd), .second, iv (bd.toInt32)] [(.int (1 : Int32))])) (fun tt_ kk_ => XS.iconst X798.here hx rfl (hb hby own_d14_182) kk_) ?_
  exact own_retN X798 hx hlk (t := .boolean) (Or.inl rfl) hret (hb hby own_d14_183) (by decide) (by decide) (by rw [e798]; exact ⟨rfl, N798, K787, f787_0, f787_1⟩)
def own_Qrab022 (Z : State) (a : Addr) (bd : Int64) (mn : Int32) (mx : Int32) (sz : Int64) (bi : Int64) (rg : Addr) (st : Int32) (mo : Addr) (ix : Int32) (wa : Addr) (tr : Addr) (it : Addr) (lt : Addr) (rt : Addr) (b : Int32) (ef : Addr) (eb : Addr) (h0 : Heap) (n0 : Nat) (v : Option Value) (h : Heap) (L : List Loc) : Prop := v = some (.int (1 : Int32)) ∧ Fr n0 L ∧ Keep h0 h [a, tr, it, lt, rt] ∧ Exa Z h a own_z0 ∧ Fld Z h a own_z0 "size" "J" (.long ((((((((b + (9 : Int32)).toInt64) - (mn.toInt64)) + (1 : Int64)) + ((own_f21_0 (b + (49 : Int32)) (bd.toInt32)).toInt64)) - ((b + (40 : Int32)).toInt64)) + (1 : Int64)) + ((((b + (29 : Int32)).toInt64) - ((b + (20 : Int32)).toInt64)) + (1 : Int64))))
theorem own_efrab022 (m : MethodId) (a : Addr) (bd : Int64) : entryFrame m #[(.ref a), (.long bd)] 4 = mkF m 0 #[rv a, .val (.long bd), .second, .unset] [] := by first | (simp [entryFrame, mkF, argsToLocals, Value.category]; done) | rfl
set_option maxRecDepth 65536 in
set_option maxHeartbeats 16000000 in
theorem own_rmrab022 (l : Launch) (Z : State) (a0 : Array Value) (hw : own_HW Z a0) (ws : List Jvm.Cond) (a : Addr) (bd : Int64) (mn : Int32) (mx : Int32) (sz : Int64) (bi : Int64) (rg : Addr) (st : Int32) (mo : Addr) (ix : Int32) (wa : Addr) (tr : Addr) (it : Addr) (lt : Addr) (rt : Addr) (b : Int32) (ef : Addr) (eb : Addr) (h0 : Heap) (n0 : Nat) (Z0 : n0 ≤ h0.size) (E_a : Exa Z h0 a own_z0) (F_min_a : Fld Z h0 a own_z0 "min" "I" (.int mn)) (F_max_a : Fld Z h0 a own_z0 "max" "I" (.int mx)) (F_size_a : Fld Z h0 a own_z0 "size" "J" (.long sz)) (F_bits_a : Fld Z h0 a own_z0 "bits" "J" (.long bi)) (F_ranges_a : Fld Z h0 a own_z0 "ranges" "[I" (.ref rg)) (F_stamp_a : Fld Z h0 a own_z0 "stamp" "I" (.int st)) (F_first_a : Fld Z h0 a own_z0 "first" "I" (.int (0 : Int32))) (F_last_a : Fld Z h0 a own_z0 "last" "I" (.int (2 : Int32))) (F_model_a : Fld Z h0 a own_z0 "model" own_z4 (.ref mo)) (F_index_a : Fld Z h0 a own_z0 "index" "I" (.int ix)) (F_watchers_a : Fld Z h0 a own_z0 "watchers" own_z3 (.ref wa)) (F_watcherCount_a : Fld Z h0 a own_z0 own_z9 "I" (.int (0 : Int32))) (F_boundsFrom_a : Fld Z h0 a own_z0 "boundsFrom" "I" (.int (0 : Int32))) (F_toldFrom_a : Fld Z h0 a own_z0 "toldFrom" "I" (.int (0 : Int32))) (F_small_a : Fld Z h0 a own_z0 "small" "Z" (.int (0 : Int32))) (E_rg : Exa Z h0 rg "[I") (P_rg : own_AI Z h0 rg 6 (own_R b)) (E_mo : Exa Z h0 mo own_z2) (F_trail_mo : Fld Z h0 mo own_z2 "trail" own_z7 (.ref tr)) (E_tr : Exa Z h0 tr own_z1) (F_depth_tr : Fld Z h0 tr own_z1 "depth" "I" (.int (0 : Int32))) (F_entries_tr : Fld Z h0 tr own_z1 "entries" "I" (.int (0 : Int32))) (F_ints_tr : Fld Z h0 tr own_z1 "ints" "[I" (.ref it)) (F_longs_tr : Fld Z h0 tr own_z1 "longs" "[J" (.ref lt)) (F_ranges_tr : Fld Z h0 tr own_z1 "ranges" "[[I" (.ref rt)) (P_it : own_AI Z h0 it 384 (fun _ => 0)) (P_lt : own_AJ Z h0 lt 128 (fun _ => 0)) (P_rt : own_AR Z h0 rt 64) (S_f : Sta Z h0 own_z6 "FIX" own_z5 (.ref ef)) (S_b : Sta Z h0 own_z6 "BOUNDS" own_z5 (.ref eb)) (h1 : (lcmpW bd (mx.toInt64)) < (0 : Int32)) (h2 : ¬ ((lcmpW bd (mn.toInt64)) < (0 : Int32))) (hq0 : ¬ ((bd.toInt32) < (b + (20 : Int32)))) (hq1 : ¬ ((bd.toInt32) < (b + (40 : Int32)))) (h9 : ¬ ((lcmpW ((((((((b + (9 : Int32)).toInt64) - (mn.toInt64)) + (1 : Int64)) + ((own_f21_0 (b + (49 : Int32)) (bd.toInt32)).toInt64)) - ((b + (40 : Int32)).toInt64)) + (1 : Int64)) + ((((b + (29 : Int32)).toInt64) - ((b + (20 : Int32)).toInt64)) + (1 : Int64))) (1 : Int64)) = (0 : Int32))) (ne_a_tr : a ≠ tr) (ne_a_it : a ≠ it) (ne_a_lt : a ≠ lt) (ne_a_rt : a ≠ rt) (ne_tr_it : tr ≠ it) (ne_tr_lt : tr ≠ lt) (ne_tr_rt : tr ≠ rt) (ne_it_lt : it ≠ lt) (ne_it_rt : it ≠ rt) (ne_lt_rt : lt ≠ rt) (ne_mo_a : mo ≠ a) (ne_mo_tr : mo ≠ tr) (ne_mo_it : mo ≠ it) (ne_mo_lt : mo ≠ lt) (ne_mo_rt : mo ≠ rt) (ne_rg_a : rg ≠ a) (ne_rg_tr : rg ≠ tr) (ne_rg_it : rg ≠ it) (ne_rg_lt : rg ≠ lt) (ne_rg_rt : rg ≠ rt) (g_a : n0 ≤ a) (g_tr : n0 ≤ tr) (g_it : n0 ≤ it) (g_lt : n0 ≤ lt) (g_rt : n0 ≤ rt) :
    MetFree l (⟨own_z0, own_z18, "(J)Z"⟩ : MethodName) (head1 (Jvm.Cond.code (⟨own_z0, own_z18, "(J)Z"⟩ : MethodName) prog_37_method_31_code 4 (some .boolean) :: ws) ({ frames := 3, cells := 0, slots := 0, locals := 51 } : Room)) (fun aa UU => aa = #[(.ref a), (.long bd)] ∧ Z.Warmed39 UU.vm ∧ UU.heap = h0) (fun _ _ _ _ _ => True) (fun _ U o U' => ∃ v L, o = .returned v ∧ own_Qrab022 Z a bd mn mx sz bi rg st mo ix wa tr it lt rt b ef eb h0 n0 v U'.heap L ∧ FrameEnd U o U' L ({ frames := 3, cells := 0, slots := 0, locals := 51 } : Room).cells ({ frames := 3, cells := 0, slots := 0, locals := 51 } : Room).slots) := by
  refine MetFree.of_bodySF (plainFor_of_name own_pn5) hisR ?_
  intro p e s m args below meth c s₁ Bd hml hP hK
  obtain ⟨rfl, hZ, hh⟩ := hP
  have hx := Bd.exec
  have hlk := Bd.notSynchronized
  have hby := Bd.bytes
  have hret := Bd.returns
  have hown := findClass_of_methodNamed Bd.named
  have hnm := (name_of_methodNamed Bd.named Bd.method).1
  have X0 : Stand p l e ({ frames := 3, cells := 0, slots := 0, locals := 51 } : Room) s m #[(.ref a), (.long bd)] below meth c s₁ [] 0 0 := Stand.of_body Bd
  have e0 : s₁.heap = h0 := by rw [← hh, Bd.state]; rfl
  have N0 := Fr.nil n0
  refine own_cast (own_efrab022 m a bd) ?_
  show own_Go p e below s s₁ _ (own_Qrab022 Z a bd mn mx sz bi rg st mo ix wa tr it lt rt b ef eb h0 n0) 0 0
  have K0 : Keep h0 h0 [a, tr, it, lt, rt] := Keep.refl _ _
  refine own_st (g' := (mkF m 2 #[rv a, .val (.long bd), .second, .unset] [(.ref a), (.long bd)])) (fun tt_ kk_ => XS.lloadN X0.here hx rfl (hb hby own_d14_0) rfl (XS.aloadN X0.here hx rfl (hb hby own_d14_1) rfl rfl kk_)) ?_
  refine own_gG X0 hx hZ hown (own_w hw 112 rfl) e0 F_max_a rfl rfl (hb hby own_d14_2) (fun {T799} X799 e799 => ?_)
  refine own_st (g' := (mkF m 7 #[rv a, .val (.long bd), .second, .unset] [(.int (lcmpW bd (mx.toInt64)))])) (fun tt_ kk_ => XS.i2l X799.here hx rfl (hb hby own_d14_5) rfl (XS.lcmp X799.here hx rfl (hb hby own_d14_6) rfl kk_)) ?_
  refine own_st (g' := (mkF m 14 #[rv a, .val (.long bd), .second, .unset] [(.ref a), (.long bd)])) (fun tt_ kk_ => XS.ifYes X799.here hx rfl (pc0 := 7) (pc' := 12) rfl (hb hby own_d14_7) rfl ((if0 _ _).trans (tlt h1).1) (by decide) (by decide) (XS.lloadN X799.here hx rfl (hb hby own_d14_12) rfl (XS.aloadN X799.here hx rfl (hb hby own_d14_13) rfl rfl kk_))) ?_
  refine own_gG X799 hx hZ hown (own_w hw 110 rfl) e799 F_min_a rfl rfl (hb hby own_d14_14) (fun {T800} X800 e800 => ?_)
  refine own_st (g' := (mkF m 19 #[rv a, .val (.long bd), .second, .unset] [(.int (lcmpW bd (mn.toInt64)))])) (fun tt_ kk_ => XS.i2l X800.here hx rfl (hb hby own_d14_17) rfl (XS.lcmp X800.here hx rfl (hb hby own_d14_18) rfl kk_)) ?_
  refine own_st (g' := (mkF m 28 #[rv a, .val (.long bd), .second, iv (bd.toInt32)] [(.ref a)])) (fun tt_ kk_ => XS.ifYes X800.here hx rfl (pc0 := 19) (pc' := 24) rfl (hb hby own_d14_19) rfl ((if0 _ _).trans (flt h2).2.1) (by decide) (by decide) (XS.lloadN X800.here hx rfl (hb hby own_d14_24) rfl (XS.l2i X800.here hx rfl (hb hby own_d14_25) rfl (XS.istoreN X800.here hx rfl (hb hby own_d14_26) rfl (l' := #[rv a, .val (.long bd), .second, iv (bd.toInt32)]) rfl (XS.aloadN X800.here hx rfl (hb hby own_d14_27) rfl rfl kk_))))) ?_
  obtain ⟨cq801, q801, q801'⟩ := E_a.cell
  obtain ⟨_, _, ⟨T801, L801, k801, n801⟩, -, X801, ⟨Lc801, hQ801, l801, y801, z801⟩, st801⟩ := X800.privateBack hx (y := (⟨own_z0, "save", "()V"⟩ : MethodName)) hown (mvT hZ (own_w hw 172 rfl)) (mvT hZ (own_w hw 173 rfl)) (own_sel (mvT hZ (own_w hw 173 rfl)) (mvP hZ (own_w hw 174 rfl)) (mvT hZ (own_w hw 84 rfl)) (by decide)) (Cond.privateMethod_at (mvP hZ (own_w hw 174 rfl) (args := #[]))) (mvT hZ (own_w hw 175 rfl)) (by decide) (backOf (W := 0) (own_rmsav l Z a0 hw [] a mn mx sz bi rg (0 : Int32) (2 : Int32) st mo (0 : Int32) ix wa tr it lt rt h0 n0 Z0 E_a F_min_a F_max_a F_size_a F_bits_a F_ranges_a F_first_a F_last_a F_stamp_a F_model_a F_small_a F_index_a F_watchers_a F_watcherCount_a F_boundsFrom_a F_toldFrom_a E_rg E_mo F_trail_mo E_tr F_depth_tr F_entries_tr F_ints_tr F_longs_tr F_ranges_tr P_it P_lt P_rt ne_a_tr ne_a_it ne_a_lt ne_a_rt ne_tr_it ne_tr_lt ne_tr_rt ne_it_lt ne_it_rt ne_lt_rt ne_mo_a ne_mo_tr ne_mo_it ne_mo_lt ne_mo_rt ne_rg_a ne_rg_tr ne_rg_it ne_rg_lt ne_rg_rt g_a g_tr g_it g_lt g_rt) hZ (own_w hw 175 rfl) (own_w hw 85 rfl) (by decide) (by decide)) (g := (mkF m 28 #[rv a, .val (.long bd), .second, iv (bd.toInt32)] [(.ref a)])) rfl (by rw [hml]; rfl) (Steps.refl _) (a := a) (by rw [e800]; exact q801) q801' (argsL := []) (rest := []) (lenOf own_pd0 rfl) rfl (by show 2 * 0 + _ ≤ _; exact Nat.le_of_eq rfl) (hb hby own_d14_28) (fun _ _ => ⟨rfl, e800, (by decide : 0 + 0 ≤ _), (by decide : 0 + 0 ≤ _)⟩)
  dsimp only [Pt.U, Pt.locs, Pt.cells, Pt.slots] at X801 l801 y801 z801 st801 hQ801
  rw [l801, y801, z801] at X801
  obtain ⟨rfl, N801q, K801q, f801_0, f801_1, f801_2, f801_3, f801_4, f801_5, f801_6, f801_7, f801_8, f801_9, f801_10, f801_11, f801_12⟩ := hQ801
  obtain ⟨h801, e801⟩ : ∃ z, T801.heap = z := ⟨_, rfl⟩
  rw [e801] at K801q f801_0 f801_1 f801_2 f801_3 f801_4 f801_5 f801_6 f801_7 f801_8 f801_9 f801_10 f801_11 f801_12
  have Z801 : n0 ≤ h801.size := Nat.le_trans Z0 K801q.1
  have K801 : Keep h0 h801 [a, tr, it, lt, rt] := K0.trans K801q (allS (P := fun x => x ∈ [a, tr, it, lt, rt] ∨ h0.size ≤ x) (Or.inl (List.mem_of_getElem? (i := 0) rfl)) (allS (P := fun x => x ∈ [a, tr, it, lt, rt] ∨ h0.size ≤ x) (Or.inl (List.mem_of_getElem? (i := 1) rfl)) (allS (P := fun x => x ∈ [a, tr, it, lt, rt] ∨ h0.size ≤ x) (Or.inl (List.mem_of_getElem? (i := 2) rfl)) (allS (P := fun x => x ∈ [a, tr, it, lt, rt] ∨ h0.size ≤ x) (Or.inl (List.mem_of_getElem? (i := 3) rfl)) (allS (P := fun x => x ∈ [a, tr, it, lt, rt] ∨ h0.size ≤ x) (Or.inl (List.mem_of_getElem? (i := 4) rfl)) all0)))))
  have N801 := Fr.app N0 N801q
  refine own_st (fun t k => st801.trans k) ?_
  refine own_st (g' := (mkF m 32 #[rv a, .val (.long bd), .second, iv (bd.toInt32)] [(.ref a)])) (fun tt_ kk_ => XS.aloadN X801.here hx rfl (hb hby own_d14_31) rfl rfl kk_) ?_
  refine own_gG X801 hx hZ hown (own_w hw 121 rfl) e801 f801_8 rfl rfl (hb hby own_d14_32) (fun {T802} X802 e802 => ?_)
  refine own_st (g' := (mkF m 95 #[rv a, .val (.long bd), .second, iv (bd.toInt32)] [(.ref a)])) (fun tt_ kk_ => XS.ifYes X802.here hx rfl (pc0 := 35) (pc' := 94) rfl (hb hby own_d14_35) rfl ((if0 _ _).trans (teq (by decide : (0 : Int32) = (0 : Int32))).1) (by decide) (by decide) (XS.aloadN X802.here hx rfl (hb hby own_d14_94) rfl rfl kk_)) ?_
  refine own_gG X802 hx hZ hown (own_w hw 131 rfl) e802 f801_4 rfl rfl (hb hby own_d14_95) (fun {T803} X803 e803 => ?_)
  refine own_st (g' := (mkF m 129 #[rv a, .val (.long bd), .second, iv (bd.toInt32)] [(.int (bd.toInt32)), (.ref a), (.ref a)])) (fun tt_ kk_ => XS.ifnonnullYes X803.here hx rfl (pc0 := 98) (pc' := 126) rfl (hb hby own_d14_98) rfl (by decide) (by decide) (XS.aloadN X803.here hx rfl (hb hby own_d14_126) rfl rfl (XS.aloadN X803.here hx rfl (hb hby own_d14_127) rfl rfl (XS.iloadN X803.here hx rfl (hb hby own_d14_128) rfl kk_)))) ?_
  have F804 := (P_rg.keep K801q (ninS ne_rg_a (ninS ne_rg_tr (ninS ne_rg_it (ninS ne_rg_lt (ninS ne_rg_rt nin0))))))
  obtain ⟨cq805, q805, q805'⟩ := f801_0.cell
  obtain ⟨_, _, ⟨T805, L805, k805, n805⟩, -, X805, ⟨Lc805, hQ805, l805, y805, z805⟩, st805⟩ := X803.privateBack hx (y := (⟨own_z0, own_z20, "(I)I"⟩ : MethodName)) hown (mvT hZ (own_w hw 202 rfl)) (mvT hZ (own_w hw 203 rfl)) (own_sel (mvT hZ (own_w hw 203 rfl)) (mvP hZ (own_w hw 204 rfl)) (mvT hZ (own_w hw 84 rfl)) (by decide)) (Cond.privateMethod_at (mvP hZ (own_w hw 204 rfl) (args := #[]))) (mvT hZ (own_w hw 205 rfl)) (by decide) (backOf (W := 1) (own_rmib02 l Z a0 hw [] a (bd.toInt32) rg b h801 n0 Z801 f801_5 f801_6 f801_4 F804) hZ (own_w hw 205 rfl) (own_w hw 85 rfl) (by decide) (by decide)) (g := (mkF m 129 #[rv a, .val (.long bd), .second, iv (bd.toInt32)] [(.int (bd.toInt32)), (.ref a), (.ref a)])) rfl (by rw [hml]; rfl) (Steps.refl _) (a := a) (by rw [e803]; exact q805) q805' (argsL := [(.int (bd.toInt32))]) (rest := [(.ref a)]) (lenOf own_pd2 rfl) rfl (by show 2 * 0 + _ ≤ _; exact Nat.le_of_eq rfl) (hb hby own_d14_129) (fun _ _ => ⟨rfl, e803, (by decide : 0 + 0 ≤ _), (by decide : 0 + 0 ≤ _)⟩)
  dsimp only [Pt.U, Pt.locs, Pt.cells, Pt.slots] at X805 l805 y805 z805 st805 hQ805
  rw [l805, y805, z805] at X805
  obtain ⟨rfl, N805q, e805⟩ := hQ805
  have N805 := Fr.app N801 N805q
  refine own_st (fun t k => st805.trans k) ?_
  have qs806 : (own_ib02 b (bd.toInt32)) = (2 : Int32) := by rw [own_ib02, if_neg hq0, if_neg hq1]
  rw [qs806]
  obtain ⟨T807, h807, X807, e807, W807, st807⟩ := putF X805 hx hZ hown (host := "") (Or.inl (own_w hw 135 rfl)) Via.refl e805 f801_6 f801_0 (Or.inl (own_w hw 136 rfl)) (own_w hw 84 rfl) (ty := .int) (by decide) rfl rfl (g := (mkF m 132 #[rv a, .val (.long bd), .second, iv (bd.toInt32)] [(.int (2 : Int32)), (.ref a)])) rfl rfl (hb hby own_d14_132)
  have N807 := Fr.snoc X807 N805 g_a
  have Z807 : n0 ≤ h807.size := Nat.le_trans Z801 (Keep.of_wr W807).1
  have K807 : Keep h0 h807 [a, tr, it, lt, rt] := K801.wr W807 (Or.inl (List.mem_of_getElem? (i := 0) rfl))
  have F807 : Fld Z h807 a own_z0 "last" "I" (.int (2 : Int32)) := f801_6.same W807
  refine own_st st807 ?_
  refine own_st (g' := (mkF m 137 #[rv a, .val (.long bd), .second, iv (bd.toInt32)] [(.ref a), (.ref a)])) (fun tt_ kk_ => XS.aloadN X807.here hx rfl (hb hby own_d14_135) rfl rfl (XS.aloadN X807.here hx rfl (hb hby own_d14_136) rfl rfl kk_)) ?_
  have F809 := (f801_4.other W807 (Or.inr (Ne.symm (own_sn244 hw))))
  refine own_gG X807 hx hZ hown (own_w hw 131 rfl) e807 F809 rfl rfl (hb hby own_d14_137) (fun {T808} X808 e808 => ?_)
  refine own_st (g' := (mkF m 142 #[rv a, .val (.long bd), .second, iv (bd.toInt32)] [(.ref a), (.int (2 : Int32)), (.ref rg), (.ref a)])) (fun tt_ kk_ => XS.iconst X808.here hx rfl (hb hby own_d14_140) (XS.aloadN X808.here hx rfl (hb hby own_d14_141) rfl rfl kk_)) ?_
  refine own_gG X808 hx hZ hown (own_w hw 135 rfl) e808 F807 rfl rfl (hb hby own_d14_142) (fun {T810} X810 e810 => ?_)
  refine own_st (g' := (mkF m 148 #[rv a, .val (.long bd), .second, iv (bd.toInt32)] [(.int (5 : Int32)), (.ref rg), (.ref a)])) (fun tt_ kk_ => XS.imul X810.here hx rfl (hb hby own_d14_145) rfl (XS.iconst X810.here hx rfl (hb hby own_d14_146) (XS.iadd X810.here hx rfl (hb hby own_d14_147) rfl kk_))) ?_
  have F811 := (F804.other W807 ne_rg_a)
  refine own_st (g' := (mkF m 150 #[rv a, .val (.long bd), .second, iv (bd.toInt32)] [(.int (bd.toInt32)), (.int (b + (49 : Int32))), (.ref a)])) (fun tt_ kk_ => own_ldIv (g := (mkF m 148 #[rv a, .val (.long bd), .second, iv (bd.toInt32)] [(.int (5 : Int32)), (.ref rg), (.ref a)])) X810 hx hZ e810 F811 (by decide) (by decide) (own_Rv5 _) rfl rfl (hb hby own_d14_148) tt_ (XS.iloadN X810.here hx rfl (hb hby own_d14_149) rfl kk_)) ?_
  obtain ⟨_, _, ⟨T812, L812, k812, n812⟩, -, X812, ⟨Lc812, hQ812, l812, y812, z812⟩, st812⟩ := Jvm.LawKit.callS X810 hx (y := (⟨"java/lang/Math", "min", "(II)I"⟩ : MethodName)) hown (mvT hZ (own_w hw 206 rfl)) (mvT hZ (own_w hw 207 rfl)) (mvT hZ (own_w hw 208 rfl)) (mvT hZ (own_w hw 209 rfl)) (by decide) (backOf (W := 1) (own_rm21 l Z a0 hw [] (b + (49 : Int32)) (bd.toInt32) h807 n0) hZ (own_w hw 209 rfl) (own_w hw 208 rfl) (by decide) (by decide)) (g := (mkF m 150 #[rv a, .val (.long bd), .second, iv (bd.toInt32)] [(.int (bd.toInt32)), (.int (b + (49 : Int32))), (.ref a)])) rfl (by rw [hml]; rfl) (argsL := [(.int (b + (49 : Int32))), (.int (bd.toInt32))]) (rest := [(.ref a)]) (lenOf own_pd7 rfl) rfl (by show 2 * 0 + _ ≤ _; exact Nat.le_of_eq rfl) (hb hby own_d14_150) (fun _ _ => ⟨rfl, e810, (by decide : 0 + 0 ≤ _), (by decide : 0 + 0 ≤ _)⟩)
  dsimp only [Pt.U, Pt.locs, Pt.cells, Pt.slots] at X812 l812 y812 z812 st812 hQ812
  rw [l812, y812, z812] at X812
  obtain ⟨rfl, N812q, e812⟩ := hQ812
  have N812 := Fr.app N807 N812q
  refine own_st st812 ?_
  have F814 := (f801_2.other W807 (Or.inr (Ne.symm (own_sn189 hw))))
  have F815 := (f801_0.wr W807)
  obtain ⟨T813, h813, X813, e813, W813, st813⟩ := putF X812 hx hZ hown (host := "") (Or.inl (own_w hw 112 rfl)) Via.refl e812 F814 F815 (Or.inl (own_w hw 113 rfl)) (own_w hw 84 rfl) (ty := .int) (by decide) rfl rfl (g := (mkF m 153 #[rv a, .val (.long bd), .second, iv (bd.toInt32)] [(.int (own_f21_0 (b + (49 : Int32)) (bd.toInt32))), (.ref a)])) rfl rfl (hb hby own_d14_153)
  have N813 := Fr.snoc X813 N812 g_a
  have Z813 : n0 ≤ h813.size := Nat.le_trans Z807 (Keep.of_wr W813).1
  have K813 : Keep h0 h813 [a, tr, it, lt, rt] := K807.wr W813 (Or.inl (List.mem_of_getElem? (i := 0) rfl))
  have F813 : Fld Z h813 a own_z0 "max" "I" (.int (own_f21_0 (b + (49 : Int32)) (bd.toInt32))) := F814.same W813
  refine own_st st813 ?_
  refine own_st (g' := (mkF m 157 #[rv a, .val (.long bd), .second, iv (bd.toInt32)] [(.ref a)])) (fun tt_ kk_ => XS.aloadN X813.here hx rfl (hb hby own_d14_156) rfl rfl kk_) ?_
  have F816 := (F815.wr W813)
  have F817 := ((f801_1.other W807 (Or.inr (Ne.symm (own_sn188 hw)))).other W813 (Or.inr (Ne.symm (own_sn113 hw))))
  have F818 := ((f801_3.other W807 (Or.inr (Ne.symm (own_sn192 hw)))).other W813 (Or.inr (own_sn135 hw)))
  have F819 := ((f801_5.other W807 (Or.inr (Ne.symm (own_sn245 hw)))).other W813 (Or.inr (own_sn177 hw)))
  have F820 := (F807.other W813 (Or.inr (own_sn189 hw)))
  have F821 := (F809.other W813 (Or.inr (own_sn165 hw)))
  have F822 := (F811.other W813 ne_rg_a)
  have F823 := ((f801_7.other W807 (Or.inr (Ne.symm (own_sn185 hw)))).other W813 (Or.inr (Ne.symm (own_sn110 hw))))
  have F824 := ((f801_9.other W807 (Or.inr (Ne.symm (own_sn183 hw)))).other W813 (Or.inr (Ne.symm (own_sn108 hw))))
  have F825 := ((f801_10.other W807 (Or.inr (own_sn251 hw))).other W813 (Or.inr (own_sn213 hw)))
  have F826 := ((f801_11.other W807 (Or.inr (own_sn255 hw))).other W813 (Or.inr (own_sn225 hw)))
  have F827 := ((f801_12.other W807 (Or.inr (own_sn259 hw))).other W813 (Or.inr (own_sn237 hw)))
  obtain ⟨cq828, q828, q828'⟩ := F816.cell
  obtain ⟨_, _, ⟨T828, L828, k828, n828⟩, -, X828, ⟨Lc828, hQ828, l828, y828, z828⟩, st828⟩ := X813.privateBack hx (y := (⟨own_z0, "recount", "()V"⟩ : MethodName)) hown (mvT hZ (own_w hw 210 rfl)) (mvT hZ (own_w hw 211 rfl)) (own_sel (mvT hZ (own_w hw 211 rfl)) (mvP hZ (own_w hw 212 rfl)) (mvT hZ (own_w hw 84 rfl)) (by decide)) (Cond.privateMethod_at (mvP hZ (own_w hw 212 rfl) (args := #[]))) (mvT hZ (own_w hw 213 rfl)) (by decide) (backOf (W := 0) (own_rmrec02 l Z a0 hw [] a mn (own_f21_0 (b + (49 : Int32)) (bd.toInt32)) sz rg b mo wa h813 n0 Z813 F816 F817 F813 F818 F819 F820 F821 F822 F823 F824 F825 F826 F827 (Ne.symm ne_rg_a) g_a) hZ (own_w hw 213 rfl) (own_w hw 85 rfl) (by decide) (by decide)) (g := (mkF m 157 #[rv a, .val (.long bd), .second, iv (bd.toInt32)] [(.ref a)])) rfl (by rw [hml]; rfl) (Steps.refl _) (a := a) (by rw [e813]; exact q828) q828' (argsL := []) (rest := []) (lenOf own_pd0 rfl) rfl (by show 2 * 0 + _ ≤ _; exact Nat.le_of_eq rfl) (hb hby own_d14_157) (fun _ _ => ⟨rfl, e813, (by decide : 0 + 0 ≤ _), (by decide : 0 + 0 ≤ _)⟩)
  dsimp only [Pt.U, Pt.locs, Pt.cells, Pt.slots] at X828 l828 y828 z828 st828 hQ828
  rw [l828, y828, z828] at X828
  obtain ⟨rfl, N828q, K828q, f828_0, f828_1, f828_2, f828_3, f828_4, f828_5, f828_6⟩ := hQ828
  obtain ⟨h828, e828⟩ : ∃ z, T828.heap = z := ⟨_, rfl⟩
  rw [e828] at K828q f828_0 f828_1 f828_2 f828_3 f828_4 f828_5 f828_6
  have Z828 : n0 ≤ h828.size := Nat.le_trans Z813 K828q.1
  have K828 : Keep h0 h828 [a, tr, it, lt, rt] := K813.trans K828q (allS (P := fun x => x ∈ [a, tr, it, lt, rt] ∨ h0.size ≤ x) (Or.inl (List.mem_of_getElem? (i := 0) rfl)) all0)
  have N828 := Fr.app N813 N828q
  refine own_st (fun t k => st828.trans k) ?_
  refine own_st (g' := (mkF m 162 #[rv a, .val (.long bd), .second, iv (bd.toInt32)] [(.ref a), (.ref a)])) (fun tt_ kk_ => XS.aloadN X828.here hx rfl (hb hby own_d14_160) rfl rfl (XS.aloadN X828.here hx rfl (hb hby own_d14_161) rfl rfl kk_)) ?_
  refine own_gG X828 hx hZ hown (own_w hw 118 rfl) e828 f828_1 rfl rfl (hb hby own_d14_162) (fun {T829} X829 e829 => ?_)
  refine own_st (g' := (mkF m 167 #[rv a, .val (.long bd), .second, iv (bd.toInt32)] [(.int (lcmpW ((((((((b + (9 : Int32)).toInt64) - (mn.toInt64)) + (1 : Int64)) + ((own_f21_0 (b + (49 : Int32)) (bd.toInt32)).toInt64)) - ((b + (40 : Int32)).toInt64)) + (1 : Int64)) + ((((b + (29 : Int32)).toInt64) - ((b + (20 : Int32)).toInt64)) + (1 : Int64))) (1 : Int64))), (.ref a)])) (fun tt_ kk_ => XS.lconst X829.here hx rfl (hb hby own_d14_165) (XS.lcmp X829.here hx rfl (hb hby own_d14_166) rfl kk_)) ?_
  refine own_st (g' := (mkF m 176 #[rv a, .val (.long bd), .second, iv (bd.toInt32)] [(.ref a)])) (fun tt_ kk_ => XS.ifYes X829.here hx rfl (pc0 := 167) (pc' := 176) rfl (hb hby own_d14_167) rfl ((if0 _ _).trans (feq h9).2) (by decide) (by decide) kk_) ?_
  have F831 := (own_Sta_keep (((own_Sta_keepN S_b K801q (allS (own_plE E_a) (allS (own_plE E_tr) (allS (own_plI P_it) (allS (own_plJ P_lt) (allS (own_plR P_rt) all0)))))).wr W807).wr W813) F816 K828q)
  obtain ⟨T830, X830, e830, st830⟩ := getS2 X829 hx hZ hown (host := "") (Or.inl (own_w hw 214 rfl)) Via.refl e829 F831 (g := (mkF m 176 #[rv a, .val (.long bd), .second, iv (bd.toInt32)] [(.ref a)])) rfl (hb hby own_d14_176)
  refine own_st st830 ?_
  have F832 := ((((E_mo.keep K801q).wr W807).wr W813).keep K828q)
  have F833 := (own_Sta_keep (((own_Sta_keepN S_f K801q (allS (own_plE E_a) (allS (own_plE E_tr) (allS (own_plI P_it) (allS (own_plJ P_lt) (allS (own_plR P_rt) all0)))))).wr W807).wr W813) F816 K828q)
  obtain ⟨cq834, q834, q834'⟩ := f828_0.cell
  obtain ⟨_, _, ⟨T834, L834, k834, n834⟩, -, X834, ⟨Lc834, hQ834, l834, y834, z834⟩, st834⟩ := X830.privateBack hx (y := (⟨own_z0, "wake", own_z11⟩ : MethodName)) hown (mvT hZ (own_w hw 217 rfl)) (mvT hZ (own_w hw 218 rfl)) (own_sel (mvT hZ (own_w hw 218 rfl)) (mvP hZ (own_w hw 219 rfl)) (mvT hZ (own_w hw 84 rfl)) (by decide)) (Cond.privateMethod_at (mvP hZ (own_w hw 219 rfl) (args := #[]))) (mvT hZ (own_w hw 220 rfl)) (by decide) (backOf (W := 0) (own_rmwak l Z a0 hw [] a eb ef mo wa h828 n0 Z828 F832 f828_2 f828_3 f828_4 f828_5 f828_6 F833 F831) hZ (own_w hw 220 rfl) (own_w hw 85 rfl) (by decide) (by decide)) (g := (mkF m 179 #[rv a, .val (.long bd), .second, iv (bd.toInt32)] [(.ref eb), (.ref a)])) rfl (by rw [hml]; rfl) (Steps.refl _) (a := a) (by rw [e830]; exact q834) q834' (argsL := [(.ref eb)]) (rest := []) (lenOf own_pd8 rfl) rfl (by show 2 * 0 + _ ≤ _; exact Nat.le_of_eq rfl) (hb hby own_d14_179) (fun _ _ => ⟨rfl, e830, (by decide : 0 + 0 ≤ _), (by decide : 0 + 0 ≤ _)⟩)
  dsimp only [Pt.U, Pt.locs, Pt.cells, Pt.slots] at X834 l834 y834 z834 st834 hQ834
  rw [l834, y834, z834] at X834
  obtain ⟨rfl, N834q, e834⟩ := hQ834
  have N834 := Fr.app N828 N834q
  refine own_st (fun t k => st834.trans k) ?_
  refine own_st (g' := (mkF m 183 #[rv a, .val (.long bd), .second, iv (bd.toInt32)] [(.int (1 : Int32))])) (fun tt_ kk_ => XS.iconst X834.here hx rfl (hb hby own_d14_182) kk_) ?_
  exact own_retN X834 hx hlk (t := .boolean) (Or.inl rfl) hret (hb hby own_d14_183) (by decide) (by decide) (by rw [e834]; exact ⟨rfl, N834, K828, f828_0, f828_1⟩)
def own_Qrab021 (Z : State) (a : Addr) (bd : Int64) (mn : Int32) (mx : Int32) (sz : Int64) (bi : Int64) (rg : Addr) (st : Int32) (mo : Addr) (ix : Int32) (wa : Addr) (tr : Addr) (it : Addr) (lt : Addr) (rt : Addr) (b : Int32) (ef : Addr) (eb : Addr) (h0 : Heap) (n0 : Nat) (v : Option Value) (h : Heap) (L : List Loc) : Prop := v = some (.int (1 : Int32)) ∧ Fr n0 L ∧ Keep h0 h [a, tr, it, lt, rt] ∧ Exa Z h a own_z0 ∧ Fld Z h a own_z0 "size" "J" (.long (((((((b + (9 : Int32)).toInt64) - (mn.toInt64)) + (1 : Int64)) + ((own_f21_0 (b + (29 : Int32)) (bd.toInt32)).toInt64)) - ((b + (20 : Int32)).toInt64)) + (1 : Int64)))
theorem own_efrab021 (m : MethodId) (a : Addr) (bd : Int64) : entryFrame m #[(.ref a), (.long bd)] 4 = mkF m 0 #[rv a, .val (.long bd), .second, .unset] [] := by first | (simp [entryFrame, mkF, argsToLocals, Value.category]; done) | rfl
set_option maxRecDepth 65536 in
set_option maxHeartbeats 16000000 in
theorem own_rmrab021 (l : Launch) (Z : State) (a0 : Array Value) (hw : own_HW Z a0) (ws : List Jvm.Cond) (a : Addr) (bd : Int64) (mn : Int32) (mx : Int32) (sz : Int64) (bi : Int64) (rg : Addr) (st : Int32) (mo : Addr) (ix : Int32) (wa : Addr) (tr : Addr) (it : Addr) (lt : Addr) (rt : Addr) (b : Int32) (ef : Addr) (eb : Addr) (h0 : Heap) (n0 : Nat) (Z0 : n0 ≤ h0.size) (E_a : Exa Z h0 a own_z0) (F_min_a : Fld Z h0 a own_z0 "min" "I" (.int mn)) (F_max_a : Fld Z h0 a own_z0 "max" "I" (.int mx)) (F_size_a : Fld Z h0 a own_z0 "size" "J" (.long sz)) (F_bits_a : Fld Z h0 a own_z0 "bits" "J" (.long bi)) (F_ranges_a : Fld Z h0 a own_z0 "ranges" "[I" (.ref rg)) (F_stamp_a : Fld Z h0 a own_z0 "stamp" "I" (.int st)) (F_first_a : Fld Z h0 a own_z0 "first" "I" (.int (0 : Int32))) (F_last_a : Fld Z h0 a own_z0 "last" "I" (.int (2 : Int32))) (F_model_a : Fld Z h0 a own_z0 "model" own_z4 (.ref mo)) (F_index_a : Fld Z h0 a own_z0 "index" "I" (.int ix)) (F_watchers_a : Fld Z h0 a own_z0 "watchers" own_z3 (.ref wa)) (F_watcherCount_a : Fld Z h0 a own_z0 own_z9 "I" (.int (0 : Int32))) (F_boundsFrom_a : Fld Z h0 a own_z0 "boundsFrom" "I" (.int (0 : Int32))) (F_toldFrom_a : Fld Z h0 a own_z0 "toldFrom" "I" (.int (0 : Int32))) (F_small_a : Fld Z h0 a own_z0 "small" "Z" (.int (0 : Int32))) (E_rg : Exa Z h0 rg "[I") (P_rg : own_AI Z h0 rg 6 (own_R b)) (E_mo : Exa Z h0 mo own_z2) (F_trail_mo : Fld Z h0 mo own_z2 "trail" own_z7 (.ref tr)) (E_tr : Exa Z h0 tr own_z1) (F_depth_tr : Fld Z h0 tr own_z1 "depth" "I" (.int (0 : Int32))) (F_entries_tr : Fld Z h0 tr own_z1 "entries" "I" (.int (0 : Int32))) (F_ints_tr : Fld Z h0 tr own_z1 "ints" "[I" (.ref it)) (F_longs_tr : Fld Z h0 tr own_z1 "longs" "[J" (.ref lt)) (F_ranges_tr : Fld Z h0 tr own_z1 "ranges" "[[I" (.ref rt)) (P_it : own_AI Z h0 it 384 (fun _ => 0)) (P_lt : own_AJ Z h0 lt 128 (fun _ => 0)) (P_rt : own_AR Z h0 rt 64) (S_f : Sta Z h0 own_z6 "FIX" own_z5 (.ref ef)) (S_b : Sta Z h0 own_z6 "BOUNDS" own_z5 (.ref eb)) (h1 : (lcmpW bd (mx.toInt64)) < (0 : Int32)) (h2 : ¬ ((lcmpW bd (mn.toInt64)) < (0 : Int32))) (hq0 : ¬ ((bd.toInt32) < (b + (20 : Int32)))) (hq1 : (bd.toInt32) < (b + (40 : Int32))) (h9 : ¬ ((lcmpW (((((((b + (9 : Int32)).toInt64) - (mn.toInt64)) + (1 : Int64)) + ((own_f21_0 (b + (29 : Int32)) (bd.toInt32)).toInt64)) - ((b + (20 : Int32)).toInt64)) + (1 : Int64)) (1 : Int64)) = (0 : Int32))) (ne_a_tr : a ≠ tr) (ne_a_it : a ≠ it) (ne_a_lt : a ≠ lt) (ne_a_rt : a ≠ rt) (ne_tr_it : tr ≠ it) (ne_tr_lt : tr ≠ lt) (ne_tr_rt : tr ≠ rt) (ne_it_lt : it ≠ lt) (ne_it_rt : it ≠ rt) (ne_lt_rt : lt ≠ rt) (ne_mo_a : mo ≠ a) (ne_mo_tr : mo ≠ tr) (ne_mo_it : mo ≠ it) (ne_mo_lt : mo ≠ lt) (ne_mo_rt : mo ≠ rt) (ne_rg_a : rg ≠ a) (ne_rg_tr : rg ≠ tr) (ne_rg_it : rg ≠ it) (ne_rg_lt : rg ≠ lt) (ne_rg_rt : rg ≠ rt) (g_a : n0 ≤ a) (g_tr : n0 ≤ tr) (g_it : n0 ≤ it) (g_lt : n0 ≤ lt) (g_rt : n0 ≤ rt) :
    MetFree l (⟨own_z0, own_z18, "(J)Z"⟩ : MethodName) (head1 (Jvm.Cond.code (⟨own_z0, own_z18, "(J)Z"⟩ : MethodName) prog_37_method_31_code 4 (some .boolean) :: ws) ({ frames := 3, cells := 0, slots := 0, locals := 51 } : Room)) (fun aa UU => aa = #[(.ref a), (.long bd)] ∧ Z.Warmed39 UU.vm ∧ UU.heap = h0) (fun _ _ _ _ _ => True) (fun _ U o U' => ∃ v L, o = .returned v ∧ own_Qrab021 Z a bd mn mx sz bi rg st mo ix wa tr it lt rt b ef eb h0 n0 v U'.heap L ∧ FrameEnd U o U' L ({ frames := 3, cells := 0, slots := 0, locals := 51 } : Room).cells ({ frames := 3, cells := 0, slots := 0, locals := 51 } : Room).slots) := by
  refine MetFree.of_bodySF (plainFor_of_name own_pn5) hisR ?_
  intro p e s m args below meth c s₁ Bd hml hP hK
  obtain ⟨rfl, hZ, hh⟩ := hP
  have hx := Bd.exec
  have hlk := Bd.notSynchronized
  have hby := Bd.bytes
  have hret := Bd.returns
  have hown := findClass_of_methodNamed Bd.named
  have hnm := (name_of_methodNamed Bd.named Bd.method).1
  have X0 : Stand p l e ({ frames := 3, cells := 0, slots := 0, locals := 51 } : Room) s m #[(.ref a), (.long bd)] below meth c s₁ [] 0 0 := Stand.of_body Bd
  have e0 : s₁.heap = h0 := by rw [← hh, Bd.state]; rfl
  have N0 := Fr.nil n0
  refine own_cast (own_efrab021 m a bd) ?_
  show own_Go p e below s s₁ _ (own_Qrab021 Z a bd mn mx sz bi rg st mo ix wa tr it lt rt b ef eb h0 n0) 0 0
  have K0 : Keep h0 h0 [a, tr, it, lt, rt] := Keep.refl _ _
  refine own_st (g' := (mkF m 2 #[rv a, .val (.long bd), .second, .unset] [(.ref a), (.long bd)])) (fun tt_ kk_ => XS.lloadN X0.here hx rfl (hb hby own_d14_0) rfl (XS.aloadN X0.here hx rfl (hb hby own_d14_1) rfl rfl kk_)) ?_
  refine own_gG X0 hx hZ hown (own_w hw 112 rfl) e0 F_max_a rfl rfl (hb hby own_d14_2) (fun {T835} X835 e835 => ?_)
  refine own_st (g' := (mkF m 7 #[rv a, .val (.long bd), .second, .unset] [(.int (lcmpW bd (mx.toInt64)))])) (fun tt_ kk_ => XS.i2l X835.here hx rfl (hb hby own_d14_5) rfl (XS.lcmp X835.here hx rfl (hb hby own_d14_6) rfl kk_)) ?_
  refine own_st (g' := (mkF m 14 #[rv a, .val (.long bd), .second, .unset] [(.ref a), (.long bd)])) (fun tt_ kk_ => XS.ifYes X835.here hx rfl (pc0 := 7) (pc' := 12) rfl (hb hby own_d14_7) rfl ((if0 _ _).trans (tlt h1).1) (by decide) (by decide) (XS.lloadN X835.here hx rfl (hb hby own_d14_12) rfl (XS.aloadN X835.here hx rfl (hb hby own_d14_13) rfl rfl kk_))) ?_
  refine own_gG X835 hx hZ hown (own_w hw 110 rfl) e835 F_min_a rfl rfl (hb hby own_d14_14) (fun {T836} X836 e836 => ?_)
  refine own_st (g' := (mkF m 19 #[rv a, .val (.long bd), .second, .unset] [(.int (lcmpW bd (mn.toInt64)))])) (fun tt_ kk_ => XS.i2l X836.here hx rfl (hb hby own_d14_17) rfl (XS.lcmp X836.here hx rfl (hb hby own_d14_18) rfl kk_)) ?_
  refine own_st (g' := (mkF m 28 #[rv a, .val (.long bd), .second, iv (bd.toInt32)] [(.ref a)])) (fun tt_ kk_ => XS.ifYes X836.here hx rfl (pc0 := 19) (pc' := 24) rfl (hb hby own_d14_19) rfl ((if0 _ _).trans (flt h2).2.1) (by decide) (by decide) (XS.lloadN X836.here hx rfl (hb hby own_d14_24) rfl (XS.l2i X836.here hx rfl (hb hby own_d14_25) rfl (XS.istoreN X836.here hx rfl (hb hby own_d14_26) rfl (l' := #[rv a, .val (.long bd), .second, iv (bd.toInt32)]) rfl (XS.aloadN X836.here hx rfl (hb hby own_d14_27) rfl rfl kk_))))) ?_
  obtain ⟨cq837, q837, q837'⟩ := E_a.cell
  obtain ⟨_, _, ⟨T837, L837, k837, n837⟩, -, X837, ⟨Lc837, hQ837, l837, y837, z837⟩, st837⟩ := X836.privateBack hx (y := (⟨own_z0, "save", "()V"⟩ : MethodName)) hown (mvT hZ (own_w hw 172 rfl)) (mvT hZ (own_w hw 173 rfl)) (own_sel (mvT hZ (own_w hw 173 rfl)) (mvP hZ (own_w hw 174 rfl)) (mvT hZ (own_w hw 84 rfl)) (by decide)) (Cond.privateMethod_at (mvP hZ (own_w hw 174 rfl) (args := #[]))) (mvT hZ (own_w hw 175 rfl)) (by decide) (backOf (W := 0) (own_rmsav l Z a0 hw [] a mn mx sz bi rg (0 : Int32) (2 : Int32) st mo (0 : Int32) ix wa tr it lt rt h0 n0 Z0 E_a F_min_a F_max_a F_size_a F_bits_a F_ranges_a F_first_a F_last_a F_stamp_a F_model_a F_small_a F_index_a F_watchers_a F_watcherCount_a F_boundsFrom_a F_toldFrom_a E_rg E_mo F_trail_mo E_tr F_depth_tr F_entries_tr F_ints_tr F_longs_tr F_ranges_tr P_it P_lt P_rt ne_a_tr ne_a_it ne_a_lt ne_a_rt ne_tr_it ne_tr_lt ne_tr_rt ne_it_lt ne_it_rt ne_lt_rt ne_mo_a ne_mo_tr ne_mo_it ne_mo_lt ne_mo_rt ne_rg_a ne_rg_tr ne_rg_it ne_rg_lt ne_rg_rt g_a g_tr g_it g_lt g_rt) hZ (own_w hw 175 rfl) (own_w hw 85 rfl) (by decide) (by decide)) (g := (mkF m 28 #[rv a, .val (.long bd), .second, iv (bd.toInt32)] [(.ref a)])) rfl (by rw [hml]; rfl) (Steps.refl _) (a := a) (by rw [e836]; exact q837) q837' (argsL := []) (rest := []) (lenOf own_pd0 rfl) rfl (by show 2 * 0 + _ ≤ _; exact Nat.le_of_eq rfl) (hb hby own_d14_28) (fun _ _ => ⟨rfl, e836, (by decide : 0 + 0 ≤ _), (by decide : 0 + 0 ≤ _)⟩)
  dsimp only [Pt.U, Pt.locs, Pt.cells, Pt.slots] at X837 l837 y837 z837 st837 hQ837
  rw [l837, y837, z837] at X837
  obtain ⟨rfl, N837q, K837q, f837_0, f837_1, f837_2, f837_3, f837_4, f837_5, f837_6, f837_7, f837_8, f837_9, f837_10, f837_11, f837_12⟩ := hQ837
  obtain ⟨h837, e837⟩ : ∃ z, T837.heap = z := ⟨_, rfl⟩
  rw [e837] at K837q f837_0 f837_1 f837_2 f837_3 f837_4 f837_5 f837_6 f837_7 f837_8 f837_9 f837_10 f837_11 f837_12
  have Z837 : n0 ≤ h837.size := Nat.le_trans Z0 K837q.1
  have K837 : Keep h0 h837 [a, tr, it, lt, rt] := K0.trans K837q (allS (P := fun x => x ∈ [a, tr, it, lt, rt] ∨ h0.size ≤ x) (Or.inl (List.mem_of_getElem? (i := 0) rfl)) (allS (P := fun x => x ∈ [a, tr, it, lt, rt] ∨ h0.size ≤ x) (Or.inl (List.mem_of_getElem? (i := 1) rfl)) (allS (P := fun x => x ∈ [a, tr, it, lt, rt] ∨ h0.size ≤ x) (Or.inl (List.mem_of_getElem? (i := 2) rfl)) (allS (P := fun x => x ∈ [a, tr, it, lt, rt] ∨ h0.size ≤ x) (Or.inl (List.mem_of_getElem? (i := 3) rfl)) (allS (P := fun x => x ∈ [a, tr, it, lt, rt] ∨ h0.size ≤ x) (Or.inl (List.mem_of_getElem? (i := 4) rfl)) all0)))))
  have N837 := Fr.app N0 N837q
  refine own_st (fun t k => st837.trans k) ?_
  refine own_st (g' := (mkF m 32 #[rv a, .val (.long bd), .second, iv (bd.toInt32)] [(.ref a)])) (fun tt_ kk_ => XS.aloadN X837.here hx rfl (hb hby own_d14_31) rfl rfl kk_) ?_
  refine own_gG X837 hx hZ hown (own_w hw 121 rfl) e837 f837_8 rfl rfl (hb hby own_d14_32) (fun {T838} X838 e838 => ?_)
  refine own_st (g' := (mkF m 95 #[rv a, .val (.long bd), .second, iv (bd.toInt32)] [(.ref a)])) (fun tt_ kk_ => XS.ifYes X838.here hx rfl (pc0 := 35) (pc' := 94) rfl (hb hby own_d14_35) rfl ((if0 _ _).trans (teq (by decide : (0 : Int32) = (0 : Int32))).1) (by decide) (by decide) (XS.aloadN X838.here hx rfl (hb hby own_d14_94) rfl rfl kk_)) ?_
  refine own_gG X838 hx hZ hown (own_w hw 131 rfl) e838 f837_4 rfl rfl (hb hby own_d14_95) (fun {T839} X839 e839 => ?_)
  refine own_st (g' := (mkF m 129 #[rv a, .val (.long bd), .second, iv (bd.toInt32)] [(.int (bd.toInt32)), (.ref a), (.ref a)])) (fun tt_ kk_ => XS.ifnonnullYes X839.here hx rfl (pc0 := 98) (pc' := 126) rfl (hb hby own_d14_98) rfl (by decide) (by decide) (XS.aloadN X839.here hx rfl (hb hby own_d14_126) rfl rfl (XS.aloadN X839.here hx rfl (hb hby own_d14_127) rfl rfl (XS.iloadN X839.here hx rfl (hb hby own_d14_128) rfl kk_)))) ?_
  have F840 := (P_rg.keep K837q (ninS ne_rg_a (ninS ne_rg_tr (ninS ne_rg_it (ninS ne_rg_lt (ninS ne_rg_rt nin0))))))
  obtain ⟨cq841, q841, q841'⟩ := f837_0.cell
  obtain ⟨_, _, ⟨T841, L841, k841, n841⟩, -, X841, ⟨Lc841, hQ841, l841, y841, z841⟩, st841⟩ := X839.privateBack hx (y := (⟨own_z0, own_z20, "(I)I"⟩ : MethodName)) hown (mvT hZ (own_w hw 202 rfl)) (mvT hZ (own_w hw 203 rfl)) (own_sel (mvT hZ (own_w hw 203 rfl)) (mvP hZ (own_w hw 204 rfl)) (mvT hZ (own_w hw 84 rfl)) (by decide)) (Cond.privateMethod_at (mvP hZ (own_w hw 204 rfl) (args := #[]))) (mvT hZ (own_w hw 205 rfl)) (by decide) (backOf (W := 1) (own_rmib02 l Z a0 hw [] a (bd.toInt32) rg b h837 n0 Z837 f837_5 f837_6 f837_4 F840) hZ (own_w hw 205 rfl) (own_w hw 85 rfl) (by decide) (by decide)) (g := (mkF m 129 #[rv a, .val (.long bd), .second, iv (bd.toInt32)] [(.int (bd.toInt32)), (.ref a), (.ref a)])) rfl (by rw [hml]; rfl) (Steps.refl _) (a := a) (by rw [e839]; exact q841) q841' (argsL := [(.int (bd.toInt32))]) (rest := [(.ref a)]) (lenOf own_pd2 rfl) rfl (by show 2 * 0 + _ ≤ _; exact Nat.le_of_eq rfl) (hb hby own_d14_129) (fun _ _ => ⟨rfl, e839, (by decide : 0 + 0 ≤ _), (by decide : 0 + 0 ≤ _)⟩)
  dsimp only [Pt.U, Pt.locs, Pt.cells, Pt.slots] at X841 l841 y841 z841 st841 hQ841
  rw [l841, y841, z841] at X841
  obtain ⟨rfl, N841q, e841⟩ := hQ841
  have N841 := Fr.app N837 N841q
  refine own_st (fun t k => st841.trans k) ?_
  have qs842 : (own_ib02 b (bd.toInt32)) = (1 : Int32) := by rw [own_ib02, if_neg hq0, if_pos hq1]
  rw [qs842]
  obtain ⟨T843, h843, X843, e843, W843, st843⟩ := putF X841 hx hZ hown (host := "") (Or.inl (own_w hw 135 rfl)) Via.refl e841 f837_6 f837_0 (Or.inl (own_w hw 136 rfl)) (own_w hw 84 rfl) (ty := .int) (by decide) rfl rfl (g := (mkF m 132 #[rv a, .val (.long bd), .second, iv (bd.toInt32)] [(.int (1 : Int32)), (.ref a)])) rfl rfl (hb hby own_d14_132)
  have N843 := Fr.snoc X843 N841 g_a
  have Z843 : n0 ≤ h843.size := Nat.le_trans Z837 (Keep.of_wr W843).1
  have K843 : Keep h0 h843 [a, tr, it, lt, rt] := K837.wr W843 (Or.inl (List.mem_of_getElem? (i := 0) rfl))
  have F843 : Fld Z h843 a own_z0 "last" "I" (.int (1 : Int32)) := f837_6.same W843
  refine own_st st843 ?_
  refine own_st (g' := (mkF m 137 #[rv a, .val (.long bd), .second, iv (bd.toInt32)] [(.ref a), (.ref a)])) (fun tt_ kk_ => XS.aloadN X843.here hx rfl (hb hby own_d14_135) rfl rfl (XS.aloadN X843.here hx rfl (hb hby own_d14_136) rfl rfl kk_)) ?_
  have F845 := (f837_4.other W843 (Or.inr (Ne.symm (own_sn244 hw))))
  refine own_gG X843 hx hZ hown (own_w hw 131 rfl) e843 F845 rfl rfl (hb hby own_d14_137) (fun {T844} X844 e844 => ?_)
  refine own_st (g' := (mkF m 142 #[rv a, .val (.long bd), .second, iv (bd.toInt32)] [(.ref a), (.int (2 : Int32)), (.ref rg), (.ref a)])) (fun tt_ kk_ => XS.iconst X844.here hx rfl (hb hby own_d14_140) (XS.aloadN X844.here hx rfl (hb hby own_d14_141) rfl rfl kk_)) ?_
  refine own_gG X844 hx hZ hown (own_w hw 135 rfl) e844 F843 rfl rfl (hb hby own_d14_142) (fun {T846} X846 e846 => ?_)
  refine own_st (g' := (mkF m 148 #[rv a, .val (.long bd), .second, iv (bd.toInt32)] [(.int (3 : Int32)), (.ref rg), (.ref a)])) (fun tt_ kk_ => XS.imul X846.here hx rfl (hb hby own_d14_145) rfl (XS.iconst X846.here hx rfl (hb hby own_d14_146) (XS.iadd X846.here hx rfl (hb hby own_d14_147) rfl kk_))) ?_
  have F847 := (F840.other W843 ne_rg_a)
  refine own_st (g' := (mkF m 150 #[rv a, .val (.long bd), .second, iv (bd.toInt32)] [(.int (bd.toInt32)), (.int (b + (29 : Int32))), (.ref a)])) (fun tt_ kk_ => own_ldIv (g := (mkF m 148 #[rv a, .val (.long bd), .second, iv (bd.toInt32)] [(.int (3 : Int32)), (.ref rg), (.ref a)])) X846 hx hZ e846 F847 (by decide) (by decide) (own_Rv3 _) rfl rfl (hb hby own_d14_148) tt_ (XS.iloadN X846.here hx rfl (hb hby own_d14_149) rfl kk_)) ?_
  obtain ⟨_, _, ⟨T848, L848, k848, n848⟩, -, X848, ⟨Lc848, hQ848, l848, y848, z848⟩, st848⟩ := Jvm.LawKit.callS X846 hx (y := (⟨"java/lang/Math", "min", "(II)I"⟩ : MethodName)) hown (mvT hZ (own_w hw 206 rfl)) (mvT hZ (own_w hw 207 rfl)) (mvT hZ (own_w hw 208 rfl)) (mvT hZ (own_w hw 209 rfl)) (by decide) (backOf (W := 1) (own_rm21 l Z a0 hw [] (b + (29 : Int32)) (bd.toInt32) h843 n0) hZ (own_w hw 209 rfl) (own_w hw 208 rfl) (by decide) (by decide)) (g := (mkF m 150 #[rv a, .val (.long bd), .second, iv (bd.toInt32)] [(.int (bd.toInt32)), (.int (b + (29 : Int32))), (.ref a)])) rfl (by rw [hml]; rfl) (argsL := [(.int (b + (29 : Int32))), (.int (bd.toInt32))]) (rest := [(.ref a)]) (lenOf own_pd7 rfl) rfl (by show 2 * 0 + _ ≤ _; exact Nat.le_of_eq rfl) (hb hby own_d14_150) (fun _ _ => ⟨rfl, e846, (by decide : 0 + 0 ≤ _), (by decide : 0 + 0 ≤ _)⟩)
  dsimp only [Pt.U, Pt.locs, Pt.cells, Pt.slots] at X848 l848 y848 z848 st848 hQ848
  rw [l848, y848, z848] at X848
  obtain ⟨rfl, N848q, e848⟩ := hQ848
  have N848 := Fr.app N843 N848q
  refine own_st st848 ?_
  have F850 := (f837_2.other W843 (Or.inr (Ne.symm (own_sn189 hw))))
  have F851 := (f837_0.wr W843)
  obtain ⟨T849, h849, X849, e849, W849, st849⟩ := putF X848 hx hZ hown (host := "") (Or.inl (own_w hw 112 rfl)) Via.refl e848 F850 F851 (Or.inl (own_w hw 113 rfl)) (own_w hw 84 rfl) (ty := .int) (by decide) rfl rfl (g := (mkF m 153 #[rv a, .val (.long bd), .second, iv (bd.toInt32)] [(.int (own_f21_0 (b + (29 : Int32)) (bd.toInt32))), (.ref a)])) rfl rfl (hb hby own_d14_153)
  have N849 := Fr.snoc X849 N848 g_a
  have Z849 : n0 ≤ h849.size := Nat.le_trans Z843 (Keep.of_wr W849).1
  have K849 : Keep h0 h849 [a, tr, it, lt, rt] := K843.wr W849 (Or.inl (List.mem_of_getElem? (i := 0) rfl))
  have F849 : Fld Z h849 a own_z0 "max" "I" (.int (own_f21_0 (b + (29 : Int32)) (bd.toInt32))) := F850.same W849
  refine own_st st849 ?_
  refine own_st (g' := (mkF m 157 #[rv a, .val (.long bd), .second, iv (bd.toInt32)] [(.ref a)])) (fun tt_ kk_ => XS.aloadN X849.here hx rfl (hb hby own_d14_156) rfl rfl kk_) ?_
  have F852 := (F851.wr W849)
  have F853 := ((f837_1.other W843 (Or.inr (Ne.symm (own_sn188 hw)))).other W849 (Or.inr (Ne.symm (own_sn113 hw))))
  have F854 := ((f837_3.other W843 (Or.inr (Ne.symm (own_sn192 hw)))).other W849 (Or.inr (own_sn135 hw)))
  have F855 := ((f837_5.other W843 (Or.inr (Ne.symm (own_sn245 hw)))).other W849 (Or.inr (own_sn177 hw)))
  have F856 := (F843.other W849 (Or.inr (own_sn189 hw)))
  have F857 := (F845.other W849 (Or.inr (own_sn165 hw)))
  have F858 := (F847.other W849 ne_rg_a)
  have F859 := ((f837_7.other W843 (Or.inr (Ne.symm (own_sn185 hw)))).other W849 (Or.inr (Ne.symm (own_sn110 hw))))
  have F860 := ((f837_9.other W843 (Or.inr (Ne.symm (own_sn183 hw)))).other W849 (Or.inr (Ne.symm (own_sn108 hw))))
  have F861 := ((f837_10.other W843 (Or.inr (own_sn251 hw))).other W849 (Or.inr (own_sn213 hw)))
  have F862 := ((f837_11.other W843 (Or.inr (own_sn255 hw))).other W849 (Or.inr (own_sn225 hw)))
  have F863 := ((f837_12.other W843 (Or.inr (own_sn259 hw))).other W849 (Or.inr (own_sn237 hw)))
  obtain ⟨cq864, q864, q864'⟩ := F852.cell
  obtain ⟨_, _, ⟨T864, L864, k864, n864⟩, -, X864, ⟨Lc864, hQ864, l864, y864, z864⟩, st864⟩ := X849.privateBack hx (y := (⟨own_z0, "recount", "()V"⟩ : MethodName)) hown (mvT hZ (own_w hw 210 rfl)) (mvT hZ (own_w hw 211 rfl)) (own_sel (mvT hZ (own_w hw 211 rfl)) (mvP hZ (own_w hw 212 rfl)) (mvT hZ (own_w hw 84 rfl)) (by decide)) (Cond.privateMethod_at (mvP hZ (own_w hw 212 rfl) (args := #[]))) (mvT hZ (own_w hw 213 rfl)) (by decide) (backOf (W := 0) (own_rmrec01 l Z a0 hw [] a mn (own_f21_0 (b + (29 : Int32)) (bd.toInt32)) sz rg b mo wa h849 n0 Z849 F852 F853 F849 F854 F855 F856 F857 F858 F859 F860 F861 F862 F863 (Ne.symm ne_rg_a) g_a) hZ (own_w hw 213 rfl) (own_w hw 85 rfl) (by decide) (by decide)) (g := (mkF m 157 #[rv a, .val (.long bd), .second, iv (bd.toInt32)] [(.ref a)])) rfl (by rw [hml]; rfl) (Steps.refl _) (a := a) (by rw [e849]; exact q864) q864' (argsL := []) (rest := []) (lenOf own_pd0 rfl) rfl (by show 2 * 0 + _ ≤ _; exact Nat.le_of_eq rfl) (hb hby own_d14_157) (fun _ _ => ⟨rfl, e849, (by decide : 0 + 0 ≤ _), (by decide : 0 + 0 ≤ _)⟩)
  dsimp only [Pt.U, Pt.locs, Pt.cells, Pt.slots] at X864 l864 y864 z864 st864 hQ864
  rw [l864, y864, z864] at X864
  obtain ⟨rfl, N864q, K864q, f864_0, f864_1, f864_2, f864_3, f864_4, f864_5, f864_6⟩ := hQ864
  obtain ⟨h864, e864⟩ : ∃ z, T864.heap = z := ⟨_, rfl⟩
  rw [e864] at K864q f864_0 f864_1 f864_2 f864_3 f864_4 f864_5 f864_6
  have Z864 : n0 ≤ h864.size := Nat.le_trans Z849 K864q.1
  have K864 : Keep h0 h864 [a, tr, it, lt, rt] := K849.trans K864q (allS (P := fun x => x ∈ [a, tr, it, lt, rt] ∨ h0.size ≤ x) (Or.inl (List.mem_of_getElem? (i := 0) rfl)) all0)
  have N864 := Fr.app N849 N864q
  refine own_st (fun t k => st864.trans k) ?_
  refine own_st (g' := (mkF m 162 #[rv a, .val (.long bd), .second, iv (bd.toInt32)] [(.ref a), (.ref a)])) (fun tt_ kk_ => XS.aloadN X864.here hx rfl (hb hby own_d14_160) rfl rfl (XS.aloadN X864.here hx rfl (hb hby own_d14_161) rfl rfl kk_)) ?_
  refine own_gG X864 hx hZ hown (own_w hw 118 rfl) e864 f864_1 rfl rfl (hb hby own_d14_162) (fun {T865} X865 e865 => ?_)
  refine own_st (g' := (mkF m 167 #[rv a, .val (.long bd), .second, iv (bd.toInt32)] [(.int (lcmpW (((((((b + (9 : Int32)).toInt64) - (mn.toInt64)) + (1 : Int64)) + ((own_f21_0 (b + (29 : Int32)) (bd.toInt32)).toInt64)) - ((b + (20 : Int32)).toInt64)) + (1 : Int64)) (1 : Int64))), (.ref a)])) (fun tt_ kk_ => XS.lconst X865.here hx rfl (hb hby own_d14_165) (XS.lcmp X865.here hx rfl (hb hby own_d14_166) rfl kk_)) ?_
  refine own_st (g' := (mkF m 176 #[rv a, .val (.long bd), .second, iv (bd.toInt32)] [(.ref a)])) (fun tt_ kk_ => XS.ifYes X865.here hx rfl (pc0 := 167) (pc' := 176) rfl (hb hby own_d14_167) rfl ((if0 _ _).trans (feq h9).2) (by decide) (by decide) kk_) ?_
  have F867 := (own_Sta_keep (((own_Sta_keepN S_b K837q (allS (own_plE E_a) (allS (own_plE E_tr) (allS (own_plI P_it) (allS (own_plJ P_lt) (allS (own_plR P_rt) all0)))))).wr W843).wr W849) F852 K864q)
  obtain ⟨T866, X866, e866, st866⟩ := getS2 X865 hx hZ hown (host := "") (Or.inl (own_w hw 214 rfl)) Via.refl e865 F867 (g := (mkF m 176 #[rv a, .val (.long bd), .second, iv (bd.toInt32)] [(.ref a)])) rfl (hb hby own_d14_176)
  refine own_st st866 ?_
  have F868 := ((((E_mo.keep K837q).wr W843).wr W849).keep K864q)
  have F869 := (own_Sta_keep (((own_Sta_keepN S_f K837q (allS (own_plE E_a) (allS (own_plE E_tr) (allS (own_plI P_it) (allS (own_plJ P_lt) (allS (own_plR P_rt) all0)))))).wr W843).wr W849) F852 K864q)
  obtain ⟨cq870, q870, q870'⟩ := f864_0.cell
  obtain ⟨_, _, ⟨T870, L870, k870, n870⟩, -, X870, ⟨Lc870, hQ870, l870, y870, z870⟩, st870⟩ := X866.privateBack hx (y := (⟨own_z0, "wake", own_z11⟩ : MethodName)) hown (mvT hZ (own_w hw 217 rfl)) (mvT hZ (own_w hw 218 rfl)) (own_sel (mvT hZ (own_w hw 218 rfl)) (mvP hZ (own_w hw 219 rfl)) (mvT hZ (own_w hw 84 rfl)) (by decide)) (Cond.privateMethod_at (mvP hZ (own_w hw 219 rfl) (args := #[]))) (mvT hZ (own_w hw 220 rfl)) (by decide) (backOf (W := 0) (own_rmwak l Z a0 hw [] a eb ef mo wa h864 n0 Z864 F868 f864_2 f864_3 f864_4 f864_5 f864_6 F869 F867) hZ (own_w hw 220 rfl) (own_w hw 85 rfl) (by decide) (by decide)) (g := (mkF m 179 #[rv a, .val (.long bd), .second, iv (bd.toInt32)] [(.ref eb), (.ref a)])) rfl (by rw [hml]; rfl) (Steps.refl _) (a := a) (by rw [e866]; exact q870) q870' (argsL := [(.ref eb)]) (rest := []) (lenOf own_pd8 rfl) rfl (by show 2 * 0 + _ ≤ _; exact Nat.le_of_eq rfl) (hb hby own_d14_179) (fun _ _ => ⟨rfl, e866, (by decide : 0 + 0 ≤ _), (by decide : 0 + 0 ≤ _)⟩)
  dsimp only [Pt.U, Pt.locs, Pt.cells, Pt.slots] at X870 l870 y870 z870 st870 hQ870
  rw [l870, y870, z870] at X870
  obtain ⟨rfl, N870q, e870⟩ := hQ870
  have N870 := Fr.app N864 N870q
  refine own_st (fun t k => st870.trans k) ?_
  refine own_st (g' := (mkF m 183 #[rv a, .val (.long bd), .second, iv (bd.toInt32)] [(.int (1 : Int32))])) (fun tt_ kk_ => XS.iconst X870.here hx rfl (hb hby own_d14_182) kk_) ?_
  exact own_retN X870 hx hlk (t := .boolean) (Or.inl rfl) hret (hb hby own_d14_183) (by decide) (by decide) (by rw [e870]; exact ⟨rfl, N870, K864, f864_0, f864_1⟩)
def own_Qrab122 (Z : State) (a : Addr) (bd : Int64) (mn : Int32) (mx : Int32) (sz : Int64) (bi : Int64) (rg : Addr) (st : Int32) (mo : Addr) (ix : Int32) (wa : Addr) (tr : Addr) (it : Addr) (lt : Addr) (rt : Addr) (b : Int32) (ef : Addr) (eb : Addr) (h0 : Heap) (n0 : Nat) (v : Option Value) (h : Heap) (L : List Loc) : Prop := v = some (.int (1 : Int32)) ∧ Fr n0 L ∧ Keep h0 h [a, tr, it, lt, rt] ∧ Exa Z h a own_z0 ∧ Fld Z h a own_z0 "size" "J" (.long (((((((b + (29 : Int32)).toInt64) - (mn.toInt64)) + (1 : Int64)) + ((own_f21_0 (b + (49 : Int32)) (bd.toInt32)).toInt64)) - ((b + (40 : Int32)).toInt64)) + (1 : Int64)))
theorem own_efrab122 (m : MethodId) (a : Addr) (bd : Int64) : entryFrame m #[(.ref a), (.long bd)] 4 = mkF m 0 #[rv a, .val (.long bd), .second, .unset] [] := by first | (simp [entryFrame, mkF, argsToLocals, Value.category]; done) | rfl
set_option maxRecDepth 65536 in
set_option maxHeartbeats 16000000 in
theorem own_rmrab122 (l : Launch) (Z : State) (a0 : Array Value) (hw : own_HW Z a0) (ws : List Jvm.Cond) (a : Addr) (bd : Int64) (mn : Int32) (mx : Int32) (sz : Int64) (bi : Int64) (rg : Addr) (st : Int32) (mo : Addr) (ix : Int32) (wa : Addr) (tr : Addr) (it : Addr) (lt : Addr) (rt : Addr) (b : Int32) (ef : Addr) (eb : Addr) (h0 : Heap) (n0 : Nat) (Z0 : n0 ≤ h0.size) (E_a : Exa Z h0 a own_z0) (F_min_a : Fld Z h0 a own_z0 "min" "I" (.int mn)) (F_max_a : Fld Z h0 a own_z0 "max" "I" (.int mx)) (F_size_a : Fld Z h0 a own_z0 "size" "J" (.long sz)) (F_bits_a : Fld Z h0 a own_z0 "bits" "J" (.long bi)) (F_ranges_a : Fld Z h0 a own_z0 "ranges" "[I" (.ref rg)) (F_stamp_a : Fld Z h0 a own_z0 "stamp" "I" (.int st)) (F_first_a : Fld Z h0 a own_z0 "first" "I" (.int (1 : Int32))) (F_last_a : Fld Z h0 a own_z0 "last" "I" (.int (2 : Int32))) (F_model_a : Fld Z h0 a own_z0 "model" own_z4 (.ref mo)) (F_index_a : Fld Z h0 a own_z0 "index" "I" (.int ix)) (F_watchers_a : Fld Z h0 a own_z0 "watchers" own_z3 (.ref wa)) (F_watcherCount_a : Fld Z h0 a own_z0 own_z9 "I" (.int (0 : Int32))) (F_boundsFrom_a : Fld Z h0 a own_z0 "boundsFrom" "I" (.int (0 : Int32))) (F_toldFrom_a : Fld Z h0 a own_z0 "toldFrom" "I" (.int (0 : Int32))) (F_small_a : Fld Z h0 a own_z0 "small" "Z" (.int (0 : Int32))) (E_rg : Exa Z h0 rg "[I") (P_rg : own_AI Z h0 rg 6 (own_R b)) (E_mo : Exa Z h0 mo own_z2) (F_trail_mo : Fld Z h0 mo own_z2 "trail" own_z7 (.ref tr)) (E_tr : Exa Z h0 tr own_z1) (F_depth_tr : Fld Z h0 tr own_z1 "depth" "I" (.int (0 : Int32))) (F_entries_tr : Fld Z h0 tr own_z1 "entries" "I" (.int (0 : Int32))) (F_ints_tr : Fld Z h0 tr own_z1 "ints" "[I" (.ref it)) (F_longs_tr : Fld Z h0 tr own_z1 "longs" "[J" (.ref lt)) (F_ranges_tr : Fld Z h0 tr own_z1 "ranges" "[[I" (.ref rt)) (P_it : own_AI Z h0 it 384 (fun _ => 0)) (P_lt : own_AJ Z h0 lt 128 (fun _ => 0)) (P_rt : own_AR Z h0 rt 64) (S_f : Sta Z h0 own_z6 "FIX" own_z5 (.ref ef)) (S_b : Sta Z h0 own_z6 "BOUNDS" own_z5 (.ref eb)) (h1 : (lcmpW bd (mx.toInt64)) < (0 : Int32)) (h2 : ¬ ((lcmpW bd (mn.toInt64)) < (0 : Int32))) (hq0 : ¬ ((bd.toInt32) < (b + (40 : Int32)))) (h9 : ¬ ((lcmpW (((((((b + (29 : Int32)).toInt64) - (mn.toInt64)) + (1 : Int64)) + ((own_f21_0 (b + (49 : Int32)) (bd.toInt32)).toInt64)) - ((b + (40 : Int32)).toInt64)) + (1 : Int64)) (1 : Int64)) = (0 : Int32))) (ne_a_tr : a ≠ tr) (ne_a_it : a ≠ it) (ne_a_lt : a ≠ lt) (ne_a_rt : a ≠ rt) (ne_tr_it : tr ≠ it) (ne_tr_lt : tr ≠ lt) (ne_tr_rt : tr ≠ rt) (ne_it_lt : it ≠ lt) (ne_it_rt : it ≠ rt) (ne_lt_rt : lt ≠ rt) (ne_mo_a : mo ≠ a) (ne_mo_tr : mo ≠ tr) (ne_mo_it : mo ≠ it) (ne_mo_lt : mo ≠ lt) (ne_mo_rt : mo ≠ rt) (ne_rg_a : rg ≠ a) (ne_rg_tr : rg ≠ tr) (ne_rg_it : rg ≠ it) (ne_rg_lt : rg ≠ lt) (ne_rg_rt : rg ≠ rt) (g_a : n0 ≤ a) (g_tr : n0 ≤ tr) (g_it : n0 ≤ it) (g_lt : n0 ≤ lt) (g_rt : n0 ≤ rt) :
    MetFree l (⟨own_z0, own_z18, "(J)Z"⟩ : MethodName) (head1 (Jvm.Cond.code (⟨own_z0, own_z18, "(J)Z"⟩ : MethodName) prog_37_method_31_code 4 (some .boolean) :: ws) ({ frames := 3, cells := 0, slots := 0, locals := 51 } : Room)) (fun aa UU => aa = #[(.ref a), (.long bd)] ∧ Z.Warmed39 UU.vm ∧ UU.heap = h0) (fun _ _ _ _ _ => True) (fun _ U o U' => ∃ v L, o = .returned v ∧ own_Qrab122 Z a bd mn mx sz bi rg st mo ix wa tr it lt rt b ef eb h0 n0 v U'.heap L ∧ FrameEnd U o U' L ({ frames := 3, cells := 0, slots := 0, locals := 51 } : Room).cells ({ frames := 3, cells := 0, slots := 0, locals := 51 } : Room).slots) := by
  refine MetFree.of_bodySF (plainFor_of_name own_pn5) hisR ?_
  intro p e s m args below meth c s₁ Bd hml hP hK
  obtain ⟨rfl, hZ, hh⟩ := hP
  have hx := Bd.exec
  have hlk := Bd.notSynchronized
  have hby := Bd.bytes
  have hret := Bd.returns
  have hown := findClass_of_methodNamed Bd.named
  have hnm := (name_of_methodNamed Bd.named Bd.method).1
  have X0 : Stand p l e ({ frames := 3, cells := 0, slots := 0, locals := 51 } : Room) s m #[(.ref a), (.long bd)] below meth c s₁ [] 0 0 := Stand.of_body Bd
  have e0 : s₁.heap = h0 := by rw [← hh, Bd.state]; rfl
  have N0 := Fr.nil n0
  refine own_cast (own_efrab122 m a bd) ?_
  show own_Go p e below s s₁ _ (own_Qrab122 Z a bd mn mx sz bi rg st mo ix wa tr it lt rt b ef eb h0 n0) 0 0
  have K0 : Keep h0 h0 [a, tr, it, lt, rt] := Keep.refl _ _
  refine own_st (g' := (mkF m 2 #[rv a, .val (.long bd), .second, .unset] [(.ref a), (.long bd)])) (fun tt_ kk_ => XS.lloadN X0.here hx rfl (hb hby own_d14_0) rfl (XS.aloadN X0.here hx rfl (hb hby own_d14_1) rfl rfl kk_)) ?_
  refine own_gG X0 hx hZ hown (own_w hw 112 rfl) e0 F_max_a rfl rfl (hb hby own_d14_2) (fun {T871} X871 e871 => ?_)
  refine own_st (g' := (mkF m 7 #[rv a, .val (.long bd), .second, .unset] [(.int (lcmpW bd (mx.toInt64)))])) (fun tt_ kk_ => XS.i2l X871.here hx rfl (hb hby own_d14_5) rfl (XS.lcmp X871.here hx rfl (hb hby own_d14_6) rfl kk_)) ?_
  refine own_st (g' := (mkF m 14 #[rv a, .val (.long bd), .second, .unset] [(.ref a), (.long bd)])) (fun tt_ kk_ => XS.ifYes X871.here hx rfl (pc0 := 7) (pc' := 12) rfl (hb hby own_d14_7) rfl ((if0 _ _).trans (tlt h1).1) (by decide) (by decide) (XS.lloadN X871.here hx rfl (hb hby own_d14_12) rfl (XS.aloadN X871.here hx rfl (hb hby own_d14_13) rfl rfl kk_))) ?_
  refine own_gG X871 hx hZ hown (own_w hw 110 rfl) e871 F_min_a rfl rfl (hb hby own_d14_14) (fun {T872} X872 e872 => ?_)
  refine own_st (g' := (mkF m 19 #[rv a, .val (.long bd), .second, .unset] [(.int (lcmpW bd (mn.toInt64)))])) (fun tt_ kk_ => XS.i2l X872.here hx rfl (hb hby own_d14_17) rfl (XS.lcmp X872.here hx rfl (hb hby own_d14_18) rfl kk_)) ?_
  refine own_st (g' := (mkF m 28 #[rv a, .val (.long bd), .second, iv (bd.toInt32)] [(.ref a)])) (fun tt_ kk_ => XS.ifYes X872.here hx rfl (pc0 := 19) (pc' := 24) rfl (hb hby own_d14_19) rfl ((if0 _ _).trans (flt h2).2.1) (by decide) (by decide) (XS.lloadN X872.here hx rfl (hb hby own_d14_24) rfl (XS.l2i X872.here hx rfl (hb hby own_d14_25) rfl (XS.istoreN X872.here hx rfl (hb hby own_d14_26) rfl (l' := #[rv a, .val (.long bd), .second, iv (bd.toInt32)]) rfl (XS.aloadN X872.here hx rfl (hb hby own_d14_27) rfl rfl kk_))))) ?_
  obtain ⟨cq873, q873, q873'⟩ := E_a.cell
  obtain ⟨_, _, ⟨T873, L873, k873, n873⟩, -, X873, ⟨Lc873, hQ873, l873, y873, z873⟩, st873⟩ := X872.privateBack hx (y := (⟨own_z0, "save", "()V"⟩ : MethodName)) hown (mvT hZ (own_w hw 172 rfl)) (mvT hZ (own_w hw 173 rfl)) (own_sel (mvT hZ (own_w hw 173 rfl)) (mvP hZ (own_w hw 174 rfl)) (mvT hZ (own_w hw 84 rfl)) (by decide)) (Cond.privateMethod_at (mvP hZ (own_w hw 174 rfl) (args := #[]))) (mvT hZ (own_w hw 175 rfl)) (by decide) (backOf (W := 0) (own_rmsav l Z a0 hw [] a mn mx sz bi rg (1 : Int32) (2 : Int32) st mo (0 : Int32) ix wa tr it lt rt h0 n0 Z0 E_a F_min_a F_max_a F_size_a F_bits_a F_ranges_a F_first_a F_last_a F_stamp_a F_model_a F_small_a F_index_a F_watchers_a F_watcherCount_a F_boundsFrom_a F_toldFrom_a E_rg E_mo F_trail_mo E_tr F_depth_tr F_entries_tr F_ints_tr F_longs_tr F_ranges_tr P_it P_lt P_rt ne_a_tr ne_a_it ne_a_lt ne_a_rt ne_tr_it ne_tr_lt ne_tr_rt ne_it_lt ne_it_rt ne_lt_rt ne_mo_a ne_mo_tr ne_mo_it ne_mo_lt ne_mo_rt ne_rg_a ne_rg_tr ne_rg_it ne_rg_lt ne_rg_rt g_a g_tr g_it g_lt g_rt) hZ (own_w hw 175 rfl) (own_w hw 85 rfl) (by decide) (by decide)) (g := (mkF m 28 #[rv a, .val (.long bd), .second, iv (bd.toInt32)] [(.ref a)])) rfl (by rw [hml]; rfl) (Steps.refl _) (a := a) (by rw [e872]; exact q873) q873' (argsL := []) (rest := []) (lenOf own_pd0 rfl) rfl (by show 2 * 0 + _ ≤ _; exact Nat.le_of_eq rfl) (hb hby own_d14_28) (fun _ _ => ⟨rfl, e872, (by decide : 0 + 0 ≤ _), (by decide : 0 + 0 ≤ _)⟩)
  dsimp only [Pt.U, Pt.locs, Pt.cells, Pt.slots] at X873 l873 y873 z873 st873 hQ873
  rw [l873, y873, z873] at X873
  obtain ⟨rfl, N873q, K873q, f873_0, f873_1, f873_2, f873_3, f873_4, f873_5, f873_6, f873_7, f873_8, f873_9, f873_10, f873_11, f873_12⟩ := hQ873
  obtain ⟨h873, e873⟩ : ∃ z, T873.heap = z := ⟨_, rfl⟩
  rw [e873] at K873q f873_0 f873_1 f873_2 f873_3 f873_4 f873_5 f873_6 f873_7 f873_8 f873_9 f873_10 f873_11 f873_12
  have Z873 : n0 ≤ h873.size := Nat.le_trans Z0 K873q.1
  have K873 : Keep h0 h873 [a, tr, it, lt, rt] := K0.trans K873q (allS (P := fun x => x ∈ [a, tr, it, lt, rt] ∨ h0.size ≤ x) (Or.inl (List.mem_of_getElem? (i := 0) rfl)) (allS (P := fun x => x ∈ [a, tr, it, lt, rt] ∨ h0.size ≤ x) (Or.inl (List.mem_of_getElem? (i := 1) rfl)) (allS (P := fun x => x ∈ [a, tr, it, lt, rt] ∨ h0.size ≤ x) (Or.inl (List.mem_of_getElem? (i := 2) rfl)) (allS (P := fun x => x ∈ [a, tr, it, lt, rt] ∨ h0.size ≤ x) (Or.inl (List.mem_of_getElem? (i := 3) rfl)) (allS (P := fun x => x ∈ [a, tr, it, lt, rt] ∨ h0.size ≤ x) (Or.inl (List.mem_of_getElem? (i := 4) rfl)) all0)))))
  have N873 := Fr.app N0 N873q
  refine own_st (fun t k => st873.trans k) ?_
  refine own_st (g' := (mkF m 32 #[rv a, .val (.long bd), .second, iv (bd.toInt32)] [(.ref a)])) (fun tt_ kk_ => XS.aloadN X873.here hx rfl (hb hby own_d14_31) rfl rfl kk_) ?_
  refine own_gG X873 hx hZ hown (own_w hw 121 rfl) e873 f873_8 rfl rfl (hb hby own_d14_32) (fun {T874} X874 e874 => ?_)
  refine own_st (g' := (mkF m 95 #[rv a, .val (.long bd), .second, iv (bd.toInt32)] [(.ref a)])) (fun tt_ kk_ => XS.ifYes X874.here hx rfl (pc0 := 35) (pc' := 94) rfl (hb hby own_d14_35) rfl ((if0 _ _).trans (teq (by decide : (0 : Int32) = (0 : Int32))).1) (by decide) (by decide) (XS.aloadN X874.here hx rfl (hb hby own_d14_94) rfl rfl kk_)) ?_
  refine own_gG X874 hx hZ hown (own_w hw 131 rfl) e874 f873_4 rfl rfl (hb hby own_d14_95) (fun {T875} X875 e875 => ?_)
  refine own_st (g' := (mkF m 129 #[rv a, .val (.long bd), .second, iv (bd.toInt32)] [(.int (bd.toInt32)), (.ref a), (.ref a)])) (fun tt_ kk_ => XS.ifnonnullYes X875.here hx rfl (pc0 := 98) (pc' := 126) rfl (hb hby own_d14_98) rfl (by decide) (by decide) (XS.aloadN X875.here hx rfl (hb hby own_d14_126) rfl rfl (XS.aloadN X875.here hx rfl (hb hby own_d14_127) rfl rfl (XS.iloadN X875.here hx rfl (hb hby own_d14_128) rfl kk_)))) ?_
  have F876 := (P_rg.keep K873q (ninS ne_rg_a (ninS ne_rg_tr (ninS ne_rg_it (ninS ne_rg_lt (ninS ne_rg_rt nin0))))))
  obtain ⟨cq877, q877, q877'⟩ := f873_0.cell
  obtain ⟨_, _, ⟨T877, L877, k877, n877⟩, -, X877, ⟨Lc877, hQ877, l877, y877, z877⟩, st877⟩ := X875.privateBack hx (y := (⟨own_z0, own_z20, "(I)I"⟩ : MethodName)) hown (mvT hZ (own_w hw 202 rfl)) (mvT hZ (own_w hw 203 rfl)) (own_sel (mvT hZ (own_w hw 203 rfl)) (mvP hZ (own_w hw 204 rfl)) (mvT hZ (own_w hw 84 rfl)) (by decide)) (Cond.privateMethod_at (mvP hZ (own_w hw 204 rfl) (args := #[]))) (mvT hZ (own_w hw 205 rfl)) (by decide) (backOf (W := 1) (own_rmib12 l Z a0 hw [] a (bd.toInt32) rg b h873 n0 Z873 f873_5 f873_6 f873_4 F876) hZ (own_w hw 205 rfl) (own_w hw 85 rfl) (by decide) (by decide)) (g := (mkF m 129 #[rv a, .val (.long bd), .second, iv (bd.toInt32)] [(.int (bd.toInt32)), (.ref a), (.ref a)])) rfl (by rw [hml]; rfl) (Steps.refl _) (a := a) (by rw [e875]; exact q877) q877' (argsL := [(.int (bd.toInt32))]) (rest := [(.ref a)]) (lenOf own_pd2 rfl) rfl (by show 2 * 0 + _ ≤ _; exact Nat.le_of_eq rfl) (hb hby own_d14_129) (fun _ _ => ⟨rfl, e875, (by decide : 0 + 0 ≤ _), (by decide : 0 + 0 ≤ _)⟩)
  dsimp only [Pt.U, Pt.locs, Pt.cells, Pt.slots] at X877 l877 y877 z877 st877 hQ877
  rw [l877, y877, z877] at X877
  obtain ⟨rfl, N877q, e877⟩ := hQ877
  have N877 := Fr.app N873 N877q
  refine own_st (fun t k => st877.trans k) ?_
  have qs878 : (own_ib12 b (bd.toInt32)) = (2 : Int32) := by rw [own_ib12, if_neg hq0]
  rw [qs878]
  obtain ⟨T879, h879, X879, e879, W879, st879⟩ := putF X877 hx hZ hown (host := "") (Or.inl (own_w hw 135 rfl)) Via.refl e877 f873_6 f873_0 (Or.inl (own_w hw 136 rfl)) (own_w hw 84 rfl) (ty := .int) (by decide) rfl rfl (g := (mkF m 132 #[rv a, .val (.long bd), .second, iv (bd.toInt32)] [(.int (2 : Int32)), (.ref a)])) rfl rfl (hb hby own_d14_132)
  have N879 := Fr.snoc X879 N877 g_a
  have Z879 : n0 ≤ h879.size := Nat.le_trans Z873 (Keep.of_wr W879).1
  have K879 : Keep h0 h879 [a, tr, it, lt, rt] := K873.wr W879 (Or.inl (List.mem_of_getElem? (i := 0) rfl))
  have F879 : Fld Z h879 a own_z0 "last" "I" (.int (2 : Int32)) := f873_6.same W879
  refine own_st st879 ?_
  refine own_st (g' := (mkF m 137 #[rv a, .val (.long bd), .second, iv (bd.toInt32)] [(.ref a), (.ref a)])) (fun tt_ kk_ => XS.aloadN X879.here hx rfl (hb hby own_d14_135) rfl rfl (XS.aloadN X879.here hx rfl (hb hby own_d14_136) rfl rfl kk_)) ?_
  have F881 := (f873_4.other W879 (Or.inr (Ne.symm (own_sn244 hw))))
  refine own_gG X879 hx hZ hown (own_w hw 131 rfl) e879 F881 rfl rfl (hb hby own_d14_137) (fun {T880} X880 e880 => ?_)
  refine own_st (g' := (mkF m 142 #[rv a, .val (.long bd), .second, iv (bd.toInt32)] [(.ref a), (.int (2 : Int32)), (.ref rg), (.ref a)])) (fun tt_ kk_ => XS.iconst X880.here hx rfl (hb hby own_d14_140) (XS.aloadN X880.here hx rfl (hb hby own_d14_141) rfl rfl kk_)) ?_
  refine own_gG X880 hx hZ hown (own_w hw 135 rfl) e880 F879 rfl rfl (hb hby own_d14_142) (fun {T882} X882 e882 => ?_)
  refine own_st (g' := (mkF m 148 #[rv a, .val (.long bd), .second, iv (bd.toInt32)] [(.int (5 : Int32)), (.ref rg), (.ref a)])) (fun tt_ kk_ => XS.imul X882.here hx rfl (hb hby own_d14_145) rfl (XS.iconst X882.here hx rfl (hb hby own_d14_146) (XS.iadd X882.here hx rfl (hb hby own_d14_147) rfl kk_))) ?_
  have F883 := (F876.other W879 ne_rg_a)
  refine own_st (g' := (mkF m 150 #[rv a, .val (.long bd), .second, iv (bd.toInt32)] [(.int (bd.toInt32)), (.int (b + (49 : Int32))), (.ref a)])) (fun tt_ kk_ => own_ldIv (g := (mkF m 148 #[rv a, .val (.long bd), .second, iv (bd.toInt32)] [(.int (5 : Int32)), (.ref rg), (.ref a)])) X882 hx hZ e882 F883 (by decide) (by decide) (own_Rv5 _) rfl rfl (hb hby own_d14_148) tt_ (XS.iloadN X882.here hx rfl (hb hby own_d14_149) rfl kk_)) ?_
  obtain ⟨_, _, ⟨T884, L884, k884, n884⟩, -, X884, ⟨Lc884, hQ884, l884, y884, z884⟩, st884⟩ := Jvm.LawKit.callS X882 hx (y := (⟨"java/lang/Math", "min", "(II)I"⟩ : MethodName)) hown (mvT hZ (own_w hw 206 rfl)) (mvT hZ (own_w hw 207 rfl)) (mvT hZ (own_w hw 208 rfl)) (mvT hZ (own_w hw 209 rfl)) (by decide) (backOf (W := 1) (own_rm21 l Z a0 hw [] (b + (49 : Int32)) (bd.toInt32) h879 n0) hZ (own_w hw 209 rfl) (own_w hw 208 rfl) (by decide) (by decide)) (g := (mkF m 150 #[rv a, .val (.long bd), .second, iv (bd.toInt32)] [(.int (bd.toInt32)), (.int (b + (49 : Int32))), (.ref a)])) rfl (by rw [hml]; rfl) (argsL := [(.int (b + (49 : Int32))), (.int (bd.toInt32))]) (rest := [(.ref a)]) (lenOf own_pd7 rfl) rfl (by show 2 * 0 + _ ≤ _; exact Nat.le_of_eq rfl) (hb hby own_d14_150) (fun _ _ => ⟨rfl, e882, (by decide : 0 + 0 ≤ _), (by decide : 0 + 0 ≤ _)⟩)
  dsimp only [Pt.U, Pt.locs, Pt.cells, Pt.slots] at X884 l884 y884 z884 st884 hQ884
  rw [l884, y884, z884] at X884
  obtain ⟨rfl, N884q, e884⟩ := hQ884
  have N884 := Fr.app N879 N884q
  refine own_st st884 ?_
  have F886 := (f873_2.other W879 (Or.inr (Ne.symm (own_sn189 hw))))
  have F887 := (f873_0.wr W879)
  obtain ⟨T885, h885, X885, e885, W885, st885⟩ := putF X884 hx hZ hown (host := "") (Or.inl (own_w hw 112 rfl)) Via.refl e884 F886 F887 (Or.inl (own_w hw 113 rfl)) (own_w hw 84 rfl) (ty := .int) (by decide) rfl rfl (g := (mkF m 153 #[rv a, .val (.long bd), .second, iv (bd.toInt32)] [(.int (own_f21_0 (b + (49 : Int32)) (bd.toInt32))), (.ref a)])) rfl rfl (hb hby own_d14_153)
  have N885 := Fr.snoc X885 N884 g_a
  have Z885 : n0 ≤ h885.size := Nat.le_trans Z879 (Keep.of_wr W885).1
  have K885 : Keep h0 h885 [a, tr, it, lt, rt] := K879.wr W885 (Or.inl (List.mem_of_getElem? (i := 0) rfl))
  have F885 : Fld Z h885 a own_z0 "max" "I" (.int (own_f21_0 (b + (49 : Int32)) (bd.toInt32))) := F886.same W885
  refine own_st st885 ?_
  refine own_st (g' := (mkF m 157 #[rv a, .val (.long bd), .second, iv (bd.toInt32)] [(.ref a)])) (fun tt_ kk_ => XS.aloadN X885.here hx rfl (hb hby own_d14_156) rfl rfl kk_) ?_
  have F888 := (F887.wr W885)
  have F889 := ((f873_1.other W879 (Or.inr (Ne.symm (own_sn188 hw)))).other W885 (Or.inr (Ne.symm (own_sn113 hw))))
  have F890 := ((f873_3.other W879 (Or.inr (Ne.symm (own_sn192 hw)))).other W885 (Or.inr (own_sn135 hw)))
  have F891 := ((f873_5.other W879 (Or.inr (Ne.symm (own_sn245 hw)))).other W885 (Or.inr (own_sn177 hw)))
  have F892 := (F879.other W885 (Or.inr (own_sn189 hw)))
  have F893 := (F881.other W885 (Or.inr (own_sn165 hw)))
  have F894 := (F883.other W885 ne_rg_a)
  have F895 := ((f873_7.other W879 (Or.inr (Ne.symm (own_sn185 hw)))).other W885 (Or.inr (Ne.symm (own_sn110 hw))))
  have F896 := ((f873_9.other W879 (Or.inr (Ne.symm (own_sn183 hw)))).other W885 (Or.inr (Ne.symm (own_sn108 hw))))
  have F897 := ((f873_10.other W879 (Or.inr (own_sn251 hw))).other W885 (Or.inr (own_sn213 hw)))
  have F898 := ((f873_11.other W879 (Or.inr (own_sn255 hw))).other W885 (Or.inr (own_sn225 hw)))
  have F899 := ((f873_12.other W879 (Or.inr (own_sn259 hw))).other W885 (Or.inr (own_sn237 hw)))
  obtain ⟨cq900, q900, q900'⟩ := F888.cell
  obtain ⟨_, _, ⟨T900, L900, k900, n900⟩, -, X900, ⟨Lc900, hQ900, l900, y900, z900⟩, st900⟩ := X885.privateBack hx (y := (⟨own_z0, "recount", "()V"⟩ : MethodName)) hown (mvT hZ (own_w hw 210 rfl)) (mvT hZ (own_w hw 211 rfl)) (own_sel (mvT hZ (own_w hw 211 rfl)) (mvP hZ (own_w hw 212 rfl)) (mvT hZ (own_w hw 84 rfl)) (by decide)) (Cond.privateMethod_at (mvP hZ (own_w hw 212 rfl) (args := #[]))) (mvT hZ (own_w hw 213 rfl)) (by decide) (backOf (W := 0) (own_rmrec12 l Z a0 hw [] a mn (own_f21_0 (b + (49 : Int32)) (bd.toInt32)) sz rg b mo wa h885 n0 Z885 F888 F889 F885 F890 F891 F892 F893 F894 F895 F896 F897 F898 F899 (Ne.symm ne_rg_a) g_a) hZ (own_w hw 213 rfl) (own_w hw 85 rfl) (by decide) (by decide)) (g := (mkF m 157 #[rv a, .val (.long bd), .second, iv (bd.toInt32)] [(.ref a)])) rfl (by rw [hml]; rfl) (Steps.refl _) (a := a) (by rw [e885]; exact q900) q900' (argsL := []) (rest := []) (lenOf own_pd0 rfl) rfl (by show 2 * 0 + _ ≤ _; exact Nat.le_of_eq rfl) (hb hby own_d14_157) (fun _ _ => ⟨rfl, e885, (by decide : 0 + 0 ≤ _), (by decide : 0 + 0 ≤ _)⟩)
  dsimp only [Pt.U, Pt.locs, Pt.cells, Pt.slots] at X900 l900 y900 z900 st900 hQ900
  rw [l900, y900, z900] at X900
  obtain ⟨rfl, N900q, K900q, f900_0, f900_1, f900_2, f900_3, f900_4, f900_5, f900_6⟩ := hQ900
  obtain ⟨h900, e900⟩ : ∃ z, T900.heap = z := ⟨_, rfl⟩
  rw [e900] at K900q f900_0 f900_1 f900_2 f900_3 f900_4 f900_5 f900_6
  have Z900 : n0 ≤ h900.size := Nat.le_trans Z885 K900q.1
  have K900 : Keep h0 h900 [a, tr, it, lt, rt] := K885.trans K900q (allS (P := fun x => x ∈ [a, tr, it, lt, rt] ∨ h0.size ≤ x) (Or.inl (List.mem_of_getElem? (i := 0) rfl)) all0)
  have N900 := Fr.app N885 N900q
  refine own_st (fun t k => st900.trans k) ?_
  refine own_st (g' := (mkF m 162 #[rv a, .val (.long bd), .second, iv (bd.toInt32)] [(.ref a), (.ref a)])) (fun tt_ kk_ => XS.aloadN X900.here hx rfl (hb hby own_d14_160) rfl rfl (XS.aloadN X900.here hx rfl (hb hby own_d14_161) rfl rfl kk_)) ?_
  refine own_gG X900 hx hZ hown (own_w hw 118 rfl) e900 f900_1 rfl rfl (hb hby own_d14_162) (fun {T901} X901 e901 => ?_)
  refine own_st (g' := (mkF m 167 #[rv a, .val (.long bd), .second, iv (bd.toInt32)] [(.int (lcmpW (((((((b + (29 : Int32)).toInt64) - (mn.toInt64)) + (1 : Int64)) + ((own_f21_0 (b + (49 : Int32)) (bd.toInt32)).toInt64)) - ((b + (40 : Int32)).toInt64)) + (1 : Int64)) (1 : Int64))), (.ref a)])) (fun tt_ kk_ => XS.lconst X901.here hx rfl (hb hby own_d14_165) (XS.lcmp X901.here hx rfl (hb hby own_d14_166) rfl kk_)) ?_
  refine own_st (g' := (mkF m 176 #[rv a, .val (.long bd), .second, iv (bd.toInt32)] [(.ref a)])) (fun tt_ kk_ => XS.ifYes X901.here hx rfl (pc0 := 167) (pc' := 176) rfl (hb hby own_d14_167) rfl ((if0 _ _).trans (feq h9).2) (by decide) (by decide) kk_) ?_
  have F903 := (own_Sta_keep (((own_Sta_keepN S_b K873q (allS (own_plE E_a) (allS (own_plE E_tr) (allS (own_plI P_it) (allS (own_plJ P_lt) (allS (own_plR P_rt) all0)))))).wr W879).wr W885) F888 K900q)
  obtain ⟨T902, X902, e902, st902⟩ := getS2 X901 hx hZ hown (host := "") (Or.inl (own_w hw 214 rfl)) Via.refl e901 F903 (g := (mkF m 176 #[rv a, .val (.long bd), .second, iv (bd.toInt32)] [(.ref a)])) rfl (hb hby own_d14_176)
  refine own_st st902 ?_
  have F904 := ((((E_mo.keep K873q).wr W879).wr W885).keep K900q)
  have F905 := (own_Sta_keep (((own_Sta_keepN S_f K873q (allS (own_plE E_a) (allS (own_plE E_tr) (allS (own_plI P_it) (allS (own_plJ P_lt) (allS (own_plR P_rt) all0)))))).wr W879).wr W885) F888 K900q)
  obtain ⟨cq906, q906, q906'⟩ := f900_0.cell
  obtain ⟨_, _, ⟨T906, L906, k906, n906⟩, -, X906, ⟨Lc906, hQ906, l906, y906, z906⟩, st906⟩ := X902.privateBack hx (y := (⟨own_z0, "wake", own_z11⟩ : MethodName)) hown (mvT hZ (own_w hw 217 rfl)) (mvT hZ (own_w hw 218 rfl)) (own_sel (mvT hZ (own_w hw 218 rfl)) (mvP hZ (own_w hw 219 rfl)) (mvT hZ (own_w hw 84 rfl)) (by decide)) (Cond.privateMethod_at (mvP hZ (own_w hw 219 rfl) (args := #[]))) (mvT hZ (own_w hw 220 rfl)) (by decide) (backOf (W := 0) (own_rmwak l Z a0 hw [] a eb ef mo wa h900 n0 Z900 F904 f900_2 f900_3 f900_4 f900_5 f900_6 F905 F903) hZ (own_w hw 220 rfl) (own_w hw 85 rfl) (by decide) (by decide)) (g := (mkF m 179 #[rv a, .val (.long bd), .second, iv (bd.toInt32)] [(.ref eb), (.ref a)])) rfl (by rw [hml]; rfl) (Steps.refl _) (a := a) (by rw [e902]; exact q906) q906' (argsL := [(.ref eb)]) (rest := []) (lenOf own_pd8 rfl) rfl (by show 2 * 0 + _ ≤ _; exact Nat.le_of_eq rfl) (hb hby own_d14_179) (fun _ _ => ⟨rfl, e902, (by decide : 0 + 0 ≤ _), (by decide : 0 + 0 ≤ _)⟩)
  dsimp only [Pt.U, Pt.locs, Pt.cells, Pt.slots] at X906 l906 y906 z906 st906 hQ906
  rw [l906, y906, z906] at X906
  obtain ⟨rfl, N906q, e906⟩ := hQ906
  have N906 := Fr.app N900 N906q
  refine own_st (fun t k => st906.trans k) ?_
  refine own_st (g' := (mkF m 183 #[rv a, .val (.long bd), .second, iv (bd.toInt32)] [(.int (1 : Int32))])) (fun tt_ kk_ => XS.iconst X906.here hx rfl (hb hby own_d14_182) kk_) ?_
  exact own_retN X906 hx hlk (t := .boolean) (Or.inl rfl) hret (hb hby own_d14_183) (by decide) (by decide) (by rw [e906]; exact ⟨rfl, N906, K900, f900_0, f900_1⟩)
def own_Qrab121 (Z : State) (a : Addr) (bd : Int64) (mn : Int32) (mx : Int32) (sz : Int64) (bi : Int64) (rg : Addr) (st : Int32) (mo : Addr) (ix : Int32) (wa : Addr) (tr : Addr) (it : Addr) (lt : Addr) (rt : Addr) (b : Int32) (ef : Addr) (eb : Addr) (h0 : Heap) (n0 : Nat) (v : Option Value) (h : Heap) (L : List Loc) : Prop := v = some (.int (1 : Int32)) ∧ Fr n0 L ∧ Keep h0 h [a, tr, it, lt, rt] ∧ Exa Z h a own_z0 ∧ Fld Z h a own_z0 "size" "J" (.long ((((own_f21_0 (b + (29 : Int32)) (bd.toInt32)).toInt64) - (mn.toInt64)) + (1 : Int64)))
theorem own_efrab121 (m : MethodId) (a : Addr) (bd : Int64) : entryFrame m #[(.ref a), (.long bd)] 4 = mkF m 0 #[rv a, .val (.long bd), .second, .unset] [] := by first | (simp [entryFrame, mkF, argsToLocals, Value.category]; done) | rfl
set_option maxRecDepth 65536 in
set_option maxHeartbeats 16000000 in
theorem own_rmrab121 (l : Launch) (Z : State) (a0 : Array Value) (hw : own_HW Z a0) (ws : List Jvm.Cond) (a : Addr) (bd : Int64) (mn : Int32) (mx : Int32) (sz : Int64) (bi : Int64) (rg : Addr) (st : Int32) (mo : Addr) (ix : Int32) (wa : Addr) (tr : Addr) (it : Addr) (lt : Addr) (rt : Addr) (b : Int32) (ef : Addr) (eb : Addr) (h0 : Heap) (n0 : Nat) (Z0 : n0 ≤ h0.size) (E_a : Exa Z h0 a own_z0) (F_min_a : Fld Z h0 a own_z0 "min" "I" (.int mn)) (F_max_a : Fld Z h0 a own_z0 "max" "I" (.int mx)) (F_size_a : Fld Z h0 a own_z0 "size" "J" (.long sz)) (F_bits_a : Fld Z h0 a own_z0 "bits" "J" (.long bi)) (F_ranges_a : Fld Z h0 a own_z0 "ranges" "[I" (.ref rg)) (F_stamp_a : Fld Z h0 a own_z0 "stamp" "I" (.int st)) (F_first_a : Fld Z h0 a own_z0 "first" "I" (.int (1 : Int32))) (F_last_a : Fld Z h0 a own_z0 "last" "I" (.int (2 : Int32))) (F_model_a : Fld Z h0 a own_z0 "model" own_z4 (.ref mo)) (F_index_a : Fld Z h0 a own_z0 "index" "I" (.int ix)) (F_watchers_a : Fld Z h0 a own_z0 "watchers" own_z3 (.ref wa)) (F_watcherCount_a : Fld Z h0 a own_z0 own_z9 "I" (.int (0 : Int32))) (F_boundsFrom_a : Fld Z h0 a own_z0 "boundsFrom" "I" (.int (0 : Int32))) (F_toldFrom_a : Fld Z h0 a own_z0 "toldFrom" "I" (.int (0 : Int32))) (F_small_a : Fld Z h0 a own_z0 "small" "Z" (.int (0 : Int32))) (E_rg : Exa Z h0 rg "[I") (P_rg : own_AI Z h0 rg 6 (own_R b)) (E_mo : Exa Z h0 mo own_z2) (F_trail_mo : Fld Z h0 mo own_z2 "trail" own_z7 (.ref tr)) (E_tr : Exa Z h0 tr own_z1) (F_depth_tr : Fld Z h0 tr own_z1 "depth" "I" (.int (0 : Int32))) (F_entries_tr : Fld Z h0 tr own_z1 "entries" "I" (.int (0 : Int32))) (F_ints_tr : Fld Z h0 tr own_z1 "ints" "[I" (.ref it)) (F_longs_tr : Fld Z h0 tr own_z1 "longs" "[J" (.ref lt)) (F_ranges_tr : Fld Z h0 tr own_z1 "ranges" "[[I" (.ref rt)) (P_it : own_AI Z h0 it 384 (fun _ => 0)) (P_lt : own_AJ Z h0 lt 128 (fun _ => 0)) (P_rt : own_AR Z h0 rt 64) (S_f : Sta Z h0 own_z6 "FIX" own_z5 (.ref ef)) (S_b : Sta Z h0 own_z6 "BOUNDS" own_z5 (.ref eb)) (h1 : (lcmpW bd (mx.toInt64)) < (0 : Int32)) (h2 : ¬ ((lcmpW bd (mn.toInt64)) < (0 : Int32))) (hq0 : (bd.toInt32) < (b + (40 : Int32))) (ne_a_tr : a ≠ tr) (ne_a_it : a ≠ it) (ne_a_lt : a ≠ lt) (ne_a_rt : a ≠ rt) (ne_tr_it : tr ≠ it) (ne_tr_lt : tr ≠ lt) (ne_tr_rt : tr ≠ rt) (ne_it_lt : it ≠ lt) (ne_it_rt : it ≠ rt) (ne_lt_rt : lt ≠ rt) (ne_mo_a : mo ≠ a) (ne_mo_tr : mo ≠ tr) (ne_mo_it : mo ≠ it) (ne_mo_lt : mo ≠ lt) (ne_mo_rt : mo ≠ rt) (ne_rg_a : rg ≠ a) (ne_rg_tr : rg ≠ tr) (ne_rg_it : rg ≠ it) (ne_rg_lt : rg ≠ lt) (ne_rg_rt : rg ≠ rt) (g_a : n0 ≤ a) (g_tr : n0 ≤ tr) (g_it : n0 ≤ it) (g_lt : n0 ≤ lt) (g_rt : n0 ≤ rt) :
    MetFree l (⟨own_z0, own_z18, "(J)Z"⟩ : MethodName) (head1 (Jvm.Cond.code (⟨own_z0, own_z18, "(J)Z"⟩ : MethodName) prog_37_method_31_code 4 (some .boolean) :: ws) ({ frames := 3, cells := 0, slots := 0, locals := 51 } : Room)) (fun aa UU => aa = #[(.ref a), (.long bd)] ∧ Z.Warmed39 UU.vm ∧ UU.heap = h0) (fun _ _ _ _ _ => True) (fun _ U o U' => ∃ v L, o = .returned v ∧ own_Qrab121 Z a bd mn mx sz bi rg st mo ix wa tr it lt rt b ef eb h0 n0 v U'.heap L ∧ FrameEnd U o U' L ({ frames := 3, cells := 0, slots := 0, locals := 51 } : Room).cells ({ frames := 3, cells := 0, slots := 0, locals := 51 } : Room).slots) := by
  refine MetFree.of_bodySF (plainFor_of_name own_pn5) hisR ?_
  intro p e s m args below meth c s₁ Bd hml hP hK
  obtain ⟨rfl, hZ, hh⟩ := hP
  have hx := Bd.exec
  have hlk := Bd.notSynchronized
  have hby := Bd.bytes
  have hret := Bd.returns
  have hown := findClass_of_methodNamed Bd.named
  have hnm := (name_of_methodNamed Bd.named Bd.method).1
  have X0 : Stand p l e ({ frames := 3, cells := 0, slots := 0, locals := 51 } : Room) s m #[(.ref a), (.long bd)] below meth c s₁ [] 0 0 := Stand.of_body Bd
  have e0 : s₁.heap = h0 := by rw [← hh, Bd.state]; rfl
  have N0 := Fr.nil n0
  refine own_cast (own_efrab121 m a bd) ?_
  show own_Go p e below s s₁ _ (own_Qrab121 Z a bd mn mx sz bi rg st mo ix wa tr it lt rt b ef eb h0 n0) 0 0
  have K0 : Keep h0 h0 [a, tr, it, lt, rt] := Keep.refl _ _
  refine own_st (g' := (mkF m 2 #[rv a, .val (.long bd), .second, .unset] [(.ref a), (.long bd)])) (fun tt_ kk_ => XS.lloadN X0.here hx rfl (hb hby own_d14_0) rfl (XS.aloadN X0.here hx rfl (hb hby own_d14_1) rfl rfl kk_)) ?_
  refine own_gG X0 hx hZ hown (own_w hw 112 rfl) e0 F_max_a rfl rfl (hb hby own_d14_2) (fun {T907} X907 e907 => ?_)
  refine own_st (g' := (mkF m 7 #[rv a, .val (.long bd), .second, .unset] [(.int (lcmpW bd (mx.toInt64)))])) (fun tt_ kk_ => XS.i2l X907.here hx rfl (hb hby own_d14_5) rfl (XS.lcmp X907.here hx rfl (hb hby own_d14_6) rfl kk_)) ?_
  refine own_st (g' := (mkF m 14 #[rv a, .val (.long bd), .second, .unset] [(.ref a), (.long bd)])) (fun tt_ kk_ => XS.ifYes X907.here hx rfl (pc0 := 7) (pc' := 12) rfl (hb hby own_d14_7) rfl ((if0 _ _).trans (tlt h1).1) (by decide) (by decide) (XS.lloadN X907.here hx rfl (hb hby own_d14_12) rfl (XS.aloadN X907.here hx rfl (hb hby own_d14_13) rfl rfl kk_))) ?_
  refine own_gG X907 hx hZ hown (own_w hw 110 rfl) e907 F_min_a rfl rfl (hb hby own_d14_14) (fun {T908} X908 e908 => ?_)
  refine own_st (g' := (mkF m 19 #[rv a, .val (.long bd), .second, .unset] [(.int (lcmpW bd (mn.toInt64)))])) (fun tt_ kk_ => XS.i2l X908.here hx rfl (hb hby own_d14_17) rfl (XS.lcmp X908.here hx rfl (hb hby own_d14_18) rfl kk_)) ?_
  refine own_st (g' := (mkF m 28 #[rv a, .val (.long bd), .second, iv (bd.toInt32)] [(.ref a)])) (fun tt_ kk_ => XS.ifYes X908.here hx rfl (pc0 := 19) (pc' := 24) rfl (hb hby own_d14_19) rfl ((if0 _ _).trans (flt h2).2.1) (by decide) (by decide) (XS.lloadN X908.here hx rfl (hb hby own_d14_24) rfl (XS.l2i X908.here hx rfl (hb hby own_d14_25) rfl (XS.istoreN X908.here hx rfl (hb hby own_d14_26) rfl (l' := #[rv a, .val (.long bd), .second, iv (bd.toInt32)]) rfl (XS.aloadN X908.here hx rfl (hb hby own_d14_27) rfl rfl kk_))))) ?_
  obtain ⟨cq909, q909, q909'⟩ := E_a.cell
  obtain ⟨_, _, ⟨T909, L909, k909, n909⟩, -, X909, ⟨Lc909, hQ909, l909, y909, z909⟩, st909⟩ := X908.privateBack hx (y := (⟨own_z0, "save", "()V"⟩ : MethodName)) hown (mvT hZ (own_w hw 172 rfl)) (mvT hZ (own_w hw 173 rfl)) (own_sel (mvT hZ (own_w hw 173 rfl)) (mvP hZ (own_w hw 174 rfl)) (mvT hZ (own_w hw 84 rfl)) (by decide)) (Cond.privateMethod_at (mvP hZ (own_w hw 174 rfl) (args := #[]))) (mvT hZ (own_w hw 175 rfl)) (by decide) (backOf (W := 0) (own_rmsav l Z a0 hw [] a mn mx sz bi rg (1 : Int32) (2 : Int32) st mo (0 : Int32) ix wa tr it lt rt h0 n0 Z0 E_a F_min_a F_max_a F_size_a F_bits_a F_ranges_a F_first_a F_last_a F_stamp_a F_model_a F_small_a F_index_a F_watchers_a F_watcherCount_a F_boundsFrom_a F_toldFrom_a E_rg E_mo F_trail_mo E_tr F_depth_tr F_entries_tr F_ints_tr F_longs_tr F_ranges_tr P_it P_lt P_rt ne_a_tr ne_a_it ne_a_lt ne_a_rt ne_tr_it ne_tr_lt ne_tr_rt ne_it_lt ne_it_rt ne_lt_rt ne_mo_a ne_mo_tr ne_mo_it ne_mo_lt ne_mo_rt ne_rg_a ne_rg_tr ne_rg_it ne_rg_lt ne_rg_rt g_a g_tr g_it g_lt g_rt) hZ (own_w hw 175 rfl) (own_w hw 85 rfl) (by decide) (by decide)) (g := (mkF m 28 #[rv a, .val (.long bd), .second, iv (bd.toInt32)] [(.ref a)])) rfl (by rw [hml]; rfl) (Steps.refl _) (a := a) (by rw [e908]; exact q909) q909' (argsL := []) (rest := []) (lenOf own_pd0 rfl) rfl (by show 2 * 0 + _ ≤ _; exact Nat.le_of_eq rfl) (hb hby own_d14_28) (fun _ _ => ⟨rfl, e908, (by decide : 0 + 0 ≤ _), (by decide : 0 + 0 ≤ _)⟩)
  dsimp only [Pt.U, Pt.locs, Pt.cells, Pt.slots] at X909 l909 y909 z909 st909 hQ909
  rw [l909, y909, z909] at X909
  obtain ⟨rfl, N909q, K909q, f909_0, f909_1, f909_2, f909_3, f909_4, f909_5, f909_6, f909_7, f909_8, f909_9, f909_10, f909_11, f909_12⟩ := hQ909
  obtain ⟨h909, e909⟩ : ∃ z, T909.heap = z := ⟨_, rfl⟩
  rw [e909] at K909q f909_0 f909_1 f909_2 f909_3 f909_4 f909_5 f909_6 f909_7 f909_8 f909_9 f909_10 f909_11 f909_12
  have Z909 : n0 ≤ h909.size := Nat.le_trans Z0 K909q.1
  have K909 : Keep h0 h909 [a, tr, it, lt, rt] := K0.trans K909q (allS (P := fun x => x ∈ [a, tr, it, lt, rt] ∨ h0.size ≤ x) (Or.inl (List.mem_of_getElem? (i := 0) rfl)) (allS (P := fun x => x ∈ [a, tr, it, lt, rt] ∨ h0.size ≤ x) (Or.inl (List.mem_of_getElem? (i := 1) rfl)) (allS (P := fun x => x ∈ [a, tr, it, lt, rt] ∨ h0.size ≤ x) (Or.inl (List.mem_of_getElem? (i := 2) rfl)) (allS (P := fun x => x ∈ [a, tr, it, lt, rt] ∨ h0.size ≤ x) (Or.inl (List.mem_of_getElem? (i := 3) rfl)) (allS (P := fun x => x ∈ [a, tr, it, lt, rt] ∨ h0.size ≤ x) (Or.inl (List.mem_of_getElem? (i := 4) rfl)) all0)))))
  have N909 := Fr.app N0 N909q
  refine own_st (fun t k => st909.trans k) ?_
  refine own_st (g' := (mkF m 32 #[rv a, .val (.long bd), .second, iv (bd.toInt32)] [(.ref a)])) (fun tt_ kk_ => XS.aloadN X909.here hx rfl (hb hby own_d14_31) rfl rfl kk_) ?_
  refine own_gG X909 hx hZ hown (own_w hw 121 rfl) e909 f909_8 rfl rfl (hb hby own_d14_32) (fun {T910} X910 e910 => ?_)
  refine own_st (g' := (mkF m 95 #[rv a, .val (.long bd), .second, iv (bd.toInt32)] [(.ref a)])) (fun tt_ kk_ => XS.ifYes X910.here hx rfl (pc0 := 35) (pc' := 94) rfl (hb hby own_d14_35) rfl ((if0 _ _).trans (teq (by decide : (0 : Int32) = (0 : Int32))).1) (by decide) (by decide) (XS.aloadN X910.here hx rfl (hb hby own_d14_94) rfl rfl kk_)) ?_
  refine own_gG X910 hx hZ hown (own_w hw 131 rfl) e910 f909_4 rfl rfl (hb hby own_d14_95) (fun {T911} X911 e911 => ?_)
  refine own_st (g' := (mkF m 129 #[rv a, .val (.long bd), .second, iv (bd.toInt32)] [(.int (bd.toInt32)), (.ref a), (.ref a)])) (fun tt_ kk_ => XS.ifnonnullYes X911.here hx rfl (pc0 := 98) (pc' := 126) rfl (hb hby own_d14_98) rfl (by decide) (by decide) (XS.aloadN X911.here hx rfl (hb hby own_d14_126) rfl rfl (XS.aloadN X911.here hx rfl (hb hby own_d14_127) rfl rfl (XS.iloadN X911.here hx rfl (hb hby own_d14_128) rfl kk_)))) ?_
  have F912 := (P_rg.keep K909q (ninS ne_rg_a (ninS ne_rg_tr (ninS ne_rg_it (ninS ne_rg_lt (ninS ne_rg_rt nin0))))))
  obtain ⟨cq913, q913, q913'⟩ := f909_0.cell
  obtain ⟨_, _, ⟨T913, L913, k913, n913⟩, -, X913, ⟨Lc913, hQ913, l913, y913, z913⟩, st913⟩ := X911.privateBack hx (y := (⟨own_z0, own_z20, "(I)I"⟩ : MethodName)) hown (mvT hZ (own_w hw 202 rfl)) (mvT hZ (own_w hw 203 rfl)) (own_sel (mvT hZ (own_w hw 203 rfl)) (mvP hZ (own_w hw 204 rfl)) (mvT hZ (own_w hw 84 rfl)) (by decide)) (Cond.privateMethod_at (mvP hZ (own_w hw 204 rfl) (args := #[]))) (mvT hZ (own_w hw 205 rfl)) (by decide) (backOf (W := 1) (own_rmib12 l Z a0 hw [] a (bd.toInt32) rg b h909 n0 Z909 f909_5 f909_6 f909_4 F912) hZ (own_w hw 205 rfl) (own_w hw 85 rfl) (by decide) (by decide)) (g := (mkF m 129 #[rv a, .val (.long bd), .second, iv (bd.toInt32)] [(.int (bd.toInt32)), (.ref a), (.ref a)])) rfl (by rw [hml]; rfl) (Steps.refl _) (a := a) (by rw [e911]; exact q913) q913' (argsL := [(.int (bd.toInt32))]) (rest := [(.ref a)]) (lenOf own_pd2 rfl) rfl (by show 2 * 0 + _ ≤ _; exact Nat.le_of_eq rfl) (hb hby own_d14_129) (fun _ _ => ⟨rfl, e911, (by decide : 0 + 0 ≤ _), (by decide : 0 + 0 ≤ _)⟩)
  dsimp only [Pt.U, Pt.locs, Pt.cells, Pt.slots] at X913 l913 y913 z913 st913 hQ913
  rw [l913, y913, z913] at X913
  obtain ⟨rfl, N913q, e913⟩ := hQ913
  have N913 := Fr.app N909 N913q
  refine own_st (fun t k => st913.trans k) ?_
  have qs914 : (own_ib12 b (bd.toInt32)) = (1 : Int32) := by rw [own_ib12, if_pos hq0]
  rw [qs914]
  obtain ⟨T915, h915, X915, e915, W915, st915⟩ := putF X913 hx hZ hown (host := "") (Or.inl (own_w hw 135 rfl)) Via.refl e913 f909_6 f909_0 (Or.inl (own_w hw 136 rfl)) (own_w hw 84 rfl) (ty := .int) (by decide) rfl rfl (g := (mkF m 132 #[rv a, .val (.long bd), .second, iv (bd.toInt32)] [(.int (1 : Int32)), (.ref a)])) rfl rfl (hb hby own_d14_132)
  have N915 := Fr.snoc X915 N913 g_a
  have Z915 : n0 ≤ h915.size := Nat.le_trans Z909 (Keep.of_wr W915).1
  have K915 : Keep h0 h915 [a, tr, it, lt, rt] := K909.wr W915 (Or.inl (List.mem_of_getElem? (i := 0) rfl))
  have F915 : Fld Z h915 a own_z0 "last" "I" (.int (1 : Int32)) := f909_6.same W915
  refine own_st st915 ?_
  refine own_st (g' := (mkF m 137 #[rv a, .val (.long bd), .second, iv (bd.toInt32)] [(.ref a), (.ref a)])) (fun tt_ kk_ => XS.aloadN X915.here hx rfl (hb hby own_d14_135) rfl rfl (XS.aloadN X915.here hx rfl (hb hby own_d14_136) rfl rfl kk_)) ?_
  have F917 := (f909_4.other W915 (Or.inr (Ne.symm (own_sn244 hw))))
  refine own_gG X915 hx hZ hown (own_w hw 131 rfl) e915 F917 rfl rfl (hb hby own_d14_137) (fun {T916} X916 e916 => ?_)
  refine own_st (g' := (mkF m 142 #[rv a, .val (.long bd), .second, iv (bd.toInt32)] [(.ref a), (.int (2 : Int32)), (.ref rg), (.ref a)])) (fun tt_ kk_ => XS.iconst X916.here hx rfl (hb hby own_d14_140) (XS.aloadN X916.here hx rfl (hb hby own_d14_141) rfl rfl kk_)) ?_
  refine own_gG X916 hx hZ hown (own_w hw 135 rfl) e916 F915 rfl rfl (hb hby own_d14_142) (fun {T918} X918 e918 => ?_)
  refine own_st (g' := (mkF m 148 #[rv a, .val (.long bd), .second, iv (bd.toInt32)] [(.int (3 : Int32)), (.ref rg), (.ref a)])) (fun tt_ kk_ => XS.imul X918.here hx rfl (hb hby own_d14_145) rfl (XS.iconst X918.here hx rfl (hb hby own_d14_146) (XS.iadd X918.here hx rfl (hb hby own_d14_147) rfl kk_))) ?_
  have F919 := (F912.other W915 ne_rg_a)
  refine own_st (g' := (mkF m 150 #[rv a, .val (.long bd), .second, iv (bd.toInt32)] [(.int (bd.toInt32)), (.int (b + (29 : Int32))), (.ref a)])) (fun tt_ kk_ => own_ldIv (g := (mkF m 148 #[rv a, .val (.long bd), .second, iv (bd.toInt32)] [(.int (3 : Int32)), (.ref rg), (.ref a)])) X918 hx hZ e918 F919 (by decide) (by decide) (own_Rv3 _) rfl rfl (hb hby own_d14_148) tt_ (XS.iloadN X918.here hx rfl (hb hby own_d14_149) rfl kk_)) ?_
  obtain ⟨_, _, ⟨T920, L920, k920, n920⟩, -, X920, ⟨Lc920, hQ920, l920, y920, z920⟩, st920⟩ := Jvm.LawKit.callS X918 hx (y := (⟨"java/lang/Math", "min", "(II)I"⟩ : MethodName)) hown (mvT hZ (own_w hw 206 rfl)) (mvT hZ (own_w hw 207 rfl)) (mvT hZ (own_w hw 208 rfl)) (mvT hZ (own_w hw 209 rfl)) (by decide) (backOf (W := 1) (own_rm21 l Z a0 hw [] (b + (29 : Int32)) (bd.toInt32) h915 n0) hZ (own_w hw 209 rfl) (own_w hw 208 rfl) (by decide) (by decide)) (g := (mkF m 150 #[rv a, .val (.long bd), .second, iv (bd.toInt32)] [(.int (bd.toInt32)), (.int (b + (29 : Int32))), (.ref a)])) rfl (by rw [hml]; rfl) (argsL := [(.int (b + (29 : Int32))), (.int (bd.toInt32))]) (rest := [(.ref a)]) (lenOf own_pd7 rfl) rfl (by show 2 * 0 + _ ≤ _; exact Nat.le_of_eq rfl) (hb hby own_d14_150) (fun _ _ => ⟨rfl, e918, (by decide : 0 + 0 ≤ _), (by decide : 0 + 0 ≤ _)⟩)
  dsimp only [Pt.U, Pt.locs, Pt.cells, Pt.slots] at X920 l920 y920 z920 st920 hQ920
  rw [l920, y920, z920] at X920
  obtain ⟨rfl, N920q, e920⟩ := hQ920
  have N920 := Fr.app N915 N920q
  refine own_st st920 ?_
  have F922 := (f909_2.other W915 (Or.inr (Ne.symm (own_sn189 hw))))
  have F923 := (f909_0.wr W915)
  obtain ⟨T921, h921, X921, e921, W921, st921⟩ := putF X920 hx hZ hown (host := "") (Or.inl (own_w hw 112 rfl)) Via.refl e920 F922 F923 (Or.inl (own_w hw 113 rfl)) (own_w hw 84 rfl) (ty := .int) (by decide) rfl rfl (g := (mkF m 153 #[rv a, .val (.long bd), .second, iv (bd.toInt32)] [(.int (own_f21_0 (b + (29 : Int32)) (bd.toInt32))), (.ref a)])) rfl rfl (hb hby own_d14_153)
  have N921 := Fr.snoc X921 N920 g_a
  have Z921 : n0 ≤ h921.size := Nat.le_trans Z915 (Keep.of_wr W921).1
  have K921 : Keep h0 h921 [a, tr, it, lt, rt] := K915.wr W921 (Or.inl (List.mem_of_getElem? (i := 0) rfl))
  have F921 : Fld Z h921 a own_z0 "max" "I" (.int (own_f21_0 (b + (29 : Int32)) (bd.toInt32))) := F922.same W921
  refine own_st st921 ?_
  refine own_st (g' := (mkF m 157 #[rv a, .val (.long bd), .second, iv (bd.toInt32)] [(.ref a)])) (fun tt_ kk_ => XS.aloadN X921.here hx rfl (hb hby own_d14_156) rfl rfl kk_) ?_
  have F924 := (F923.wr W921)
  have F925 := ((f909_1.other W915 (Or.inr (Ne.symm (own_sn188 hw)))).other W921 (Or.inr (Ne.symm (own_sn113 hw))))
  have F926 := ((f909_3.other W915 (Or.inr (Ne.symm (own_sn192 hw)))).other W921 (Or.inr (own_sn135 hw)))
  have F927 := ((f909_5.other W915 (Or.inr (Ne.symm (own_sn245 hw)))).other W921 (Or.inr (own_sn177 hw)))
  have F928 := (F915.other W921 (Or.inr (own_sn189 hw)))
  have F929 := (F917.other W921 (Or.inr (own_sn165 hw)))
  have F930 := (F919.other W921 ne_rg_a)
  have F931 := ((f909_7.other W915 (Or.inr (Ne.symm (own_sn185 hw)))).other W921 (Or.inr (Ne.symm (own_sn110 hw))))
  have F932 := ((f909_9.other W915 (Or.inr (Ne.symm (own_sn183 hw)))).other W921 (Or.inr (Ne.symm (own_sn108 hw))))
  have F933 := ((f909_10.other W915 (Or.inr (own_sn251 hw))).other W921 (Or.inr (own_sn213 hw)))
  have F934 := ((f909_11.other W915 (Or.inr (own_sn255 hw))).other W921 (Or.inr (own_sn225 hw)))
  have F935 := ((f909_12.other W915 (Or.inr (own_sn259 hw))).other W921 (Or.inr (own_sn237 hw)))
  obtain ⟨cq936, q936, q936'⟩ := F924.cell
  obtain ⟨_, _, ⟨T936, L936, k936, n936⟩, -, X936, ⟨Lc936, hQ936, l936, y936, z936⟩, st936⟩ := X921.privateBack hx (y := (⟨own_z0, "recount", "()V"⟩ : MethodName)) hown (mvT hZ (own_w hw 210 rfl)) (mvT hZ (own_w hw 211 rfl)) (own_sel (mvT hZ (own_w hw 211 rfl)) (mvP hZ (own_w hw 212 rfl)) (mvT hZ (own_w hw 84 rfl)) (by decide)) (Cond.privateMethod_at (mvP hZ (own_w hw 212 rfl) (args := #[]))) (mvT hZ (own_w hw 213 rfl)) (by decide) (backOf (W := 0) (own_rmrec11 l Z a0 hw [] a mn (own_f21_0 (b + (29 : Int32)) (bd.toInt32)) sz rg b mo wa h921 n0 Z921 F924 F925 F921 F926 F927 F928 F929 F930 F931 F932 F933 F934 F935 (Ne.symm ne_rg_a) g_a) hZ (own_w hw 213 rfl) (own_w hw 85 rfl) (by decide) (by decide)) (g := (mkF m 157 #[rv a, .val (.long bd), .second, iv (bd.toInt32)] [(.ref a)])) rfl (by rw [hml]; rfl) (Steps.refl _) (a := a) (by rw [e921]; exact q936) q936' (argsL := []) (rest := []) (lenOf own_pd0 rfl) rfl (by show 2 * 0 + _ ≤ _; exact Nat.le_of_eq rfl) (hb hby own_d14_157) (fun _ _ => ⟨rfl, e921, (by decide : 0 + 0 ≤ _), (by decide : 0 + 0 ≤ _)⟩)
  dsimp only [Pt.U, Pt.locs, Pt.cells, Pt.slots] at X936 l936 y936 z936 st936 hQ936
  rw [l936, y936, z936] at X936
  obtain ⟨rfl, N936q, K936q, f936_0, f936_1, f936_2, f936_3, f936_4, f936_5, f936_6⟩ := hQ936
  obtain ⟨h936, e936⟩ : ∃ z, T936.heap = z := ⟨_, rfl⟩
  rw [e936] at K936q f936_0 f936_1 f936_2 f936_3 f936_4 f936_5 f936_6
  have Z936 : n0 ≤ h936.size := Nat.le_trans Z921 K936q.1
  have K936 : Keep h0 h936 [a, tr, it, lt, rt] := K921.trans K936q (allS (P := fun x => x ∈ [a, tr, it, lt, rt] ∨ h0.size ≤ x) (Or.inl (List.mem_of_getElem? (i := 0) rfl)) all0)
  have N936 := Fr.app N921 N936q
  refine own_st (fun t k => st936.trans k) ?_
  refine own_st (g' := (mkF m 162 #[rv a, .val (.long bd), .second, iv (bd.toInt32)] [(.ref a), (.ref a)])) (fun tt_ kk_ => XS.aloadN X936.here hx rfl (hb hby own_d14_160) rfl rfl (XS.aloadN X936.here hx rfl (hb hby own_d14_161) rfl rfl kk_)) ?_
  refine own_gG X936 hx hZ hown (own_w hw 118 rfl) e936 f936_1 rfl rfl (hb hby own_d14_162) (fun {T937} X937 e937 => ?_)
  refine own_st (g' := (mkF m 167 #[rv a, .val (.long bd), .second, iv (bd.toInt32)] [(.int (lcmpW ((((own_f21_0 (b + (29 : Int32)) (bd.toInt32)).toInt64) - (mn.toInt64)) + (1 : Int64)) (1 : Int64))), (.ref a)])) (fun tt_ kk_ => XS.lconst X937.here hx rfl (hb hby own_d14_165) (XS.lcmp X937.here hx rfl (hb hby own_d14_166) rfl kk_)) ?_
  by_cases hc167 : (lcmpW ((((own_f21_0 (b + (29 : Int32)) (bd.toInt32)).toInt64) - (mn.toInt64)) + (1 : Int64)) (1 : Int64)) = (0 : Int32)
  · skip
    refine own_st (g' := (mkF m 170 #[rv a, .val (.long bd), .second, iv (bd.toInt32)] [(.ref a)])) (fun tt_ kk_ => XS.ifNo X937.here hx rfl (hb hby own_d14_167) rfl ((if0 _ _).trans (teq hc167).2) kk_) ?_
    have F939 := (own_Sta_keep (((own_Sta_keepN S_f K909q (allS (own_plE E_a) (allS (own_plE E_tr) (allS (own_plI P_it) (allS (own_plJ P_lt) (allS (own_plR P_rt) all0)))))).wr W915).wr W921) F924 K936q)
    obtain ⟨T938, X938, e938, st938⟩ := getS2 X937 hx hZ hown (host := "") (Or.inl (own_w hw 221 rfl)) Via.refl e937 F939 (g := (mkF m 170 #[rv a, .val (.long bd), .second, iv (bd.toInt32)] [(.ref a)])) rfl (hb hby own_d14_170)
    refine own_st st938 ?_
    refine own_st (g' := (mkF m 179 #[rv a, .val (.long bd), .second, iv (bd.toInt32)] [(.ref ef), (.ref a)])) (fun tt_ kk_ => XS.goto X938.here hx rfl (pc0 := 173) (pc' := 179) rfl (hb hby own_d14_173) (by decide) (by decide) kk_) ?_
    have F940 := ((((E_mo.keep K909q).wr W915).wr W921).keep K936q)
    have F941 := (own_Sta_keep (((own_Sta_keepN S_b K909q (allS (own_plE E_a) (allS (own_plE E_tr) (allS (own_plI P_it) (allS (own_plJ P_lt) (allS (own_plR P_rt) all0)))))).wr W915).wr W921) F924 K936q)
    obtain ⟨cq942, q942, q942'⟩ := f936_0.cell
    obtain ⟨_, _, ⟨T942, L942, k942, n942⟩, -, X942, ⟨Lc942, hQ942, l942, y942, z942⟩, st942⟩ := X938.privateBack hx (y := (⟨own_z0, "wake", own_z11⟩ : MethodName)) hown (mvT hZ (own_w hw 217 rfl)) (mvT hZ (own_w hw 218 rfl)) (own_sel (mvT hZ (own_w hw 218 rfl)) (mvP hZ (own_w hw 219 rfl)) (mvT hZ (own_w hw 84 rfl)) (by decide)) (Cond.privateMethod_at (mvP hZ (own_w hw 219 rfl) (args := #[]))) (mvT hZ (own_w hw 220 rfl)) (by decide) (backOf (W := 0) (own_rmwaf l Z a0 hw [] a eb ef mo wa h936 n0 Z936 F940 f936_2 f936_3 f936_4 f936_5 f936_6 F939 F941) hZ (own_w hw 220 rfl) (own_w hw 85 rfl) (by decide) (by decide)) (g := (mkF m 179 #[rv a, .val (.long bd), .second, iv (bd.toInt32)] [(.ref ef), (.ref a)])) rfl (by rw [hml]; rfl) (Steps.refl _) (a := a) (by rw [e938]; exact q942) q942' (argsL := [(.ref ef)]) (rest := []) (lenOf own_pd8 rfl) rfl (by show 2 * 0 + _ ≤ _; exact Nat.le_of_eq rfl) (hb hby own_d14_179) (fun _ _ => ⟨rfl, e938, (by decide : 0 + 0 ≤ _), (by decide : 0 + 0 ≤ _)⟩)
    dsimp only [Pt.U, Pt.locs, Pt.cells, Pt.slots] at X942 l942 y942 z942 st942 hQ942
    rw [l942, y942, z942] at X942
    obtain ⟨rfl, N942q, e942⟩ := hQ942
    have N942 := Fr.app N936 N942q
    refine own_st (fun t k => st942.trans k) ?_
    refine own_st (g' := (mkF m 183 #[rv a, .val (.long bd), .second, iv (bd.toInt32)] [(.int (1 : Int32))])) (fun tt_ kk_ => XS.iconst X942.here hx rfl (hb hby own_d14_182) kk_) ?_
    exact own_retN X942 hx hlk (t := .boolean) (Or.inl rfl) hret (hb hby own_d14_183) (by decide) (by decide) (by rw [e942]; exact ⟨rfl, N942, K936, f936_0, f936_1⟩)
  refine own_st (g' := (mkF m 176 #[rv a, .val (.long bd), .second, iv (bd.toInt32)] [(.ref a)])) (fun tt_ kk_ => XS.ifYes X937.here hx rfl (pc0 := 167) (pc' := 176) rfl (hb hby own_d14_167) rfl ((if0 _ _).trans (feq hc167).2) (by decide) (by decide) kk_) ?_
  have F944 := (own_Sta_keep (((own_Sta_keepN S_b K909q (allS (own_plE E_a) (allS (own_plE E_tr) (allS (own_plI P_it) (allS (own_plJ P_lt) (allS (own_plR P_rt) all0)))))).wr W915).wr W921) F924 K936q)
  obtain ⟨T943, X943, e943, st943⟩ := getS2 X937 hx hZ hown (host := "") (Or.inl (own_w hw 214 rfl)) Via.refl e937 F944 (g := (mkF m 176 #[rv a, .val (.long bd), .second, iv (bd.toInt32)] [(.ref a)])) rfl (hb hby own_d14_176)
  refine own_st st943 ?_
  have F945 := ((((E_mo.keep K909q).wr W915).wr W921).keep K936q)
  have F946 := (own_Sta_keep (((own_Sta_keepN S_f K909q (allS (own_plE E_a) (allS (own_plE E_tr) (allS (own_plI P_it) (allS (own_plJ P_lt) (allS (own_plR P_rt) all0)))))).wr W915).wr W921) F924 K936q)
  obtain ⟨cq947, q947, q947'⟩ := f936_0.cell
  obtain ⟨_, _, ⟨T947, L947, k947, n947⟩, -, X947, ⟨Lc947, hQ947, l947, y947, z947⟩, st947⟩ := X943.privateBack hx (y := (⟨own_z0, "wake", own_z11⟩ : MethodName)) hown (mvT hZ (own_w hw 217 rfl)) (mvT hZ (own_w hw 218 rfl)) (own_sel (mvT hZ (own_w hw 218 rfl)) (mvP hZ (own_w hw 219 rfl)) (mvT hZ (own_w hw 84 rfl)) (by decide)) (Cond.privateMethod_at (mvP hZ (own_w hw 219 rfl) (args := #[]))) (mvT hZ (own_w hw 220 rfl)) (by decide) (backOf (W := 0) (own_rmwak l Z a0 hw [] a eb ef mo wa h936 n0 Z936 F945 f936_2 f936_3 f936_4 f936_5 f936_6 F946 F944) hZ (own_w hw 220 rfl) (own_w hw 85 rfl) (by decide) (by decide)) (g := (mkF m 179 #[rv a, .val (.long bd), .second, iv (bd.toInt32)] [(.ref eb), (.ref a)])) rfl (by rw [hml]; rfl) (Steps.refl _) (a := a) (by rw [e943]; exact q947) q947' (argsL := [(.ref eb)]) (rest := []) (lenOf own_pd8 rfl) rfl (by show 2 * 0 + _ ≤ _; exact Nat.le_of_eq rfl) (hb hby own_d14_179) (fun _ _ => ⟨rfl, e943, (by decide : 0 + 0 ≤ _), (by decide : 0 + 0 ≤ _)⟩)
  dsimp only [Pt.U, Pt.locs, Pt.cells, Pt.slots] at X947 l947 y947 z947 st947 hQ947
  rw [l947, y947, z947] at X947
  obtain ⟨rfl, N947q, e947⟩ := hQ947
  have N947 := Fr.app N936 N947q
  refine own_st (fun t k => st947.trans k) ?_
  refine own_st (g' := (mkF m 183 #[rv a, .val (.long bd), .second, iv (bd.toInt32)] [(.int (1 : Int32))])) (fun tt_ kk_ => XS.iconst X947.here hx rfl (hb hby own_d14_182) kk_) ?_
  exact own_retN X947 hx hlk (t := .boolean) (Or.inl rfl) hret (hb hby own_d14_183) (by decide) (by decide) (by rw [e947]; exact ⟨rfl, N947, K936, f936_0, f936_1⟩)
section OwnW
variable {p : Program} {l : Launch} {e : Env} {R : Room} {s : State} {m : MethodId} {args : Array Value} {below : List Frame} {meth : Method} {c : Code} {T T' : State} {locs : List Loc} {cells slots kc ks k0 : Nat} {vm0 : Vm} {g g' : JFrame} {Q : Option Value → Heap → List Loc → Prop}
/-- own_Go, with the wide frame (a String constant may be interned on the way) -/
def own_GoW (p : Program) (e : Env) (below : List Frame) (s T : State) (g : JFrame) (Q : Option Value → Heap → List Loc → Prop) (kc ks : Nat) : Prop :=
  ∃ s₂ o, Steps p.tables e below (T.setTop g) s₂ ∧ s₂.status = .running ∧ Ended s₂ below o ∧ ∃ v L, o = .returned v ∧ Q v s₂.heap L ∧ (∃ v : Option Value, o = Outcome.returned v) ∧ s.Warmed39 s₂.vm ∧ (∀ (j : Nat) (p : Array UInt16 × Addr), s.vm.interned.size ≤ j → s₂.vm.interned[j]? = some p → s.heap.size ≤ p.2 ∧ p.2 < s₂.heap.size) ∧ s.sameButNew { s₂ with vm := s.vm } L kc ks
theorem own_stW (st : ∀ t, Steps p.tables e below (T'.setTop g') t → Steps p.tables e below (T.setTop g) t) (k : own_GoW p e below s T' g' Q kc ks) : own_GoW p e below s T g Q kc ks := by
  obtain ⟨s₂, o, h1, h2⟩ := k
  exact ⟨s₂, o, st _ h1, h2⟩
theorem own_castW (q : g = g') (k : own_GoW p e below s T g' Q kc ks) : own_GoW p e below s T g Q kc ks := q ▸ k
theorem own_retNW (X : Stand p l e R (s.setVm vm0) m args below meth c T locs cells slots) (hx : p.tables.exec = Jvm.exec) (hlk : meth.locks = false) {t : FieldType} (ht : t = .boolean ∨ t = .byte ∨ t = .char ∨ t = .short) (hret : meth.sig.returnType = some t)
    {pc : Nat} {Ls : Array Slot} {z : Int32} {rest : List Value} (hd : decode c.code pc = .ok (.ireturn, 1)) (hc : cells ≤ kc) (hs : slots ≤ ks) (hS : s.Since vm0 k0) (hk : k0 ≤ T.heap.size) (hq : Q (some (.int (nar t z))) T.heap locs) :
    own_GoW p e below s T (mkF m pc Ls (.int z :: rest)) Q kc ks := by
  obtain ⟨fs, hr, hrun, hended, hW, hsame⟩ := X.leave (v := some (.int (nar t z))) (fun h => by rw [hret] at h; cases h) hlk
  have q := hS.ended hW hk hsame
  exact ⟨_, _, retN X hx hret ht hd hr, hrun, hended, _, _, rfl, hq, ⟨_, rfl⟩, q.1, q.2.1, q.2.2.mono hc hs⟩
end OwnW
theorem own_strA {Z : State} {a0 : Array Value} (hw : own_HW Z a0) : ∀ a ∈ Bundle.stringAtoms, a.before a0 Z = true := fun a ha => by
  simp only [Bundle.stringAtoms, List.mem_cons, List.not_mem_nil, or_false] at ha
  rcases ha with rfl | rfl | rfl | rfl | rfl | rfl | rfl
  · exact own_w hw 87 rfl
  · exact own_w hw 88 rfl
  · exact own_w hw 89 rfl
  · exact own_w hw 90 rfl
  · exact own_w hw 91 rfl
  · exact own_w hw 92 rfl
  · exact own_w hw 93 rfl
def own_Q0 (n0 : Nat) (v : Option Value) (h : Heap) (L : List Loc) : Prop := v = some (.int 1) ∧ Fr n0 L
theorem own_lt32 {a b : Int32} : a < b ↔ a.toInt < b.toInt := Int32.lt_iff_toInt_lt
theorem own_bs (x : Int32) : -1073741824 ≤ (x >>> ((1 : Int32) &&& 31)).toInt ∧ (x >>> ((1 : Int32) &&& 31)).toInt < 1073741824 := by
  have e := c_ishr x 1 1 (by decide)
  have a := x.toInt_lt
  have b := x.le_toInt
  rw [e]
  omega
theorem own_k63 (x : Int32) : 0 ≤ (x &&& (63 : Int32)).toInt ∧ (x &&& (63 : Int32)).toInt ≤ 63 := by
  have e : (x &&& (63 : Int32)).toInt = x.toInt % 2 ^ 6 := Jvm.Kit.i32_mask x 63 (k := 6) (by decide) (by decide)
  omega
theorem own_d10 (x : Int32) : 0 ≤ ((x &&& (15 : Int32)) % (10 : Int32)).toInt ∧ ((x &&& (15 : Int32)) % (10 : Int32)).toInt ≤ 9 := by
  have e : (x &&& (15 : Int32)).toInt = x.toInt % 2 ^ 4 := Jvm.Kit.i32_mask x 15 (k := 4) (by decide) (by decide)
  have q : ((x &&& (15 : Int32)) % (10 : Int32)).toInt = (x &&& (15 : Int32)).toInt % (10 : Int32).toInt := Jvm.Kit.i32_rem_nonneg (by omega)
  have t : (10 : Int32).toInt = 10 := rfl
  rw [t] at q
  omega
/-- a sum with a small number: no wrap -/
theorem own_ad {b k : Int32} (hb : -1073741824 ≤ b.toInt ∧ b.toInt < 1073741824) (hk : -1000 ≤ k.toInt ∧ k.toInt ≤ 1000) : (b + k).toInt = b.toInt + k.toInt := Jvm.Kit.i32_add (by omega) (by omega)
theorem own_szA {b : Int32} (hb : -1073741824 ≤ b.toInt ∧ b.toInt < 1073741824) : ¬ (0 : Int32) < (lcmpW ((((b + (63 : Int32)).toInt64) - (b.toInt64)) + (1 : Int64)) (64 : Int64)) := by
  have t : (63 : Int32).toInt = 63 := rfl
  have e := own_ad (k := 63) hb (by decide)
  have o : (1 : Int64).toInt = 1 := rfl
  have f : (64 : Int64).toInt = 64 := rfl
  rw [lw_gt, Int64.lt_iff_toInt_lt]
  have s1 : (((b + (63 : Int32)).toInt64) - (b.toInt64)).toInt = 63 := by rw [Jvm.Kit.i64_sub] <;> simp only [Int32.toInt_toInt64] <;> omega
  rw [Jvm.Kit.i64_add] <;> rw [s1, o] <;> omega
theorem own_eA0 {mn mx im v : Int32} {bi : Int64} (h : v < mn) : own_cA mn mx im v bi = 0 := if_pos h
theorem own_eA1 {mn mx im v : Int32} {bi : Int64} (h : ¬ v < mn) (h2 : mx < v) : own_cA mn mx im v bi = 0 := by rw [own_cA, if_neg h, if_pos h2]
theorem own_eA2 {mn mx im v k : Int32} {bi : Int64} (hk : v - im = k) (h : ¬ v < mn) (h2 : ¬ mx < v) (h3 : lcmpW (((bi.toUInt64 >>> (k &&& 0x3f).toInt64.toUInt64).toInt64) &&& (1 : Int64)) (0 : Int64) = (0 : Int32)) : own_cA mn mx im v bi = 0 := by rw [own_cA, if_neg h, if_neg h2, hk, if_pos h3]
theorem own_eA3 {mn mx im v k : Int32} {bi : Int64} (hk : v - im = k) (h : ¬ v < mn) (h2 : ¬ mx < v) (h3 : ¬ lcmpW (((bi.toUInt64 >>> (k &&& 0x3f).toInt64.toUInt64).toInt64) &&& (1 : Int64)) (0 : Int64) = (0 : Int32)) : own_cA mn mx im v bi = 1 := by rw [own_cA, if_neg h, if_neg h2, hk, if_neg h3]
theorem own_sub (b k : Int32) : (b + k) - b = k := by
  apply Int32.toBitVec_inj.mp
  rw [Int32.toBitVec_sub, Int32.toBitVec_add, BitVec.add_comm, BitVec.add_sub_cancel]
theorem own_pd9 : parseMethodDescriptor "(Lcom/example/propagule/propagule/Model;ILjava/lang/String;II)V" = some ⟨[(.object "com/example/propagule/propagule/Model"), .int, (.object "java/lang/String"), .int, .int], none⟩ := by decide +kernel
theorem own_pd10 : parseMethodDescriptor "(IIJJ[IIII)V" = some ⟨[.int, .int, .long, .long, (.array .int), .int, .int, .int], none⟩ := by decide +kernel
theorem own_pd11 : parseMethodDescriptor "()J" = some ⟨[], some .long⟩ := by decide +kernel
theorem own_pd12 : parseMethodDescriptor "(I)Z" = some ⟨[.int], some .boolean⟩ := by decide +kernel
theorem own_pd13 : parseMethodDescriptor "(J)Z" = some ⟨[.long], some .boolean⟩ := by decide +kernel
theorem own_pn6 : plainName "com/example/propagule/propagule/IntVarRestorePinLaw" = true := by first | (simp [plainName, overriddenIn]; done) | decide +kernel
theorem own_i64_1 : (1 : Int64).toInt = 1 := rfl
theorem own_pa {x y : Int64} {i j : Int} (hx : x.toInt = i) (hy : y.toInt = j) (h : -1000000000000 ≤ i + j ∧ i + j ≤ 1000000000000) : (x + y).toInt = i + j := by rw [Jvm.Kit.i64_add] <;> rw [hx, hy] <;> omega
theorem own_ps {x y : Int64} {i j : Int} (hx : x.toInt = i) (hy : y.toInt = j) (h : -1000000000000 ≤ i - j ∧ i - j ≤ 1000000000000) : (x - y).toInt = i - j := by rw [Jvm.Kit.i64_sub] <;> rw [hx, hy] <;> omega
theorem own_pt {x : Int32} {i : Int} (hx : x.toInt = i) : (x.toInt64).toInt = i := by rw [Int32.toInt_toInt64]; exact hx
theorem own_ad2 {x y : Int32} {i j : Int} (hx : x.toInt = i) (hy : y.toInt = j) (h : -2147483648 ≤ i + j ∧ i + j < 2147483648) : (x + y).toInt = i + j := by rw [Jvm.Kit.i32_add] <;> rw [hx, hy] <;> omega
theorem own_sd2 {x y : Int32} {i j : Int} (hx : x.toInt = i) (hy : y.toInt = j) (h : -2147483648 ≤ i - j ∧ i - j < 2147483648) : (x - y).toInt = i - j := by rw [Jvm.Kit.i32_sub] <;> rw [hx, hy] <;> omega
theorem own_mm {b a x f : Int32} {i : Int} (hb : -1073741824 ≤ b.toInt ∧ b.toInt < 1073741824) (ha : 0 ≤ a.toInt ∧ a.toInt ≤ 9) (hf : f.toInt = i) (hi : 0 ≤ i ∧ i ≤ 40) (h : x = (b + f) + a) : x.toInt = b.toInt + i + a.toInt := by rw [h]; exact own_ad2 (own_ad2 rfl hf (by omega)) rfl (by omega)
theorem own_bd {x : Int32} : (x.toInt64 - (1 : Int64)).toInt = x.toInt - 1 := by
  have a := x.toInt_lt
  have b := x.le_toInt
  exact own_ps (own_pt rfl) rfl (by omega)
theorem own_bd32 {x : Int32} (h : -2147483648 < x.toInt) : ((x.toInt64 - (1 : Int64)).toInt32).toInt = x.toInt - 1 := by
  have a := x.toInt_lt
  have e := own_bd (x := x)
  rw [Int64.toInt_toInt32, e, Int.bmod_eq_of_le] <;> omega
theorem own_x20 {a c d : Int32} {y : Int64} {i : Int} (hA : 0 ≤ a.toInt ∧ a.toInt ≤ 9) (hB : 0 ≤ c.toInt ∧ c.toInt ≤ 9) (hd : ((10 : Int64) * (d.toInt64)).toInt = i) (hi : 0 ≤ i ∧ i ≤ 10) (h : y = ((((10 : Int32) - a).toInt64) + ((c + (1 : Int32)).toInt64)) + ((10 : Int64) * (d.toInt64))) : y.toInt = 10 - a.toInt + (c.toInt + 1) + i := by
  rw [h]; exact own_pa (own_pa (own_pt (own_sd2 rfl rfl (by have t : (10 : Int32).toInt = 10 := rfl; omega))) (own_pt (own_ad2 rfl rfl (by have t : (1 : Int32).toInt = 1 := rfl; omega))) (by have t : (10 : Int32).toInt = 10 := rfl; have u : (1 : Int32).toInt = 1 := rfl; omega)) hd (by have t : (10 : Int32).toInt = 10 := rfl; have u : (1 : Int32).toInt = 1 := rfl; omega)
theorem own_rh1 {x8 x19 : Int32} (h : True) : (lcmpW (x19.toInt64 - (1 : Int64)) (x19.toInt64)) < (0 : Int32) := by
  rw [lw_lt, Int64.lt_iff_toInt_lt, own_bd, own_pt rfl]; omega
theorem own_rh2_011 {x8 x12 x13 x18 x19 : Int32} (hb : -1073741824 ≤ x8.toInt ∧ x8.toInt < 1073741824) (hA : 0 ≤ x12.toInt ∧ x12.toInt ≤ 9) (hB : 0 ≤ x13.toInt ∧ x13.toInt ≤ 9) (hx18 : x18 = ((x8 + ((20 : Int32) * (0 : Int32))) + x12)) (hx19 : x19 = ((x8 + ((20 : Int32) * (1 : Int32))) + x13)) (hz0 : ¬ x13 = (0 : Int32)) : ¬ ((lcmpW ((x19.toInt64) - (1 : Int64)) (x18.toInt64)) < (0 : Int32)) := by
  have e18 := own_mm (i := 0) hb hA (by decide) (by decide) hx18
  have e19 := own_mm (i := 20) hb hB (by decide) (by decide) hx19
  have z0 : 1 ≤ x13.toInt := by have q : x13.toInt ≠ 0 := fun q => hz0 (Int32.toInt_inj.mp (q.trans rfl)); omega
  have eb := own_bd32 (x := x19) (by omega)
  rw [lw_lt, Int64.lt_iff_toInt_lt, own_bd, own_pt rfl]; omega
theorem own_rq0_011 {x8 x12 x13 x18 x19 : Int32} (hb : -1073741824 ≤ x8.toInt ∧ x8.toInt < 1073741824) (hA : 0 ≤ x12.toInt ∧ x12.toInt ≤ 9) (hB : 0 ≤ x13.toInt ∧ x13.toInt ≤ 9) (hx18 : x18 = ((x8 + ((20 : Int32) * (0 : Int32))) + x12)) (hx19 : x19 = ((x8 + ((20 : Int32) * (1 : Int32))) + x13)) (hz0 : ¬ x13 = (0 : Int32)) : ¬ ((((x19.toInt64) - (1 : Int64)).toInt32) < (x8 + (20 : Int32))) := by
  have e18 := own_mm (i := 0) hb hA (by decide) (by decide) hx18
  have e19 := own_mm (i := 20) hb hB (by decide) (by decide) hx19
  have z0 : 1 ≤ x13.toInt := by have q : x13.toInt ≠ 0 := fun q => hz0 (Int32.toInt_inj.mp (q.trans rfl)); omega
  have eb := own_bd32 (x := x19) (by omega)
  have c : (x8 + (20 : Int32)).toInt = x8.toInt + 20 := own_ad2 rfl rfl (by omega)
  rw [own_lt32, eb, c]; omega
theorem own_rh9_011 {x8 x12 x13 x18 x19 : Int32} {x20 : Int64} (hb : -1073741824 ≤ x8.toInt ∧ x8.toInt < 1073741824) (hA : 0 ≤ x12.toInt ∧ x12.toInt ≤ 9) (hB : 0 ≤ x13.toInt ∧ x13.toInt ≤ 9) (hx18 : x18 = ((x8 + ((20 : Int32) * (0 : Int32))) + x12)) (hx19 : x19 = ((x8 + ((20 : Int32) * (1 : Int32))) + x13)) (hz0 : ¬ x13 = (0 : Int32)) (hx20 : x20 = (((((10 : Int32) - x12).toInt64) + ((x13 + (1 : Int32)).toInt64)) + ((10 : Int64) * ((((1 : Int32) - (0 : Int32)) - (1 : Int32)).toInt64)))) : ¬ ((lcmpW (((((((x8 + (9 : Int32)).toInt64) - (x18.toInt64)) + (1 : Int64)) + ((own_f21_0 (x8 + (29 : Int32)) (((x19.toInt64) - (1 : Int64)).toInt32)).toInt64)) - ((x8 + (20 : Int32)).toInt64)) + (1 : Int64)) (1 : Int64)) = (0 : Int32)) := by
  have e18 := own_mm (i := 0) hb hA (by decide) (by decide) hx18
  have e19 := own_mm (i := 20) hb hB (by decide) (by decide) hx19
  have z0 : 1 ≤ x13.toInt := by have q : x13.toInt ≠ 0 := fun q => hz0 (Int32.toInt_inj.mp (q.trans rfl)); omega
  have eb := own_bd32 (x := x19) (by omega)
  have c9 : (x8 + (9 : Int32)).toInt = x8.toInt + 9 := own_ad2 rfl rfl (by omega)
  have c20 : (x8 + (20 : Int32)).toInt = x8.toInt + 20 := own_ad2 rfl rfl (by omega)
  have c29 : (x8 + (29 : Int32)).toInt = x8.toInt + 29 := own_ad2 rfl rfl (by omega)
  have em : (own_f21_0 (x8 + (29 : Int32)) (((x19.toInt64) - (1 : Int64)).toInt32)).toInt = x8.toInt + 20 + x13.toInt - 1 := by rw [own_f21_0, if_pos (by rw [own_lt32, eb, c29]; omega)]; exact (by rw [eb, e19])
  have ex := (own_pa (own_ps (own_pa (own_pa (own_ps (own_pt c9) (own_pt e18) (by omega)) (own_i64_1) (by omega)) (own_pt em) (by omega)) (own_pt c20) (by omega)) (own_i64_1) (by omega))
  have e20 := own_x20 (i := 0) hA hB (by decide) (by decide) hx20
  rw [lw_eq, ← Int64.toInt_inj, ex]
  have o : (1 : Int64).toInt = 1 := rfl
  omega
theorem own_rx_011 {x8 x12 x13 x18 x19 : Int32} {x20 : Int64} (hb : -1073741824 ≤ x8.toInt ∧ x8.toInt < 1073741824) (hA : 0 ≤ x12.toInt ∧ x12.toInt ≤ 9) (hB : 0 ≤ x13.toInt ∧ x13.toInt ≤ 9) (hx18 : x18 = ((x8 + ((20 : Int32) * (0 : Int32))) + x12)) (hx19 : x19 = ((x8 + ((20 : Int32) * (1 : Int32))) + x13)) (hz0 : ¬ x13 = (0 : Int32)) (hx20 : x20 = (((((10 : Int32) - x12).toInt64) + ((x13 + (1 : Int32)).toInt64)) + ((10 : Int64) * ((((1 : Int32) - (0 : Int32)) - (1 : Int32)).toInt64)))) : (((((((x8 + (9 : Int32)).toInt64) - (x18.toInt64)) + (1 : Int64)) + ((own_f21_0 (x8 + (29 : Int32)) (((x19.toInt64) - (1 : Int64)).toInt32)).toInt64)) - ((x8 + (20 : Int32)).toInt64)) + (1 : Int64)) = (x20 - (1 : Int64)) := by
  have e18 := own_mm (i := 0) hb hA (by decide) (by decide) hx18
  have e19 := own_mm (i := 20) hb hB (by decide) (by decide) hx19
  have z0 : 1 ≤ x13.toInt := by have q : x13.toInt ≠ 0 := fun q => hz0 (Int32.toInt_inj.mp (q.trans rfl)); omega
  have eb := own_bd32 (x := x19) (by omega)
  have c9 : (x8 + (9 : Int32)).toInt = x8.toInt + 9 := own_ad2 rfl rfl (by omega)
  have c20 : (x8 + (20 : Int32)).toInt = x8.toInt + 20 := own_ad2 rfl rfl (by omega)
  have c29 : (x8 + (29 : Int32)).toInt = x8.toInt + 29 := own_ad2 rfl rfl (by omega)
  have em : (own_f21_0 (x8 + (29 : Int32)) (((x19.toInt64) - (1 : Int64)).toInt32)).toInt = x8.toInt + 20 + x13.toInt - 1 := by rw [own_f21_0, if_pos (by rw [own_lt32, eb, c29]; omega)]; exact (by rw [eb, e19])
  have ex := (own_pa (own_ps (own_pa (own_pa (own_ps (own_pt c9) (own_pt e18) (by omega)) (own_i64_1) (by omega)) (own_pt em) (by omega)) (own_pt c20) (by omega)) (own_i64_1) (by omega))
  have e20 := own_x20 (i := 0) hA hB (by decide) (by decide) hx20
  refine Int64.toInt_inj.mp ?_
  rw [ex, own_ps e20 rfl (by have o : (1 : Int64).toInt = 1 := rfl; omega)]
  have o : (1 : Int64).toInt = 1 := rfl
  omega
theorem own_rh2_010 {x8 x12 x13 x18 x19 : Int32} (hb : -1073741824 ≤ x8.toInt ∧ x8.toInt < 1073741824) (hA : 0 ≤ x12.toInt ∧ x12.toInt ≤ 9) (hB : 0 ≤ x13.toInt ∧ x13.toInt ≤ 9) (hx18 : x18 = ((x8 + ((20 : Int32) * (0 : Int32))) + x12)) (hx19 : x19 = ((x8 + ((20 : Int32) * (1 : Int32))) + x13)) (hz0 : x13 = (0 : Int32)) : ¬ ((lcmpW ((x19.toInt64) - (1 : Int64)) (x18.toInt64)) < (0 : Int32)) := by
  have e18 := own_mm (i := 0) hb hA (by decide) (by decide) hx18
  have e19 := own_mm (i := 20) hb hB (by decide) (by decide) hx19
  have z0 : x13.toInt = 0 := by rw [hz0]; rfl
  have eb := own_bd32 (x := x19) (by omega)
  rw [lw_lt, Int64.lt_iff_toInt_lt, own_bd, own_pt rfl]; omega
theorem own_rq0_010 {x8 x12 x13 x18 x19 : Int32} (hb : -1073741824 ≤ x8.toInt ∧ x8.toInt < 1073741824) (hA : 0 ≤ x12.toInt ∧ x12.toInt ≤ 9) (hB : 0 ≤ x13.toInt ∧ x13.toInt ≤ 9) (hx18 : x18 = ((x8 + ((20 : Int32) * (0 : Int32))) + x12)) (hx19 : x19 = ((x8 + ((20 : Int32) * (1 : Int32))) + x13)) (hz0 : x13 = (0 : Int32)) : (((x19.toInt64) - (1 : Int64)).toInt32) < (x8 + (20 : Int32)) := by
  have e18 := own_mm (i := 0) hb hA (by decide) (by decide) hx18
  have e19 := own_mm (i := 20) hb hB (by decide) (by decide) hx19
  have z0 : x13.toInt = 0 := by rw [hz0]; rfl
  have eb := own_bd32 (x := x19) (by omega)
  have c : (x8 + (20 : Int32)).toInt = x8.toInt + 20 := own_ad2 rfl rfl (by omega)
  rw [own_lt32, eb, c]; omega
theorem own_rx_010 {x8 x12 x13 x18 x19 : Int32} {x20 : Int64} (hb : -1073741824 ≤ x8.toInt ∧ x8.toInt < 1073741824) (hA : 0 ≤ x12.toInt ∧ x12.toInt ≤ 9) (hB : 0 ≤ x13.toInt ∧ x13.toInt ≤ 9) (hx18 : x18 = ((x8 + ((20 : Int32) * (0 : Int32))) + x12)) (hx19 : x19 = ((x8 + ((20 : Int32) * (1 : Int32))) + x13)) (hz0 : x13 = (0 : Int32)) (hx20 : x20 = (((((10 : Int32) - x12).toInt64) + ((x13 + (1 : Int32)).toInt64)) + ((10 : Int64) * ((((1 : Int32) - (0 : Int32)) - (1 : Int32)).toInt64)))) : ((((own_f21_0 (x8 + (9 : Int32)) (((x19.toInt64) - (1 : Int64)).toInt32)).toInt64) - (x18.toInt64)) + (1 : Int64)) = (x20 - (1 : Int64)) := by
  have e18 := own_mm (i := 0) hb hA (by decide) (by decide) hx18
  have e19 := own_mm (i := 20) hb hB (by decide) (by decide) hx19
  have z0 : x13.toInt = 0 := by rw [hz0]; rfl
  have eb := own_bd32 (x := x19) (by omega)
  have c9 : (x8 + (9 : Int32)).toInt = x8.toInt + 9 := own_ad2 rfl rfl (by omega)
  have em : (own_f21_0 (x8 + (9 : Int32)) (((x19.toInt64) - (1 : Int64)).toInt32)).toInt = x8.toInt + 9 := by rw [own_f21_0, if_neg (by rw [own_lt32, eb, c9]; omega)]; exact c9
  have ex := (own_pa (own_ps (own_pt em) (own_pt e18) (by omega)) (own_i64_1) (by omega))
  have e20 := own_x20 (i := 0) hA hB (by decide) (by decide) hx20
  refine Int64.toInt_inj.mp ?_
  rw [ex, own_ps e20 rfl (by have o : (1 : Int64).toInt = 1 := rfl; omega)]
  have o : (1 : Int64).toInt = 1 := rfl
  omega
theorem own_rh2_022 {x8 x12 x13 x18 x19 : Int32} (hb : -1073741824 ≤ x8.toInt ∧ x8.toInt < 1073741824) (hA : 0 ≤ x12.toInt ∧ x12.toInt ≤ 9) (hB : 0 ≤ x13.toInt ∧ x13.toInt ≤ 9) (hx18 : x18 = ((x8 + ((20 : Int32) * (0 : Int32))) + x12)) (hx19 : x19 = ((x8 + ((20 : Int32) * (2 : Int32))) + x13)) (hz0 : ¬ x13 = (0 : Int32)) : ¬ ((lcmpW ((x19.toInt64) - (1 : Int64)) (x18.toInt64)) < (0 : Int32)) := by
  have e18 := own_mm (i := 0) hb hA (by decide) (by decide) hx18
  have e19 := own_mm (i := 40) hb hB (by decide) (by decide) hx19
  have z0 : 1 ≤ x13.toInt := by have q : x13.toInt ≠ 0 := fun q => hz0 (Int32.toInt_inj.mp (q.trans rfl)); omega
  have eb := own_bd32 (x := x19) (by omega)
  rw [lw_lt, Int64.lt_iff_toInt_lt, own_bd, own_pt rfl]; omega
theorem own_rq0_022 {x8 x12 x13 x18 x19 : Int32} (hb : -1073741824 ≤ x8.toInt ∧ x8.toInt < 1073741824) (hA : 0 ≤ x12.toInt ∧ x12.toInt ≤ 9) (hB : 0 ≤ x13.toInt ∧ x13.toInt ≤ 9) (hx18 : x18 = ((x8 + ((20 : Int32) * (0 : Int32))) + x12)) (hx19 : x19 = ((x8 + ((20 : Int32) * (2 : Int32))) + x13)) (hz0 : ¬ x13 = (0 : Int32)) : ¬ ((((x19.toInt64) - (1 : Int64)).toInt32) < (x8 + (20 : Int32))) := by
  have e18 := own_mm (i := 0) hb hA (by decide) (by decide) hx18
  have e19 := own_mm (i := 40) hb hB (by decide) (by decide) hx19
  have z0 : 1 ≤ x13.toInt := by have q : x13.toInt ≠ 0 := fun q => hz0 (Int32.toInt_inj.mp (q.trans rfl)); omega
  have eb := own_bd32 (x := x19) (by omega)
  have c : (x8 + (20 : Int32)).toInt = x8.toInt + 20 := own_ad2 rfl rfl (by omega)
  rw [own_lt32, eb, c]; omega
theorem own_rq1_022 {x8 x12 x13 x18 x19 : Int32} (hb : -1073741824 ≤ x8.toInt ∧ x8.toInt < 1073741824) (hA : 0 ≤ x12.toInt ∧ x12.toInt ≤ 9) (hB : 0 ≤ x13.toInt ∧ x13.toInt ≤ 9) (hx18 : x18 = ((x8 + ((20 : Int32) * (0 : Int32))) + x12)) (hx19 : x19 = ((x8 + ((20 : Int32) * (2 : Int32))) + x13)) (hz0 : ¬ x13 = (0 : Int32)) : ¬ ((((x19.toInt64) - (1 : Int64)).toInt32) < (x8 + (40 : Int32))) := by
  have e18 := own_mm (i := 0) hb hA (by decide) (by decide) hx18
  have e19 := own_mm (i := 40) hb hB (by decide) (by decide) hx19
  have z0 : 1 ≤ x13.toInt := by have q : x13.toInt ≠ 0 := fun q => hz0 (Int32.toInt_inj.mp (q.trans rfl)); omega
  have eb := own_bd32 (x := x19) (by omega)
  have c : (x8 + (40 : Int32)).toInt = x8.toInt + 40 := own_ad2 rfl rfl (by omega)
  rw [own_lt32, eb, c]; omega
theorem own_rh9_022 {x8 x12 x13 x18 x19 : Int32} {x20 : Int64} (hb : -1073741824 ≤ x8.toInt ∧ x8.toInt < 1073741824) (hA : 0 ≤ x12.toInt ∧ x12.toInt ≤ 9) (hB : 0 ≤ x13.toInt ∧ x13.toInt ≤ 9) (hx18 : x18 = ((x8 + ((20 : Int32) * (0 : Int32))) + x12)) (hx19 : x19 = ((x8 + ((20 : Int32) * (2 : Int32))) + x13)) (hz0 : ¬ x13 = (0 : Int32)) (hx20 : x20 = (((((10 : Int32) - x12).toInt64) + ((x13 + (1 : Int32)).toInt64)) + ((10 : Int64) * ((((2 : Int32) - (0 : Int32)) - (1 : Int32)).toInt64)))) : ¬ ((lcmpW ((((((((x8 + (9 : Int32)).toInt64) - (x18.toInt64)) + (1 : Int64)) + ((own_f21_0 (x8 + (49 : Int32)) (((x19.toInt64) - (1 : Int64)).toInt32)).toInt64)) - ((x8 + (40 : Int32)).toInt64)) + (1 : Int64)) + ((((x8 + (29 : Int32)).toInt64) - ((x8 + (20 : Int32)).toInt64)) + (1 : Int64))) (1 : Int64)) = (0 : Int32)) := by
  have e18 := own_mm (i := 0) hb hA (by decide) (by decide) hx18
  have e19 := own_mm (i := 40) hb hB (by decide) (by decide) hx19
  have z0 : 1 ≤ x13.toInt := by have q : x13.toInt ≠ 0 := fun q => hz0 (Int32.toInt_inj.mp (q.trans rfl)); omega
  have eb := own_bd32 (x := x19) (by omega)
  have c9 : (x8 + (9 : Int32)).toInt = x8.toInt + 9 := own_ad2 rfl rfl (by omega)
  have c20 : (x8 + (20 : Int32)).toInt = x8.toInt + 20 := own_ad2 rfl rfl (by omega)
  have c29 : (x8 + (29 : Int32)).toInt = x8.toInt + 29 := own_ad2 rfl rfl (by omega)
  have c40 : (x8 + (40 : Int32)).toInt = x8.toInt + 40 := own_ad2 rfl rfl (by omega)
  have c49 : (x8 + (49 : Int32)).toInt = x8.toInt + 49 := own_ad2 rfl rfl (by omega)
  have em : (own_f21_0 (x8 + (49 : Int32)) (((x19.toInt64) - (1 : Int64)).toInt32)).toInt = x8.toInt + 40 + x13.toInt - 1 := by rw [own_f21_0, if_pos (by rw [own_lt32, eb, c49]; omega)]; exact (by rw [eb, e19])
  have ex := (own_pa (own_pa (own_ps (own_pa (own_pa (own_ps (own_pt c9) (own_pt e18) (by omega)) (own_i64_1) (by omega)) (own_pt em) (by omega)) (own_pt c40) (by omega)) (own_i64_1) (by omega)) (own_pa (own_ps (own_pt c29) (own_pt c20) (by omega)) (own_i64_1) (by omega)) (by omega))
  have e20 := own_x20 (i := 10) hA hB (by decide) (by decide) hx20
  rw [lw_eq, ← Int64.toInt_inj, ex]
  have o : (1 : Int64).toInt = 1 := rfl
  omega
theorem own_rx_022 {x8 x12 x13 x18 x19 : Int32} {x20 : Int64} (hb : -1073741824 ≤ x8.toInt ∧ x8.toInt < 1073741824) (hA : 0 ≤ x12.toInt ∧ x12.toInt ≤ 9) (hB : 0 ≤ x13.toInt ∧ x13.toInt ≤ 9) (hx18 : x18 = ((x8 + ((20 : Int32) * (0 : Int32))) + x12)) (hx19 : x19 = ((x8 + ((20 : Int32) * (2 : Int32))) + x13)) (hz0 : ¬ x13 = (0 : Int32)) (hx20 : x20 = (((((10 : Int32) - x12).toInt64) + ((x13 + (1 : Int32)).toInt64)) + ((10 : Int64) * ((((2 : Int32) - (0 : Int32)) - (1 : Int32)).toInt64)))) : ((((((((x8 + (9 : Int32)).toInt64) - (x18.toInt64)) + (1 : Int64)) + ((own_f21_0 (x8 + (49 : Int32)) (((x19.toInt64) - (1 : Int64)).toInt32)).toInt64)) - ((x8 + (40 : Int32)).toInt64)) + (1 : Int64)) + ((((x8 + (29 : Int32)).toInt64) - ((x8 + (20 : Int32)).toInt64)) + (1 : Int64))) = (x20 - (1 : Int64)) := by
  have e18 := own_mm (i := 0) hb hA (by decide) (by decide) hx18
  have e19 := own_mm (i := 40) hb hB (by decide) (by decide) hx19
  have z0 : 1 ≤ x13.toInt := by have q : x13.toInt ≠ 0 := fun q => hz0 (Int32.toInt_inj.mp (q.trans rfl)); omega
  have eb := own_bd32 (x := x19) (by omega)
  have c9 : (x8 + (9 : Int32)).toInt = x8.toInt + 9 := own_ad2 rfl rfl (by omega)
  have c20 : (x8 + (20 : Int32)).toInt = x8.toInt + 20 := own_ad2 rfl rfl (by omega)
  have c29 : (x8 + (29 : Int32)).toInt = x8.toInt + 29 := own_ad2 rfl rfl (by omega)
  have c40 : (x8 + (40 : Int32)).toInt = x8.toInt + 40 := own_ad2 rfl rfl (by omega)
  have c49 : (x8 + (49 : Int32)).toInt = x8.toInt + 49 := own_ad2 rfl rfl (by omega)
  have em : (own_f21_0 (x8 + (49 : Int32)) (((x19.toInt64) - (1 : Int64)).toInt32)).toInt = x8.toInt + 40 + x13.toInt - 1 := by rw [own_f21_0, if_pos (by rw [own_lt32, eb, c49]; omega)]; exact (by rw [eb, e19])
  have ex := (own_pa (own_pa (own_ps (own_pa (own_pa (own_ps (own_pt c9) (own_pt e18) (by omega)) (own_i64_1) (by omega)) (own_pt em) (by omega)) (own_pt c40) (by omega)) (own_i64_1) (by omega)) (own_pa (own_ps (own_pt c29) (own_pt c20) (by omega)) (own_i64_1) (by omega)) (by omega))
  have e20 := own_x20 (i := 10) hA hB (by decide) (by decide) hx20
  refine Int64.toInt_inj.mp ?_
  rw [ex, own_ps e20 rfl (by have o : (1 : Int64).toInt = 1 := rfl; omega)]
  have o : (1 : Int64).toInt = 1 := rfl
  omega
theorem own_rh2_021 {x8 x12 x13 x18 x19 : Int32} (hb : -1073741824 ≤ x8.toInt ∧ x8.toInt < 1073741824) (hA : 0 ≤ x12.toInt ∧ x12.toInt ≤ 9) (hB : 0 ≤ x13.toInt ∧ x13.toInt ≤ 9) (hx18 : x18 = ((x8 + ((20 : Int32) * (0 : Int32))) + x12)) (hx19 : x19 = ((x8 + ((20 : Int32) * (2 : Int32))) + x13)) (hz0 : x13 = (0 : Int32)) : ¬ ((lcmpW ((x19.toInt64) - (1 : Int64)) (x18.toInt64)) < (0 : Int32)) := by
  have e18 := own_mm (i := 0) hb hA (by decide) (by decide) hx18
  have e19 := own_mm (i := 40) hb hB (by decide) (by decide) hx19
  have z0 : x13.toInt = 0 := by rw [hz0]; rfl
  have eb := own_bd32 (x := x19) (by omega)
  rw [lw_lt, Int64.lt_iff_toInt_lt, own_bd, own_pt rfl]; omega
theorem own_rq0_021 {x8 x12 x13 x18 x19 : Int32} (hb : -1073741824 ≤ x8.toInt ∧ x8.toInt < 1073741824) (hA : 0 ≤ x12.toInt ∧ x12.toInt ≤ 9) (hB : 0 ≤ x13.toInt ∧ x13.toInt ≤ 9) (hx18 : x18 = ((x8 + ((20 : Int32) * (0 : Int32))) + x12)) (hx19 : x19 = ((x8 + ((20 : Int32) * (2 : Int32))) + x13)) (hz0 : x13 = (0 : Int32)) : ¬ ((((x19.toInt64) - (1 : Int64)).toInt32) < (x8 + (20 : Int32))) := by
  have e18 := own_mm (i := 0) hb hA (by decide) (by decide) hx18
  have e19 := own_mm (i := 40) hb hB (by decide) (by decide) hx19
  have z0 : x13.toInt = 0 := by rw [hz0]; rfl
  have eb := own_bd32 (x := x19) (by omega)
  have c : (x8 + (20 : Int32)).toInt = x8.toInt + 20 := own_ad2 rfl rfl (by omega)
  rw [own_lt32, eb, c]; omega
theorem own_rq1_021 {x8 x12 x13 x18 x19 : Int32} (hb : -1073741824 ≤ x8.toInt ∧ x8.toInt < 1073741824) (hA : 0 ≤ x12.toInt ∧ x12.toInt ≤ 9) (hB : 0 ≤ x13.toInt ∧ x13.toInt ≤ 9) (hx18 : x18 = ((x8 + ((20 : Int32) * (0 : Int32))) + x12)) (hx19 : x19 = ((x8 + ((20 : Int32) * (2 : Int32))) + x13)) (hz0 : x13 = (0 : Int32)) : (((x19.toInt64) - (1 : Int64)).toInt32) < (x8 + (40 : Int32)) := by
  have e18 := own_mm (i := 0) hb hA (by decide) (by decide) hx18
  have e19 := own_mm (i := 40) hb hB (by decide) (by decide) hx19
  have z0 : x13.toInt = 0 := by rw [hz0]; rfl
  have eb := own_bd32 (x := x19) (by omega)
  have c : (x8 + (40 : Int32)).toInt = x8.toInt + 40 := own_ad2 rfl rfl (by omega)
  rw [own_lt32, eb, c]; omega
theorem own_rh9_021 {x8 x12 x13 x18 x19 : Int32} {x20 : Int64} (hb : -1073741824 ≤ x8.toInt ∧ x8.toInt < 1073741824) (hA : 0 ≤ x12.toInt ∧ x12.toInt ≤ 9) (hB : 0 ≤ x13.toInt ∧ x13.toInt ≤ 9) (hx18 : x18 = ((x8 + ((20 : Int32) * (0 : Int32))) + x12)) (hx19 : x19 = ((x8 + ((20 : Int32) * (2 : Int32))) + x13)) (hz0 : x13 = (0 : Int32)) (hx20 : x20 = (((((10 : Int32) - x12).toInt64) + ((x13 + (1 : Int32)).toInt64)) + ((10 : Int64) * ((((2 : Int32) - (0 : Int32)) - (1 : Int32)).toInt64)))) : ¬ ((lcmpW (((((((x8 + (9 : Int32)).toInt64) - (x18.toInt64)) + (1 : Int64)) + ((own_f21_0 (x8 + (29 : Int32)) (((x19.toInt64) - (1 : Int64)).toInt32)).toInt64)) - ((x8 + (20 : Int32)).toInt64)) + (1 : Int64)) (1 : Int64)) = (0 : Int32)) := by
  have e18 := own_mm (i := 0) hb hA (by decide) (by decide) hx18
  have e19 := own_mm (i := 40) hb hB (by decide) (by decide) hx19
  have z0 : x13.toInt = 0 := by rw [hz0]; rfl
  have eb := own_bd32 (x := x19) (by omega)
  have c9 : (x8 + (9 : Int32)).toInt = x8.toInt + 9 := own_ad2 rfl rfl (by omega)
  have c20 : (x8 + (20 : Int32)).toInt = x8.toInt + 20 := own_ad2 rfl rfl (by omega)
  have c29 : (x8 + (29 : Int32)).toInt = x8.toInt + 29 := own_ad2 rfl rfl (by omega)
  have em : (own_f21_0 (x8 + (29 : Int32)) (((x19.toInt64) - (1 : Int64)).toInt32)).toInt = x8.toInt + 29 := by rw [own_f21_0, if_neg (by rw [own_lt32, eb, c29]; omega)]; exact c29
  have ex := (own_pa (own_ps (own_pa (own_pa (own_ps (own_pt c9) (own_pt e18) (by omega)) (own_i64_1) (by omega)) (own_pt em) (by omega)) (own_pt c20) (by omega)) (own_i64_1) (by omega))
  have e20 := own_x20 (i := 10) hA hB (by decide) (by decide) hx20
  rw [lw_eq, ← Int64.toInt_inj, ex]
  have o : (1 : Int64).toInt = 1 := rfl
  omega
theorem own_rx_021 {x8 x12 x13 x18 x19 : Int32} {x20 : Int64} (hb : -1073741824 ≤ x8.toInt ∧ x8.toInt < 1073741824) (hA : 0 ≤ x12.toInt ∧ x12.toInt ≤ 9) (hB : 0 ≤ x13.toInt ∧ x13.toInt ≤ 9) (hx18 : x18 = ((x8 + ((20 : Int32) * (0 : Int32))) + x12)) (hx19 : x19 = ((x8 + ((20 : Int32) * (2 : Int32))) + x13)) (hz0 : x13 = (0 : Int32)) (hx20 : x20 = (((((10 : Int32) - x12).toInt64) + ((x13 + (1 : Int32)).toInt64)) + ((10 : Int64) * ((((2 : Int32) - (0 : Int32)) - (1 : Int32)).toInt64)))) : (((((((x8 + (9 : Int32)).toInt64) - (x18.toInt64)) + (1 : Int64)) + ((own_f21_0 (x8 + (29 : Int32)) (((x19.toInt64) - (1 : Int64)).toInt32)).toInt64)) - ((x8 + (20 : Int32)).toInt64)) + (1 : Int64)) = (x20 - (1 : Int64)) := by
  have e18 := own_mm (i := 0) hb hA (by decide) (by decide) hx18
  have e19 := own_mm (i := 40) hb hB (by decide) (by decide) hx19
  have z0 : x13.toInt = 0 := by rw [hz0]; rfl
  have eb := own_bd32 (x := x19) (by omega)
  have c9 : (x8 + (9 : Int32)).toInt = x8.toInt + 9 := own_ad2 rfl rfl (by omega)
  have c20 : (x8 + (20 : Int32)).toInt = x8.toInt + 20 := own_ad2 rfl rfl (by omega)
  have c29 : (x8 + (29 : Int32)).toInt = x8.toInt + 29 := own_ad2 rfl rfl (by omega)
  have em : (own_f21_0 (x8 + (29 : Int32)) (((x19.toInt64) - (1 : Int64)).toInt32)).toInt = x8.toInt + 29 := by rw [own_f21_0, if_neg (by rw [own_lt32, eb, c29]; omega)]; exact c29
  have ex := (own_pa (own_ps (own_pa (own_pa (own_ps (own_pt c9) (own_pt e18) (by omega)) (own_i64_1) (by omega)) (own_pt em) (by omega)) (own_pt c20) (by omega)) (own_i64_1) (by omega))
  have e20 := own_x20 (i := 10) hA hB (by decide) (by decide) hx20
  refine Int64.toInt_inj.mp ?_
  rw [ex, own_ps e20 rfl (by have o : (1 : Int64).toInt = 1 := rfl; omega)]
  have o : (1 : Int64).toInt = 1 := rfl
  omega
theorem own_rh2_122 {x8 x12 x13 x18 x19 : Int32} (hb : -1073741824 ≤ x8.toInt ∧ x8.toInt < 1073741824) (hA : 0 ≤ x12.toInt ∧ x12.toInt ≤ 9) (hB : 0 ≤ x13.toInt ∧ x13.toInt ≤ 9) (hx18 : x18 = ((x8 + ((20 : Int32) * (1 : Int32))) + x12)) (hx19 : x19 = ((x8 + ((20 : Int32) * (2 : Int32))) + x13)) (hz0 : ¬ x13 = (0 : Int32)) : ¬ ((lcmpW ((x19.toInt64) - (1 : Int64)) (x18.toInt64)) < (0 : Int32)) := by
  have e18 := own_mm (i := 20) hb hA (by decide) (by decide) hx18
  have e19 := own_mm (i := 40) hb hB (by decide) (by decide) hx19
  have z0 : 1 ≤ x13.toInt := by have q : x13.toInt ≠ 0 := fun q => hz0 (Int32.toInt_inj.mp (q.trans rfl)); omega
  have eb := own_bd32 (x := x19) (by omega)
  rw [lw_lt, Int64.lt_iff_toInt_lt, own_bd, own_pt rfl]; omega
theorem own_rq0_122 {x8 x12 x13 x18 x19 : Int32} (hb : -1073741824 ≤ x8.toInt ∧ x8.toInt < 1073741824) (hA : 0 ≤ x12.toInt ∧ x12.toInt ≤ 9) (hB : 0 ≤ x13.toInt ∧ x13.toInt ≤ 9) (hx18 : x18 = ((x8 + ((20 : Int32) * (1 : Int32))) + x12)) (hx19 : x19 = ((x8 + ((20 : Int32) * (2 : Int32))) + x13)) (hz0 : ¬ x13 = (0 : Int32)) : ¬ ((((x19.toInt64) - (1 : Int64)).toInt32) < (x8 + (40 : Int32))) := by
  have e18 := own_mm (i := 20) hb hA (by decide) (by decide) hx18
  have e19 := own_mm (i := 40) hb hB (by decide) (by decide) hx19
  have z0 : 1 ≤ x13.toInt := by have q : x13.toInt ≠ 0 := fun q => hz0 (Int32.toInt_inj.mp (q.trans rfl)); omega
  have eb := own_bd32 (x := x19) (by omega)
  have c : (x8 + (40 : Int32)).toInt = x8.toInt + 40 := own_ad2 rfl rfl (by omega)
  rw [own_lt32, eb, c]; omega
theorem own_rh9_122 {x8 x12 x13 x18 x19 : Int32} {x20 : Int64} (hb : -1073741824 ≤ x8.toInt ∧ x8.toInt < 1073741824) (hA : 0 ≤ x12.toInt ∧ x12.toInt ≤ 9) (hB : 0 ≤ x13.toInt ∧ x13.toInt ≤ 9) (hx18 : x18 = ((x8 + ((20 : Int32) * (1 : Int32))) + x12)) (hx19 : x19 = ((x8 + ((20 : Int32) * (2 : Int32))) + x13)) (hz0 : ¬ x13 = (0 : Int32)) (hx20 : x20 = (((((10 : Int32) - x12).toInt64) + ((x13 + (1 : Int32)).toInt64)) + ((10 : Int64) * ((((2 : Int32) - (1 : Int32)) - (1 : Int32)).toInt64)))) : ¬ ((lcmpW (((((((x8 + (29 : Int32)).toInt64) - (x18.toInt64)) + (1 : Int64)) + ((own_f21_0 (x8 + (49 : Int32)) (((x19.toInt64) - (1 : Int64)).toInt32)).toInt64)) - ((x8 + (40 : Int32)).toInt64)) + (1 : Int64)) (1 : Int64)) = (0 : Int32)) := by
  have e18 := own_mm (i := 20) hb hA (by decide) (by decide) hx18
  have e19 := own_mm (i := 40) hb hB (by decide) (by decide) hx19
  have z0 : 1 ≤ x13.toInt := by have q : x13.toInt ≠ 0 := fun q => hz0 (Int32.toInt_inj.mp (q.trans rfl)); omega
  have eb := own_bd32 (x := x19) (by omega)
  have c29 : (x8 + (29 : Int32)).toInt = x8.toInt + 29 := own_ad2 rfl rfl (by omega)
  have c40 : (x8 + (40 : Int32)).toInt = x8.toInt + 40 := own_ad2 rfl rfl (by omega)
  have c49 : (x8 + (49 : Int32)).toInt = x8.toInt + 49 := own_ad2 rfl rfl (by omega)
  have em : (own_f21_0 (x8 + (49 : Int32)) (((x19.toInt64) - (1 : Int64)).toInt32)).toInt = x8.toInt + 40 + x13.toInt - 1 := by rw [own_f21_0, if_pos (by rw [own_lt32, eb, c49]; omega)]; exact (by rw [eb, e19])
  have ex := (own_pa (own_ps (own_pa (own_pa (own_ps (own_pt c29) (own_pt e18) (by omega)) (own_i64_1) (by omega)) (own_pt em) (by omega)) (own_pt c40) (by omega)) (own_i64_1) (by omega))
  have e20 := own_x20 (i := 0) hA hB (by decide) (by decide) hx20
  rw [lw_eq, ← Int64.toInt_inj, ex]
  have o : (1 : Int64).toInt = 1 := rfl
  omega
theorem own_rx_122 {x8 x12 x13 x18 x19 : Int32} {x20 : Int64} (hb : -1073741824 ≤ x8.toInt ∧ x8.toInt < 1073741824) (hA : 0 ≤ x12.toInt ∧ x12.toInt ≤ 9) (hB : 0 ≤ x13.toInt ∧ x13.toInt ≤ 9) (hx18 : x18 = ((x8 + ((20 : Int32) * (1 : Int32))) + x12)) (hx19 : x19 = ((x8 + ((20 : Int32) * (2 : Int32))) + x13)) (hz0 : ¬ x13 = (0 : Int32)) (hx20 : x20 = (((((10 : Int32) - x12).toInt64) + ((x13 + (1 : Int32)).toInt64)) + ((10 : Int64) * ((((2 : Int32) - (1 : Int32)) - (1 : Int32)).toInt64)))) : (((((((x8 + (29 : Int32)).toInt64) - (x18.toInt64)) + (1 : Int64)) + ((own_f21_0 (x8 + (49 : Int32)) (((x19.toInt64) - (1 : Int64)).toInt32)).toInt64)) - ((x8 + (40 : Int32)).toInt64)) + (1 : Int64)) = (x20 - (1 : Int64)) := by
  have e18 := own_mm (i := 20) hb hA (by decide) (by decide) hx18
  have e19 := own_mm (i := 40) hb hB (by decide) (by decide) hx19
  have z0 : 1 ≤ x13.toInt := by have q : x13.toInt ≠ 0 := fun q => hz0 (Int32.toInt_inj.mp (q.trans rfl)); omega
  have eb := own_bd32 (x := x19) (by omega)
  have c29 : (x8 + (29 : Int32)).toInt = x8.toInt + 29 := own_ad2 rfl rfl (by omega)
  have c40 : (x8 + (40 : Int32)).toInt = x8.toInt + 40 := own_ad2 rfl rfl (by omega)
  have c49 : (x8 + (49 : Int32)).toInt = x8.toInt + 49 := own_ad2 rfl rfl (by omega)
  have em : (own_f21_0 (x8 + (49 : Int32)) (((x19.toInt64) - (1 : Int64)).toInt32)).toInt = x8.toInt + 40 + x13.toInt - 1 := by rw [own_f21_0, if_pos (by rw [own_lt32, eb, c49]; omega)]; exact (by rw [eb, e19])
  have ex := (own_pa (own_ps (own_pa (own_pa (own_ps (own_pt c29) (own_pt e18) (by omega)) (own_i64_1) (by omega)) (own_pt em) (by omega)) (own_pt c40) (by omega)) (own_i64_1) (by omega))
  have e20 := own_x20 (i := 0) hA hB (by decide) (by decide) hx20
  refine Int64.toInt_inj.mp ?_
  rw [ex, own_ps e20 rfl (by have o : (1 : Int64).toInt = 1 := rfl; omega)]
  have o : (1 : Int64).toInt = 1 := rfl
  omega
theorem own_rh2_121 {x8 x12 x13 x18 x19 : Int32} (hb : -1073741824 ≤ x8.toInt ∧ x8.toInt < 1073741824) (hA : 0 ≤ x12.toInt ∧ x12.toInt ≤ 9) (hB : 0 ≤ x13.toInt ∧ x13.toInt ≤ 9) (hx18 : x18 = ((x8 + ((20 : Int32) * (1 : Int32))) + x12)) (hx19 : x19 = ((x8 + ((20 : Int32) * (2 : Int32))) + x13)) (hz0 : x13 = (0 : Int32)) : ¬ ((lcmpW ((x19.toInt64) - (1 : Int64)) (x18.toInt64)) < (0 : Int32)) := by
  have e18 := own_mm (i := 20) hb hA (by decide) (by decide) hx18
  have e19 := own_mm (i := 40) hb hB (by decide) (by decide) hx19
  have z0 : x13.toInt = 0 := by rw [hz0]; rfl
  have eb := own_bd32 (x := x19) (by omega)
  rw [lw_lt, Int64.lt_iff_toInt_lt, own_bd, own_pt rfl]; omega
theorem own_rq0_121 {x8 x12 x13 x18 x19 : Int32} (hb : -1073741824 ≤ x8.toInt ∧ x8.toInt < 1073741824) (hA : 0 ≤ x12.toInt ∧ x12.toInt ≤ 9) (hB : 0 ≤ x13.toInt ∧ x13.toInt ≤ 9) (hx18 : x18 = ((x8 + ((20 : Int32) * (1 : Int32))) + x12)) (hx19 : x19 = ((x8 + ((20 : Int32) * (2 : Int32))) + x13)) (hz0 : x13 = (0 : Int32)) : (((x19.toInt64) - (1 : Int64)).toInt32) < (x8 + (40 : Int32)) := by
  have e18 := own_mm (i := 20) hb hA (by decide) (by decide) hx18
  have e19 := own_mm (i := 40) hb hB (by decide) (by decide) hx19
  have z0 : x13.toInt = 0 := by rw [hz0]; rfl
  have eb := own_bd32 (x := x19) (by omega)
  have c : (x8 + (40 : Int32)).toInt = x8.toInt + 40 := own_ad2 rfl rfl (by omega)
  rw [own_lt32, eb, c]; omega
theorem own_rx_121 {x8 x12 x13 x18 x19 : Int32} {x20 : Int64} (hb : -1073741824 ≤ x8.toInt ∧ x8.toInt < 1073741824) (hA : 0 ≤ x12.toInt ∧ x12.toInt ≤ 9) (hB : 0 ≤ x13.toInt ∧ x13.toInt ≤ 9) (hx18 : x18 = ((x8 + ((20 : Int32) * (1 : Int32))) + x12)) (hx19 : x19 = ((x8 + ((20 : Int32) * (2 : Int32))) + x13)) (hz0 : x13 = (0 : Int32)) (hx20 : x20 = (((((10 : Int32) - x12).toInt64) + ((x13 + (1 : Int32)).toInt64)) + ((10 : Int64) * ((((2 : Int32) - (1 : Int32)) - (1 : Int32)).toInt64)))) : ((((own_f21_0 (x8 + (29 : Int32)) (((x19.toInt64) - (1 : Int64)).toInt32)).toInt64) - (x18.toInt64)) + (1 : Int64)) = (x20 - (1 : Int64)) := by
  have e18 := own_mm (i := 20) hb hA (by decide) (by decide) hx18
  have e19 := own_mm (i := 40) hb hB (by decide) (by decide) hx19
  have z0 : x13.toInt = 0 := by rw [hz0]; rfl
  have eb := own_bd32 (x := x19) (by omega)
  have c29 : (x8 + (29 : Int32)).toInt = x8.toInt + 29 := own_ad2 rfl rfl (by omega)
  have em : (own_f21_0 (x8 + (29 : Int32)) (((x19.toInt64) - (1 : Int64)).toInt32)).toInt = x8.toInt + 29 := by rw [own_f21_0, if_neg (by rw [own_lt32, eb, c29]; omega)]; exact c29
  have ex := (own_pa (own_ps (own_pt em) (own_pt e18) (by omega)) (own_i64_1) (by omega))
  have e20 := own_x20 (i := 0) hA hB (by decide) (by decide) hx20
  refine Int64.toInt_inj.mp ?_
  rw [ex, own_ps e20 rfl (by have o : (1 : Int64).toInt = 1 := rfl; omega)]
  have o : (1 : Int64).toInt = 1 := rfl
  omega
def own_cBg (x15 x16 mn mx vv b : Int32) : Int32 := if x15 = 1 then own_cB12 mn mx vv b else if x16 = 1 then own_cB01 mn mx vv b else own_cB02 mn mx vv b
theorem own_g01 (mn mx vv b : Int32) : own_cBg (0 : Int32) (1 : Int32) mn mx vv b = own_cB01 mn mx vv b := by rw [own_cBg, if_neg (by decide), if_pos rfl]
theorem own_g02 (mn mx vv b : Int32) : own_cBg (0 : Int32) (2 : Int32) mn mx vv b = own_cB02 mn mx vv b := by rw [own_cBg, if_neg (by decide), if_neg (by decide)]
theorem own_g12 (mn mx vv b : Int32) : own_cBg (1 : Int32) (2 : Int32) mn mx vv b = own_cB12 mn mx vv b := by rw [own_cBg, if_pos rfl]
theorem own_eB0 {x15 x16 x18 x19 x10 x8 : Int32} (hfl : (x15 = (0 : Int32) ∧ x16 = (1 : Int32)) ∨ (x15 = (0 : Int32) ∧ x16 = (2 : Int32)) ∨ (x15 = (1 : Int32) ∧ x16 = (2 : Int32))) (h : x10 < x18) : own_cBg x15 x16 x18 x19 x10 x8 = 0 := by
  rcases hfl with ⟨rfl, rfl⟩ | ⟨rfl, rfl⟩ | ⟨rfl, rfl⟩
  · rw [own_g01]; exact if_pos h
  · rw [own_g02]; exact if_pos h
  · rw [own_g12]; exact if_pos h
theorem own_eB1 {x15 x16 x18 x19 x10 x8 : Int32} (hfl : (x15 = (0 : Int32) ∧ x16 = (1 : Int32)) ∨ (x15 = (0 : Int32) ∧ x16 = (2 : Int32)) ∨ (x15 = (1 : Int32) ∧ x16 = (2 : Int32))) (h : ¬ x10 < x18) (h2 : x19 < x10) : own_cBg x15 x16 x18 x19 x10 x8 = 0 := by
  rcases hfl with ⟨rfl, rfl⟩ | ⟨rfl, rfl⟩ | ⟨rfl, rfl⟩
  · rw [own_g01]; exact (if_neg h).trans (if_pos h2)
  · rw [own_g02]; exact (if_neg h).trans (if_pos h2)
  · rw [own_g12]; exact (if_neg h).trans (if_pos h2)
theorem own_eB2 {x8 x9 x10 x12 x13 x15 x16 x18 x19 : Int32} (hb : -1073741824 ≤ x8.toInt ∧ x8.toInt < 1073741824) (hk : 0 ≤ x9.toInt ∧ x9.toInt ≤ 63) (hv : x10 = x8 + x9) (hA : 0 ≤ x12.toInt ∧ x12.toInt ≤ 9) (hB : 0 ≤ x13.toInt ∧ x13.toInt ≤ 9) (hfl : (x15 = (0 : Int32) ∧ x16 = (1 : Int32)) ∨ (x15 = (0 : Int32) ∧ x16 = (2 : Int32)) ∨ (x15 = (1 : Int32) ∧ x16 = (2 : Int32))) (hx18 : x18 = ((x8 + ((20 : Int32) * x15)) + x12)) (hx19 : x19 = ((x8 + ((20 : Int32) * x16)) + x13)) (h : ¬ x10 < x18) (h2 : ¬ x19 < x10) (h3 : (x9 % (20 : Int32)) < (10 : Int32)) : own_cBg x15 x16 x18 x19 x10 x8 = 1 := by
  have ev : x10.toInt = x8.toInt + x9.toInt := by rw [hv]; exact own_ad2 rfl rfl (by omega)
  have er : (x9 % (20 : Int32)).toInt = x9.toInt % 20 := Jvm.Kit.i32_rem_nonneg (by omega)
  have u : (10 : Int32).toInt = 10 := rfl
  rw [own_lt32, er, u] at h3
  have c9 : ((x8 + (9 : Int32)) < x10) = (9 < x9.toInt) := by rw [own_lt32, ev, own_ad2 (j := 9) rfl rfl (by omega)]; exact propext (by omega)
  have c29 : ((x8 + (29 : Int32)) < x10) = (29 < x9.toInt) := by rw [own_lt32, ev, own_ad2 (j := 29) rfl rfl (by omega)]; exact propext (by omega)
  have c20 : (x10 < (x8 + (20 : Int32))) = (x9.toInt < 20) := by rw [own_lt32, ev, own_ad2 (j := 20) rfl rfl (by omega)]; exact propext (by omega)
  have c40 : (x10 < (x8 + (40 : Int32))) = (x9.toInt < 40) := by rw [own_lt32, ev, own_ad2 (j := 40) rfl rfl (by omega)]; exact propext (by omega)
  have c0 : (x10 < x8) = (x9.toInt < 0) := by rw [own_lt32, ev]; exact propext (by omega)
  have k1 := h
  have k2 := h2
  rw [own_lt32, ev] at k1 k2
  rcases hfl with ⟨rfl, rfl⟩ | ⟨rfl, rfl⟩ | ⟨rfl, rfl⟩
  · have e18 := own_mm (i := 0) hb hA (by decide) (by decide) hx18
    have e19 := own_mm (i := 20) hb hB (by decide) (by decide) hx19
    rw [e18] at k1
    rw [e19] at k2
    rw [own_g01, own_cB01, if_neg h, if_neg h2]
    simp only [c9, c20, c0]
    repeat' split
    all_goals first | rfl | (exfalso; omega)
  · have e18 := own_mm (i := 0) hb hA (by decide) (by decide) hx18
    have e19 := own_mm (i := 40) hb hB (by decide) (by decide) hx19
    rw [e18] at k1
    rw [e19] at k2
    rw [own_g02, own_cB02, if_neg h, if_neg h2]
    simp only [c9, c29, c20, c40, c0]
    repeat' split
    all_goals first | rfl | (exfalso; omega)
  · have e18 := own_mm (i := 20) hb hA (by decide) (by decide) hx18
    have e19 := own_mm (i := 40) hb hB (by decide) (by decide) hx19
    rw [e18] at k1
    rw [e19] at k2
    rw [own_g12, own_cB12, if_neg h, if_neg h2]
    simp only [c29, c40, c20]
    repeat' split
    all_goals first | rfl | (exfalso; omega)
theorem own_eB3 {x8 x9 x10 x12 x13 x15 x16 x18 x19 : Int32} (hb : -1073741824 ≤ x8.toInt ∧ x8.toInt < 1073741824) (hk : 0 ≤ x9.toInt ∧ x9.toInt ≤ 63) (hv : x10 = x8 + x9) (hA : 0 ≤ x12.toInt ∧ x12.toInt ≤ 9) (hB : 0 ≤ x13.toInt ∧ x13.toInt ≤ 9) (hfl : (x15 = (0 : Int32) ∧ x16 = (1 : Int32)) ∨ (x15 = (0 : Int32) ∧ x16 = (2 : Int32)) ∨ (x15 = (1 : Int32) ∧ x16 = (2 : Int32))) (hx18 : x18 = ((x8 + ((20 : Int32) * x15)) + x12)) (hx19 : x19 = ((x8 + ((20 : Int32) * x16)) + x13)) (h : ¬ x10 < x18) (h2 : ¬ x19 < x10) (h3 : ¬ (x9 % (20 : Int32)) < (10 : Int32)) : own_cBg x15 x16 x18 x19 x10 x8 = 0 := by
  have ev : x10.toInt = x8.toInt + x9.toInt := by rw [hv]; exact own_ad2 rfl rfl (by omega)
  have er : (x9 % (20 : Int32)).toInt = x9.toInt % 20 := Jvm.Kit.i32_rem_nonneg (by omega)
  have u : (10 : Int32).toInt = 10 := rfl
  rw [own_lt32, er, u] at h3
  have c9 : ((x8 + (9 : Int32)) < x10) = (9 < x9.toInt) := by rw [own_lt32, ev, own_ad2 (j := 9) rfl rfl (by omega)]; exact propext (by omega)
  have c29 : ((x8 + (29 : Int32)) < x10) = (29 < x9.toInt) := by rw [own_lt32, ev, own_ad2 (j := 29) rfl rfl (by omega)]; exact propext (by omega)
  have c20 : (x10 < (x8 + (20 : Int32))) = (x9.toInt < 20) := by rw [own_lt32, ev, own_ad2 (j := 20) rfl rfl (by omega)]; exact propext (by omega)
  have c40 : (x10 < (x8 + (40 : Int32))) = (x9.toInt < 40) := by rw [own_lt32, ev, own_ad2 (j := 40) rfl rfl (by omega)]; exact propext (by omega)
  have c0 : (x10 < x8) = (x9.toInt < 0) := by rw [own_lt32, ev]; exact propext (by omega)
  have k1 := h
  have k2 := h2
  rw [own_lt32, ev] at k1 k2
  rcases hfl with ⟨rfl, rfl⟩ | ⟨rfl, rfl⟩ | ⟨rfl, rfl⟩
  · have e18 := own_mm (i := 0) hb hA (by decide) (by decide) hx18
    have e19 := own_mm (i := 20) hb hB (by decide) (by decide) hx19
    rw [e18] at k1
    rw [e19] at k2
    rw [own_g01, own_cB01, if_neg h, if_neg h2]
    simp only [c9, c20, c0]
    repeat' split
    all_goals first | rfl | (exfalso; omega)
  · have e18 := own_mm (i := 0) hb hA (by decide) (by decide) hx18
    have e19 := own_mm (i := 40) hb hB (by decide) (by decide) hx19
    rw [e18] at k1
    rw [e19] at k2
    rw [own_g02, own_cB02, if_neg h, if_neg h2]
    simp only [c9, c29, c20, c40, c0]
    repeat' split
    all_goals first | rfl | (exfalso; omega)
  · have e18 := own_mm (i := 20) hb hA (by decide) (by decide) hx18
    have e19 := own_mm (i := 40) hb hB (by decide) (by decide) hx19
    rw [e18] at k1
    rw [e19] at k2
    rw [own_g12, own_cB12, if_neg h, if_neg h2]
    simp only [c29, c40, c20]
    repeat' split
    all_goals first | rfl | (exfalso; omega)
set_option maxRecDepth 65536 in
set_option maxHeartbeats 16000000 in
theorem own_t128 {p : Program} {l : Launch} {e : Env} {s : State} {m : MethodId} {args : Array Value} {below : List Frame} {meth : Method} {c : Code} {T : State} {locs : List Loc} {cells slots : Nat} {k0 : Nat} {vm0 : Vm} {Z : State} {a0 : Array Value} {h0 : Heap} {n0 : Nat} (X0 : Stand p l e room_1 (s.setVm vm0) m args below meth c T locs cells slots) (hx : p.tables.exec = Jvm.exec) (hlk : meth.locks = false) (hby : c.code = code) (hml : c.maxLocals = 26) (hret : meth.sig.returnType = some .boolean) (hown : (s.setVm vm0).vm.findClass own_z17 = some m.cls) (hZ : Z.Warmed39 (s.setVm vm0).vm) (hw : own_HW Z a0) (e0 : T.heap = h0) (N0 : Fr n0 locs) (Z0 : n0 ≤ h0.size) (hcc : cells ≤ 20) (hss : slots ≤ 1086) (hS : s.Since vm0 k0) (hk0 : k0 ≤ h0.size) (x0 : Int64) (x2 : Int64) (x4 : Int32) (x5 : Int32) (x6 : Int32) (x7 : Int32) (x8 : Int32) (x9 : Int32) (x10 : Int32) (x11 : Addr) (x12 : Int32) (x13 : Int32) (x14 : Addr) (y0 : Int32) (hbb : -1073741824 ≤ x8.toInt ∧ x8.toInt < 1073741824) (hk : 0 ≤ x9.toInt ∧ x9.toInt ≤ 63) (hv : x10 = x8 + x9) (hy : own_cA x12 x13 x8 x10 x0 = y0) (H0 : Exa Z h0 x14 own_z0) (H1 : Fld Z h0 x14 own_z0 "min" "I" (.int x12)) (H2 : Fld Z h0 x14 own_z0 "max" "I" (.int x13)) (H3 : Fld Z h0 x14 own_z0 "size" "J" (.long x2)) (H4 : Fld Z h0 x14 own_z0 "bits" "J" (.long x0)) (H5 : Fld Z h0 x14 own_z0 "stamp" "I" (.int x4)) (H6 : Fld Z h0 x14 own_z0 "small" "Z" (.int (1 : Int32))) (H7 : Fld Z h0 x14 own_z0 "initialMin" "I" (.int x8)) (g_x14 : n0 ≤ x14) :
    own_GoW p e below s T (mkF m 128 #[.val (.long x0), .second, .val (.long x2), .second, iv x4, iv x5, iv x6, iv x7, iv x8, iv x9, iv x10, rv x11, iv x12, iv x13, rv x14, .unset, .unset, .unset, .unset, .unset, .unset, .unset, .unset, .unset, .unset, .unset] [(.int y0)]) (own_Q0 n0) 48 3264 := by
  refine own_stW (g' := (mkF m 132 #[.val (.long x0), .second, .val (.long x2), .second, iv x4, iv x5, iv x6, iv x7, iv x8, iv x9, iv x10, rv x11, iv x12, iv x13, rv x14, iv y0, .unset, .unset, .unset, .unset, .unset, .unset, .unset, .unset, .unset, .unset] [(.ref x14)])) (fun tt_ kk_ => XS.istore X0.here hx rfl (hb hby at_128) rfl (l' := #[.val (.long x0), .second, .val (.long x2), .second, iv x4, iv x5, iv x6, iv x7, iv x8, iv x9, iv x10, rv x11, iv x12, iv x13, rv x14, iv y0, .unset, .unset, .unset, .unset, .unset, .unset, .unset, .unset, .unset, .unset]) rfl (XS.aload X0.here hx rfl (hb hby at_130) rfl rfl kk_)) ?_
  obtain ⟨cq990, kq990, q990a, q990b, q990c⟩ := isOf hZ e0 H0
  obtain ⟨_, _, ⟨T990, L990, k990, n990⟩, -, X990, ⟨Lc990, hQ990, l990, y990, z990⟩, st990⟩ := X0.virtualBack hx (y := (⟨own_z0, "min", "()I"⟩ : MethodName)) (z := (⟨own_z0, "min", "()I"⟩ : MethodName)) hown (mvT hZ (own_w hw 139 rfl)) (mvT hZ (own_w hw 140 rfl)) (notFace_of_selects (args := #[]) (mvT hZ (own_w hw 142 rfl))) (mvT hZ (own_w hw 142 rfl)) (mvT hZ (own_w hw 141 rfl)) (by decide) (backOf (W := 0) (own_rmgmin l Z a0 hw [] x14 x12 h0 n0 Z0 H1) hZ (own_w hw 143 rfl) (own_w hw 85 rfl) (by decide) (by decide)) q990a q990c (g := (mkF m 132 #[.val (.long x0), .second, .val (.long x2), .second, iv x4, iv x5, iv x6, iv x7, iv x8, iv x9, iv x10, rv x11, iv x12, iv x13, rv x14, iv y0, .unset, .unset, .unset, .unset, .unset, .unset, .unset, .unset, .unset, .unset] [(.ref x14)])) rfl (by rw [hml]; rfl) (Steps.refl _) (argsL := []) (rest := []) (lenOf own_pd3 rfl) rfl (by show 2 * 0 + _ ≤ _; exact Nat.le_of_eq rfl) (hb hby at_132) (fun _ _ => ⟨rfl, e0, (show cells + 0 ≤ 48 by omega), (show slots + 0 ≤ 3264 by omega)⟩)
  dsimp only [Pt.U, Pt.locs, Pt.cells, Pt.slots] at X990 l990 y990 z990 st990 hQ990
  rw [l990, y990, z990] at X990
  obtain ⟨rfl, N990q, e990⟩ := hQ990
  have N990 := Fr.app N0 N990q
  refine own_stW (fun t k => st990.trans k) ?_
  refine own_stW (g' := (mkF m 142 #[.val (.long x0), .second, .val (.long x2), .second, iv x4, iv x5, iv x6, iv x7, iv x8, iv x9, iv x10, rv x11, iv x12, iv x13, rv x14, iv y0, .unset, .unset, .unset, .unset, .unset, .unset, .unset, .unset, .unset, .unset] [(.ref x14)])) (fun tt_ kk_ => XS.iload X990.here hx rfl (hb hby at_135) rfl (XS.icmpNo X990.here hx rfl (hb hby at_137) rfl (teq (rfl : x12 = x12)).2 (XS.aload X990.here hx rfl (hb hby at_140) rfl rfl kk_))) ?_
  obtain ⟨cq991, kq991, q991a, q991b, q991c⟩ := isOf hZ e990 H0
  obtain ⟨_, _, ⟨T991, L991, k991, n991⟩, -, X991, ⟨Lc991, hQ991, l991, y991, z991⟩, st991⟩ := X990.virtualBack hx (y := (⟨own_z0, "max", "()I"⟩ : MethodName)) (z := (⟨own_z0, "max", "()I"⟩ : MethodName)) hown (mvT hZ (own_w hw 144 rfl)) (mvT hZ (own_w hw 145 rfl)) (notFace_of_selects (args := #[]) (mvT hZ (own_w hw 147 rfl))) (mvT hZ (own_w hw 147 rfl)) (mvT hZ (own_w hw 146 rfl)) (by decide) (backOf (W := 0) (own_rmgmax l Z a0 hw [] x14 x13 h0 n0 Z0 H2) hZ (own_w hw 148 rfl) (own_w hw 85 rfl) (by decide) (by decide)) q991a q991c (g := (mkF m 142 #[.val (.long x0), .second, .val (.long x2), .second, iv x4, iv x5, iv x6, iv x7, iv x8, iv x9, iv x10, rv x11, iv x12, iv x13, rv x14, iv y0, .unset, .unset, .unset, .unset, .unset, .unset, .unset, .unset, .unset, .unset] [(.ref x14)])) rfl (by rw [hml]; rfl) (Steps.refl _) (argsL := []) (rest := []) (lenOf own_pd3 rfl) rfl (by show 2 * 0 + _ ≤ _; exact Nat.le_of_eq rfl) (hb hby at_142) (fun _ _ => ⟨rfl, e990, (show cells + 0 ≤ 48 by omega), (show slots + 0 ≤ 3264 by omega)⟩)
  dsimp only [Pt.U, Pt.locs, Pt.cells, Pt.slots] at X991 l991 y991 z991 st991 hQ991
  rw [l991, y991, z991] at X991
  obtain ⟨rfl, N991q, e991⟩ := hQ991
  have N991 := Fr.app N990 N991q
  refine own_stW (fun t k => st991.trans k) ?_
  refine own_stW (g' := (mkF m 152 #[.val (.long x0), .second, .val (.long x2), .second, iv x4, iv x5, iv x6, iv x7, iv x8, iv x9, iv x10, rv x11, iv x12, iv x13, rv x14, iv y0, .unset, .unset, .unset, .unset, .unset, .unset, .unset, .unset, .unset, .unset] [(.ref x14)])) (fun tt_ kk_ => XS.iload X991.here hx rfl (hb hby at_145) rfl (XS.icmpNo X991.here hx rfl (hb hby at_147) rfl (teq (rfl : x13 = x13)).2 (XS.aload X991.here hx rfl (hb hby at_150) rfl rfl kk_))) ?_
  obtain ⟨cq992, kq992, q992a, q992b, q992c⟩ := isOf hZ e991 H0
  obtain ⟨_, _, ⟨T992, L992, k992, n992⟩, -, X992, ⟨Lc992, hQ992, l992, y992, z992⟩, st992⟩ := X991.virtualBack hx (y := (⟨own_z0, "size", "()J"⟩ : MethodName)) (z := (⟨own_z0, "size", "()J"⟩ : MethodName)) hown (mvT hZ (own_w hw 149 rfl)) (mvT hZ (own_w hw 150 rfl)) (notFace_of_selects (args := #[]) (mvT hZ (own_w hw 152 rfl))) (mvT hZ (own_w hw 152 rfl)) (mvT hZ (own_w hw 151 rfl)) (by decide) (backOf (W := 0) (own_rmgsiz l Z a0 hw [] x14 x2 h0 n0 Z0 H3) hZ (own_w hw 153 rfl) (own_w hw 85 rfl) (by decide) (by decide)) q992a q992c (g := (mkF m 152 #[.val (.long x0), .second, .val (.long x2), .second, iv x4, iv x5, iv x6, iv x7, iv x8, iv x9, iv x10, rv x11, iv x12, iv x13, rv x14, iv y0, .unset, .unset, .unset, .unset, .unset, .unset, .unset, .unset, .unset, .unset] [(.ref x14)])) rfl (by rw [hml]; rfl) (Steps.refl _) (argsL := []) (rest := []) (lenOf own_pd11 rfl) rfl (by show 2 * 0 + _ ≤ _; exact Nat.le_of_eq rfl) (hb hby at_152) (fun _ _ => ⟨rfl, e991, (show cells + 0 ≤ 48 by omega), (show slots + 0 ≤ 3264 by omega)⟩)
  dsimp only [Pt.U, Pt.locs, Pt.cells, Pt.slots] at X992 l992 y992 z992 st992 hQ992
  rw [l992, y992, z992] at X992
  obtain ⟨rfl, N992q, e992⟩ := hQ992
  have N992 := Fr.app N991 N992q
  refine own_stW (fun t k => st992.trans k) ?_
  refine own_stW (g' := (mkF m 157 #[.val (.long x0), .second, .val (.long x2), .second, iv x4, iv x5, iv x6, iv x7, iv x8, iv x9, iv x10, rv x11, iv x12, iv x13, rv x14, iv y0, .unset, .unset, .unset, .unset, .unset, .unset, .unset, .unset, .unset, .unset] [(.int (lcmpW x2 x2))])) (fun tt_ kk_ => XS.lloadN X992.here hx rfl (hb hby at_155) rfl (XS.lcmp X992.here hx rfl (hb hby at_156) rfl kk_)) ?_
  refine own_stW (g' := (mkF m 162 #[.val (.long x0), .second, .val (.long x2), .second, iv x4, iv x5, iv x6, iv x7, iv x8, iv x9, iv x10, rv x11, iv x12, iv x13, rv x14, iv y0, .unset, .unset, .unset, .unset, .unset, .unset, .unset, .unset, .unset, .unset] [(.ref x14)])) (fun tt_ kk_ => XS.ifNo X992.here hx rfl (hb hby at_157) rfl ((if0 _ _).trans (teq ((lw_eq _ _).mpr rfl)).2) (XS.aload X992.here hx rfl (hb hby at_160) rfl rfl kk_)) ?_
  obtain ⟨cq993, kq993, q993a, q993b, q993c⟩ := isOf hZ e992 H0
  obtain ⟨_, _, ⟨T993, L993, k993, n993⟩, -, X993, ⟨Lc993, hQ993, l993, y993, z993⟩, st993⟩ := X992.virtualBack hx (y := (⟨own_z0, "stamp", "()I"⟩ : MethodName)) (z := (⟨own_z0, "stamp", "()I"⟩ : MethodName)) hown (mvT hZ (own_w hw 154 rfl)) (mvT hZ (own_w hw 155 rfl)) (notFace_of_selects (args := #[]) (mvT hZ (own_w hw 157 rfl))) (mvT hZ (own_w hw 157 rfl)) (mvT hZ (own_w hw 156 rfl)) (by decide) (backOf (W := 0) (own_rmgstp l Z a0 hw [] x14 x4 h0 n0 Z0 H5) hZ (own_w hw 158 rfl) (own_w hw 85 rfl) (by decide) (by decide)) q993a q993c (g := (mkF m 162 #[.val (.long x0), .second, .val (.long x2), .second, iv x4, iv x5, iv x6, iv x7, iv x8, iv x9, iv x10, rv x11, iv x12, iv x13, rv x14, iv y0, .unset, .unset, .unset, .unset, .unset, .unset, .unset, .unset, .unset, .unset] [(.ref x14)])) rfl (by rw [hml]; rfl) (Steps.refl _) (argsL := []) (rest := []) (lenOf own_pd3 rfl) rfl (by show 2 * 0 + _ ≤ _; exact Nat.le_of_eq rfl) (hb hby at_162) (fun _ _ => ⟨rfl, e992, (show cells + 0 ≤ 48 by omega), (show slots + 0 ≤ 3264 by omega)⟩)
  dsimp only [Pt.U, Pt.locs, Pt.cells, Pt.slots] at X993 l993 y993 z993 st993 hQ993
  rw [l993, y993, z993] at X993
  obtain ⟨rfl, N993q, e993⟩ := hQ993
  have N993 := Fr.app N992 N993q
  refine own_stW (fun t k => st993.trans k) ?_
  refine own_stW (g' := (mkF m 174 #[.val (.long x0), .second, .val (.long x2), .second, iv x4, iv x5, iv x6, iv x7, iv x8, iv x9, iv x10, rv x11, iv x12, iv x13, rv x14, iv y0, .unset, .unset, .unset, .unset, .unset, .unset, .unset, .unset, .unset, .unset] [(.int x10), (.ref x14)])) (fun tt_ kk_ => XS.iload X993.here hx rfl (hb hby at_165) rfl (XS.icmpNo X993.here hx rfl (hb hby at_167) rfl (teq (rfl : x4 = x4)).2 (XS.aload X993.here hx rfl (hb hby at_170) rfl rfl (XS.iload X993.here hx rfl (hb hby at_172) rfl kk_)))) ?_
  obtain ⟨cq994, kq994, q994a, q994b, q994c⟩ := isOf hZ e993 H0
  obtain ⟨_, _, ⟨T994, L994, k994, n994⟩, -, X994, ⟨Lc994, hQ994, l994, y994, z994⟩, st994⟩ := X993.virtualBack hx (y := (⟨own_z0, "contains", "(I)Z"⟩ : MethodName)) (z := (⟨own_z0, "contains", "(I)Z"⟩ : MethodName)) hown (mvT hZ (own_w hw 159 rfl)) (mvT hZ (own_w hw 160 rfl)) (notFace_of_selects (args := #[]) (mvT hZ (own_w hw 162 rfl))) (mvT hZ (own_w hw 162 rfl)) (mvT hZ (own_w hw 161 rfl)) (by decide) (backOf (W := 0) (own_rmconA l Z a0 hw [] x14 x10 x12 x13 x8 x0 h0 n0 Z0 H1 H2 H6 H4 H7) hZ (own_w hw 163 rfl) (own_w hw 85 rfl) (by decide) (by decide)) q994a q994c (g := (mkF m 174 #[.val (.long x0), .second, .val (.long x2), .second, iv x4, iv x5, iv x6, iv x7, iv x8, iv x9, iv x10, rv x11, iv x12, iv x13, rv x14, iv y0, .unset, .unset, .unset, .unset, .unset, .unset, .unset, .unset, .unset, .unset] [(.int x10), (.ref x14)])) rfl (by rw [hml]; rfl) (Steps.refl _) (argsL := [(.int x10)]) (rest := []) (lenOf own_pd12 rfl) rfl (by show 2 * 0 + _ ≤ _; exact Nat.le_of_eq rfl) (hb hby at_174) (fun _ _ => ⟨rfl, e993, (show cells + 0 ≤ 48 by omega), (show slots + 0 ≤ 3264 by omega)⟩)
  dsimp only [Pt.U, Pt.locs, Pt.cells, Pt.slots] at X994 l994 y994 z994 st994 hQ994
  rw [l994, y994, z994] at X994
  obtain ⟨rfl, N994q, e994⟩ := hQ994
  have N994 := Fr.app N993 N994q
  refine own_stW (fun t k => st994.trans k) ?_
  refine own_stW (g' := (mkF m 179 #[.val (.long x0), .second, .val (.long x2), .second, iv x4, iv x5, iv x6, iv x7, iv x8, iv x9, iv x10, rv x11, iv x12, iv x13, rv x14, iv y0, .unset, .unset, .unset, .unset, .unset, .unset, .unset, .unset, .unset, .unset] [(.int y0), (.int (own_cA x12 x13 x8 x10 x0))])) (fun tt_ kk_ => XS.iload X994.here hx rfl (hb hby at_177) rfl kk_) ?_
  refine own_stW (g' := (mkF m 187 #[.val (.long x0), .second, .val (.long x2), .second, iv x4, iv x5, iv x6, iv x7, iv x8, iv x9, iv x10, rv x11, iv x12, iv x13, rv x14, iv y0, .unset, .unset, .unset, .unset, .unset, .unset, .unset, .unset, .unset, .unset] [(.int (1 : Int32))])) (fun tt_ kk_ => XS.icmpNo X994.here hx rfl (hb hby at_179) rfl (teq hy).2 (XS.iconst X994.here hx rfl (hb hby at_182) (XS.goto X994.here hx rfl (pc0 := 183) (pc' := 187) rfl (hb hby at_183) (by decide) (by decide) kk_))) ?_
  exact own_retNW X994 hx hlk (t := .boolean) (Or.inl rfl) hret (hb hby at_187) (by omega) (by omega) hS (by rw [e994]; exact hk0) ⟨rfl, N994⟩
set_option maxRecDepth 65536 in
set_option maxHeartbeats 16000000 in
theorem own_t70 {p : Program} {l : Launch} {e : Env} {s : State} {m : MethodId} {args : Array Value} {below : List Frame} {meth : Method} {c : Code} {T : State} {locs : List Loc} {cells slots : Nat} {k0 : Nat} {vm0 : Vm} {Z : State} {a0 : Array Value} {h0 : Heap} {n0 : Nat} (X0 : Stand p l e room_1 (s.setVm vm0) m args below meth c T locs cells slots) (hx : p.tables.exec = Jvm.exec) (hlk : meth.locks = false) (hby : c.code = code) (hml : c.maxLocals = 26) (hret : meth.sig.returnType = some .boolean) (hown : (s.setVm vm0).vm.findClass own_z17 = some m.cls) (hZ : Z.Warmed39 (s.setVm vm0).vm) (hw : own_HW Z a0) (e0 : T.heap = h0) (N0 : Fr n0 locs) (Z0 : n0 ≤ h0.size) (hcc : cells ≤ 18) (hss : slots ≤ 1086) (hS : s.Since vm0 k0) (hk0 : k0 ≤ h0.size) (x0 : Int64) (x2 : Int64) (x4 : Int32) (x5 : Int32) (x6 : Int32) (x7 : Int32) (x8 : Int32) (x9 : Int32) (x10 : Int32) (x11 : Addr) (x12 : Int32) (x13 : Int32) (y0 : Addr) (y1 : Int32) (y3 : Addr) (hbb : -1073741824 ≤ x8.toInt ∧ x8.toInt < 1073741824) (hk : 0 ≤ x9.toInt ∧ x9.toInt ≤ 63) (hv : x10 = x8 + x9) (H0 : Exa Z h0 y3 own_z0) (H1 : Fld Z h0 y3 own_z0 "watchers" own_z3 .null) (H2 : Fld Z h0 y3 own_z0 "tags" "[I" .null) (H3 : Fld Z h0 y3 own_z0 "model" own_z4 .null) (H4 : Fld Z h0 y3 own_z0 "index" "I" (.int (0 : Int32))) (H5 : Fld Z h0 y3 own_z0 "name" own_z12 .null) (H6 : Fld Z h0 y3 own_z0 "min" "I" (.int (0 : Int32))) (H7 : Fld Z h0 y3 own_z0 "max" "I" (.int (0 : Int32))) (H8 : Fld Z h0 y3 own_z0 "initialMin" "I" (.int (0 : Int32))) (H9 : Fld Z h0 y3 own_z0 "initialMax" "I" (.int (0 : Int32))) (H10 : Fld Z h0 y3 own_z0 "size" "J" (.long (0 : Int64))) (H11 : Fld Z h0 y3 own_z0 "small" "Z" (.int (0 : Int32))) (H12 : Fld Z h0 y3 own_z0 "bits" "J" (.long (0 : Int64))) (H13 : Fld Z h0 y3 own_z0 "ranges" "[I" .null) (H14 : Fld Z h0 y3 own_z0 "first" "I" (.int (0 : Int32))) (H15 : Fld Z h0 y3 own_z0 "last" "I" (.int (0 : Int32))) (H16 : Fld Z h0 y3 own_z0 "stamp" "I" (.int (0 : Int32))) (H17 : Fld Z h0 y3 own_z0 "boundsFrom" "I" (.int (0 : Int32))) (H18 : Fld Z h0 y3 own_z0 "toldFrom" "I" (.int (0 : Int32))) (H19 : Fld Z h0 y3 own_z0 own_z9 "I" (.int (0 : Int32))) (H20 : Fld Z h0 y3 own_z0 "domainFrom" "I" (.int (0 : Int32))) (g_y3 : n0 ≤ y3) :
    own_GoW p e below s T (mkF m 70 #[.val (.long x0), .second, .val (.long x2), .second, iv x4, iv x5, iv x6, iv x7, iv x8, iv x9, iv x10, rv x11, iv x12, iv x13, .unset, .unset, .unset, .unset, .unset, .unset, .unset, .unset, .unset, .unset, .unset, .unset] [(.ref y0), (.int y1), (.ref x11), (.ref y3), (.ref y3)]) (own_Q0 n0) 48 3264 := by
  refine own_stW (g' := (mkF m 77 #[.val (.long x0), .second, .val (.long x2), .second, iv x4, iv x5, iv x6, iv x7, iv x8, iv x9, iv x10, rv x11, iv x12, iv x13, .unset, .unset, .unset, .unset, .unset, .unset, .unset, .unset, .unset, .unset, .unset, .unset] [(.int (x8 + (63 : Int32))), (.int x8), (.ref y0), (.int y1), (.ref x11), (.ref y3), (.ref y3)])) (fun tt_ kk_ => XS.iload X0.here hx rfl (hb hby at_70) rfl (XS.iload X0.here hx rfl (hb hby at_72) rfl (XS.bipush X0.here hx rfl (hb hby at_74) (XS.iadd X0.here hx rfl (hb hby at_76) rfl kk_)))) ?_
  obtain ⟨_, _, ⟨T988, L988, k988, n988⟩, -, X988, ⟨Lc988, hQ988, l988, y988, z988⟩, st988⟩ := X0.specialBack hx (y := (⟨own_z0, "<init>", own_z15⟩ : MethodName)) rfl hown (mvT hZ (own_w hw 94 rfl)) (mvT hZ (own_w hw 95 rfl)) (mvT hZ (own_w hw 96 rfl)) (by decide) (backOf (W := 1) (own_rmivA l Z a0 hw [] y3 x11 y1 y0 x8 (x8 + (63 : Int32)) h0 n0 Z0 H0 H1 H2 H3 H4 H5 H6 H7 H8 H9 H10 H11 H12 H13 H14 H15 H16 H17 H18 H19 H20 (own_szA hbb) g_y3) hZ (own_w hw 96 rfl) (own_w hw 85 rfl) (by decide) (by decide)) (g := (mkF m 77 #[.val (.long x0), .second, .val (.long x2), .second, iv x4, iv x5, iv x6, iv x7, iv x8, iv x9, iv x10, rv x11, iv x12, iv x13, .unset, .unset, .unset, .unset, .unset, .unset, .unset, .unset, .unset, .unset, .unset, .unset] [(.int (x8 + (63 : Int32))), (.int x8), (.ref y0), (.int y1), (.ref x11), (.ref y3), (.ref y3)])) rfl (by rw [hml]; rfl) (Steps.refl _) (a := y3) (argsL := [(.ref x11), (.int y1), (.ref y0), (.int x8), (.int (x8 + (63 : Int32)))]) (rest := [(.ref y3)]) (lenOf own_pd9 rfl) rfl (by show 2 * 0 + _ ≤ _; exact Nat.le_of_eq rfl) (hb hby at_77) (fun _ _ => ⟨rfl, e0, (show cells + 2 ≤ 48 by omega), (show slots + 0 ≤ 3264 by omega)⟩)
  dsimp only [Pt.U, Pt.locs, Pt.cells, Pt.slots] at X988 l988 y988 z988 st988 hQ988
  rw [l988, y988, z988] at X988
  obtain ⟨rfl, N988q, K988q, wa_988, f988_0, f988_1, f988_2, f988_3, f988_4, f988_5, f988_6, f988_7, f988_8, f988_9, f988_10, f988_11, f988_12, f988_13, f988_14, f988_15, f988_16⟩ := hQ988
  obtain ⟨h988, e988⟩ : ∃ z, T988.heap = z := ⟨_, rfl⟩
  rw [e988] at K988q f988_0 f988_1 f988_2 f988_3 f988_4 f988_5 f988_6 f988_7 f988_8 f988_9 f988_10 f988_11 f988_12 f988_13 f988_14 f988_15 f988_16
  have Z988 : n0 ≤ h988.size := Nat.le_trans Z0 K988q.1
  have kz988 : k0 ≤ h988.size := Nat.le_trans hk0 K988q.1
  have N988 := Fr.app N0 N988q
  refine own_stW (fun t k => st988.trans k) ?_
  refine own_stW (g' := (mkF m 95 #[.val (.long x0), .second, .val (.long x2), .second, iv x4, iv x5, iv x6, iv x7, iv x8, iv x9, iv x10, rv x11, iv x12, iv x13, rv y3, .unset, .unset, .unset, .unset, .unset, .unset, .unset, .unset, .unset, .unset, .unset] [(.int x4), (.int (0 : Int32)), (.int (0 : Int32)), .null, (.long x0), (.long x2), (.int x13), (.int x12), (.ref y3)])) (fun tt_ kk_ => XS.astore X988.here hx rfl (hb hby at_80) rfl rfl (l' := #[.val (.long x0), .second, .val (.long x2), .second, iv x4, iv x5, iv x6, iv x7, iv x8, iv x9, iv x10, rv x11, iv x12, iv x13, rv y3, .unset, .unset, .unset, .unset, .unset, .unset, .unset, .unset, .unset, .unset, .unset]) rfl (XS.aload X988.here hx rfl (hb hby at_82) rfl rfl (XS.iload X988.here hx rfl (hb hby at_84) rfl (XS.iload X988.here hx rfl (hb hby at_86) rfl (XS.lloadN X988.here hx rfl (hb hby at_88) rfl (XS.lloadN X988.here hx rfl (hb hby at_89) rfl (XS.aconstNull X988.here hx rfl (hb hby at_90) (XS.iconst X988.here hx rfl (hb hby at_91) (XS.iconst X988.here hx rfl (hb hby at_92) (XS.iload X988.here hx rfl (hb hby at_93) rfl kk_)))))))))) ?_
  obtain ⟨cq989, kq989, q989a, q989b, q989c⟩ := isOf hZ e988 f988_0
  obtain ⟨_, _, ⟨T989, L989, k989, n989⟩, -, X989, ⟨Lc989, hQ989, l989, y989, z989⟩, st989⟩ := X988.virtualBack hx (y := (⟨own_z0, "restore", "(IIJJ[IIII)V"⟩ : MethodName)) (z := (⟨own_z0, "restore", "(IIJJ[IIII)V"⟩ : MethodName)) hown (mvT hZ (own_w hw 126 rfl)) (mvT hZ (own_w hw 127 rfl)) (notFace_of_selects (args := #[]) (mvT hZ (own_w hw 129 rfl))) (mvT hZ (own_w hw 129 rfl)) (mvT hZ (own_w hw 128 rfl)) (by decide) (backOf (W := 0) (own_rmrsA l Z a0 hw [] y3 x12 x13 x2 x0 (0 : Int32) (0 : Int32) x4 x8 (x8 + (63 : Int32)) ((((x8 + (63 : Int32)).toInt64) - (x8.toInt64)) + (1 : Int64)) ((((-1 : Int64).toUInt64 >>> (((64 : Int32) - (((((x8 + (63 : Int32)).toInt64) - (x8.toInt64)) + (1 : Int64)).toInt32)) &&& 0x3f).toInt64.toUInt64).toInt64)) (0 : Int32) (0 : Int32) (0 : Int32) x11 (1 : Int32) x8 y1 wa_988 h988 n0 Z988 f988_0 f988_5 f988_6 f988_7 f988_8 f988_10 f988_11 f988_12 f988_9 f988_1 f988_2 f988_3 f988_4 f988_16 f988_13 f988_14 f988_15 g_y3) hZ (own_w hw 130 rfl) (own_w hw 85 rfl) (by decide) (by decide)) q989a q989c (g := (mkF m 95 #[.val (.long x0), .second, .val (.long x2), .second, iv x4, iv x5, iv x6, iv x7, iv x8, iv x9, iv x10, rv x11, iv x12, iv x13, rv y3, .unset, .unset, .unset, .unset, .unset, .unset, .unset, .unset, .unset, .unset, .unset] [(.int x4), (.int (0 : Int32)), (.int (0 : Int32)), .null, (.long x0), (.long x2), (.int x13), (.int x12), (.ref y3)])) rfl (by rw [hml]; rfl) (Steps.refl _) (argsL := [(.int x12), (.int x13), (.long x2), (.long x0), .null, (.int (0 : Int32)), (.int (0 : Int32)), (.int x4)]) (rest := []) (lenOf own_pd10 rfl) rfl (by show 2 * 0 + _ ≤ _; exact Nat.le_of_eq rfl) (hb hby at_95) (fun _ _ => ⟨rfl, e988, (show cells + 2 + 0 ≤ 48 by omega), (show slots + 0 ≤ 3264 by omega)⟩)
  dsimp only [Pt.U, Pt.locs, Pt.cells, Pt.slots] at X989 l989 y989 z989 st989 hQ989
  rw [l989, y989, z989] at X989
  obtain ⟨rfl, N989q, K989q, f989_0, f989_1, f989_2, f989_3, f989_4, f989_5, f989_6, f989_7, f989_8, f989_9, f989_10, f989_11, f989_12, f989_13, f989_14, f989_15, f989_16⟩ := hQ989
  obtain ⟨h989, e989⟩ : ∃ z, T989.heap = z := ⟨_, rfl⟩
  rw [e989] at K989q f989_0 f989_1 f989_2 f989_3 f989_4 f989_5 f989_6 f989_7 f989_8 f989_9 f989_10 f989_11 f989_12 f989_13 f989_14 f989_15 f989_16
  have Z989 : n0 ≤ h989.size := Nat.le_trans Z988 K989q.1
  have kz989 : k0 ≤ h989.size := Nat.le_trans kz988 K989q.1
  have N989 := Fr.app N988 N989q
  refine own_stW (fun t k => st989.trans k) ?_
  refine own_stW (g' := (mkF m 102 #[.val (.long x0), .second, .val (.long x2), .second, iv x4, iv x5, iv x6, iv x7, iv x8, iv x9, iv x10, rv x11, iv x12, iv x13, rv y3, .unset, .unset, .unset, .unset, .unset, .unset, .unset, .unset, .unset, .unset, .unset] [(.int x12), (.int x10)])) (fun tt_ kk_ => XS.iload X989.here hx rfl (hb hby at_98) rfl (XS.iload X989.here hx rfl (hb hby at_100) rfl kk_)) ?_
  by_cases hc102 : x10 < x12
  · skip
    refine own_stW (g' := (mkF m 128 #[.val (.long x0), .second, .val (.long x2), .second, iv x4, iv x5, iv x6, iv x7, iv x8, iv x9, iv x10, rv x11, iv x12, iv x13, rv y3, .unset, .unset, .unset, .unset, .unset, .unset, .unset, .unset, .unset, .unset, .unset] [(.int (0 : Int32))])) (fun tt_ kk_ => XS.icmpYes X989.here hx rfl (pc0 := 102) (pc' := 127) rfl (hb hby at_102) rfl (tlt hc102).1 (by decide) (by decide) (XS.iconst X989.here hx rfl (hb hby at_127) kk_)) ?_
    exact own_t128 X989 hx hlk hby hml hret hown hZ hw e989 N989 Z989 (by omega) (by omega) hS kz989 x0 x2 x4 x5 x6 x7 x8 x9 x10 x11 x12 x13 y3 (0 : Int32) hbb hk hv (own_eA0 hc102) f989_0 f989_1 f989_2 f989_3 f989_4 f989_8 f989_10 f989_11  g_y3
  refine own_stW (g' := (mkF m 109 #[.val (.long x0), .second, .val (.long x2), .second, iv x4, iv x5, iv x6, iv x7, iv x8, iv x9, iv x10, rv x11, iv x12, iv x13, rv y3, .unset, .unset, .unset, .unset, .unset, .unset, .unset, .unset, .unset, .unset, .unset] [(.int x13), (.int x10)])) (fun tt_ kk_ => XS.icmpNo X989.here hx rfl (hb hby at_102) rfl (flt hc102).1 (XS.iload X989.here hx rfl (hb hby at_105) rfl (XS.iload X989.here hx rfl (hb hby at_107) rfl kk_))) ?_
  by_cases hc109 : x13 < x10
  · skip
    refine own_stW (g' := (mkF m 128 #[.val (.long x0), .second, .val (.long x2), .second, iv x4, iv x5, iv x6, iv x7, iv x8, iv x9, iv x10, rv x11, iv x12, iv x13, rv y3, .unset, .unset, .unset, .unset, .unset, .unset, .unset, .unset, .unset, .unset, .unset] [(.int (0 : Int32))])) (fun tt_ kk_ => XS.icmpYes X989.here hx rfl (pc0 := 109) (pc' := 127) rfl (hb hby at_109) rfl (tlt hc109).2.2.1 (by decide) (by decide) (XS.iconst X989.here hx rfl (hb hby at_127) kk_)) ?_
    exact own_t128 X989 hx hlk hby hml hret hown hZ hw e989 N989 Z989 (by omega) (by omega) hS kz989 x0 x2 x4 x5 x6 x7 x8 x9 x10 x11 x12 x13 y3 (0 : Int32) hbb hk hv (own_eA1 hc102 hc109) f989_0 f989_1 f989_2 f989_3 f989_4 f989_8 f989_10 f989_11  g_y3
  refine own_stW (g' := (mkF m 120 #[.val (.long x0), .second, .val (.long x2), .second, iv x4, iv x5, iv x6, iv x7, iv x8, iv x9, iv x10, rv x11, iv x12, iv x13, rv y3, .unset, .unset, .unset, .unset, .unset, .unset, .unset, .unset, .unset, .unset, .unset] [(.int (lcmpW (((x0.toUInt64 >>> (x9 &&& 0x3f).toInt64.toUInt64).toInt64) &&& (1 : Int64)) (0 : Int64)))])) (fun tt_ kk_ => XS.icmpNo X989.here hx rfl (hb hby at_109) rfl (flt hc109).2.2.1 (XS.lloadN X989.here hx rfl (hb hby at_112) rfl (XS.iload X989.here hx rfl (hb hby at_113) rfl (XS.lushr X989.here hx rfl (hb hby at_115) rfl (XS.lconst X989.here hx rfl (hb hby at_116) (XS.land X989.here hx rfl (hb hby at_117) rfl (XS.lconst X989.here hx rfl (hb hby at_118) (XS.lcmp X989.here hx rfl (hb hby at_119) rfl kk_)))))))) ?_
  by_cases hc120 : (lcmpW (((x0.toUInt64 >>> (x9 &&& 0x3f).toInt64.toUInt64).toInt64) &&& (1 : Int64)) (0 : Int64)) = (0 : Int32)
  · skip
    refine own_stW (g' := (mkF m 128 #[.val (.long x0), .second, .val (.long x2), .second, iv x4, iv x5, iv x6, iv x7, iv x8, iv x9, iv x10, rv x11, iv x12, iv x13, rv y3, .unset, .unset, .unset, .unset, .unset, .unset, .unset, .unset, .unset, .unset, .unset] [(.int (0 : Int32))])) (fun tt_ kk_ => XS.ifYes X989.here hx rfl (pc0 := 120) (pc' := 127) rfl (hb hby at_120) rfl ((if0 _ _).trans (teq hc120).1) (by decide) (by decide) (XS.iconst X989.here hx rfl (hb hby at_127) kk_)) ?_
    exact own_t128 X989 hx hlk hby hml hret hown hZ hw e989 N989 Z989 (by omega) (by omega) hS kz989 x0 x2 x4 x5 x6 x7 x8 x9 x10 x11 x12 x13 y3 (0 : Int32) hbb hk hv (own_eA2 (by rw [hv]; exact own_sub _ _) hc102 hc109 hc120) f989_0 f989_1 f989_2 f989_3 f989_4 f989_8 f989_10 f989_11  g_y3
  refine own_stW (g' := (mkF m 128 #[.val (.long x0), .second, .val (.long x2), .second, iv x4, iv x5, iv x6, iv x7, iv x8, iv x9, iv x10, rv x11, iv x12, iv x13, rv y3, .unset, .unset, .unset, .unset, .unset, .unset, .unset, .unset, .unset, .unset, .unset] [(.int (1 : Int32))])) (fun tt_ kk_ => XS.ifNo X989.here hx rfl (hb hby at_120) rfl ((if0 _ _).trans (feq hc120).1) (XS.iconst X989.here hx rfl (hb hby at_123) (XS.goto X989.here hx rfl (pc0 := 124) (pc' := 128) rfl (hb hby at_124) (by decide) (by decide) kk_))) ?_
  exact own_t128 X989 hx hlk hby hml hret hown hZ hw e989 N989 Z989 (by omega) (by omega) hS kz989 x0 x2 x4 x5 x6 x7 x8 x9 x10 x11 x12 x13 y3 (1 : Int32) hbb hk hv (own_eA3 (by rw [hv]; exact own_sub _ _) hc102 hc109 hc120) f989_0 f989_1 f989_2 f989_3 f989_4 f989_8 f989_10 f989_11  g_y3
set_option maxRecDepth 65536 in
set_option maxHeartbeats 16000000 in
theorem own_t419 {p : Program} {l : Launch} {e : Env} {s : State} {m : MethodId} {args : Array Value} {below : List Frame} {meth : Method} {c : Code} {T : State} {locs : List Loc} {cells slots : Nat} {k0 : Nat} {vm0 : Vm} {Z : State} {a0 : Array Value} {h0 : Heap} {n0 : Nat} (X0 : Stand p l e room_1 (s.setVm vm0) m args below meth c T locs cells slots) (hx : p.tables.exec = Jvm.exec) (hlk : meth.locks = false) (hby : c.code = code) (hml : c.maxLocals = 26) (hret : meth.sig.returnType = some .boolean) (hown : (s.setVm vm0).vm.findClass own_z17 = some m.cls) (hZ : Z.Warmed39 (s.setVm vm0).vm) (hw : own_HW Z a0) (e0 : T.heap = h0) (N0 : Fr n0 locs) (Z0 : n0 ≤ h0.size) (hcc : cells ≤ 21) (hss : slots ≤ 1092) (hS : s.Since vm0 k0) (hk0 : k0 ≤ h0.size) (x0 : Int64) (x2 : Int64) (x4 : Int32) (x5 : Int32) (x6 : Int32) (x7 : Int32) (x8 : Int32) (x9 : Int32) (x10 : Int32) (x11 : Addr) (x12 : Int32) (x13 : Int32) (x14 : Int32) (x15 : Int32) (x16 : Int32) (x17 : Addr) (x18 : Int32) (x19 : Int32) (x20 : Int64) (x22 : Addr) (y0 : Int32) (z0 : Addr) (z1 : Addr) (z2 : Addr) (z3 : Addr) (z4 : Addr) (z5 : Addr) (z6 : Addr) (hbb : -1073741824 ≤ x8.toInt ∧ x8.toInt < 1073741824) (hk : 0 ≤ x9.toInt ∧ x9.toInt ≤ 63) (hv : x10 = x8 + x9) (hA : 0 ≤ x12.toInt ∧ x12.toInt ≤ 9) (hB : 0 ≤ x13.toInt ∧ x13.toInt ≤ 9) (hfl : (x15 = (0 : Int32) ∧ x16 = (1 : Int32)) ∨ (x15 = (0 : Int32) ∧ x16 = (2 : Int32)) ∨ (x15 = (1 : Int32) ∧ x16 = (2 : Int32))) (hx18 : x18 = ((x8 + ((20 : Int32) * x15)) + x12)) (hx19 : x19 = ((x8 + ((20 : Int32) * x16)) + x13)) (hx20 : x20 = (((((10 : Int32) - x12).toInt64) + ((x13 + (1 : Int32)).toInt64)) + ((10 : Int64) * (((x16 - x15) - (1 : Int32)).toInt64)))) (hy : own_cBg x15 x16 x18 x19 x10 x8 = y0) (H0 : Sta Z h0 own_z6 "FIX" own_z5 (.ref z0)) (H1 : Sta Z h0 own_z6 "BOUNDS" own_z5 (.ref z1)) (H2 : Exa Z h0 x11 own_z2) (H3 : Fld Z h0 x11 own_z2 "trail" own_z7 (.ref z2)) (H4 : Exa Z h0 z2 own_z1) (H5 : Fld Z h0 z2 own_z1 "depth" "I" (.int (0 : Int32))) (H6 : Fld Z h0 z2 own_z1 "entries" "I" (.int (0 : Int32))) (H7 : Fld Z h0 z2 own_z1 "ints" "[I" (.ref z3)) (H8 : Fld Z h0 z2 own_z1 "longs" "[J" (.ref z4)) (H9 : Fld Z h0 z2 own_z1 "ranges" "[[I" (.ref z5)) (H10 : own_AI Z h0 z3 384 (fun _ => 0)) (H11 : own_AJ Z h0 z4 128 (fun _ => 0)) (H12 : own_AR Z h0 z5 64) (H13 : own_AI Z h0 x17 6 (own_R x8)) (H14 : Exa Z h0 x17 "[I") (H15 : Exa Z h0 x22 own_z0) (H16 : Fld Z h0 x22 own_z0 "min" "I" (.int x18)) (H17 : Fld Z h0 x22 own_z0 "max" "I" (.int x19)) (H18 : Fld Z h0 x22 own_z0 "size" "J" (.long x20)) (H19 : Fld Z h0 x22 own_z0 "bits" "J" (.long x0)) (H20 : Fld Z h0 x22 own_z0 "ranges" "[I" (.ref x17)) (H21 : Fld Z h0 x22 own_z0 "first" "I" (.int x15)) (H22 : Fld Z h0 x22 own_z0 "last" "I" (.int x16)) (H23 : Fld Z h0 x22 own_z0 "stamp" "I" (.int x4)) (H24 : Fld Z h0 x22 own_z0 "model" own_z4 (.ref x11)) (H25 : Fld Z h0 x22 own_z0 "small" "Z" (.int (0 : Int32))) (H26 : Fld Z h0 x22 own_z0 "index" "I" (.int y1)) (H27 : Fld Z h0 x22 own_z0 "watchers" own_z3 (.ref z6)) (H28 : Fld Z h0 x22 own_z0 own_z9 "I" (.int (0 : Int32))) (H29 : Fld Z h0 x22 own_z0 "boundsFrom" "I" (.int (0 : Int32))) (H30 : Fld Z h0 x22 own_z0 "toldFrom" "I" (.int (0 : Int32))) (ne0 : x11 ≠ x17) (ne1 : x11 ≠ x22) (ne2 : x11 ≠ z2) (ne3 : x11 ≠ z3) (ne4 : x11 ≠ z4) (ne5 : x11 ≠ z5) (ne6 : x17 ≠ x22) (ne7 : x17 ≠ z2) (ne8 : x17 ≠ z3) (ne9 : x17 ≠ z4) (ne10 : x17 ≠ z5) (ne11 : x22 ≠ z2) (ne12 : x22 ≠ z3) (ne13 : x22 ≠ z4) (ne14 : x22 ≠ z5) (ne15 : z2 ≠ z3) (ne16 : z2 ≠ z4) (ne17 : z2 ≠ z5) (ne18 : z3 ≠ z4) (ne19 : z3 ≠ z5) (ne20 : z4 ≠ z5) (g_x11 : n0 ≤ x11) (g_x17 : n0 ≤ x17) (g_x22 : n0 ≤ x22) (g_z2 : n0 ≤ z2) (g_z3 : n0 ≤ z3) (g_z4 : n0 ≤ z4) (g_z5 : n0 ≤ z5) :
    own_GoW p e below s T (mkF m 419 #[.val (.long x0), .second, .val (.long x2), .second, iv x4, iv x5, iv x6, iv x7, iv x8, iv x9, iv x10, rv x11, iv x12, iv x13, iv x14, iv x15, iv x16, rv x17, iv x18, iv x19, .val (.long x20), .second, rv x22, .unset, .unset, .unset] [(.int y0)]) (own_Q0 n0) 48 3264 := by
  rcases hfl with ⟨rfl, rfl⟩ | ⟨rfl, rfl⟩ | ⟨rfl, rfl⟩
  · rw [own_g01] at hy
    refine own_stW (g' := (mkF m 423 #[.val (.long x0), .second, .val (.long x2), .second, iv x4, iv x5, iv x6, iv x7, iv x8, iv x9, iv x10, rv x11, iv x12, iv x13, iv x14, iv (0 : Int32), iv (1 : Int32), rv x17, iv x18, iv x19, .val (.long x20), .second, rv x22, iv y0, .unset, .unset] [(.ref x22)])) (fun tt_ kk_ => XS.istore X0.here hx rfl (hb hby at_419) rfl (l' := #[.val (.long x0), .second, .val (.long x2), .second, iv x4, iv x5, iv x6, iv x7, iv x8, iv x9, iv x10, rv x11, iv x12, iv x13, iv x14, iv (0 : Int32), iv (1 : Int32), rv x17, iv x18, iv x19, .val (.long x20), .second, rv x22, iv y0, .unset, .unset]) rfl (XS.aload X0.here hx rfl (hb hby at_421) rfl rfl kk_)) ?_
    obtain ⟨cq1076, kq1076, q1076a, q1076b, q1076c⟩ := isOf hZ e0 H15
    obtain ⟨_, _, ⟨T1076, L1076, k1076, n1076⟩, -, X1076, ⟨Lc1076, hQ1076, l1076, y1076, z1076⟩, st1076⟩ := X0.virtualBack hx (y := (⟨own_z0, "min", "()I"⟩ : MethodName)) (z := (⟨own_z0, "min", "()I"⟩ : MethodName)) hown (mvT hZ (own_w hw 139 rfl)) (mvT hZ (own_w hw 140 rfl)) (notFace_of_selects (args := #[]) (mvT hZ (own_w hw 142 rfl))) (mvT hZ (own_w hw 142 rfl)) (mvT hZ (own_w hw 141 rfl)) (by decide) (backOf (W := 0) (own_rmgmin l Z a0 hw [] x22 x18 h0 n0 Z0 H16) hZ (own_w hw 143 rfl) (own_w hw 85 rfl) (by decide) (by decide)) q1076a q1076c (g := (mkF m 423 #[.val (.long x0), .second, .val (.long x2), .second, iv x4, iv x5, iv x6, iv x7, iv x8, iv x9, iv x10, rv x11, iv x12, iv x13, iv x14, iv (0 : Int32), iv (1 : Int32), rv x17, iv x18, iv x19, .val (.long x20), .second, rv x22, iv y0, .unset, .unset] [(.ref x22)])) rfl (by rw [hml]; rfl) (Steps.refl _) (argsL := []) (rest := []) (lenOf own_pd3 rfl) rfl (by show 2 * 0 + _ ≤ _; exact Nat.le_of_eq rfl) (hb hby at_423) (fun _ _ => ⟨rfl, e0, (show cells + 0 ≤ 48 by omega), (show slots + 0 ≤ 3264 by omega)⟩)
    dsimp only [Pt.U, Pt.locs, Pt.cells, Pt.slots] at X1076 l1076 y1076 z1076 st1076 hQ1076
    rw [l1076, y1076, z1076] at X1076
    obtain ⟨rfl, N1076q, e1076⟩ := hQ1076
    have N1076 := Fr.app N0 N1076q
    refine own_stW (fun t k => st1076.trans k) ?_
    refine own_stW (g' := (mkF m 433 #[.val (.long x0), .second, .val (.long x2), .second, iv x4, iv x5, iv x6, iv x7, iv x8, iv x9, iv x10, rv x11, iv x12, iv x13, iv x14, iv (0 : Int32), iv (1 : Int32), rv x17, iv x18, iv x19, .val (.long x20), .second, rv x22, iv y0, .unset, .unset] [(.ref x22)])) (fun tt_ kk_ => XS.iload X1076.here hx rfl (hb hby at_426) rfl (XS.icmpNo X1076.here hx rfl (hb hby at_428) rfl (teq (rfl : x18 = x18)).2 (XS.aload X1076.here hx rfl (hb hby at_431) rfl rfl kk_))) ?_
    obtain ⟨cq1077, kq1077, q1077a, q1077b, q1077c⟩ := isOf hZ e1076 H15
    obtain ⟨_, _, ⟨T1077, L1077, k1077, n1077⟩, -, X1077, ⟨Lc1077, hQ1077, l1077, y1077, z1077⟩, st1077⟩ := X1076.virtualBack hx (y := (⟨own_z0, "max", "()I"⟩ : MethodName)) (z := (⟨own_z0, "max", "()I"⟩ : MethodName)) hown (mvT hZ (own_w hw 144 rfl)) (mvT hZ (own_w hw 145 rfl)) (notFace_of_selects (args := #[]) (mvT hZ (own_w hw 147 rfl))) (mvT hZ (own_w hw 147 rfl)) (mvT hZ (own_w hw 146 rfl)) (by decide) (backOf (W := 0) (own_rmgmax l Z a0 hw [] x22 x19 h0 n0 Z0 H17) hZ (own_w hw 148 rfl) (own_w hw 85 rfl) (by decide) (by decide)) q1077a q1077c (g := (mkF m 433 #[.val (.long x0), .second, .val (.long x2), .second, iv x4, iv x5, iv x6, iv x7, iv x8, iv x9, iv x10, rv x11, iv x12, iv x13, iv x14, iv (0 : Int32), iv (1 : Int32), rv x17, iv x18, iv x19, .val (.long x20), .second, rv x22, iv y0, .unset, .unset] [(.ref x22)])) rfl (by rw [hml]; rfl) (Steps.refl _) (argsL := []) (rest := []) (lenOf own_pd3 rfl) rfl (by show 2 * 0 + _ ≤ _; exact Nat.le_of_eq rfl) (hb hby at_433) (fun _ _ => ⟨rfl, e1076, (show cells + 0 ≤ 48 by omega), (show slots + 0 ≤ 3264 by omega)⟩)
    dsimp only [Pt.U, Pt.locs, Pt.cells, Pt.slots] at X1077 l1077 y1077 z1077 st1077 hQ1077
    rw [l1077, y1077, z1077] at X1077
    obtain ⟨rfl, N1077q, e1077⟩ := hQ1077
    have N1077 := Fr.app N1076 N1077q
    refine own_stW (fun t k => st1077.trans k) ?_
    refine own_stW (g' := (mkF m 443 #[.val (.long x0), .second, .val (.long x2), .second, iv x4, iv x5, iv x6, iv x7, iv x8, iv x9, iv x10, rv x11, iv x12, iv x13, iv x14, iv (0 : Int32), iv (1 : Int32), rv x17, iv x18, iv x19, .val (.long x20), .second, rv x22, iv y0, .unset, .unset] [(.ref x22)])) (fun tt_ kk_ => XS.iload X1077.here hx rfl (hb hby at_436) rfl (XS.icmpNo X1077.here hx rfl (hb hby at_438) rfl (teq (rfl : x19 = x19)).2 (XS.aload X1077.here hx rfl (hb hby at_441) rfl rfl kk_))) ?_
    obtain ⟨cq1078, kq1078, q1078a, q1078b, q1078c⟩ := isOf hZ e1077 H15
    obtain ⟨_, _, ⟨T1078, L1078, k1078, n1078⟩, -, X1078, ⟨Lc1078, hQ1078, l1078, y1078, z1078⟩, st1078⟩ := X1077.virtualBack hx (y := (⟨own_z0, "size", "()J"⟩ : MethodName)) (z := (⟨own_z0, "size", "()J"⟩ : MethodName)) hown (mvT hZ (own_w hw 149 rfl)) (mvT hZ (own_w hw 150 rfl)) (notFace_of_selects (args := #[]) (mvT hZ (own_w hw 152 rfl))) (mvT hZ (own_w hw 152 rfl)) (mvT hZ (own_w hw 151 rfl)) (by decide) (backOf (W := 0) (own_rmgsiz l Z a0 hw [] x22 x20 h0 n0 Z0 H18) hZ (own_w hw 153 rfl) (own_w hw 85 rfl) (by decide) (by decide)) q1078a q1078c (g := (mkF m 443 #[.val (.long x0), .second, .val (.long x2), .second, iv x4, iv x5, iv x6, iv x7, iv x8, iv x9, iv x10, rv x11, iv x12, iv x13, iv x14, iv (0 : Int32), iv (1 : Int32), rv x17, iv x18, iv x19, .val (.long x20), .second, rv x22, iv y0, .unset, .unset] [(.ref x22)])) rfl (by rw [hml]; rfl) (Steps.refl _) (argsL := []) (rest := []) (lenOf own_pd11 rfl) rfl (by show 2 * 0 + _ ≤ _; exact Nat.le_of_eq rfl) (hb hby at_443) (fun _ _ => ⟨rfl, e1077, (show cells + 0 ≤ 48 by omega), (show slots + 0 ≤ 3264 by omega)⟩)
    dsimp only [Pt.U, Pt.locs, Pt.cells, Pt.slots] at X1078 l1078 y1078 z1078 st1078 hQ1078
    rw [l1078, y1078, z1078] at X1078
    obtain ⟨rfl, N1078q, e1078⟩ := hQ1078
    have N1078 := Fr.app N1077 N1078q
    refine own_stW (fun t k => st1078.trans k) ?_
    refine own_stW (g' := (mkF m 449 #[.val (.long x0), .second, .val (.long x2), .second, iv x4, iv x5, iv x6, iv x7, iv x8, iv x9, iv x10, rv x11, iv x12, iv x13, iv x14, iv (0 : Int32), iv (1 : Int32), rv x17, iv x18, iv x19, .val (.long x20), .second, rv x22, iv y0, .unset, .unset] [(.int (lcmpW x20 x20))])) (fun tt_ kk_ => XS.lload X1078.here hx rfl (hb hby at_446) rfl (XS.lcmp X1078.here hx rfl (hb hby at_448) rfl kk_)) ?_
    refine own_stW (g' := (mkF m 454 #[.val (.long x0), .second, .val (.long x2), .second, iv x4, iv x5, iv x6, iv x7, iv x8, iv x9, iv x10, rv x11, iv x12, iv x13, iv x14, iv (0 : Int32), iv (1 : Int32), rv x17, iv x18, iv x19, .val (.long x20), .second, rv x22, iv y0, .unset, .unset] [(.ref x22)])) (fun tt_ kk_ => XS.ifNo X1078.here hx rfl (hb hby at_449) rfl ((if0 _ _).trans (teq ((lw_eq _ _).mpr rfl)).2) (XS.aload X1078.here hx rfl (hb hby at_452) rfl rfl kk_)) ?_
    obtain ⟨cq1079, kq1079, q1079a, q1079b, q1079c⟩ := isOf hZ e1078 H15
    obtain ⟨_, _, ⟨T1079, L1079, k1079, n1079⟩, -, X1079, ⟨Lc1079, hQ1079, l1079, y1079, z1079⟩, st1079⟩ := X1078.virtualBack hx (y := (⟨own_z0, "stamp", "()I"⟩ : MethodName)) (z := (⟨own_z0, "stamp", "()I"⟩ : MethodName)) hown (mvT hZ (own_w hw 154 rfl)) (mvT hZ (own_w hw 155 rfl)) (notFace_of_selects (args := #[]) (mvT hZ (own_w hw 157 rfl))) (mvT hZ (own_w hw 157 rfl)) (mvT hZ (own_w hw 156 rfl)) (by decide) (backOf (W := 0) (own_rmgstp l Z a0 hw [] x22 x4 h0 n0 Z0 H23) hZ (own_w hw 158 rfl) (own_w hw 85 rfl) (by decide) (by decide)) q1079a q1079c (g := (mkF m 454 #[.val (.long x0), .second, .val (.long x2), .second, iv x4, iv x5, iv x6, iv x7, iv x8, iv x9, iv x10, rv x11, iv x12, iv x13, iv x14, iv (0 : Int32), iv (1 : Int32), rv x17, iv x18, iv x19, .val (.long x20), .second, rv x22, iv y0, .unset, .unset] [(.ref x22)])) rfl (by rw [hml]; rfl) (Steps.refl _) (argsL := []) (rest := []) (lenOf own_pd3 rfl) rfl (by show 2 * 0 + _ ≤ _; exact Nat.le_of_eq rfl) (hb hby at_454) (fun _ _ => ⟨rfl, e1078, (show cells + 0 ≤ 48 by omega), (show slots + 0 ≤ 3264 by omega)⟩)
    dsimp only [Pt.U, Pt.locs, Pt.cells, Pt.slots] at X1079 l1079 y1079 z1079 st1079 hQ1079
    rw [l1079, y1079, z1079] at X1079
    obtain ⟨rfl, N1079q, e1079⟩ := hQ1079
    have N1079 := Fr.app N1078 N1079q
    refine own_stW (fun t k => st1079.trans k) ?_
    refine own_stW (g' := (mkF m 466 #[.val (.long x0), .second, .val (.long x2), .second, iv x4, iv x5, iv x6, iv x7, iv x8, iv x9, iv x10, rv x11, iv x12, iv x13, iv x14, iv (0 : Int32), iv (1 : Int32), rv x17, iv x18, iv x19, .val (.long x20), .second, rv x22, iv y0, .unset, .unset] [(.int x10), (.ref x22)])) (fun tt_ kk_ => XS.iload X1079.here hx rfl (hb hby at_457) rfl (XS.icmpNo X1079.here hx rfl (hb hby at_459) rfl (teq (rfl : x4 = x4)).2 (XS.aload X1079.here hx rfl (hb hby at_462) rfl rfl (XS.iload X1079.here hx rfl (hb hby at_464) rfl kk_)))) ?_
    obtain ⟨cq1080, kq1080, q1080a, q1080b, q1080c⟩ := isOf hZ e1079 H15
    obtain ⟨_, _, ⟨T1080, L1080, k1080, n1080⟩, -, X1080, ⟨Lc1080, hQ1080, l1080, y1080, z1080⟩, st1080⟩ := X1079.virtualBack hx (y := (⟨own_z0, "contains", "(I)Z"⟩ : MethodName)) (z := (⟨own_z0, "contains", "(I)Z"⟩ : MethodName)) hown (mvT hZ (own_w hw 159 rfl)) (mvT hZ (own_w hw 160 rfl)) (notFace_of_selects (args := #[]) (mvT hZ (own_w hw 162 rfl))) (mvT hZ (own_w hw 162 rfl)) (mvT hZ (own_w hw 161 rfl)) (by decide) (backOf (W := 0) (own_rmcon01 l Z a0 hw [] x22 x10 x18 x19 x17 x8 h0 n0 Z0 H15 H16 H17 H25 H20 H21 H22 H13) hZ (own_w hw 163 rfl) (own_w hw 85 rfl) (by decide) (by decide)) q1080a q1080c (g := (mkF m 466 #[.val (.long x0), .second, .val (.long x2), .second, iv x4, iv x5, iv x6, iv x7, iv x8, iv x9, iv x10, rv x11, iv x12, iv x13, iv x14, iv (0 : Int32), iv (1 : Int32), rv x17, iv x18, iv x19, .val (.long x20), .second, rv x22, iv y0, .unset, .unset] [(.int x10), (.ref x22)])) rfl (by rw [hml]; rfl) (Steps.refl _) (argsL := [(.int x10)]) (rest := []) (lenOf own_pd12 rfl) rfl (by show 2 * 0 + _ ≤ _; exact Nat.le_of_eq rfl) (hb hby at_466) (fun _ _ => ⟨rfl, e1079, (show cells + 0 ≤ 48 by omega), (show slots + 0 ≤ 3264 by omega)⟩)
    dsimp only [Pt.U, Pt.locs, Pt.cells, Pt.slots] at X1080 l1080 y1080 z1080 st1080 hQ1080
    rw [l1080, y1080, z1080] at X1080
    obtain ⟨rfl, N1080q, e1080⟩ := hQ1080
    have N1080 := Fr.app N1079 N1080q
    refine own_stW (fun t k => st1080.trans k) ?_
    refine own_stW (g' := (mkF m 471 #[.val (.long x0), .second, .val (.long x2), .second, iv x4, iv x5, iv x6, iv x7, iv x8, iv x9, iv x10, rv x11, iv x12, iv x13, iv x14, iv (0 : Int32), iv (1 : Int32), rv x17, iv x18, iv x19, .val (.long x20), .second, rv x22, iv y0, .unset, .unset] [(.int y0), (.int (own_cB01 x18 x19 x10 x8))])) (fun tt_ kk_ => XS.iload X1080.here hx rfl (hb hby at_469) rfl kk_) ?_
    refine own_stW (g' := (mkF m 488 #[.val (.long x0), .second, .val (.long x2), .second, iv x4, iv x5, iv x6, iv x7, iv x8, iv x9, iv x10, rv x11, iv x12, iv x13, iv x14, iv (0 : Int32), iv (1 : Int32), rv x17, iv x18, iv x19, .val (.long x20), .second, rv x22, iv y0, iv (1 : Int32), .unset] [(.long ((x19.toInt64) - (1 : Int64))), (.ref x22)])) (fun tt_ kk_ => XS.icmpNo X1080.here hx rfl (hb hby at_471) rfl (teq hy).2 (XS.iconst X1080.here hx rfl (hb hby at_474) (XS.goto X1080.here hx rfl (pc0 := 475) (pc' := 479) rfl (hb hby at_475) (by decide) (by decide) (XS.istore X1080.here hx rfl (hb hby at_479) rfl (l' := #[.val (.long x0), .second, .val (.long x2), .second, iv x4, iv x5, iv x6, iv x7, iv x8, iv x9, iv x10, rv x11, iv x12, iv x13, iv x14, iv (0 : Int32), iv (1 : Int32), rv x17, iv x18, iv x19, .val (.long x20), .second, rv x22, iv y0, iv (1 : Int32), .unset]) rfl (XS.aload X1080.here hx rfl (hb hby at_481) rfl rfl (XS.iload X1080.here hx rfl (hb hby at_483) rfl (XS.i2l X1080.here hx rfl (hb hby at_485) rfl (XS.lconst X1080.here hx rfl (hb hby at_486) (XS.lsub X1080.here hx rfl (hb hby at_487) rfl kk_))))))))) ?_
    by_cases hz0 : x13 = (0 : Int32)
    · skip
      obtain ⟨cq1081, kq1081, q1081a, q1081b, q1081c⟩ := isOf hZ e1080 H15
      obtain ⟨_, _, ⟨T1081, L1081, k1081, n1081⟩, -, X1081, ⟨Lc1081, hQ1081, l1081, y1081, z1081⟩, st1081⟩ := X1080.virtualBack hx (y := (⟨own_z0, own_z18, "(J)Z"⟩ : MethodName)) (z := (⟨own_z0, own_z18, "(J)Z"⟩ : MethodName)) hown (mvT hZ (own_w hw 167 rfl)) (mvT hZ (own_w hw 168 rfl)) (notFace_of_selects (args := #[]) (mvT hZ (own_w hw 170 rfl))) (mvT hZ (own_w hw 170 rfl)) (mvT hZ (own_w hw 169 rfl)) (by decide) (backOf (W := 0) (own_rmrab010 l Z a0 hw [] x22 ((x19.toInt64) - (1 : Int64)) x18 x19 x20 x0 x17 x4 x11 y1 z6 z2 z3 z4 z5 x8 z0 z1 h0 n0 Z0 H15 H16 H17 H18 H19 H20 H23 H21 H22 H24 H26 H27 H28 H29 H30 H25 H14 H13 H2 H3 H4 H5 H6 H7 H8 H9 H10 H11 H12 H0 H1 (own_rh1 (x8 := x8) trivial) (own_rh2_010 hbb hA hB hx18 hx19 hz0) (own_rq0_010 hbb hA hB hx18 hx19 hz0) ne11 ne12 ne13 ne14 ne15 ne16 ne17 ne18 ne19 ne20 ne1 ne2 ne3 ne4 ne5 ne6 ne7 ne8 ne9 ne10 g_x22 g_z2 g_z3 g_z4 g_z5) hZ (own_w hw 171 rfl) (own_w hw 85 rfl) (by decide) (by decide)) q1081a q1081c (g := (mkF m 488 #[.val (.long x0), .second, .val (.long x2), .second, iv x4, iv x5, iv x6, iv x7, iv x8, iv x9, iv x10, rv x11, iv x12, iv x13, iv x14, iv (0 : Int32), iv (1 : Int32), rv x17, iv x18, iv x19, .val (.long x20), .second, rv x22, iv y0, iv (1 : Int32), .unset] [(.long ((x19.toInt64) - (1 : Int64))), (.ref x22)])) rfl (by rw [hml]; rfl) (Steps.refl _) (argsL := [(.long ((x19.toInt64) - (1 : Int64)))]) (rest := []) (lenOf own_pd13 rfl) rfl (by show 2 * 0 + _ ≤ _; exact Nat.le_of_eq rfl) (hb hby at_488) (fun _ _ => ⟨rfl, e1080, (show cells + 0 ≤ 48 by omega), (show slots + 0 ≤ 3264 by omega)⟩)
      dsimp only [Pt.U, Pt.locs, Pt.cells, Pt.slots] at X1081 l1081 y1081 z1081 st1081 hQ1081
      rw [l1081, y1081, z1081] at X1081
      obtain ⟨rfl, N1081q, K1081q, f1081_0, f1081_1⟩ := hQ1081
      obtain ⟨h1081, e1081⟩ : ∃ z, T1081.heap = z := ⟨_, rfl⟩
      rw [e1081] at K1081q f1081_0 f1081_1
      have Z1081 : n0 ≤ h1081.size := Nat.le_trans Z0 K1081q.1
      have kz1081 : k0 ≤ h1081.size := Nat.le_trans hk0 K1081q.1
      have N1081 := Fr.app N1080 N1081q
      refine own_stW (fun t k => st1081.trans k) ?_
      refine own_stW (g' := (mkF m 505 #[.val (.long x0), .second, .val (.long x2), .second, iv x4, iv x5, iv x6, iv x7, iv x8, iv x9, iv x10, rv x11, iv x12, iv x13, iv x14, iv (0 : Int32), iv (1 : Int32), rv x17, iv x18, iv x19, .val (.long x20), .second, rv x22, iv y0, iv (1 : Int32), iv (1 : Int32)] [(.ref x22)])) (fun tt_ kk_ => XS.istore X1081.here hx rfl (hb hby at_491) rfl (l' := #[.val (.long x0), .second, .val (.long x2), .second, iv x4, iv x5, iv x6, iv x7, iv x8, iv x9, iv x10, rv x11, iv x12, iv x13, iv x14, iv (0 : Int32), iv (1 : Int32), rv x17, iv x18, iv x19, .val (.long x20), .second, rv x22, iv y0, iv (1 : Int32), iv (1 : Int32)]) rfl (XS.iload X1081.here hx rfl (hb hby at_493) rfl (XS.ifNo X1081.here hx rfl (hb hby at_495) rfl ((if0 _ _).trans (feq (by decide : ¬ ((1 : Int32) = (0 : Int32)))).1) (XS.iload X1081.here hx rfl (hb hby at_498) rfl (XS.ifNo X1081.here hx rfl (hb hby at_500) rfl ((if0 _ _).trans (feq (by decide : ¬ ((1 : Int32) = (0 : Int32)))).1) (XS.aload X1081.here hx rfl (hb hby at_503) rfl rfl kk_)))))) ?_
      obtain ⟨cq1082, kq1082, q1082a, q1082b, q1082c⟩ := isOf hZ e1081 f1081_0
      obtain ⟨_, _, ⟨T1082, L1082, k1082, n1082⟩, -, X1082, ⟨Lc1082, hQ1082, l1082, y1082, z1082⟩, st1082⟩ := X1081.virtualBack hx (y := (⟨own_z0, "size", "()J"⟩ : MethodName)) (z := (⟨own_z0, "size", "()J"⟩ : MethodName)) hown (mvT hZ (own_w hw 149 rfl)) (mvT hZ (own_w hw 150 rfl)) (notFace_of_selects (args := #[]) (mvT hZ (own_w hw 152 rfl))) (mvT hZ (own_w hw 152 rfl)) (mvT hZ (own_w hw 151 rfl)) (by decide) (backOf (W := 0) (own_rmgsiz l Z a0 hw [] x22 ((((own_f21_0 (x8 + (9 : Int32)) (((x19.toInt64) - (1 : Int64)).toInt32)).toInt64) - (x18.toInt64)) + (1 : Int64)) h1081 n0 Z1081 f1081_1) hZ (own_w hw 153 rfl) (own_w hw 85 rfl) (by decide) (by decide)) q1082a q1082c (g := (mkF m 505 #[.val (.long x0), .second, .val (.long x2), .second, iv x4, iv x5, iv x6, iv x7, iv x8, iv x9, iv x10, rv x11, iv x12, iv x13, iv x14, iv (0 : Int32), iv (1 : Int32), rv x17, iv x18, iv x19, .val (.long x20), .second, rv x22, iv y0, iv (1 : Int32), iv (1 : Int32)] [(.ref x22)])) rfl (by rw [hml]; rfl) (Steps.refl _) (argsL := []) (rest := []) (lenOf own_pd11 rfl) rfl (by show 2 * 0 + _ ≤ _; exact Nat.le_of_eq rfl) (hb hby at_505) (fun _ _ => ⟨rfl, e1081, (show cells + 0 ≤ 48 by omega), (show slots + 0 ≤ 3264 by omega)⟩)
      dsimp only [Pt.U, Pt.locs, Pt.cells, Pt.slots] at X1082 l1082 y1082 z1082 st1082 hQ1082
      rw [l1082, y1082, z1082] at X1082
      obtain ⟨rfl, N1082q, e1082⟩ := hQ1082
      have N1082 := Fr.app N1081 N1082q
      refine own_stW (fun t k => st1082.trans k) ?_
      refine own_stW (g' := (mkF m 513 #[.val (.long x0), .second, .val (.long x2), .second, iv x4, iv x5, iv x6, iv x7, iv x8, iv x9, iv x10, rv x11, iv x12, iv x13, iv x14, iv (0 : Int32), iv (1 : Int32), rv x17, iv x18, iv x19, .val (.long x20), .second, rv x22, iv y0, iv (1 : Int32), iv (1 : Int32)] [(.int (lcmpW ((((own_f21_0 (x8 + (9 : Int32)) (((x19.toInt64) - (1 : Int64)).toInt32)).toInt64) - (x18.toInt64)) + (1 : Int64)) (x20 - (1 : Int64))))])) (fun tt_ kk_ => XS.lload X1082.here hx rfl (hb hby at_508) rfl (XS.lconst X1082.here hx rfl (hb hby at_510) (XS.lsub X1082.here hx rfl (hb hby at_511) rfl (XS.lcmp X1082.here hx rfl (hb hby at_512) rfl kk_)))) ?_
      refine own_stW (g' := (mkF m 521 #[.val (.long x0), .second, .val (.long x2), .second, iv x4, iv x5, iv x6, iv x7, iv x8, iv x9, iv x10, rv x11, iv x12, iv x13, iv x14, iv (0 : Int32), iv (1 : Int32), rv x17, iv x18, iv x19, .val (.long x20), .second, rv x22, iv y0, iv (1 : Int32), iv (1 : Int32)] [(.int (1 : Int32))])) (fun tt_ kk_ => XS.ifNo X1082.here hx rfl (hb hby at_513) rfl ((if0 _ _).trans (teq ((lw_eq _ _).mpr (own_rx_010 hbb hA hB hx18 hx19 hz0 hx20))).2) (XS.iconst X1082.here hx rfl (hb hby at_516) (XS.goto X1082.here hx rfl (pc0 := 517) (pc' := 521) rfl (hb hby at_517) (by decide) (by decide) kk_))) ?_
      exact own_retNW X1082 hx hlk (t := .boolean) (Or.inl rfl) hret (hb hby at_521) (by omega) (by omega) hS (by rw [e1082]; exact kz1081) ⟨rfl, N1082⟩
    obtain ⟨cq1083, kq1083, q1083a, q1083b, q1083c⟩ := isOf hZ e1080 H15
    obtain ⟨_, _, ⟨T1083, L1083, k1083, n1083⟩, -, X1083, ⟨Lc1083, hQ1083, l1083, y1083, z1083⟩, st1083⟩ := X1080.virtualBack hx (y := (⟨own_z0, own_z18, "(J)Z"⟩ : MethodName)) (z := (⟨own_z0, own_z18, "(J)Z"⟩ : MethodName)) hown (mvT hZ (own_w hw 167 rfl)) (mvT hZ (own_w hw 168 rfl)) (notFace_of_selects (args := #[]) (mvT hZ (own_w hw 170 rfl))) (mvT hZ (own_w hw 170 rfl)) (mvT hZ (own_w hw 169 rfl)) (by decide) (backOf (W := 0) (own_rmrab011 l Z a0 hw [] x22 ((x19.toInt64) - (1 : Int64)) x18 x19 x20 x0 x17 x4 x11 y1 z6 z2 z3 z4 z5 x8 z0 z1 h0 n0 Z0 H15 H16 H17 H18 H19 H20 H23 H21 H22 H24 H26 H27 H28 H29 H30 H25 H14 H13 H2 H3 H4 H5 H6 H7 H8 H9 H10 H11 H12 H0 H1 (own_rh1 (x8 := x8) trivial) (own_rh2_011 hbb hA hB hx18 hx19 hz0) (own_rq0_011 hbb hA hB hx18 hx19 hz0) (own_rh9_011 hbb hA hB hx18 hx19 hz0 hx20) ne11 ne12 ne13 ne14 ne15 ne16 ne17 ne18 ne19 ne20 ne1 ne2 ne3 ne4 ne5 ne6 ne7 ne8 ne9 ne10 g_x22 g_z2 g_z3 g_z4 g_z5) hZ (own_w hw 171 rfl) (own_w hw 85 rfl) (by decide) (by decide)) q1083a q1083c (g := (mkF m 488 #[.val (.long x0), .second, .val (.long x2), .second, iv x4, iv x5, iv x6, iv x7, iv x8, iv x9, iv x10, rv x11, iv x12, iv x13, iv x14, iv (0 : Int32), iv (1 : Int32), rv x17, iv x18, iv x19, .val (.long x20), .second, rv x22, iv y0, iv (1 : Int32), .unset] [(.long ((x19.toInt64) - (1 : Int64))), (.ref x22)])) rfl (by rw [hml]; rfl) (Steps.refl _) (argsL := [(.long ((x19.toInt64) - (1 : Int64)))]) (rest := []) (lenOf own_pd13 rfl) rfl (by show 2 * 0 + _ ≤ _; exact Nat.le_of_eq rfl) (hb hby at_488) (fun _ _ => ⟨rfl, e1080, (show cells + 0 ≤ 48 by omega), (show slots + 0 ≤ 3264 by omega)⟩)
    dsimp only [Pt.U, Pt.locs, Pt.cells, Pt.slots] at X1083 l1083 y1083 z1083 st1083 hQ1083
    rw [l1083, y1083, z1083] at X1083
    obtain ⟨rfl, N1083q, K1083q, f1083_0, f1083_1⟩ := hQ1083
    obtain ⟨h1083, e1083⟩ : ∃ z, T1083.heap = z := ⟨_, rfl⟩
    rw [e1083] at K1083q f1083_0 f1083_1
    have Z1083 : n0 ≤ h1083.size := Nat.le_trans Z0 K1083q.1
    have kz1083 : k0 ≤ h1083.size := Nat.le_trans hk0 K1083q.1
    have N1083 := Fr.app N1080 N1083q
    refine own_stW (fun t k => st1083.trans k) ?_
    refine own_stW (g' := (mkF m 505 #[.val (.long x0), .second, .val (.long x2), .second, iv x4, iv x5, iv x6, iv x7, iv x8, iv x9, iv x10, rv x11, iv x12, iv x13, iv x14, iv (0 : Int32), iv (1 : Int32), rv x17, iv x18, iv x19, .val (.long x20), .second, rv x22, iv y0, iv (1 : Int32), iv (1 : Int32)] [(.ref x22)])) (fun tt_ kk_ => XS.istore X1083.here hx rfl (hb hby at_491) rfl (l' := #[.val (.long x0), .second, .val (.long x2), .second, iv x4, iv x5, iv x6, iv x7, iv x8, iv x9, iv x10, rv x11, iv x12, iv x13, iv x14, iv (0 : Int32), iv (1 : Int32), rv x17, iv x18, iv x19, .val (.long x20), .second, rv x22, iv y0, iv (1 : Int32), iv (1 : Int32)]) rfl (XS.iload X1083.here hx rfl (hb hby at_493) rfl (XS.ifNo X1083.here hx rfl (hb hby at_495) rfl ((if0 _ _).trans (feq (by decide : ¬ ((1 : Int32) = (0 : Int32)))).1) (XS.iload X1083.here hx rfl (hb hby at_498) rfl (XS.ifNo X1083.here hx rfl (hb hby at_500) rfl ((if0 _ _).trans (feq (by decide : ¬ ((1 : Int32) = (0 : Int32)))).1) (XS.aload X1083.here hx rfl (hb hby at_503) rfl rfl kk_)))))) ?_
    obtain ⟨cq1084, kq1084, q1084a, q1084b, q1084c⟩ := isOf hZ e1083 f1083_0
    obtain ⟨_, _, ⟨T1084, L1084, k1084, n1084⟩, -, X1084, ⟨Lc1084, hQ1084, l1084, y1084, z1084⟩, st1084⟩ := X1083.virtualBack hx (y := (⟨own_z0, "size", "()J"⟩ : MethodName)) (z := (⟨own_z0, "size", "()J"⟩ : MethodName)) hown (mvT hZ (own_w hw 149 rfl)) (mvT hZ (own_w hw 150 rfl)) (notFace_of_selects (args := #[]) (mvT hZ (own_w hw 152 rfl))) (mvT hZ (own_w hw 152 rfl)) (mvT hZ (own_w hw 151 rfl)) (by decide) (backOf (W := 0) (own_rmgsiz l Z a0 hw [] x22 (((((((x8 + (9 : Int32)).toInt64) - (x18.toInt64)) + (1 : Int64)) + ((own_f21_0 (x8 + (29 : Int32)) (((x19.toInt64) - (1 : Int64)).toInt32)).toInt64)) - ((x8 + (20 : Int32)).toInt64)) + (1 : Int64)) h1083 n0 Z1083 f1083_1) hZ (own_w hw 153 rfl) (own_w hw 85 rfl) (by decide) (by decide)) q1084a q1084c (g := (mkF m 505 #[.val (.long x0), .second, .val (.long x2), .second, iv x4, iv x5, iv x6, iv x7, iv x8, iv x9, iv x10, rv x11, iv x12, iv x13, iv x14, iv (0 : Int32), iv (1 : Int32), rv x17, iv x18, iv x19, .val (.long x20), .second, rv x22, iv y0, iv (1 : Int32), iv (1 : Int32)] [(.ref x22)])) rfl (by rw [hml]; rfl) (Steps.refl _) (argsL := []) (rest := []) (lenOf own_pd11 rfl) rfl (by show 2 * 0 + _ ≤ _; exact Nat.le_of_eq rfl) (hb hby at_505) (fun _ _ => ⟨rfl, e1083, (show cells + 0 ≤ 48 by omega), (show slots + 0 ≤ 3264 by omega)⟩)
    dsimp only [Pt.U, Pt.locs, Pt.cells, Pt.slots] at X1084 l1084 y1084 z1084 st1084 hQ1084
    rw [l1084, y1084, z1084] at X1084
    obtain ⟨rfl, N1084q, e1084⟩ := hQ1084
    have N1084 := Fr.app N1083 N1084q
    refine own_stW (fun t k => st1084.trans k) ?_
    refine own_stW (g' := (mkF m 513 #[.val (.long x0), .second, .val (.long x2), .second, iv x4, iv x5, iv x6, iv x7, iv x8, iv x9, iv x10, rv x11, iv x12, iv x13, iv x14, iv (0 : Int32), iv (1 : Int32), rv x17, iv x18, iv x19, .val (.long x20), .second, rv x22, iv y0, iv (1 : Int32), iv (1 : Int32)] [(.int (lcmpW (((((((x8 + (9 : Int32)).toInt64) - (x18.toInt64)) + (1 : Int64)) + ((own_f21_0 (x8 + (29 : Int32)) (((x19.toInt64) - (1 : Int64)).toInt32)).toInt64)) - ((x8 + (20 : Int32)).toInt64)) + (1 : Int64)) (x20 - (1 : Int64))))])) (fun tt_ kk_ => XS.lload X1084.here hx rfl (hb hby at_508) rfl (XS.lconst X1084.here hx rfl (hb hby at_510) (XS.lsub X1084.here hx rfl (hb hby at_511) rfl (XS.lcmp X1084.here hx rfl (hb hby at_512) rfl kk_)))) ?_
    refine own_stW (g' := (mkF m 521 #[.val (.long x0), .second, .val (.long x2), .second, iv x4, iv x5, iv x6, iv x7, iv x8, iv x9, iv x10, rv x11, iv x12, iv x13, iv x14, iv (0 : Int32), iv (1 : Int32), rv x17, iv x18, iv x19, .val (.long x20), .second, rv x22, iv y0, iv (1 : Int32), iv (1 : Int32)] [(.int (1 : Int32))])) (fun tt_ kk_ => XS.ifNo X1084.here hx rfl (hb hby at_513) rfl ((if0 _ _).trans (teq ((lw_eq _ _).mpr (own_rx_011 hbb hA hB hx18 hx19 hz0 hx20))).2) (XS.iconst X1084.here hx rfl (hb hby at_516) (XS.goto X1084.here hx rfl (pc0 := 517) (pc' := 521) rfl (hb hby at_517) (by decide) (by decide) kk_))) ?_
    exact own_retNW X1084 hx hlk (t := .boolean) (Or.inl rfl) hret (hb hby at_521) (by omega) (by omega) hS (by rw [e1084]; exact kz1083) ⟨rfl, N1084⟩
  · rw [own_g02] at hy
    refine own_stW (g' := (mkF m 423 #[.val (.long x0), .second, .val (.long x2), .second, iv x4, iv x5, iv x6, iv x7, iv x8, iv x9, iv x10, rv x11, iv x12, iv x13, iv x14, iv (0 : Int32), iv (2 : Int32), rv x17, iv x18, iv x19, .val (.long x20), .second, rv x22, iv y0, .unset, .unset] [(.ref x22)])) (fun tt_ kk_ => XS.istore X0.here hx rfl (hb hby at_419) rfl (l' := #[.val (.long x0), .second, .val (.long x2), .second, iv x4, iv x5, iv x6, iv x7, iv x8, iv x9, iv x10, rv x11, iv x12, iv x13, iv x14, iv (0 : Int32), iv (2 : Int32), rv x17, iv x18, iv x19, .val (.long x20), .second, rv x22, iv y0, .unset, .unset]) rfl (XS.aload X0.here hx rfl (hb hby at_421) rfl rfl kk_)) ?_
    obtain ⟨cq1085, kq1085, q1085a, q1085b, q1085c⟩ := isOf hZ e0 H15
    obtain ⟨_, _, ⟨T1085, L1085, k1085, n1085⟩, -, X1085, ⟨Lc1085, hQ1085, l1085, y1085, z1085⟩, st1085⟩ := X0.virtualBack hx (y := (⟨own_z0, "min", "()I"⟩ : MethodName)) (z := (⟨own_z0, "min", "()I"⟩ : MethodName)) hown (mvT hZ (own_w hw 139 rfl)) (mvT hZ (own_w hw 140 rfl)) (notFace_of_selects (args := #[]) (mvT hZ (own_w hw 142 rfl))) (mvT hZ (own_w hw 142 rfl)) (mvT hZ (own_w hw 141 rfl)) (by decide) (backOf (W := 0) (own_rmgmin l Z a0 hw [] x22 x18 h0 n0 Z0 H16) hZ (own_w hw 143 rfl) (own_w hw 85 rfl) (by decide) (by decide)) q1085a q1085c (g := (mkF m 423 #[.val (.long x0), .second, .val (.long x2), .second, iv x4, iv x5, iv x6, iv x7, iv x8, iv x9, iv x10, rv x11, iv x12, iv x13, iv x14, iv (0 : Int32), iv (2 : Int32), rv x17, iv x18, iv x19, .val (.long x20), .second, rv x22, iv y0, .unset, .unset] [(.ref x22)])) rfl (by rw [hml]; rfl) (Steps.refl _) (argsL := []) (rest := []) (lenOf own_pd3 rfl) rfl (by show 2 * 0 + _ ≤ _; exact Nat.le_of_eq rfl) (hb hby at_423) (fun _ _ => ⟨rfl, e0, (show cells + 0 ≤ 48 by omega), (show slots + 0 ≤ 3264 by omega)⟩)
    dsimp only [Pt.U, Pt.locs, Pt.cells, Pt.slots] at X1085 l1085 y1085 z1085 st1085 hQ1085
    rw [l1085, y1085, z1085] at X1085
    obtain ⟨rfl, N1085q, e1085⟩ := hQ1085
    have N1085 := Fr.app N0 N1085q
    refine own_stW (fun t k => st1085.trans k) ?_
    refine own_stW (g' := (mkF m 433 #[.val (.long x0), .second, .val (.long x2), .second, iv x4, iv x5, iv x6, iv x7, iv x8, iv x9, iv x10, rv x11, iv x12, iv x13, iv x14, iv (0 : Int32), iv (2 : Int32), rv x17, iv x18, iv x19, .val (.long x20), .second, rv x22, iv y0, .unset, .unset] [(.ref x22)])) (fun tt_ kk_ => XS.iload X1085.here hx rfl (hb hby at_426) rfl (XS.icmpNo X1085.here hx rfl (hb hby at_428) rfl (teq (rfl : x18 = x18)).2 (XS.aload X1085.here hx rfl (hb hby at_431) rfl rfl kk_))) ?_
    obtain ⟨cq1086, kq1086, q1086a, q1086b, q1086c⟩ := isOf hZ e1085 H15
    obtain ⟨_, _, ⟨T1086, L1086, k1086, n1086⟩, -, X1086, ⟨Lc1086, hQ1086, l1086, y1086, z1086⟩, st1086⟩ := X1085.virtualBack hx (y := (⟨own_z0, "max", "()I"⟩ : MethodName)) (z := (⟨own_z0, "max", "()I"⟩ : MethodName)) hown (mvT hZ (own_w hw 144 rfl)) (mvT hZ (own_w hw 145 rfl)) (notFace_of_selects (args := #[]) (mvT hZ (own_w hw 147 rfl))) (mvT hZ (own_w hw 147 rfl)) (mvT hZ (own_w hw 146 rfl)) (by decide) (backOf (W := 0) (own_rmgmax l Z a0 hw [] x22 x19 h0 n0 Z0 H17) hZ (own_w hw 148 rfl) (own_w hw 85 rfl) (by decide) (by decide)) q1086a q1086c (g := (mkF m 433 #[.val (.long x0), .second, .val (.long x2), .second, iv x4, iv x5, iv x6, iv x7, iv x8, iv x9, iv x10, rv x11, iv x12, iv x13, iv x14, iv (0 : Int32), iv (2 : Int32), rv x17, iv x18, iv x19, .val (.long x20), .second, rv x22, iv y0, .unset, .unset] [(.ref x22)])) rfl (by rw [hml]; rfl) (Steps.refl _) (argsL := []) (rest := []) (lenOf own_pd3 rfl) rfl (by show 2 * 0 + _ ≤ _; exact Nat.le_of_eq rfl) (hb hby at_433) (fun _ _ => ⟨rfl, e1085, (show cells + 0 ≤ 48 by omega), (show slots + 0 ≤ 3264 by omega)⟩)
    dsimp only [Pt.U, Pt.locs, Pt.cells, Pt.slots] at X1086 l1086 y1086 z1086 st1086 hQ1086
    rw [l1086, y1086, z1086] at X1086
    obtain ⟨rfl, N1086q, e1086⟩ := hQ1086
    have N1086 := Fr.app N1085 N1086q
    refine own_stW (fun t k => st1086.trans k) ?_
    refine own_stW (g' := (mkF m 443 #[.val (.long x0), .second, .val (.long x2), .second, iv x4, iv x5, iv x6, iv x7, iv x8, iv x9, iv x10, rv x11, iv x12, iv x13, iv x14, iv (0 : Int32), iv (2 : Int32), rv x17, iv x18, iv x19, .val (.long x20), .second, rv x22, iv y0, .unset, .unset] [(.ref x22)])) (fun tt_ kk_ => XS.iload X1086.here hx rfl (hb hby at_436) rfl (XS.icmpNo X1086.here hx rfl (hb hby at_438) rfl (teq (rfl : x19 = x19)).2 (XS.aload X1086.here hx rfl (hb hby at_441) rfl rfl kk_))) ?_
    obtain ⟨cq1087, kq1087, q1087a, q1087b, q1087c⟩ := isOf hZ e1086 H15
    obtain ⟨_, _, ⟨T1087, L1087, k1087, n1087⟩, -, X1087, ⟨Lc1087, hQ1087, l1087, y1087, z1087⟩, st1087⟩ := X1086.virtualBack hx (y := (⟨own_z0, "size", "()J"⟩ : MethodName)) (z := (⟨own_z0, "size", "()J"⟩ : MethodName)) hown (mvT hZ (own_w hw 149 rfl)) (mvT hZ (own_w hw 150 rfl)) (notFace_of_selects (args := #[]) (mvT hZ (own_w hw 152 rfl))) (mvT hZ (own_w hw 152 rfl)) (mvT hZ (own_w hw 151 rfl)) (by decide) (backOf (W := 0) (own_rmgsiz l Z a0 hw [] x22 x20 h0 n0 Z0 H18) hZ (own_w hw 153 rfl) (own_w hw 85 rfl) (by decide) (by decide)) q1087a q1087c (g := (mkF m 443 #[.val (.long x0), .second, .val (.long x2), .second, iv x4, iv x5, iv x6, iv x7, iv x8, iv x9, iv x10, rv x11, iv x12, iv x13, iv x14, iv (0 : Int32), iv (2 : Int32), rv x17, iv x18, iv x19, .val (.long x20), .second, rv x22, iv y0, .unset, .unset] [(.ref x22)])) rfl (by rw [hml]; rfl) (Steps.refl _) (argsL := []) (rest := []) (lenOf own_pd11 rfl) rfl (by show 2 * 0 + _ ≤ _; exact Nat.le_of_eq rfl) (hb hby at_443) (fun _ _ => ⟨rfl, e1086, (show cells + 0 ≤ 48 by omega), (show slots + 0 ≤ 3264 by omega)⟩)
    dsimp only [Pt.U, Pt.locs, Pt.cells, Pt.slots] at X1087 l1087 y1087 z1087 st1087 hQ1087
    rw [l1087, y1087, z1087] at X1087
    obtain ⟨rfl, N1087q, e1087⟩ := hQ1087
    have N1087 := Fr.app N1086 N1087q
    refine own_stW (fun t k => st1087.trans k) ?_
    refine own_stW (g' := (mkF m 449 #[.val (.long x0), .second, .val (.long x2), .second, iv x4, iv x5, iv x6, iv x7, iv x8, iv x9, iv x10, rv x11, iv x12, iv x13, iv x14, iv (0 : Int32), iv (2 : Int32), rv x17, iv x18, iv x19, .val (.long x20), .second, rv x22, iv y0, .unset, .unset] [(.int (lcmpW x20 x20))])) (fun tt_ kk_ => XS.lload X1087.here hx rfl (hb hby at_446) rfl (XS.lcmp X1087.here hx rfl (hb hby at_448) rfl kk_)) ?_
    refine own_stW (g' := (mkF m 454 #[.val (.long x0), .second, .val (.long x2), .second, iv x4, iv x5, iv x6, iv x7, iv x8, iv x9, iv x10, rv x11, iv x12, iv x13, iv x14, iv (0 : Int32), iv (2 : Int32), rv x17, iv x18, iv x19, .val (.long x20), .second, rv x22, iv y0, .unset, .unset] [(.ref x22)])) (fun tt_ kk_ => XS.ifNo X1087.here hx rfl (hb hby at_449) rfl ((if0 _ _).trans (teq ((lw_eq _ _).mpr rfl)).2) (XS.aload X1087.here hx rfl (hb hby at_452) rfl rfl kk_)) ?_
    obtain ⟨cq1088, kq1088, q1088a, q1088b, q1088c⟩ := isOf hZ e1087 H15
    obtain ⟨_, _, ⟨T1088, L1088, k1088, n1088⟩, -, X1088, ⟨Lc1088, hQ1088, l1088, y1088, z1088⟩, st1088⟩ := X1087.virtualBack hx (y := (⟨own_z0, "stamp", "()I"⟩ : MethodName)) (z := (⟨own_z0, "stamp", "()I"⟩ : MethodName)) hown (mvT hZ (own_w hw 154 rfl)) (mvT hZ (own_w hw 155 rfl)) (notFace_of_selects (args := #[]) (mvT hZ (own_w hw 157 rfl))) (mvT hZ (own_w hw 157 rfl)) (mvT hZ (own_w hw 156 rfl)) (by decide) (backOf (W := 0) (own_rmgstp l Z a0 hw [] x22 x4 h0 n0 Z0 H23) hZ (own_w hw 158 rfl) (own_w hw 85 rfl) (by decide) (by decide)) q1088a q1088c (g := (mkF m 454 #[.val (.long x0), .second, .val (.long x2), .second, iv x4, iv x5, iv x6, iv x7, iv x8, iv x9, iv x10, rv x11, iv x12, iv x13, iv x14, iv (0 : Int32), iv (2 : Int32), rv x17, iv x18, iv x19, .val (.long x20), .second, rv x22, iv y0, .unset, .unset] [(.ref x22)])) rfl (by rw [hml]; rfl) (Steps.refl _) (argsL := []) (rest := []) (lenOf own_pd3 rfl) rfl (by show 2 * 0 + _ ≤ _; exact Nat.le_of_eq rfl) (hb hby at_454) (fun _ _ => ⟨rfl, e1087, (show cells + 0 ≤ 48 by omega), (show slots + 0 ≤ 3264 by omega)⟩)
    dsimp only [Pt.U, Pt.locs, Pt.cells, Pt.slots] at X1088 l1088 y1088 z1088 st1088 hQ1088
    rw [l1088, y1088, z1088] at X1088
    obtain ⟨rfl, N1088q, e1088⟩ := hQ1088
    have N1088 := Fr.app N1087 N1088q
    refine own_stW (fun t k => st1088.trans k) ?_
    refine own_stW (g' := (mkF m 466 #[.val (.long x0), .second, .val (.long x2), .second, iv x4, iv x5, iv x6, iv x7, iv x8, iv x9, iv x10, rv x11, iv x12, iv x13, iv x14, iv (0 : Int32), iv (2 : Int32), rv x17, iv x18, iv x19, .val (.long x20), .second, rv x22, iv y0, .unset, .unset] [(.int x10), (.ref x22)])) (fun tt_ kk_ => XS.iload X1088.here hx rfl (hb hby at_457) rfl (XS.icmpNo X1088.here hx rfl (hb hby at_459) rfl (teq (rfl : x4 = x4)).2 (XS.aload X1088.here hx rfl (hb hby at_462) rfl rfl (XS.iload X1088.here hx rfl (hb hby at_464) rfl kk_)))) ?_
    obtain ⟨cq1089, kq1089, q1089a, q1089b, q1089c⟩ := isOf hZ e1088 H15
    obtain ⟨_, _, ⟨T1089, L1089, k1089, n1089⟩, -, X1089, ⟨Lc1089, hQ1089, l1089, y1089, z1089⟩, st1089⟩ := X1088.virtualBack hx (y := (⟨own_z0, "contains", "(I)Z"⟩ : MethodName)) (z := (⟨own_z0, "contains", "(I)Z"⟩ : MethodName)) hown (mvT hZ (own_w hw 159 rfl)) (mvT hZ (own_w hw 160 rfl)) (notFace_of_selects (args := #[]) (mvT hZ (own_w hw 162 rfl))) (mvT hZ (own_w hw 162 rfl)) (mvT hZ (own_w hw 161 rfl)) (by decide) (backOf (W := 0) (own_rmcon02 l Z a0 hw [] x22 x10 x18 x19 x17 x8 h0 n0 Z0 H15 H16 H17 H25 H20 H21 H22 H13) hZ (own_w hw 163 rfl) (own_w hw 85 rfl) (by decide) (by decide)) q1089a q1089c (g := (mkF m 466 #[.val (.long x0), .second, .val (.long x2), .second, iv x4, iv x5, iv x6, iv x7, iv x8, iv x9, iv x10, rv x11, iv x12, iv x13, iv x14, iv (0 : Int32), iv (2 : Int32), rv x17, iv x18, iv x19, .val (.long x20), .second, rv x22, iv y0, .unset, .unset] [(.int x10), (.ref x22)])) rfl (by rw [hml]; rfl) (Steps.refl _) (argsL := [(.int x10)]) (rest := []) (lenOf own_pd12 rfl) rfl (by show 2 * 0 + _ ≤ _; exact Nat.le_of_eq rfl) (hb hby at_466) (fun _ _ => ⟨rfl, e1088, (show cells + 0 ≤ 48 by omega), (show slots + 0 ≤ 3264 by omega)⟩)
    dsimp only [Pt.U, Pt.locs, Pt.cells, Pt.slots] at X1089 l1089 y1089 z1089 st1089 hQ1089
    rw [l1089, y1089, z1089] at X1089
    obtain ⟨rfl, N1089q, e1089⟩ := hQ1089
    have N1089 := Fr.app N1088 N1089q
    refine own_stW (fun t k => st1089.trans k) ?_
    refine own_stW (g' := (mkF m 471 #[.val (.long x0), .second, .val (.long x2), .second, iv x4, iv x5, iv x6, iv x7, iv x8, iv x9, iv x10, rv x11, iv x12, iv x13, iv x14, iv (0 : Int32), iv (2 : Int32), rv x17, iv x18, iv x19, .val (.long x20), .second, rv x22, iv y0, .unset, .unset] [(.int y0), (.int (own_cB02 x18 x19 x10 x8))])) (fun tt_ kk_ => XS.iload X1089.here hx rfl (hb hby at_469) rfl kk_) ?_
    refine own_stW (g' := (mkF m 488 #[.val (.long x0), .second, .val (.long x2), .second, iv x4, iv x5, iv x6, iv x7, iv x8, iv x9, iv x10, rv x11, iv x12, iv x13, iv x14, iv (0 : Int32), iv (2 : Int32), rv x17, iv x18, iv x19, .val (.long x20), .second, rv x22, iv y0, iv (1 : Int32), .unset] [(.long ((x19.toInt64) - (1 : Int64))), (.ref x22)])) (fun tt_ kk_ => XS.icmpNo X1089.here hx rfl (hb hby at_471) rfl (teq hy).2 (XS.iconst X1089.here hx rfl (hb hby at_474) (XS.goto X1089.here hx rfl (pc0 := 475) (pc' := 479) rfl (hb hby at_475) (by decide) (by decide) (XS.istore X1089.here hx rfl (hb hby at_479) rfl (l' := #[.val (.long x0), .second, .val (.long x2), .second, iv x4, iv x5, iv x6, iv x7, iv x8, iv x9, iv x10, rv x11, iv x12, iv x13, iv x14, iv (0 : Int32), iv (2 : Int32), rv x17, iv x18, iv x19, .val (.long x20), .second, rv x22, iv y0, iv (1 : Int32), .unset]) rfl (XS.aload X1089.here hx rfl (hb hby at_481) rfl rfl (XS.iload X1089.here hx rfl (hb hby at_483) rfl (XS.i2l X1089.here hx rfl (hb hby at_485) rfl (XS.lconst X1089.here hx rfl (hb hby at_486) (XS.lsub X1089.here hx rfl (hb hby at_487) rfl kk_))))))))) ?_
    by_cases hz0 : x13 = (0 : Int32)
    · skip
      obtain ⟨cq1090, kq1090, q1090a, q1090b, q1090c⟩ := isOf hZ e1089 H15
      obtain ⟨_, _, ⟨T1090, L1090, k1090, n1090⟩, -, X1090, ⟨Lc1090, hQ1090, l1090, y1090, z1090⟩, st1090⟩ := X1089.virtualBack hx (y := (⟨own_z0, own_z18, "(J)Z"⟩ : MethodName)) (z := (⟨own_z0, own_z18, "(J)Z"⟩ : MethodName)) hown (mvT hZ (own_w hw 167 rfl)) (mvT hZ (own_w hw 168 rfl)) (notFace_of_selects (args := #[]) (mvT hZ (own_w hw 170 rfl))) (mvT hZ (own_w hw 170 rfl)) (mvT hZ (own_w hw 169 rfl)) (by decide) (backOf (W := 0) (own_rmrab021 l Z a0 hw [] x22 ((x19.toInt64) - (1 : Int64)) x18 x19 x20 x0 x17 x4 x11 y1 z6 z2 z3 z4 z5 x8 z0 z1 h0 n0 Z0 H15 H16 H17 H18 H19 H20 H23 H21 H22 H24 H26 H27 H28 H29 H30 H25 H14 H13 H2 H3 H4 H5 H6 H7 H8 H9 H10 H11 H12 H0 H1 (own_rh1 (x8 := x8) trivial) (own_rh2_021 hbb hA hB hx18 hx19 hz0) (own_rq0_021 hbb hA hB hx18 hx19 hz0) (own_rq1_021 hbb hA hB hx18 hx19 hz0) (own_rh9_021 hbb hA hB hx18 hx19 hz0 hx20) ne11 ne12 ne13 ne14 ne15 ne16 ne17 ne18 ne19 ne20 ne1 ne2 ne3 ne4 ne5 ne6 ne7 ne8 ne9 ne10 g_x22 g_z2 g_z3 g_z4 g_z5) hZ (own_w hw 171 rfl) (own_w hw 85 rfl) (by decide) (by decide)) q1090a q1090c (g := (mkF m 488 #[.val (.long x0), .second, .val (.long x2), .second, iv x4, iv x5, iv x6, iv x7, iv x8, iv x9, iv x10, rv x11, iv x12, iv x13, iv x14, iv (0 : Int32), iv (2 : Int32), rv x17, iv x18, iv x19, .val (.long x20), .second, rv x22, iv y0, iv (1 : Int32), .unset] [(.long ((x19.toInt64) - (1 : Int64))), (.ref x22)])) rfl (by rw [hml]; rfl) (Steps.refl _) (argsL := [(.long ((x19.toInt64) - (1 : Int64)))]) (rest := []) (lenOf own_pd13 rfl) rfl (by show 2 * 0 + _ ≤ _; exact Nat.le_of_eq rfl) (hb hby at_488) (fun _ _ => ⟨rfl, e1089, (show cells + 0 ≤ 48 by omega), (show slots + 0 ≤ 3264 by omega)⟩)
      dsimp only [Pt.U, Pt.locs, Pt.cells, Pt.slots] at X1090 l1090 y1090 z1090 st1090 hQ1090
      rw [l1090, y1090, z1090] at X1090
      obtain ⟨rfl, N1090q, K1090q, f1090_0, f1090_1⟩ := hQ1090
      obtain ⟨h1090, e1090⟩ : ∃ z, T1090.heap = z := ⟨_, rfl⟩
      rw [e1090] at K1090q f1090_0 f1090_1
      have Z1090 : n0 ≤ h1090.size := Nat.le_trans Z0 K1090q.1
      have kz1090 : k0 ≤ h1090.size := Nat.le_trans hk0 K1090q.1
      have N1090 := Fr.app N1089 N1090q
      refine own_stW (fun t k => st1090.trans k) ?_
      refine own_stW (g' := (mkF m 505 #[.val (.long x0), .second, .val (.long x2), .second, iv x4, iv x5, iv x6, iv x7, iv x8, iv x9, iv x10, rv x11, iv x12, iv x13, iv x14, iv (0 : Int32), iv (2 : Int32), rv x17, iv x18, iv x19, .val (.long x20), .second, rv x22, iv y0, iv (1 : Int32), iv (1 : Int32)] [(.ref x22)])) (fun tt_ kk_ => XS.istore X1090.here hx rfl (hb hby at_491) rfl (l' := #[.val (.long x0), .second, .val (.long x2), .second, iv x4, iv x5, iv x6, iv x7, iv x8, iv x9, iv x10, rv x11, iv x12, iv x13, iv x14, iv (0 : Int32), iv (2 : Int32), rv x17, iv x18, iv x19, .val (.long x20), .second, rv x22, iv y0, iv (1 : Int32), iv (1 : Int32)]) rfl (XS.iload X1090.here hx rfl (hb hby at_493) rfl (XS.ifNo X1090.here hx rfl (hb hby at_495) rfl ((if0 _ _).trans (feq (by decide : ¬ ((1 : Int32) = (0 : Int32)))).1) (XS.iload X1090.here hx rfl (hb hby at_498) rfl (XS.ifNo X1090.here hx rfl (hb hby at_500) rfl ((if0 _ _).trans (feq (by decide : ¬ ((1 : Int32) = (0 : Int32)))).1) (XS.aload X1090.here hx rfl (hb hby at_503) rfl rfl kk_)))))) ?_
      obtain ⟨cq1091, kq1091, q1091a, q1091b, q1091c⟩ := isOf hZ e1090 f1090_0
      obtain ⟨_, _, ⟨T1091, L1091, k1091, n1091⟩, -, X1091, ⟨Lc1091, hQ1091, l1091, y1091, z1091⟩, st1091⟩ := X1090.virtualBack hx (y := (⟨own_z0, "size", "()J"⟩ : MethodName)) (z := (⟨own_z0, "size", "()J"⟩ : MethodName)) hown (mvT hZ (own_w hw 149 rfl)) (mvT hZ (own_w hw 150 rfl)) (notFace_of_selects (args := #[]) (mvT hZ (own_w hw 152 rfl))) (mvT hZ (own_w hw 152 rfl)) (mvT hZ (own_w hw 151 rfl)) (by decide) (backOf (W := 0) (own_rmgsiz l Z a0 hw [] x22 (((((((x8 + (9 : Int32)).toInt64) - (x18.toInt64)) + (1 : Int64)) + ((own_f21_0 (x8 + (29 : Int32)) (((x19.toInt64) - (1 : Int64)).toInt32)).toInt64)) - ((x8 + (20 : Int32)).toInt64)) + (1 : Int64)) h1090 n0 Z1090 f1090_1) hZ (own_w hw 153 rfl) (own_w hw 85 rfl) (by decide) (by decide)) q1091a q1091c (g := (mkF m 505 #[.val (.long x0), .second, .val (.long x2), .second, iv x4, iv x5, iv x6, iv x7, iv x8, iv x9, iv x10, rv x11, iv x12, iv x13, iv x14, iv (0 : Int32), iv (2 : Int32), rv x17, iv x18, iv x19, .val (.long x20), .second, rv x22, iv y0, iv (1 : Int32), iv (1 : Int32)] [(.ref x22)])) rfl (by rw [hml]; rfl) (Steps.refl _) (argsL := []) (rest := []) (lenOf own_pd11 rfl) rfl (by show 2 * 0 + _ ≤ _; exact Nat.le_of_eq rfl) (hb hby at_505) (fun _ _ => ⟨rfl, e1090, (show cells + 0 ≤ 48 by omega), (show slots + 0 ≤ 3264 by omega)⟩)
      dsimp only [Pt.U, Pt.locs, Pt.cells, Pt.slots] at X1091 l1091 y1091 z1091 st1091 hQ1091
      rw [l1091, y1091, z1091] at X1091
      obtain ⟨rfl, N1091q, e1091⟩ := hQ1091
      have N1091 := Fr.app N1090 N1091q
      refine own_stW (fun t k => st1091.trans k) ?_
      refine own_stW (g' := (mkF m 513 #[.val (.long x0), .second, .val (.long x2), .second, iv x4, iv x5, iv x6, iv x7, iv x8, iv x9, iv x10, rv x11, iv x12, iv x13, iv x14, iv (0 : Int32), iv (2 : Int32), rv x17, iv x18, iv x19, .val (.long x20), .second, rv x22, iv y0, iv (1 : Int32), iv (1 : Int32)] [(.int (lcmpW (((((((x8 + (9 : Int32)).toInt64) - (x18.toInt64)) + (1 : Int64)) + ((own_f21_0 (x8 + (29 : Int32)) (((x19.toInt64) - (1 : Int64)).toInt32)).toInt64)) - ((x8 + (20 : Int32)).toInt64)) + (1 : Int64)) (x20 - (1 : Int64))))])) (fun tt_ kk_ => XS.lload X1091.here hx rfl (hb hby at_508) rfl (XS.lconst X1091.here hx rfl (hb hby at_510) (XS.lsub X1091.here hx rfl (hb hby at_511) rfl (XS.lcmp X1091.here hx rfl (hb hby at_512) rfl kk_)))) ?_
      refine own_stW (g' := (mkF m 521 #[.val (.long x0), .second, .val (.long x2), .second, iv x4, iv x5, iv x6, iv x7, iv x8, iv x9, iv x10, rv x11, iv x12, iv x13, iv x14, iv (0 : Int32), iv (2 : Int32), rv x17, iv x18, iv x19, .val (.long x20), .second, rv x22, iv y0, iv (1 : Int32), iv (1 : Int32)] [(.int (1 : Int32))])) (fun tt_ kk_ => XS.ifNo X1091.here hx rfl (hb hby at_513) rfl ((if0 _ _).trans (teq ((lw_eq _ _).mpr (own_rx_021 hbb hA hB hx18 hx19 hz0 hx20))).2) (XS.iconst X1091.here hx rfl (hb hby at_516) (XS.goto X1091.here hx rfl (pc0 := 517) (pc' := 521) rfl (hb hby at_517) (by decide) (by decide) kk_))) ?_
      exact own_retNW X1091 hx hlk (t := .boolean) (Or.inl rfl) hret (hb hby at_521) (by omega) (by omega) hS (by rw [e1091]; exact kz1090) ⟨rfl, N1091⟩
    obtain ⟨cq1092, kq1092, q1092a, q1092b, q1092c⟩ := isOf hZ e1089 H15
    obtain ⟨_, _, ⟨T1092, L1092, k1092, n1092⟩, -, X1092, ⟨Lc1092, hQ1092, l1092, y1092, z1092⟩, st1092⟩ := X1089.virtualBack hx (y := (⟨own_z0, own_z18, "(J)Z"⟩ : MethodName)) (z := (⟨own_z0, own_z18, "(J)Z"⟩ : MethodName)) hown (mvT hZ (own_w hw 167 rfl)) (mvT hZ (own_w hw 168 rfl)) (notFace_of_selects (args := #[]) (mvT hZ (own_w hw 170 rfl))) (mvT hZ (own_w hw 170 rfl)) (mvT hZ (own_w hw 169 rfl)) (by decide) (backOf (W := 0) (own_rmrab022 l Z a0 hw [] x22 ((x19.toInt64) - (1 : Int64)) x18 x19 x20 x0 x17 x4 x11 y1 z6 z2 z3 z4 z5 x8 z0 z1 h0 n0 Z0 H15 H16 H17 H18 H19 H20 H23 H21 H22 H24 H26 H27 H28 H29 H30 H25 H14 H13 H2 H3 H4 H5 H6 H7 H8 H9 H10 H11 H12 H0 H1 (own_rh1 (x8 := x8) trivial) (own_rh2_022 hbb hA hB hx18 hx19 hz0) (own_rq0_022 hbb hA hB hx18 hx19 hz0) (own_rq1_022 hbb hA hB hx18 hx19 hz0) (own_rh9_022 hbb hA hB hx18 hx19 hz0 hx20) ne11 ne12 ne13 ne14 ne15 ne16 ne17 ne18 ne19 ne20 ne1 ne2 ne3 ne4 ne5 ne6 ne7 ne8 ne9 ne10 g_x22 g_z2 g_z3 g_z4 g_z5) hZ (own_w hw 171 rfl) (own_w hw 85 rfl) (by decide) (by decide)) q1092a q1092c (g := (mkF m 488 #[.val (.long x0), .second, .val (.long x2), .second, iv x4, iv x5, iv x6, iv x7, iv x8, iv x9, iv x10, rv x11, iv x12, iv x13, iv x14, iv (0 : Int32), iv (2 : Int32), rv x17, iv x18, iv x19, .val (.long x20), .second, rv x22, iv y0, iv (1 : Int32), .unset] [(.long ((x19.toInt64) - (1 : Int64))), (.ref x22)])) rfl (by rw [hml]; rfl) (Steps.refl _) (argsL := [(.long ((x19.toInt64) - (1 : Int64)))]) (rest := []) (lenOf own_pd13 rfl) rfl (by show 2 * 0 + _ ≤ _; exact Nat.le_of_eq rfl) (hb hby at_488) (fun _ _ => ⟨rfl, e1089, (show cells + 0 ≤ 48 by omega), (show slots + 0 ≤ 3264 by omega)⟩)
    dsimp only [Pt.U, Pt.locs, Pt.cells, Pt.slots] at X1092 l1092 y1092 z1092 st1092 hQ1092
    rw [l1092, y1092, z1092] at X1092
    obtain ⟨rfl, N1092q, K1092q, f1092_0, f1092_1⟩ := hQ1092
    obtain ⟨h1092, e1092⟩ : ∃ z, T1092.heap = z := ⟨_, rfl⟩
    rw [e1092] at K1092q f1092_0 f1092_1
    have Z1092 : n0 ≤ h1092.size := Nat.le_trans Z0 K1092q.1
    have kz1092 : k0 ≤ h1092.size := Nat.le_trans hk0 K1092q.1
    have N1092 := Fr.app N1089 N1092q
    refine own_stW (fun t k => st1092.trans k) ?_
    refine own_stW (g' := (mkF m 505 #[.val (.long x0), .second, .val (.long x2), .second, iv x4, iv x5, iv x6, iv x7, iv x8, iv x9, iv x10, rv x11, iv x12, iv x13, iv x14, iv (0 : Int32), iv (2 : Int32), rv x17, iv x18, iv x19, .val (.long x20), .second, rv x22, iv y0, iv (1 : Int32), iv (1 : Int32)] [(.ref x22)])) (fun tt_ kk_ => XS.istore X1092.here hx rfl (hb hby at_491) rfl (l' := #[.val (.long x0), .second, .val (.long x2), .second, iv x4, iv x5, iv x6, iv x7, iv x8, iv x9, iv x10, rv x11, iv x12, iv x13, iv x14, iv (0 : Int32), iv (2 : Int32), rv x17, iv x18, iv x19, .val (.long x20), .second, rv x22, iv y0, iv (1 : Int32), iv (1 : Int32)]) rfl (XS.iload X1092.here hx rfl (hb hby at_493) rfl (XS.ifNo X1092.here hx rfl (hb hby at_495) rfl ((if0 _ _).trans (feq (by decide : ¬ ((1 : Int32) = (0 : Int32)))).1) (XS.iload X1092.here hx rfl (hb hby at_498) rfl (XS.ifNo X1092.here hx rfl (hb hby at_500) rfl ((if0 _ _).trans (feq (by decide : ¬ ((1 : Int32) = (0 : Int32)))).1) (XS.aload X1092.here hx rfl (hb hby at_503) rfl rfl kk_)))))) ?_
    obtain ⟨cq1093, kq1093, q1093a, q1093b, q1093c⟩ := isOf hZ e1092 f1092_0
    obtain ⟨_, _, ⟨T1093, L1093, k1093, n1093⟩, -, X1093, ⟨Lc1093, hQ1093, l1093, y1093, z1093⟩, st1093⟩ := X1092.virtualBack hx (y := (⟨own_z0, "size", "()J"⟩ : MethodName)) (z := (⟨own_z0, "size", "()J"⟩ : MethodName)) hown (mvT hZ (own_w hw 149 rfl)) (mvT hZ (own_w hw 150 rfl)) (notFace_of_selects (args := #[]) (mvT hZ (own_w hw 152 rfl))) (mvT hZ (own_w hw 152 rfl)) (mvT hZ (own_w hw 151 rfl)) (by decide) (backOf (W := 0) (own_rmgsiz l Z a0 hw [] x22 ((((((((x8 + (9 : Int32)).toInt64) - (x18.toInt64)) + (1 : Int64)) + ((own_f21_0 (x8 + (49 : Int32)) (((x19.toInt64) - (1 : Int64)).toInt32)).toInt64)) - ((x8 + (40 : Int32)).toInt64)) + (1 : Int64)) + ((((x8 + (29 : Int32)).toInt64) - ((x8 + (20 : Int32)).toInt64)) + (1 : Int64))) h1092 n0 Z1092 f1092_1) hZ (own_w hw 153 rfl) (own_w hw 85 rfl) (by decide) (by decide)) q1093a q1093c (g := (mkF m 505 #[.val (.long x0), .second, .val (.long x2), .second, iv x4, iv x5, iv x6, iv x7, iv x8, iv x9, iv x10, rv x11, iv x12, iv x13, iv x14, iv (0 : Int32), iv (2 : Int32), rv x17, iv x18, iv x19, .val (.long x20), .second, rv x22, iv y0, iv (1 : Int32), iv (1 : Int32)] [(.ref x22)])) rfl (by rw [hml]; rfl) (Steps.refl _) (argsL := []) (rest := []) (lenOf own_pd11 rfl) rfl (by show 2 * 0 + _ ≤ _; exact Nat.le_of_eq rfl) (hb hby at_505) (fun _ _ => ⟨rfl, e1092, (show cells + 0 ≤ 48 by omega), (show slots + 0 ≤ 3264 by omega)⟩)
    dsimp only [Pt.U, Pt.locs, Pt.cells, Pt.slots] at X1093 l1093 y1093 z1093 st1093 hQ1093
    rw [l1093, y1093, z1093] at X1093
    obtain ⟨rfl, N1093q, e1093⟩ := hQ1093
    have N1093 := Fr.app N1092 N1093q
    refine own_stW (fun t k => st1093.trans k) ?_
    refine own_stW (g' := (mkF m 513 #[.val (.long x0), .second, .val (.long x2), .second, iv x4, iv x5, iv x6, iv x7, iv x8, iv x9, iv x10, rv x11, iv x12, iv x13, iv x14, iv (0 : Int32), iv (2 : Int32), rv x17, iv x18, iv x19, .val (.long x20), .second, rv x22, iv y0, iv (1 : Int32), iv (1 : Int32)] [(.int (lcmpW ((((((((x8 + (9 : Int32)).toInt64) - (x18.toInt64)) + (1 : Int64)) + ((own_f21_0 (x8 + (49 : Int32)) (((x19.toInt64) - (1 : Int64)).toInt32)).toInt64)) - ((x8 + (40 : Int32)).toInt64)) + (1 : Int64)) + ((((x8 + (29 : Int32)).toInt64) - ((x8 + (20 : Int32)).toInt64)) + (1 : Int64))) (x20 - (1 : Int64))))])) (fun tt_ kk_ => XS.lload X1093.here hx rfl (hb hby at_508) rfl (XS.lconst X1093.here hx rfl (hb hby at_510) (XS.lsub X1093.here hx rfl (hb hby at_511) rfl (XS.lcmp X1093.here hx rfl (hb hby at_512) rfl kk_)))) ?_
    refine own_stW (g' := (mkF m 521 #[.val (.long x0), .second, .val (.long x2), .second, iv x4, iv x5, iv x6, iv x7, iv x8, iv x9, iv x10, rv x11, iv x12, iv x13, iv x14, iv (0 : Int32), iv (2 : Int32), rv x17, iv x18, iv x19, .val (.long x20), .second, rv x22, iv y0, iv (1 : Int32), iv (1 : Int32)] [(.int (1 : Int32))])) (fun tt_ kk_ => XS.ifNo X1093.here hx rfl (hb hby at_513) rfl ((if0 _ _).trans (teq ((lw_eq _ _).mpr (own_rx_022 hbb hA hB hx18 hx19 hz0 hx20))).2) (XS.iconst X1093.here hx rfl (hb hby at_516) (XS.goto X1093.here hx rfl (pc0 := 517) (pc' := 521) rfl (hb hby at_517) (by decide) (by decide) kk_))) ?_
    exact own_retNW X1093 hx hlk (t := .boolean) (Or.inl rfl) hret (hb hby at_521) (by omega) (by omega) hS (by rw [e1093]; exact kz1092) ⟨rfl, N1093⟩
  · rw [own_g12] at hy
    refine own_stW (g' := (mkF m 423 #[.val (.long x0), .second, .val (.long x2), .second, iv x4, iv x5, iv x6, iv x7, iv x8, iv x9, iv x10, rv x11, iv x12, iv x13, iv x14, iv (1 : Int32), iv (2 : Int32), rv x17, iv x18, iv x19, .val (.long x20), .second, rv x22, iv y0, .unset, .unset] [(.ref x22)])) (fun tt_ kk_ => XS.istore X0.here hx rfl (hb hby at_419) rfl (l' := #[.val (.long x0), .second, .val (.long x2), .second, iv x4, iv x5, iv x6, iv x7, iv x8, iv x9, iv x10, rv x11, iv x12, iv x13, iv x14, iv (1 : Int32), iv (2 : Int32), rv x17, iv x18, iv x19, .val (.long x20), .second, rv x22, iv y0, .unset, .unset]) rfl (XS.aload X0.here hx rfl (hb hby at_421) rfl rfl kk_)) ?_
    obtain ⟨cq1094, kq1094, q1094a, q1094b, q1094c⟩ := isOf hZ e0 H15
    obtain ⟨_, _, ⟨T1094, L1094, k1094, n1094⟩, -, X1094, ⟨Lc1094, hQ1094, l1094, y1094, z1094⟩, st1094⟩ := X0.virtualBack hx (y := (⟨own_z0, "min", "()I"⟩ : MethodName)) (z := (⟨own_z0, "min", "()I"⟩ : MethodName)) hown (mvT hZ (own_w hw 139 rfl)) (mvT hZ (own_w hw 140 rfl)) (notFace_of_selects (args := #[]) (mvT hZ (own_w hw 142 rfl))) (mvT hZ (own_w hw 142 rfl)) (mvT hZ (own_w hw 141 rfl)) (by decide) (backOf (W := 0) (own_rmgmin l Z a0 hw [] x22 x18 h0 n0 Z0 H16) hZ (own_w hw 143 rfl) (own_w hw 85 rfl) (by decide) (by decide)) q1094a q1094c (g := (mkF m 423 #[.val (.long x0), .second, .val (.long x2), .second, iv x4, iv x5, iv x6, iv x7, iv x8, iv x9, iv x10, rv x11, iv x12, iv x13, iv x14, iv (1 : Int32), iv (2 : Int32), rv x17, iv x18, iv x19, .val (.long x20), .second, rv x22, iv y0, .unset, .unset] [(.ref x22)])) rfl (by rw [hml]; rfl) (Steps.refl _) (argsL := []) (rest := []) (lenOf own_pd3 rfl) rfl (by show 2 * 0 + _ ≤ _; exact Nat.le_of_eq rfl) (hb hby at_423) (fun _ _ => ⟨rfl, e0, (show cells + 0 ≤ 48 by omega), (show slots + 0 ≤ 3264 by omega)⟩)
    dsimp only [Pt.U, Pt.locs, Pt.cells, Pt.slots] at X1094 l1094 y1094 z1094 st1094 hQ1094
    rw [l1094, y1094, z1094] at X1094
    obtain ⟨rfl, N1094q, e1094⟩ := hQ1094
    have N1094 := Fr.app N0 N1094q
    refine own_stW (fun t k => st1094.trans k) ?_
    refine own_stW (g' := (mkF m 433 #[.val (.long x0), .second, .val (.long x2), .second, iv x4, iv x5, iv x6, iv x7, iv x8, iv x9, iv x10, rv x11, iv x12, iv x13, iv x14, iv (1 : Int32), iv (2 : Int32), rv x17, iv x18, iv x19, .val (.long x20), .second, rv x22, iv y0, .unset, .unset] [(.ref x22)])) (fun tt_ kk_ => XS.iload X1094.here hx rfl (hb hby at_426) rfl (XS.icmpNo X1094.here hx rfl (hb hby at_428) rfl (teq (rfl : x18 = x18)).2 (XS.aload X1094.here hx rfl (hb hby at_431) rfl rfl kk_))) ?_
    obtain ⟨cq1095, kq1095, q1095a, q1095b, q1095c⟩ := isOf hZ e1094 H15
    obtain ⟨_, _, ⟨T1095, L1095, k1095, n1095⟩, -, X1095, ⟨Lc1095, hQ1095, l1095, y1095, z1095⟩, st1095⟩ := X1094.virtualBack hx (y := (⟨own_z0, "max", "()I"⟩ : MethodName)) (z := (⟨own_z0, "max", "()I"⟩ : MethodName)) hown (mvT hZ (own_w hw 144 rfl)) (mvT hZ (own_w hw 145 rfl)) (notFace_of_selects (args := #[]) (mvT hZ (own_w hw 147 rfl))) (mvT hZ (own_w hw 147 rfl)) (mvT hZ (own_w hw 146 rfl)) (by decide) (backOf (W := 0) (own_rmgmax l Z a0 hw [] x22 x19 h0 n0 Z0 H17) hZ (own_w hw 148 rfl) (own_w hw 85 rfl) (by decide) (by decide)) q1095a q1095c (g := (mkF m 433 #[.val (.long x0), .second, .val (.long x2), .second, iv x4, iv x5, iv x6, iv x7, iv x8, iv x9, iv x10, rv x11, iv x12, iv x13, iv x14, iv (1 : Int32), iv (2 : Int32), rv x17, iv x18, iv x19, .val (.long x20), .second, rv x22, iv y0, .unset, .unset] [(.ref x22)])) rfl (by rw [hml]; rfl) (Steps.refl _) (argsL := []) (rest := []) (lenOf own_pd3 rfl) rfl (by show 2 * 0 + _ ≤ _; exact Nat.le_of_eq rfl) (hb hby at_433) (fun _ _ => ⟨rfl, e1094, (show cells + 0 ≤ 48 by omega), (show slots + 0 ≤ 3264 by omega)⟩)
    dsimp only [Pt.U, Pt.locs, Pt.cells, Pt.slots] at X1095 l1095 y1095 z1095 st1095 hQ1095
    rw [l1095, y1095, z1095] at X1095
    obtain ⟨rfl, N1095q, e1095⟩ := hQ1095
    have N1095 := Fr.app N1094 N1095q
    refine own_stW (fun t k => st1095.trans k) ?_
    refine own_stW (g' := (mkF m 443 #[.val (.long x0), .second, .val (.long x2), .second, iv x4, iv x5, iv x6, iv x7, iv x8, iv x9, iv x10, rv x11, iv x12, iv x13, iv x14, iv (1 : Int32), iv (2 : Int32), rv x17, iv x18, iv x19, .val (.long x20), .second, rv x22, iv y0, .unset, .unset] [(.ref x22)])) (fun tt_ kk_ => XS.iload X1095.here hx rfl (hb hby at_436) rfl (XS.icmpNo X1095.here hx rfl (hb hby at_438) rfl (teq (rfl : x19 = x19)).2 (XS.aload X1095.here hx rfl (hb hby at_441) rfl rfl kk_))) ?_
    obtain ⟨cq1096, kq1096, q1096a, q1096b, q1096c⟩ := isOf hZ e1095 H15
    obtain ⟨_, _, ⟨T1096, L1096, k1096, n1096⟩, -, X1096, ⟨Lc1096, hQ1096, l1096, y1096, z1096⟩, st1096⟩ := X1095.virtualBack hx (y := (⟨own_z0, "size", "()J"⟩ : MethodName)) (z := (⟨own_z0, "size", "()J"⟩ : MethodName)) hown (mvT hZ (own_w hw 149 rfl)) (mvT hZ (own_w hw 150 rfl)) (notFace_of_selects (args := #[]) (mvT hZ (own_w hw 152 rfl))) (mvT hZ (own_w hw 152 rfl)) (mvT hZ (own_w hw 151 rfl)) (by decide) (backOf (W := 0) (own_rmgsiz l Z a0 hw [] x22 x20 h0 n0 Z0 H18) hZ (own_w hw 153 rfl) (own_w hw 85 rfl) (by decide) (by decide)) q1096a q1096c (g := (mkF m 443 #[.val (.long x0), .second, .val (.long x2), .second, iv x4, iv x5, iv x6, iv x7, iv x8, iv x9, iv x10, rv x11, iv x12, iv x13, iv x14, iv (1 : Int32), iv (2 : Int32), rv x17, iv x18, iv x19, .val (.long x20), .second, rv x22, iv y0, .unset, .unset] [(.ref x22)])) rfl (by rw [hml]; rfl) (Steps.refl _) (argsL := []) (rest := []) (lenOf own_pd11 rfl) rfl (by show 2 * 0 + _ ≤ _; exact Nat.le_of_eq rfl) (hb hby at_443) (fun _ _ => ⟨rfl, e1095, (show cells + 0 ≤ 48 by omega), (show slots + 0 ≤ 3264 by omega)⟩)
    dsimp only [Pt.U, Pt.locs, Pt.cells, Pt.slots] at X1096 l1096 y1096 z1096 st1096 hQ1096
    rw [l1096, y1096, z1096] at X1096
    obtain ⟨rfl, N1096q, e1096⟩ := hQ1096
    have N1096 := Fr.app N1095 N1096q
    refine own_stW (fun t k => st1096.trans k) ?_
    refine own_stW (g' := (mkF m 449 #[.val (.long x0), .second, .val (.long x2), .second, iv x4, iv x5, iv x6, iv x7, iv x8, iv x9, iv x10, rv x11, iv x12, iv x13, iv x14, iv (1 : Int32), iv (2 : Int32), rv x17, iv x18, iv x19, .val (.long x20), .second, rv x22, iv y0, .unset, .unset] [(.int (lcmpW x20 x20))])) (fun tt_ kk_ => XS.lload X1096.here hx rfl (hb hby at_446) rfl (XS.lcmp X1096.here hx rfl (hb hby at_448) rfl kk_)) ?_
    refine own_stW (g' := (mkF m 454 #[.val (.long x0), .second, .val (.long x2), .second, iv x4, iv x5, iv x6, iv x7, iv x8, iv x9, iv x10, rv x11, iv x12, iv x13, iv x14, iv (1 : Int32), iv (2 : Int32), rv x17, iv x18, iv x19, .val (.long x20), .second, rv x22, iv y0, .unset, .unset] [(.ref x22)])) (fun tt_ kk_ => XS.ifNo X1096.here hx rfl (hb hby at_449) rfl ((if0 _ _).trans (teq ((lw_eq _ _).mpr rfl)).2) (XS.aload X1096.here hx rfl (hb hby at_452) rfl rfl kk_)) ?_
    obtain ⟨cq1097, kq1097, q1097a, q1097b, q1097c⟩ := isOf hZ e1096 H15
    obtain ⟨_, _, ⟨T1097, L1097, k1097, n1097⟩, -, X1097, ⟨Lc1097, hQ1097, l1097, y1097, z1097⟩, st1097⟩ := X1096.virtualBack hx (y := (⟨own_z0, "stamp", "()I"⟩ : MethodName)) (z := (⟨own_z0, "stamp", "()I"⟩ : MethodName)) hown (mvT hZ (own_w hw 154 rfl)) (mvT hZ (own_w hw 155 rfl)) (notFace_of_selects (args := #[]) (mvT hZ (own_w hw 157 rfl))) (mvT hZ (own_w hw 157 rfl)) (mvT hZ (own_w hw 156 rfl)) (by decide) (backOf (W := 0) (own_rmgstp l Z a0 hw [] x22 x4 h0 n0 Z0 H23) hZ (own_w hw 158 rfl) (own_w hw 85 rfl) (by decide) (by decide)) q1097a q1097c (g := (mkF m 454 #[.val (.long x0), .second, .val (.long x2), .second, iv x4, iv x5, iv x6, iv x7, iv x8, iv x9, iv x10, rv x11, iv x12, iv x13, iv x14, iv (1 : Int32), iv (2 : Int32), rv x17, iv x18, iv x19, .val (.long x20), .second, rv x22, iv y0, .unset, .unset] [(.ref x22)])) rfl (by rw [hml]; rfl) (Steps.refl _) (argsL := []) (rest := []) (lenOf own_pd3 rfl) rfl (by show 2 * 0 + _ ≤ _; exact Nat.le_of_eq rfl) (hb hby at_454) (fun _ _ => ⟨rfl, e1096, (show cells + 0 ≤ 48 by omega), (show slots + 0 ≤ 3264 by omega)⟩)
    dsimp only [Pt.U, Pt.locs, Pt.cells, Pt.slots] at X1097 l1097 y1097 z1097 st1097 hQ1097
    rw [l1097, y1097, z1097] at X1097
    obtain ⟨rfl, N1097q, e1097⟩ := hQ1097
    have N1097 := Fr.app N1096 N1097q
    refine own_stW (fun t k => st1097.trans k) ?_
    refine own_stW (g' := (mkF m 466 #[.val (.long x0), .second, .val (.long x2), .second, iv x4, iv x5, iv x6, iv x7, iv x8, iv x9, iv x10, rv x11, iv x12, iv x13, iv x14, iv (1 : Int32), iv (2 : Int32), rv x17, iv x18, iv x19, .val (.long x20), .second, rv x22, iv y0, .unset, .unset] [(.int x10), (.ref x22)])) (fun tt_ kk_ => XS.iload X1097.here hx rfl (hb hby at_457) rfl (XS.icmpNo X1097.here hx rfl (hb hby at_459) rfl (teq (rfl : x4 = x4)).2 (XS.aload X1097.here hx rfl (hb hby at_462) rfl rfl (XS.iload X1097.here hx rfl (hb hby at_464) rfl kk_)))) ?_
    obtain ⟨cq1098, kq1098, q1098a, q1098b, q1098c⟩ := isOf hZ e1097 H15
    obtain ⟨_, _, ⟨T1098, L1098, k1098, n1098⟩, -, X1098, ⟨Lc1098, hQ1098, l1098, y1098, z1098⟩, st1098⟩ := X1097.virtualBack hx (y := (⟨own_z0, "contains", "(I)Z"⟩ : MethodName)) (z := (⟨own_z0, "contains", "(I)Z"⟩ : MethodName)) hown (mvT hZ (own_w hw 159 rfl)) (mvT hZ (own_w hw 160 rfl)) (notFace_of_selects (args := #[]) (mvT hZ (own_w hw 162 rfl))) (mvT hZ (own_w hw 162 rfl)) (mvT hZ (own_w hw 161 rfl)) (by decide) (backOf (W := 0) (own_rmcon12 l Z a0 hw [] x22 x10 x18 x19 x17 x8 h0 n0 Z0 H15 H16 H17 H25 H20 H21 H22 H13) hZ (own_w hw 163 rfl) (own_w hw 85 rfl) (by decide) (by decide)) q1098a q1098c (g := (mkF m 466 #[.val (.long x0), .second, .val (.long x2), .second, iv x4, iv x5, iv x6, iv x7, iv x8, iv x9, iv x10, rv x11, iv x12, iv x13, iv x14, iv (1 : Int32), iv (2 : Int32), rv x17, iv x18, iv x19, .val (.long x20), .second, rv x22, iv y0, .unset, .unset] [(.int x10), (.ref x22)])) rfl (by rw [hml]; rfl) (Steps.refl _) (argsL := [(.int x10)]) (rest := []) (lenOf own_pd12 rfl) rfl (by show 2 * 0 + _ ≤ _; exact Nat.le_of_eq rfl) (hb hby at_466) (fun _ _ => ⟨rfl, e1097, (show cells + 0 ≤ 48 by omega), (show slots + 0 ≤ 3264 by omega)⟩)
    dsimp only [Pt.U, Pt.locs, Pt.cells, Pt.slots] at X1098 l1098 y1098 z1098 st1098 hQ1098
    rw [l1098, y1098, z1098] at X1098
    obtain ⟨rfl, N1098q, e1098⟩ := hQ1098
    have N1098 := Fr.app N1097 N1098q
    refine own_stW (fun t k => st1098.trans k) ?_
    refine own_stW (g' := (mkF m 471 #[.val (.long x0), .second, .val (.long x2), .second, iv x4, iv x5, iv x6, iv x7, iv x8, iv x9, iv x10, rv x11, iv x12, iv x13, iv x14, iv (1 : Int32), iv (2 : Int32), rv x17, iv x18, iv x19, .val (.long x20), .second, rv x22, iv y0, .unset, .unset] [(.int y0), (.int (own_cB12 x18 x19 x10 x8))])) (fun tt_ kk_ => XS.iload X1098.here hx rfl (hb hby at_469) rfl kk_) ?_
    refine own_stW (g' := (mkF m 488 #[.val (.long x0), .second, .val (.long x2), .second, iv x4, iv x5, iv x6, iv x7, iv x8, iv x9, iv x10, rv x11, iv x12, iv x13, iv x14, iv (1 : Int32), iv (2 : Int32), rv x17, iv x18, iv x19, .val (.long x20), .second, rv x22, iv y0, iv (1 : Int32), .unset] [(.long ((x19.toInt64) - (1 : Int64))), (.ref x22)])) (fun tt_ kk_ => XS.icmpNo X1098.here hx rfl (hb hby at_471) rfl (teq hy).2 (XS.iconst X1098.here hx rfl (hb hby at_474) (XS.goto X1098.here hx rfl (pc0 := 475) (pc' := 479) rfl (hb hby at_475) (by decide) (by decide) (XS.istore X1098.here hx rfl (hb hby at_479) rfl (l' := #[.val (.long x0), .second, .val (.long x2), .second, iv x4, iv x5, iv x6, iv x7, iv x8, iv x9, iv x10, rv x11, iv x12, iv x13, iv x14, iv (1 : Int32), iv (2 : Int32), rv x17, iv x18, iv x19, .val (.long x20), .second, rv x22, iv y0, iv (1 : Int32), .unset]) rfl (XS.aload X1098.here hx rfl (hb hby at_481) rfl rfl (XS.iload X1098.here hx rfl (hb hby at_483) rfl (XS.i2l X1098.here hx rfl (hb hby at_485) rfl (XS.lconst X1098.here hx rfl (hb hby at_486) (XS.lsub X1098.here hx rfl (hb hby at_487) rfl kk_))))))))) ?_
    by_cases hz0 : x13 = (0 : Int32)
    · skip
      obtain ⟨cq1099, kq1099, q1099a, q1099b, q1099c⟩ := isOf hZ e1098 H15
      obtain ⟨_, _, ⟨T1099, L1099, k1099, n1099⟩, -, X1099, ⟨Lc1099, hQ1099, l1099, y1099, z1099⟩, st1099⟩ := X1098.virtualBack hx (y := (⟨own_z0, own_z18, "(J)Z"⟩ : MethodName)) (z := (⟨own_z0, own_z18, "(J)Z"⟩ : MethodName)) hown (mvT hZ (own_w hw 167 rfl)) (mvT hZ (own_w hw 168 rfl)) (notFace_of_selects (args := #[]) (mvT hZ (own_w hw 170 rfl))) (mvT hZ (own_w hw 170 rfl)) (mvT hZ (own_w hw 169 rfl)) (by decide) (backOf (W := 0) (own_rmrab121 l Z a0 hw [] x22 ((x19.toInt64) - (1 : Int64)) x18 x19 x20 x0 x17 x4 x11 y1 z6 z2 z3 z4 z5 x8 z0 z1 h0 n0 Z0 H15 H16 H17 H18 H19 H20 H23 H21 H22 H24 H26 H27 H28 H29 H30 H25 H14 H13 H2 H3 H4 H5 H6 H7 H8 H9 H10 H11 H12 H0 H1 (own_rh1 (x8 := x8) trivial) (own_rh2_121 hbb hA hB hx18 hx19 hz0) (own_rq0_121 hbb hA hB hx18 hx19 hz0) ne11 ne12 ne13 ne14 ne15 ne16 ne17 ne18 ne19 ne20 ne1 ne2 ne3 ne4 ne5 ne6 ne7 ne8 ne9 ne10 g_x22 g_z2 g_z3 g_z4 g_z5) hZ (own_w hw 171 rfl) (own_w hw 85 rfl) (by decide) (by decide)) q1099a q1099c (g := (mkF m 488 #[.val (.long x0), .second, .val (.long x2), .second, iv x4, iv x5, iv x6, iv x7, iv x8, iv x9, iv x10, rv x11, iv x12, iv x13, iv x14, iv (1 : Int32), iv (2 : Int32), rv x17, iv x18, iv x19, .val (.long x20), .second, rv x22, iv y0, iv (1 : Int32), .unset] [(.long ((x19.toInt64) - (1 : Int64))), (.ref x22)])) rfl (by rw [hml]; rfl) (Steps.refl _) (argsL := [(.long ((x19.toInt64) - (1 : Int64)))]) (rest := []) (lenOf own_pd13 rfl) rfl (by show 2 * 0 + _ ≤ _; exact Nat.le_of_eq rfl) (hb hby at_488) (fun _ _ => ⟨rfl, e1098, (show cells + 0 ≤ 48 by omega), (show slots + 0 ≤ 3264 by omega)⟩)
      dsimp only [Pt.U, Pt.locs, Pt.cells, Pt.slots] at X1099 l1099 y1099 z1099 st1099 hQ1099
      rw [l1099, y1099, z1099] at X1099
      obtain ⟨rfl, N1099q, K1099q, f1099_0, f1099_1⟩ := hQ1099
      obtain ⟨h1099, e1099⟩ : ∃ z, T1099.heap = z := ⟨_, rfl⟩
      rw [e1099] at K1099q f1099_0 f1099_1
      have Z1099 : n0 ≤ h1099.size := Nat.le_trans Z0 K1099q.1
      have kz1099 : k0 ≤ h1099.size := Nat.le_trans hk0 K1099q.1
      have N1099 := Fr.app N1098 N1099q
      refine own_stW (fun t k => st1099.trans k) ?_
      refine own_stW (g' := (mkF m 505 #[.val (.long x0), .second, .val (.long x2), .second, iv x4, iv x5, iv x6, iv x7, iv x8, iv x9, iv x10, rv x11, iv x12, iv x13, iv x14, iv (1 : Int32), iv (2 : Int32), rv x17, iv x18, iv x19, .val (.long x20), .second, rv x22, iv y0, iv (1 : Int32), iv (1 : Int32)] [(.ref x22)])) (fun tt_ kk_ => XS.istore X1099.here hx rfl (hb hby at_491) rfl (l' := #[.val (.long x0), .second, .val (.long x2), .second, iv x4, iv x5, iv x6, iv x7, iv x8, iv x9, iv x10, rv x11, iv x12, iv x13, iv x14, iv (1 : Int32), iv (2 : Int32), rv x17, iv x18, iv x19, .val (.long x20), .second, rv x22, iv y0, iv (1 : Int32), iv (1 : Int32)]) rfl (XS.iload X1099.here hx rfl (hb hby at_493) rfl (XS.ifNo X1099.here hx rfl (hb hby at_495) rfl ((if0 _ _).trans (feq (by decide : ¬ ((1 : Int32) = (0 : Int32)))).1) (XS.iload X1099.here hx rfl (hb hby at_498) rfl (XS.ifNo X1099.here hx rfl (hb hby at_500) rfl ((if0 _ _).trans (feq (by decide : ¬ ((1 : Int32) = (0 : Int32)))).1) (XS.aload X1099.here hx rfl (hb hby at_503) rfl rfl kk_)))))) ?_
      obtain ⟨cq1100, kq1100, q1100a, q1100b, q1100c⟩ := isOf hZ e1099 f1099_0
      obtain ⟨_, _, ⟨T1100, L1100, k1100, n1100⟩, -, X1100, ⟨Lc1100, hQ1100, l1100, y1100, z1100⟩, st1100⟩ := X1099.virtualBack hx (y := (⟨own_z0, "size", "()J"⟩ : MethodName)) (z := (⟨own_z0, "size", "()J"⟩ : MethodName)) hown (mvT hZ (own_w hw 149 rfl)) (mvT hZ (own_w hw 150 rfl)) (notFace_of_selects (args := #[]) (mvT hZ (own_w hw 152 rfl))) (mvT hZ (own_w hw 152 rfl)) (mvT hZ (own_w hw 151 rfl)) (by decide) (backOf (W := 0) (own_rmgsiz l Z a0 hw [] x22 ((((own_f21_0 (x8 + (29 : Int32)) (((x19.toInt64) - (1 : Int64)).toInt32)).toInt64) - (x18.toInt64)) + (1 : Int64)) h1099 n0 Z1099 f1099_1) hZ (own_w hw 153 rfl) (own_w hw 85 rfl) (by decide) (by decide)) q1100a q1100c (g := (mkF m 505 #[.val (.long x0), .second, .val (.long x2), .second, iv x4, iv x5, iv x6, iv x7, iv x8, iv x9, iv x10, rv x11, iv x12, iv x13, iv x14, iv (1 : Int32), iv (2 : Int32), rv x17, iv x18, iv x19, .val (.long x20), .second, rv x22, iv y0, iv (1 : Int32), iv (1 : Int32)] [(.ref x22)])) rfl (by rw [hml]; rfl) (Steps.refl _) (argsL := []) (rest := []) (lenOf own_pd11 rfl) rfl (by show 2 * 0 + _ ≤ _; exact Nat.le_of_eq rfl) (hb hby at_505) (fun _ _ => ⟨rfl, e1099, (show cells + 0 ≤ 48 by omega), (show slots + 0 ≤ 3264 by omega)⟩)
      dsimp only [Pt.U, Pt.locs, Pt.cells, Pt.slots] at X1100 l1100 y1100 z1100 st1100 hQ1100
      rw [l1100, y1100, z1100] at X1100
      obtain ⟨rfl, N1100q, e1100⟩ := hQ1100
      have N1100 := Fr.app N1099 N1100q
      refine own_stW (fun t k => st1100.trans k) ?_
      refine own_stW (g' := (mkF m 513 #[.val (.long x0), .second, .val (.long x2), .second, iv x4, iv x5, iv x6, iv x7, iv x8, iv x9, iv x10, rv x11, iv x12, iv x13, iv x14, iv (1 : Int32), iv (2 : Int32), rv x17, iv x18, iv x19, .val (.long x20), .second, rv x22, iv y0, iv (1 : Int32), iv (1 : Int32)] [(.int (lcmpW ((((own_f21_0 (x8 + (29 : Int32)) (((x19.toInt64) - (1 : Int64)).toInt32)).toInt64) - (x18.toInt64)) + (1 : Int64)) (x20 - (1 : Int64))))])) (fun tt_ kk_ => XS.lload X1100.here hx rfl (hb hby at_508) rfl (XS.lconst X1100.here hx rfl (hb hby at_510) (XS.lsub X1100.here hx rfl (hb hby at_511) rfl (XS.lcmp X1100.here hx rfl (hb hby at_512) rfl kk_)))) ?_
      refine own_stW (g' := (mkF m 521 #[.val (.long x0), .second, .val (.long x2), .second, iv x4, iv x5, iv x6, iv x7, iv x8, iv x9, iv x10, rv x11, iv x12, iv x13, iv x14, iv (1 : Int32), iv (2 : Int32), rv x17, iv x18, iv x19, .val (.long x20), .second, rv x22, iv y0, iv (1 : Int32), iv (1 : Int32)] [(.int (1 : Int32))])) (fun tt_ kk_ => XS.ifNo X1100.here hx rfl (hb hby at_513) rfl ((if0 _ _).trans (teq ((lw_eq _ _).mpr (own_rx_121 hbb hA hB hx18 hx19 hz0 hx20))).2) (XS.iconst X1100.here hx rfl (hb hby at_516) (XS.goto X1100.here hx rfl (pc0 := 517) (pc' := 521) rfl (hb hby at_517) (by decide) (by decide) kk_))) ?_
      exact own_retNW X1100 hx hlk (t := .boolean) (Or.inl rfl) hret (hb hby at_521) (by omega) (by omega) hS (by rw [e1100]; exact kz1099) ⟨rfl, N1100⟩
    obtain ⟨cq1101, kq1101, q1101a, q1101b, q1101c⟩ := isOf hZ e1098 H15
    obtain ⟨_, _, ⟨T1101, L1101, k1101, n1101⟩, -, X1101, ⟨Lc1101, hQ1101, l1101, y1101, z1101⟩, st1101⟩ := X1098.virtualBack hx (y := (⟨own_z0, own_z18, "(J)Z"⟩ : MethodName)) (z := (⟨own_z0, own_z18, "(J)Z"⟩ : MethodName)) hown (mvT hZ (own_w hw 167 rfl)) (mvT hZ (own_w hw 168 rfl)) (notFace_of_selects (args := #[]) (mvT hZ (own_w hw 170 rfl))) (mvT hZ (own_w hw 170 rfl)) (mvT hZ (own_w hw 169 rfl)) (by decide) (backOf (W := 0) (own_rmrab122 l Z a0 hw [] x22 ((x19.toInt64) - (1 : Int64)) x18 x19 x20 x0 x17 x4 x11 y1 z6 z2 z3 z4 z5 x8 z0 z1 h0 n0 Z0 H15 H16 H17 H18 H19 H20 H23 H21 H22 H24 H26 H27 H28 H29 H30 H25 H14 H13 H2 H3 H4 H5 H6 H7 H8 H9 H10 H11 H12 H0 H1 (own_rh1 (x8 := x8) trivial) (own_rh2_122 hbb hA hB hx18 hx19 hz0) (own_rq0_122 hbb hA hB hx18 hx19 hz0) (own_rh9_122 hbb hA hB hx18 hx19 hz0 hx20) ne11 ne12 ne13 ne14 ne15 ne16 ne17 ne18 ne19 ne20 ne1 ne2 ne3 ne4 ne5 ne6 ne7 ne8 ne9 ne10 g_x22 g_z2 g_z3 g_z4 g_z5) hZ (own_w hw 171 rfl) (own_w hw 85 rfl) (by decide) (by decide)) q1101a q1101c (g := (mkF m 488 #[.val (.long x0), .second, .val (.long x2), .second, iv x4, iv x5, iv x6, iv x7, iv x8, iv x9, iv x10, rv x11, iv x12, iv x13, iv x14, iv (1 : Int32), iv (2 : Int32), rv x17, iv x18, iv x19, .val (.long x20), .second, rv x22, iv y0, iv (1 : Int32), .unset] [(.long ((x19.toInt64) - (1 : Int64))), (.ref x22)])) rfl (by rw [hml]; rfl) (Steps.refl _) (argsL := [(.long ((x19.toInt64) - (1 : Int64)))]) (rest := []) (lenOf own_pd13 rfl) rfl (by show 2 * 0 + _ ≤ _; exact Nat.le_of_eq rfl) (hb hby at_488) (fun _ _ => ⟨rfl, e1098, (show cells + 0 ≤ 48 by omega), (show slots + 0 ≤ 3264 by omega)⟩)
    dsimp only [Pt.U, Pt.locs, Pt.cells, Pt.slots] at X1101 l1101 y1101 z1101 st1101 hQ1101
    rw [l1101, y1101, z1101] at X1101
    obtain ⟨rfl, N1101q, K1101q, f1101_0, f1101_1⟩ := hQ1101
    obtain ⟨h1101, e1101⟩ : ∃ z, T1101.heap = z := ⟨_, rfl⟩
    rw [e1101] at K1101q f1101_0 f1101_1
    have Z1101 : n0 ≤ h1101.size := Nat.le_trans Z0 K1101q.1
    have kz1101 : k0 ≤ h1101.size := Nat.le_trans hk0 K1101q.1
    have N1101 := Fr.app N1098 N1101q
    refine own_stW (fun t k => st1101.trans k) ?_
    refine own_stW (g' := (mkF m 505 #[.val (.long x0), .second, .val (.long x2), .second, iv x4, iv x5, iv x6, iv x7, iv x8, iv x9, iv x10, rv x11, iv x12, iv x13, iv x14, iv (1 : Int32), iv (2 : Int32), rv x17, iv x18, iv x19, .val (.long x20), .second, rv x22, iv y0, iv (1 : Int32), iv (1 : Int32)] [(.ref x22)])) (fun tt_ kk_ => XS.istore X1101.here hx rfl (hb hby at_491) rfl (l' := #[.val (.long x0), .second, .val (.long x2), .second, iv x4, iv x5, iv x6, iv x7, iv x8, iv x9, iv x10, rv x11, iv x12, iv x13, iv x14, iv (1 : Int32), iv (2 : Int32), rv x17, iv x18, iv x19, .val (.long x20), .second, rv x22, iv y0, iv (1 : Int32), iv (1 : Int32)]) rfl (XS.iload X1101.here hx rfl (hb hby at_493) rfl (XS.ifNo X1101.here hx rfl (hb hby at_495) rfl ((if0 _ _).trans (feq (by decide : ¬ ((1 : Int32) = (0 : Int32)))).1) (XS.iload X1101.here hx rfl (hb hby at_498) rfl (XS.ifNo X1101.here hx rfl (hb hby at_500) rfl ((if0 _ _).trans (feq (by decide : ¬ ((1 : Int32) = (0 : Int32)))).1) (XS.aload X1101.here hx rfl (hb hby at_503) rfl rfl kk_)))))) ?_
    obtain ⟨cq1102, kq1102, q1102a, q1102b, q1102c⟩ := isOf hZ e1101 f1101_0
    obtain ⟨_, _, ⟨T1102, L1102, k1102, n1102⟩, -, X1102, ⟨Lc1102, hQ1102, l1102, y1102, z1102⟩, st1102⟩ := X1101.virtualBack hx (y := (⟨own_z0, "size", "()J"⟩ : MethodName)) (z := (⟨own_z0, "size", "()J"⟩ : MethodName)) hown (mvT hZ (own_w hw 149 rfl)) (mvT hZ (own_w hw 150 rfl)) (notFace_of_selects (args := #[]) (mvT hZ (own_w hw 152 rfl))) (mvT hZ (own_w hw 152 rfl)) (mvT hZ (own_w hw 151 rfl)) (by decide) (backOf (W := 0) (own_rmgsiz l Z a0 hw [] x22 (((((((x8 + (29 : Int32)).toInt64) - (x18.toInt64)) + (1 : Int64)) + ((own_f21_0 (x8 + (49 : Int32)) (((x19.toInt64) - (1 : Int64)).toInt32)).toInt64)) - ((x8 + (40 : Int32)).toInt64)) + (1 : Int64)) h1101 n0 Z1101 f1101_1) hZ (own_w hw 153 rfl) (own_w hw 85 rfl) (by decide) (by decide)) q1102a q1102c (g := (mkF m 505 #[.val (.long x0), .second, .val (.long x2), .second, iv x4, iv x5, iv x6, iv x7, iv x8, iv x9, iv x10, rv x11, iv x12, iv x13, iv x14, iv (1 : Int32), iv (2 : Int32), rv x17, iv x18, iv x19, .val (.long x20), .second, rv x22, iv y0, iv (1 : Int32), iv (1 : Int32)] [(.ref x22)])) rfl (by rw [hml]; rfl) (Steps.refl _) (argsL := []) (rest := []) (lenOf own_pd11 rfl) rfl (by show 2 * 0 + _ ≤ _; exact Nat.le_of_eq rfl) (hb hby at_505) (fun _ _ => ⟨rfl, e1101, (show cells + 0 ≤ 48 by omega), (show slots + 0 ≤ 3264 by omega)⟩)
    dsimp only [Pt.U, Pt.locs, Pt.cells, Pt.slots] at X1102 l1102 y1102 z1102 st1102 hQ1102
    rw [l1102, y1102, z1102] at X1102
    obtain ⟨rfl, N1102q, e1102⟩ := hQ1102
    have N1102 := Fr.app N1101 N1102q
    refine own_stW (fun t k => st1102.trans k) ?_
    refine own_stW (g' := (mkF m 513 #[.val (.long x0), .second, .val (.long x2), .second, iv x4, iv x5, iv x6, iv x7, iv x8, iv x9, iv x10, rv x11, iv x12, iv x13, iv x14, iv (1 : Int32), iv (2 : Int32), rv x17, iv x18, iv x19, .val (.long x20), .second, rv x22, iv y0, iv (1 : Int32), iv (1 : Int32)] [(.int (lcmpW (((((((x8 + (29 : Int32)).toInt64) - (x18.toInt64)) + (1 : Int64)) + ((own_f21_0 (x8 + (49 : Int32)) (((x19.toInt64) - (1 : Int64)).toInt32)).toInt64)) - ((x8 + (40 : Int32)).toInt64)) + (1 : Int64)) (x20 - (1 : Int64))))])) (fun tt_ kk_ => XS.lload X1102.here hx rfl (hb hby at_508) rfl (XS.lconst X1102.here hx rfl (hb hby at_510) (XS.lsub X1102.here hx rfl (hb hby at_511) rfl (XS.lcmp X1102.here hx rfl (hb hby at_512) rfl kk_)))) ?_
    refine own_stW (g' := (mkF m 521 #[.val (.long x0), .second, .val (.long x2), .second, iv x4, iv x5, iv x6, iv x7, iv x8, iv x9, iv x10, rv x11, iv x12, iv x13, iv x14, iv (1 : Int32), iv (2 : Int32), rv x17, iv x18, iv x19, .val (.long x20), .second, rv x22, iv y0, iv (1 : Int32), iv (1 : Int32)] [(.int (1 : Int32))])) (fun tt_ kk_ => XS.ifNo X1102.here hx rfl (hb hby at_513) rfl ((if0 _ _).trans (teq ((lw_eq _ _).mpr (own_rx_122 hbb hA hB hx18 hx19 hz0 hx20))).2) (XS.iconst X1102.here hx rfl (hb hby at_516) (XS.goto X1102.here hx rfl (pc0 := 517) (pc' := 521) rfl (hb hby at_517) (by decide) (by decide) kk_))) ?_
    exact own_retNW X1102 hx hlk (t := .boolean) (Or.inl rfl) hret (hb hby at_521) (by omega) (by omega) hS (by rw [e1102]; exact kz1101) ⟨rfl, N1102⟩
set_option maxRecDepth 65536 in
set_option maxHeartbeats 16000000 in
theorem own_t361 {p : Program} {l : Launch} {e : Env} {s : State} {m : MethodId} {args : Array Value} {below : List Frame} {meth : Method} {c : Code} {T : State} {locs : List Loc} {cells slots : Nat} {k0 : Nat} {vm0 : Vm} {Z : State} {a0 : Array Value} {h0 : Heap} {n0 : Nat} (X0 : Stand p l e room_1 (s.setVm vm0) m args below meth c T locs cells slots) (hx : p.tables.exec = Jvm.exec) (hlk : meth.locks = false) (hby : c.code = code) (hml : c.maxLocals = 26) (hret : meth.sig.returnType = some .boolean) (hown : (s.setVm vm0).vm.findClass own_z17 = some m.cls) (hZ : Z.Warmed39 (s.setVm vm0).vm) (hw : own_HW Z a0) (e0 : T.heap = h0) (N0 : Fr n0 locs) (Z0 : n0 ≤ h0.size) (hcc : cells ≤ 19) (hss : slots ≤ 1092) (hS : s.Since vm0 k0) (hk0 : k0 ≤ h0.size) (x0 : Int64) (x2 : Int64) (x4 : Int32) (x5 : Int32) (x6 : Int32) (x7 : Int32) (x8 : Int32) (x9 : Int32) (x10 : Int32) (x11 : Addr) (x12 : Int32) (x13 : Int32) (x14 : Int32) (x15 : Int32) (x16 : Int32) (x17 : Addr) (x18 : Int32) (x19 : Int32) (x20 : Int64) (y0 : Addr) (y1 : Int32) (y3 : Addr) (z0 : Addr) (z1 : Addr) (z2 : Addr) (z3 : Addr) (z4 : Addr) (z5 : Addr) (hbb : -1073741824 ≤ x8.toInt ∧ x8.toInt < 1073741824) (hk : 0 ≤ x9.toInt ∧ x9.toInt ≤ 63) (hv : x10 = x8 + x9) (hA : 0 ≤ x12.toInt ∧ x12.toInt ≤ 9) (hB : 0 ≤ x13.toInt ∧ x13.toInt ≤ 9) (hfl : (x15 = (0 : Int32) ∧ x16 = (1 : Int32)) ∨ (x15 = (0 : Int32) ∧ x16 = (2 : Int32)) ∨ (x15 = (1 : Int32) ∧ x16 = (2 : Int32))) (hx18 : x18 = ((x8 + ((20 : Int32) * x15)) + x12)) (hx19 : x19 = ((x8 + ((20 : Int32) * x16)) + x13)) (hx20 : x20 = (((((10 : Int32) - x12).toInt64) + ((x13 + (1 : Int32)).toInt64)) + ((10 : Int64) * (((x16 - x15) - (1 : Int32)).toInt64)))) (H0 : Sta Z h0 own_z6 "FIX" own_z5 (.ref z0)) (H1 : Sta Z h0 own_z6 "BOUNDS" own_z5 (.ref z1)) (H2 : Exa Z h0 x11 own_z2) (H3 : Fld Z h0 x11 own_z2 "trail" own_z7 (.ref z2)) (H4 : Exa Z h0 z2 own_z1) (H5 : Fld Z h0 z2 own_z1 "depth" "I" (.int (0 : Int32))) (H6 : Fld Z h0 z2 own_z1 "entries" "I" (.int (0 : Int32))) (H7 : Fld Z h0 z2 own_z1 "ints" "[I" (.ref z3)) (H8 : Fld Z h0 z2 own_z1 "longs" "[J" (.ref z4)) (H9 : Fld Z h0 z2 own_z1 "ranges" "[[I" (.ref z5)) (H10 : own_AI Z h0 z3 384 (fun _ => 0)) (H11 : own_AJ Z h0 z4 128 (fun _ => 0)) (H12 : own_AR Z h0 z5 64) (H13 : own_AI Z h0 x17 6 (own_R x8)) (H14 : Exa Z h0 x17 "[I") (H15 : Exa Z h0 y3 own_z0) (H16 : Fld Z h0 y3 own_z0 "watchers" own_z3 .null) (H17 : Fld Z h0 y3 own_z0 "tags" "[I" .null) (H18 : Fld Z h0 y3 own_z0 "model" own_z4 .null) (H19 : Fld Z h0 y3 own_z0 "index" "I" (.int (0 : Int32))) (H20 : Fld Z h0 y3 own_z0 "name" own_z12 .null) (H21 : Fld Z h0 y3 own_z0 "min" "I" (.int (0 : Int32))) (H22 : Fld Z h0 y3 own_z0 "max" "I" (.int (0 : Int32))) (H23 : Fld Z h0 y3 own_z0 "initialMin" "I" (.int (0 : Int32))) (H24 : Fld Z h0 y3 own_z0 "initialMax" "I" (.int (0 : Int32))) (H25 : Fld Z h0 y3 own_z0 "size" "J" (.long (0 : Int64))) (H26 : Fld Z h0 y3 own_z0 "small" "Z" (.int (0 : Int32))) (H27 : Fld Z h0 y3 own_z0 "bits" "J" (.long (0 : Int64))) (H28 : Fld Z h0 y3 own_z0 "ranges" "[I" .null) (H29 : Fld Z h0 y3 own_z0 "first" "I" (.int (0 : Int32))) (H30 : Fld Z h0 y3 own_z0 "last" "I" (.int (0 : Int32))) (H31 : Fld Z h0 y3 own_z0 "stamp" "I" (.int (0 : Int32))) (H32 : Fld Z h0 y3 own_z0 "boundsFrom" "I" (.int (0 : Int32))) (H33 : Fld Z h0 y3 own_z0 "toldFrom" "I" (.int (0 : Int32))) (H34 : Fld Z h0 y3 own_z0 own_z9 "I" (.int (0 : Int32))) (H35 : Fld Z h0 y3 own_z0 "domainFrom" "I" (.int (0 : Int32))) (ne0 : x11 ≠ x17) (ne1 : x11 ≠ y3) (ne2 : x11 ≠ z2) (ne3 : x11 ≠ z3) (ne4 : x11 ≠ z4) (ne5 : x11 ≠ z5) (ne6 : x17 ≠ y3) (ne7 : x17 ≠ z2) (ne8 : x17 ≠ z3) (ne9 : x17 ≠ z4) (ne10 : x17 ≠ z5) (ne11 : y3 ≠ z2) (ne12 : y3 ≠ z3) (ne13 : y3 ≠ z4) (ne14 : y3 ≠ z5) (ne15 : z2 ≠ z3) (ne16 : z2 ≠ z4) (ne17 : z2 ≠ z5) (ne18 : z3 ≠ z4) (ne19 : z3 ≠ z5) (ne20 : z4 ≠ z5) (g_x11 : n0 ≤ x11) (g_x17 : n0 ≤ x17) (g_y3 : n0 ≤ y3) (g_z2 : n0 ≤ z2) (g_z3 : n0 ≤ z3) (g_z4 : n0 ≤ z4) (g_z5 : n0 ≤ z5) :
    own_GoW p e below s T (mkF m 361 #[.val (.long x0), .second, .val (.long x2), .second, iv x4, iv x5, iv x6, iv x7, iv x8, iv x9, iv x10, rv x11, iv x12, iv x13, iv x14, iv x15, iv x16, rv x17, iv x18, iv x19, .val (.long x20), .second, .unset, .unset, .unset, .unset] [(.ref y0), (.int y1), (.ref x11), (.ref y3), (.ref y3)]) (own_Q0 n0) 48 3264 := by
  refine own_stW (g' := (mkF m 365 #[.val (.long x0), .second, .val (.long x2), .second, iv x4, iv x5, iv x6, iv x7, iv x8, iv x9, iv x10, rv x11, iv x12, iv x13, iv x14, iv x15, iv x16, rv x17, iv x18, iv x19, .val (.long x20), .second, .unset, .unset, .unset, .unset] [(.int (2147483647 : Int32)), (.int (-2147483648 : Int32)), (.ref y0), (.int y1), (.ref x11), (.ref y3), (.ref y3)])) (fun tt_ kk_ => X0.ldcInt hx hown (mvT hZ (own_w hw 165 rfl)) (g := (mkF m 361 #[.val (.long x0), .second, .val (.long x2), .second, iv x4, iv x5, iv x6, iv x7, iv x8, iv x9, iv x10, rv x11, iv x12, iv x13, iv x14, iv x15, iv x16, rv x17, iv x18, iv x19, .val (.long x20), .second, .unset, .unset, .unset, .unset] [(.ref y0), (.int y1), (.ref x11), (.ref y3), (.ref y3)])) rfl (hb hby at_361) _ (X0.ldcInt hx hown (mvT hZ (own_w hw 166 rfl)) (g := (mkF m 363 #[.val (.long x0), .second, .val (.long x2), .second, iv x4, iv x5, iv x6, iv x7, iv x8, iv x9, iv x10, rv x11, iv x12, iv x13, iv x14, iv x15, iv x16, rv x17, iv x18, iv x19, .val (.long x20), .second, .unset, .unset, .unset, .unset] [(.int (-2147483648 : Int32)), (.ref y0), (.int y1), (.ref x11), (.ref y3), (.ref y3)])) rfl (hb hby at_363) _ kk_)) ?_
  obtain ⟨_, _, ⟨T1059, L1059, k1059, n1059⟩, -, X1059, ⟨Lc1059, hQ1059, l1059, y1059, z1059⟩, st1059⟩ := X0.specialBack hx (y := (⟨own_z0, "<init>", own_z15⟩ : MethodName)) rfl hown (mvT hZ (own_w hw 94 rfl)) (mvT hZ (own_w hw 95 rfl)) (mvT hZ (own_w hw 96 rfl)) (by decide) (backOf (W := 1) (own_rmivB l Z a0 hw [] y3 x11 y1 y0 (-2147483648 : Int32) (2147483647 : Int32) h0 n0 Z0 H15 H16 H17 H18 H19 H20 H21 H22 H23 H24 H25 H26 H27 H28 H29 H30 H31 H32 H33 H34 H35 (by decide) g_y3) hZ (own_w hw 96 rfl) (own_w hw 85 rfl) (by decide) (by decide)) (g := (mkF m 365 #[.val (.long x0), .second, .val (.long x2), .second, iv x4, iv x5, iv x6, iv x7, iv x8, iv x9, iv x10, rv x11, iv x12, iv x13, iv x14, iv x15, iv x16, rv x17, iv x18, iv x19, .val (.long x20), .second, .unset, .unset, .unset, .unset] [(.int (2147483647 : Int32)), (.int (-2147483648 : Int32)), (.ref y0), (.int y1), (.ref x11), (.ref y3), (.ref y3)])) rfl (by rw [hml]; rfl) (Steps.refl _) (a := y3) (argsL := [(.ref x11), (.int y1), (.ref y0), (.int (-2147483648 : Int32)), (.int (2147483647 : Int32))]) (rest := [(.ref y3)]) (lenOf own_pd9 rfl) rfl (by show 2 * 0 + _ ≤ _; exact Nat.le_of_eq rfl) (hb hby at_365) (fun _ _ => ⟨rfl, e0, (show cells + 2 ≤ 48 by omega), (show slots + 0 ≤ 3264 by omega)⟩)
  dsimp only [Pt.U, Pt.locs, Pt.cells, Pt.slots] at X1059 l1059 y1059 z1059 st1059 hQ1059
  rw [l1059, y1059, z1059] at X1059
  obtain ⟨rfl, N1059q, K1059q, wa_1059, f1059_0, f1059_1, f1059_2, f1059_3, f1059_4, f1059_5, f1059_6, f1059_7, f1059_8, f1059_9, f1059_10, f1059_11, f1059_12, f1059_13, f1059_14, f1059_15, f1059_16⟩ := hQ1059
  obtain ⟨h1059, e1059⟩ : ∃ z, T1059.heap = z := ⟨_, rfl⟩
  rw [e1059] at K1059q f1059_0 f1059_1 f1059_2 f1059_3 f1059_4 f1059_5 f1059_6 f1059_7 f1059_8 f1059_9 f1059_10 f1059_11 f1059_12 f1059_13 f1059_14 f1059_15 f1059_16
  have Z1059 : n0 ≤ h1059.size := Nat.le_trans Z0 K1059q.1
  have kz1059 : k0 ≤ h1059.size := Nat.le_trans hk0 K1059q.1
  have N1059 := Fr.app N0 N1059q
  refine own_stW (fun t k => st1059.trans k) ?_
  refine own_stW (g' := (mkF m 387 #[.val (.long x0), .second, .val (.long x2), .second, iv x4, iv x5, iv x6, iv x7, iv x8, iv x9, iv x10, rv x11, iv x12, iv x13, iv x14, iv x15, iv x16, rv x17, iv x18, iv x19, .val (.long x20), .second, rv y3, .unset, .unset, .unset] [(.int x4), (.int x16), (.int x15), (.ref x17), (.long x0), (.long x20), (.int x19), (.int x18), (.ref y3)])) (fun tt_ kk_ => XS.astore X1059.here hx rfl (hb hby at_368) rfl rfl (l' := #[.val (.long x0), .second, .val (.long x2), .second, iv x4, iv x5, iv x6, iv x7, iv x8, iv x9, iv x10, rv x11, iv x12, iv x13, iv x14, iv x15, iv x16, rv x17, iv x18, iv x19, .val (.long x20), .second, rv y3, .unset, .unset, .unset]) rfl (XS.aload X1059.here hx rfl (hb hby at_370) rfl rfl (XS.iload X1059.here hx rfl (hb hby at_372) rfl (XS.iload X1059.here hx rfl (hb hby at_374) rfl (XS.lload X1059.here hx rfl (hb hby at_376) rfl (XS.lloadN X1059.here hx rfl (hb hby at_378) rfl (XS.aload X1059.here hx rfl (hb hby at_379) rfl rfl (XS.iload X1059.here hx rfl (hb hby at_381) rfl (XS.iload X1059.here hx rfl (hb hby at_383) rfl (XS.iload X1059.here hx rfl (hb hby at_385) rfl kk_)))))))))) ?_
  obtain ⟨cq1060, kq1060, q1060a, q1060b, q1060c⟩ := isOf hZ e1059 f1059_0
  obtain ⟨_, _, ⟨T1060, L1060, k1060, n1060⟩, -, X1060, ⟨Lc1060, hQ1060, l1060, y1060, z1060⟩, st1060⟩ := X1059.virtualBack hx (y := (⟨own_z0, "restore", "(IIJJ[IIII)V"⟩ : MethodName)) (z := (⟨own_z0, "restore", "(IIJJ[IIII)V"⟩ : MethodName)) hown (mvT hZ (own_w hw 126 rfl)) (mvT hZ (own_w hw 127 rfl)) (notFace_of_selects (args := #[]) (mvT hZ (own_w hw 129 rfl))) (mvT hZ (own_w hw 129 rfl)) (mvT hZ (own_w hw 128 rfl)) (by decide) (backOf (W := 0) (own_rmrsB l Z a0 hw [] y3 x18 x19 x20 x0 x17 x15 x16 x4 (-2147483648 : Int32) (2147483647 : Int32) ((((2147483647 : Int32).toInt64) - ((-2147483648 : Int32).toInt64)) + (1 : Int64)) (0 : Int64) (0 : Int32) (0 : Int32) (0 : Int32) x11 (0 : Int32) (-2147483648 : Int32) y1 wa_1059 h1059 n0 Z1059 f1059_0 f1059_5 f1059_6 f1059_7 f1059_8 f1059_10 f1059_11 f1059_12 f1059_9 f1059_1 f1059_2 f1059_3 f1059_4 f1059_16 f1059_13 f1059_14 f1059_15 g_y3) hZ (own_w hw 130 rfl) (own_w hw 85 rfl) (by decide) (by decide)) q1060a q1060c (g := (mkF m 387 #[.val (.long x0), .second, .val (.long x2), .second, iv x4, iv x5, iv x6, iv x7, iv x8, iv x9, iv x10, rv x11, iv x12, iv x13, iv x14, iv x15, iv x16, rv x17, iv x18, iv x19, .val (.long x20), .second, rv y3, .unset, .unset, .unset] [(.int x4), (.int x16), (.int x15), (.ref x17), (.long x0), (.long x20), (.int x19), (.int x18), (.ref y3)])) rfl (by rw [hml]; rfl) (Steps.refl _) (argsL := [(.int x18), (.int x19), (.long x20), (.long x0), (.ref x17), (.int x15), (.int x16), (.int x4)]) (rest := []) (lenOf own_pd10 rfl) rfl (by show 2 * 0 + _ ≤ _; exact Nat.le_of_eq rfl) (hb hby at_387) (fun _ _ => ⟨rfl, e1059, (show cells + 2 + 0 ≤ 48 by omega), (show slots + 0 ≤ 3264 by omega)⟩)
  dsimp only [Pt.U, Pt.locs, Pt.cells, Pt.slots] at X1060 l1060 y1060 z1060 st1060 hQ1060
  rw [l1060, y1060, z1060] at X1060
  obtain ⟨rfl, N1060q, K1060q, f1060_0, f1060_1, f1060_2, f1060_3, f1060_4, f1060_5, f1060_6, f1060_7, f1060_8, f1060_9, f1060_10, f1060_11, f1060_12, f1060_13, f1060_14, f1060_15, f1060_16⟩ := hQ1060
  obtain ⟨h1060, e1060⟩ : ∃ z, T1060.heap = z := ⟨_, rfl⟩
  rw [e1060] at K1060q f1060_0 f1060_1 f1060_2 f1060_3 f1060_4 f1060_5 f1060_6 f1060_7 f1060_8 f1060_9 f1060_10 f1060_11 f1060_12 f1060_13 f1060_14 f1060_15 f1060_16
  have Z1060 : n0 ≤ h1060.size := Nat.le_trans Z1059 K1060q.1
  have kz1060 : k0 ≤ h1060.size := Nat.le_trans kz1059 K1060q.1
  have N1060 := Fr.app N1059 N1060q
  refine own_stW (fun t k => st1060.trans k) ?_
  refine own_stW (g' := (mkF m 394 #[.val (.long x0), .second, .val (.long x2), .second, iv x4, iv x5, iv x6, iv x7, iv x8, iv x9, iv x10, rv x11, iv x12, iv x13, iv x14, iv x15, iv x16, rv x17, iv x18, iv x19, .val (.long x20), .second, rv y3, .unset, .unset, .unset] [(.int x18), (.int x10)])) (fun tt_ kk_ => XS.iload X1060.here hx rfl (hb hby at_390) rfl (XS.iload X1060.here hx rfl (hb hby at_392) rfl kk_)) ?_
  by_cases hc394 : x10 < x18
  · skip
    refine own_stW (g' := (mkF m 419 #[.val (.long x0), .second, .val (.long x2), .second, iv x4, iv x5, iv x6, iv x7, iv x8, iv x9, iv x10, rv x11, iv x12, iv x13, iv x14, iv x15, iv x16, rv x17, iv x18, iv x19, .val (.long x20), .second, rv y3, .unset, .unset, .unset] [(.int (0 : Int32))])) (fun tt_ kk_ => XS.icmpYes X1060.here hx rfl (pc0 := 394) (pc' := 418) rfl (hb hby at_394) rfl (tlt hc394).1 (by decide) (by decide) (XS.iconst X1060.here hx rfl (hb hby at_418) kk_)) ?_
    have F1061 := (own_Sta_keep (own_Sta_keep H0 H15 K1059q) f1059_0 K1060q)
    have F1062 := (own_Sta_keep (own_Sta_keep H1 H15 K1059q) f1059_0 K1060q)
    have F1063 := ((H2.keep K1059q).keep K1060q)
    have F1064 := ((H3.keep K1059q (ninS ne1 nin0)).keep K1060q (ninS ne1 nin0))
    have F1065 := ((H4.keep K1059q).keep K1060q)
    have F1066 := ((H5.keep K1059q (ninS (Ne.symm ne11) nin0)).keep K1060q (ninS (Ne.symm ne11) nin0))
    have F1067 := ((H6.keep K1059q (ninS (Ne.symm ne11) nin0)).keep K1060q (ninS (Ne.symm ne11) nin0))
    have F1068 := ((H7.keep K1059q (ninS (Ne.symm ne11) nin0)).keep K1060q (ninS (Ne.symm ne11) nin0))
    have F1069 := ((H8.keep K1059q (ninS (Ne.symm ne11) nin0)).keep K1060q (ninS (Ne.symm ne11) nin0))
    have F1070 := ((H9.keep K1059q (ninS (Ne.symm ne11) nin0)).keep K1060q (ninS (Ne.symm ne11) nin0))
    have F1071 := ((H10.keep K1059q (ninS (Ne.symm ne12) nin0)).keep K1060q (ninS (Ne.symm ne12) nin0))
    have F1072 := ((H11.keep K1059q (ninS (Ne.symm ne13) nin0)).keep K1060q (ninS (Ne.symm ne13) nin0))
    have F1073 := ((H12.keep K1059q (ninS (Ne.symm ne14) nin0)).keep K1060q (ninS (Ne.symm ne14) nin0))
    have F1074 := ((H13.keep K1059q (ninS ne6 nin0)).keep K1060q (ninS ne6 nin0))
    have F1075 := ((H14.keep K1059q).keep K1060q)
    exact own_t419 X1060 hx hlk hby hml hret hown hZ hw e1060 N1060 Z1060 (by omega) (by omega) hS kz1060 x0 x2 x4 x5 x6 x7 x8 x9 x10 x11 x12 x13 x14 x15 x16 x17 x18 x19 x20 y3 (0 : Int32) z0 z1 z2 z3 z4 z5 wa_1059 hbb hk hv hA hB hfl hx18 hx19 hx20 (own_eB0 hfl hc394) F1061 F1062 F1063 F1064 F1065 F1066 F1067 F1068 F1069 F1070 F1071 F1072 F1073 F1074 F1075 f1060_0 f1060_1 f1060_2 f1060_3 f1060_4 f1060_5 f1060_6 f1060_7 f1060_8 f1060_9 f1060_10 f1060_12 f1060_13 f1060_14 f1060_15 f1060_16 ne0 ne1 ne2 ne3 ne4 ne5 ne6 ne7 ne8 ne9 ne10 ne11 ne12 ne13 ne14 ne15 ne16 ne17 ne18 ne19 ne20 g_x11 g_x17 g_y3 g_z2 g_z3 g_z4 g_z5
  refine own_stW (g' := (mkF m 401 #[.val (.long x0), .second, .val (.long x2), .second, iv x4, iv x5, iv x6, iv x7, iv x8, iv x9, iv x10, rv x11, iv x12, iv x13, iv x14, iv x15, iv x16, rv x17, iv x18, iv x19, .val (.long x20), .second, rv y3, .unset, .unset, .unset] [(.int x19), (.int x10)])) (fun tt_ kk_ => XS.icmpNo X1060.here hx rfl (hb hby at_394) rfl (flt hc394).1 (XS.iload X1060.here hx rfl (hb hby at_397) rfl (XS.iload X1060.here hx rfl (hb hby at_399) rfl kk_))) ?_
  by_cases hc401 : x19 < x10
  · skip
    refine own_stW (g' := (mkF m 419 #[.val (.long x0), .second, .val (.long x2), .second, iv x4, iv x5, iv x6, iv x7, iv x8, iv x9, iv x10, rv x11, iv x12, iv x13, iv x14, iv x15, iv x16, rv x17, iv x18, iv x19, .val (.long x20), .second, rv y3, .unset, .unset, .unset] [(.int (0 : Int32))])) (fun tt_ kk_ => XS.icmpYes X1060.here hx rfl (pc0 := 401) (pc' := 418) rfl (hb hby at_401) rfl (tlt hc401).2.2.1 (by decide) (by decide) (XS.iconst X1060.here hx rfl (hb hby at_418) kk_)) ?_
    have F1103 := (own_Sta_keep (own_Sta_keep H0 H15 K1059q) f1059_0 K1060q)
    have F1104 := (own_Sta_keep (own_Sta_keep H1 H15 K1059q) f1059_0 K1060q)
    have F1105 := ((H2.keep K1059q).keep K1060q)
    have F1106 := ((H3.keep K1059q (ninS ne1 nin0)).keep K1060q (ninS ne1 nin0))
    have F1107 := ((H4.keep K1059q).keep K1060q)
    have F1108 := ((H5.keep K1059q (ninS (Ne.symm ne11) nin0)).keep K1060q (ninS (Ne.symm ne11) nin0))
    have F1109 := ((H6.keep K1059q (ninS (Ne.symm ne11) nin0)).keep K1060q (ninS (Ne.symm ne11) nin0))
    have F1110 := ((H7.keep K1059q (ninS (Ne.symm ne11) nin0)).keep K1060q (ninS (Ne.symm ne11) nin0))
    have F1111 := ((H8.keep K1059q (ninS (Ne.symm ne11) nin0)).keep K1060q (ninS (Ne.symm ne11) nin0))
    have F1112 := ((H9.keep K1059q (ninS (Ne.symm ne11) nin0)).keep K1060q (ninS (Ne.symm ne11) nin0))
    have F1113 := ((H10.keep K1059q (ninS (Ne.symm ne12) nin0)).keep K1060q (ninS (Ne.symm ne12) nin0))
    have F1114 := ((H11.keep K1059q (ninS (Ne.symm ne13) nin0)).keep K1060q (ninS (Ne.symm ne13) nin0))
    have F1115 := ((H12.keep K1059q (ninS (Ne.symm ne14) nin0)).keep K1060q (ninS (Ne.symm ne14) nin0))
    have F1116 := ((H13.keep K1059q (ninS ne6 nin0)).keep K1060q (ninS ne6 nin0))
    have F1117 := ((H14.keep K1059q).keep K1060q)
    exact own_t419 X1060 hx hlk hby hml hret hown hZ hw e1060 N1060 Z1060 (by omega) (by omega) hS kz1060 x0 x2 x4 x5 x6 x7 x8 x9 x10 x11 x12 x13 x14 x15 x16 x17 x18 x19 x20 y3 (0 : Int32) z0 z1 z2 z3 z4 z5 wa_1059 hbb hk hv hA hB hfl hx18 hx19 hx20 (own_eB1 hfl hc394 hc401) F1103 F1104 F1105 F1106 F1107 F1108 F1109 F1110 F1111 F1112 F1113 F1114 F1115 F1116 F1117 f1060_0 f1060_1 f1060_2 f1060_3 f1060_4 f1060_5 f1060_6 f1060_7 f1060_8 f1060_9 f1060_10 f1060_12 f1060_13 f1060_14 f1060_15 f1060_16 ne0 ne1 ne2 ne3 ne4 ne5 ne6 ne7 ne8 ne9 ne10 ne11 ne12 ne13 ne14 ne15 ne16 ne17 ne18 ne19 ne20 g_x11 g_x17 g_y3 g_z2 g_z3 g_z4 g_z5
  refine own_stW (g' := (mkF m 411 #[.val (.long x0), .second, .val (.long x2), .second, iv x4, iv x5, iv x6, iv x7, iv x8, iv x9, iv x10, rv x11, iv x12, iv x13, iv x14, iv x15, iv x16, rv x17, iv x18, iv x19, .val (.long x20), .second, rv y3, .unset, .unset, .unset] [(.int (10 : Int32)), (.int (x9 % (20 : Int32)))])) (fun tt_ kk_ => XS.icmpNo X1060.here hx rfl (hb hby at_401) rfl (flt hc401).2.2.1 (XS.iload X1060.here hx rfl (hb hby at_404) rfl (XS.bipush X1060.here hx rfl (hb hby at_406) (iremM X1060 hx rfl (hb hby at_408) rfl (by decide) (XS.bipush X1060.here hx rfl (hb hby at_409) kk_))))) ?_
  by_cases hc411 : (x9 % (20 : Int32)) < (10 : Int32)
  · skip
    refine own_stW (g' := (mkF m 419 #[.val (.long x0), .second, .val (.long x2), .second, iv x4, iv x5, iv x6, iv x7, iv x8, iv x9, iv x10, rv x11, iv x12, iv x13, iv x14, iv x15, iv x16, rv x17, iv x18, iv x19, .val (.long x20), .second, rv y3, .unset, .unset, .unset] [(.int (1 : Int32))])) (fun tt_ kk_ => XS.icmpNo X1060.here hx rfl (hb hby at_411) rfl (tlt hc411).2.1 (XS.iconst X1060.here hx rfl (hb hby at_414) (XS.goto X1060.here hx rfl (pc0 := 415) (pc' := 419) rfl (hb hby at_415) (by decide) (by decide) kk_))) ?_
    have F1118 := (own_Sta_keep (own_Sta_keep H0 H15 K1059q) f1059_0 K1060q)
    have F1119 := (own_Sta_keep (own_Sta_keep H1 H15 K1059q) f1059_0 K1060q)
    have F1120 := ((H2.keep K1059q).keep K1060q)
    have F1121 := ((H3.keep K1059q (ninS ne1 nin0)).keep K1060q (ninS ne1 nin0))
    have F1122 := ((H4.keep K1059q).keep K1060q)
    have F1123 := ((H5.keep K1059q (ninS (Ne.symm ne11) nin0)).keep K1060q (ninS (Ne.symm ne11) nin0))
    have F1124 := ((H6.keep K1059q (ninS (Ne.symm ne11) nin0)).keep K1060q (ninS (Ne.symm ne11) nin0))
    have F1125 := ((H7.keep K1059q (ninS (Ne.symm ne11) nin0)).keep K1060q (ninS (Ne.symm ne11) nin0))
    have F1126 := ((H8.keep K1059q (ninS (Ne.symm ne11) nin0)).keep K1060q (ninS (Ne.symm ne11) nin0))
    have F1127 := ((H9.keep K1059q (ninS (Ne.symm ne11) nin0)).keep K1060q (ninS (Ne.symm ne11) nin0))
    have F1128 := ((H10.keep K1059q (ninS (Ne.symm ne12) nin0)).keep K1060q (ninS (Ne.symm ne12) nin0))
    have F1129 := ((H11.keep K1059q (ninS (Ne.symm ne13) nin0)).keep K1060q (ninS (Ne.symm ne13) nin0))
    have F1130 := ((H12.keep K1059q (ninS (Ne.symm ne14) nin0)).keep K1060q (ninS (Ne.symm ne14) nin0))
    have F1131 := ((H13.keep K1059q (ninS ne6 nin0)).keep K1060q (ninS ne6 nin0))
    have F1132 := ((H14.keep K1059q).keep K1060q)
    exact own_t419 X1060 hx hlk hby hml hret hown hZ hw e1060 N1060 Z1060 (by omega) (by omega) hS kz1060 x0 x2 x4 x5 x6 x7 x8 x9 x10 x11 x12 x13 x14 x15 x16 x17 x18 x19 x20 y3 (1 : Int32) z0 z1 z2 z3 z4 z5 wa_1059 hbb hk hv hA hB hfl hx18 hx19 hx20 (own_eB2 hbb hk hv hA hB hfl hx18 hx19 hc394 hc401 hc411) F1118 F1119 F1120 F1121 F1122 F1123 F1124 F1125 F1126 F1127 F1128 F1129 F1130 F1131 F1132 f1060_0 f1060_1 f1060_2 f1060_3 f1060_4 f1060_5 f1060_6 f1060_7 f1060_8 f1060_9 f1060_10 f1060_12 f1060_13 f1060_14 f1060_15 f1060_16 ne0 ne1 ne2 ne3 ne4 ne5 ne6 ne7 ne8 ne9 ne10 ne11 ne12 ne13 ne14 ne15 ne16 ne17 ne18 ne19 ne20 g_x11 g_x17 g_y3 g_z2 g_z3 g_z4 g_z5
  refine own_stW (g' := (mkF m 419 #[.val (.long x0), .second, .val (.long x2), .second, iv x4, iv x5, iv x6, iv x7, iv x8, iv x9, iv x10, rv x11, iv x12, iv x13, iv x14, iv x15, iv x16, rv x17, iv x18, iv x19, .val (.long x20), .second, rv y3, .unset, .unset, .unset] [(.int (0 : Int32))])) (fun tt_ kk_ => XS.icmpYes X1060.here hx rfl (pc0 := 411) (pc' := 418) rfl (hb hby at_411) rfl (flt hc411).2.1 (by decide) (by decide) (XS.iconst X1060.here hx rfl (hb hby at_418) kk_)) ?_
  have F1133 := (own_Sta_keep (own_Sta_keep H0 H15 K1059q) f1059_0 K1060q)
  have F1134 := (own_Sta_keep (own_Sta_keep H1 H15 K1059q) f1059_0 K1060q)
  have F1135 := ((H2.keep K1059q).keep K1060q)
  have F1136 := ((H3.keep K1059q (ninS ne1 nin0)).keep K1060q (ninS ne1 nin0))
  have F1137 := ((H4.keep K1059q).keep K1060q)
  have F1138 := ((H5.keep K1059q (ninS (Ne.symm ne11) nin0)).keep K1060q (ninS (Ne.symm ne11) nin0))
  have F1139 := ((H6.keep K1059q (ninS (Ne.symm ne11) nin0)).keep K1060q (ninS (Ne.symm ne11) nin0))
  have F1140 := ((H7.keep K1059q (ninS (Ne.symm ne11) nin0)).keep K1060q (ninS (Ne.symm ne11) nin0))
  have F1141 := ((H8.keep K1059q (ninS (Ne.symm ne11) nin0)).keep K1060q (ninS (Ne.symm ne11) nin0))
  have F1142 := ((H9.keep K1059q (ninS (Ne.symm ne11) nin0)).keep K1060q (ninS (Ne.symm ne11) nin0))
  have F1143 := ((H10.keep K1059q (ninS (Ne.symm ne12) nin0)).keep K1060q (ninS (Ne.symm ne12) nin0))
  have F1144 := ((H11.keep K1059q (ninS (Ne.symm ne13) nin0)).keep K1060q (ninS (Ne.symm ne13) nin0))
  have F1145 := ((H12.keep K1059q (ninS (Ne.symm ne14) nin0)).keep K1060q (ninS (Ne.symm ne14) nin0))
  have F1146 := ((H13.keep K1059q (ninS ne6 nin0)).keep K1060q (ninS ne6 nin0))
  have F1147 := ((H14.keep K1059q).keep K1060q)
  exact own_t419 X1060 hx hlk hby hml hret hown hZ hw e1060 N1060 Z1060 (by omega) (by omega) hS kz1060 x0 x2 x4 x5 x6 x7 x8 x9 x10 x11 x12 x13 x14 x15 x16 x17 x18 x19 x20 y3 (0 : Int32) z0 z1 z2 z3 z4 z5 wa_1059 hbb hk hv hA hB hfl hx18 hx19 hx20 (own_eB3 hbb hk hv hA hB hfl hx18 hx19 hc394 hc401 hc411) F1133 F1134 F1135 F1136 F1137 F1138 F1139 F1140 F1141 F1142 F1143 F1144 F1145 F1146 F1147 f1060_0 f1060_1 f1060_2 f1060_3 f1060_4 f1060_5 f1060_6 f1060_7 f1060_8 f1060_9 f1060_10 f1060_12 f1060_13 f1060_14 f1060_15 f1060_16 ne0 ne1 ne2 ne3 ne4 ne5 ne6 ne7 ne8 ne9 ne10 ne11 ne12 ne13 ne14 ne15 ne16 ne17 ne18 ne19 ne20 g_x11 g_x17 g_y3 g_z2 g_z3 g_z4 g_z5
set_option maxRecDepth 65536 in
set_option maxHeartbeats 16000000 in
theorem own_t248 {p : Program} {l : Launch} {e : Env} {s : State} {m : MethodId} {args : Array Value} {below : List Frame} {meth : Method} {c : Code} {T : State} {locs : List Loc} {cells slots : Nat} {Z : State} {a0 : Array Value} {h0 : Heap} {n0 : Nat} (X0 : Stand p l e room_1 s m args below meth c T locs cells slots) (hx : p.tables.exec = Jvm.exec) (hlk : meth.locks = false) (hby : c.code = code) (hml : c.maxLocals = 26) (hret : meth.sig.returnType = some .boolean) (hown : s.vm.findClass own_z17 = some m.cls) (hZ : Z.Warmed39 s.vm) (hw : own_HW Z a0) (e0 : T.heap = h0) (N0 : Fr n0 locs) (Z0 : n0 ≤ h0.size) (hcc : cells ≤ 15) (hss : slots ≤ 1058) (x0 : Int64) (x2 : Int64) (x4 : Int32) (x5 : Int32) (x6 : Int32) (x7 : Int32) (x8 : Int32) (x9 : Int32) (x10 : Int32) (x11 : Addr) (x12 : Int32) (x13 : Int32) (x14 : Int32) (x15 : Int32) (x16 : Int32) (z0 : Addr) (z1 : Addr) (z2 : Addr) (z3 : Addr) (z4 : Addr) (z5 : Addr) (hbb : -1073741824 ≤ x8.toInt ∧ x8.toInt < 1073741824) (hk : 0 ≤ x9.toInt ∧ x9.toInt ≤ 63) (hv : x10 = x8 + x9) (hA : 0 ≤ x12.toInt ∧ x12.toInt ≤ 9) (hB : 0 ≤ x13.toInt ∧ x13.toInt ≤ 9) (hfl : (x15 = (0 : Int32) ∧ x16 = (1 : Int32)) ∨ (x15 = (0 : Int32) ∧ x16 = (2 : Int32)) ∨ (x15 = (1 : Int32) ∧ x16 = (2 : Int32))) (H0 : Sta Z h0 own_z6 "FIX" own_z5 (.ref z0)) (H1 : Sta Z h0 own_z6 "BOUNDS" own_z5 (.ref z1)) (H2 : Exa Z h0 x11 own_z2) (H3 : Fld Z h0 x11 own_z2 "trail" own_z7 (.ref z2)) (H4 : Exa Z h0 z2 own_z1) (H5 : Fld Z h0 z2 own_z1 "depth" "I" (.int (0 : Int32))) (H6 : Fld Z h0 z2 own_z1 "entries" "I" (.int (0 : Int32))) (H7 : Fld Z h0 z2 own_z1 "ints" "[I" (.ref z3)) (H8 : Fld Z h0 z2 own_z1 "longs" "[J" (.ref z4)) (H9 : Fld Z h0 z2 own_z1 "ranges" "[[I" (.ref z5)) (H10 : own_AI Z h0 z3 384 (fun _ => 0)) (H11 : own_AJ Z h0 z4 128 (fun _ => 0)) (H12 : own_AR Z h0 z5 64) (ne0 : x11 ≠ z2) (ne1 : x11 ≠ z3) (ne2 : x11 ≠ z4) (ne3 : x11 ≠ z5) (ne4 : z2 ≠ z3) (ne5 : z2 ≠ z4) (ne6 : z2 ≠ z5) (ne7 : z3 ≠ z4) (ne8 : z3 ≠ z5) (ne9 : z4 ≠ z5) (g_x11 : n0 ≤ x11) (g_z2 : n0 ≤ z2) (g_z3 : n0 ≤ z3) (g_z4 : n0 ≤ z4) (g_z5 : n0 ≤ z5) :
    own_GoW p e below s T (mkF m 248 #[.val (.long x0), .second, .val (.long x2), .second, iv x4, iv x5, iv x6, iv x7, iv x8, iv x9, iv x10, rv x11, iv x12, iv x13, iv x14, iv x15, iv x16, .unset, .unset, .unset, .unset, .unset, .unset, .unset, .unset, .unset] []) (own_Q0 n0) 48 3264 := by
  refine own_stW (g' := (mkF m 250 #[.val (.long x0), .second, .val (.long x2), .second, iv x4, iv x5, iv x6, iv x7, iv x8, iv x9, iv x10, rv x11, iv x12, iv x13, iv x14, iv x15, iv x16, .unset, .unset, .unset, .unset, .unset, .unset, .unset, .unset, .unset] [(.int (6 : Int32))])) (fun tt_ kk_ => XS.bipush X0.here hx rfl (hb hby at_248) kk_) ?_
  obtain ⟨T997, h997, k997, X997, e997, E997, A997, B997, st997⟩ := newPE X0 hx hZ (own_w hw 44 rfl) e0 (g := (mkF m 250 #[.val (.long x0), .second, .val (.long x2), .second, iv x4, iv x5, iv x6, iv x7, iv x8, iv x9, iv x10, rv x11, iv x12, iv x13, iv x14, iv x15, iv x16, .unset, .unset, .unset, .unset, .unset, .unset, .unset, .unset, .unset] [(.int (6 : Int32))])) rfl (hb hby at_250) rfl (by decide) (cap := 6) (by decide) (by decide) (show cells + 1 ≤ 48 by omega) (show slots + 6 ≤ 3264 by omega) (ad := "[I") (by decide)
  obtain ⟨b997, g997⟩ : ∃ z, z = h0.size := ⟨_, rfl⟩
  rw [← g997] at A997 B997 st997
  have ne998 : x11 ≠ b997 := Nat.ne_of_lt (Nat.lt_of_lt_of_le H2.lt (Nat.le_of_eq g997.symm))
  have ne999 : z2 ≠ b997 := Nat.ne_of_lt (Nat.lt_of_lt_of_le H4.lt (Nat.le_of_eq g997.symm))
  have ne1000 : z3 ≠ b997 := Nat.ne_of_lt (Nat.lt_of_lt_of_le H10.lt (Nat.le_of_eq g997.symm))
  have ne1001 : z4 ≠ b997 := Nat.ne_of_lt (Nat.lt_of_lt_of_le H11.lt (Nat.le_of_eq g997.symm))
  have ne1002 : z5 ≠ b997 := Nat.ne_of_lt (Nat.lt_of_lt_of_le H12.lt (Nat.le_of_eq g997.symm))
  have gz997 : n0 ≤ b997 := Nat.le_trans Z0 (Nat.le_of_eq g997.symm)
  have Z997 : n0 ≤ h997.size := Nat.le_trans Z0 E997.1
  have P997 : own_AI Z h997 b997 6 (fun _ => 0) := own_AI.new A997 (by decide)
  refine own_stW st997 ?_
  refine own_stW (g' := (mkF m 256 #[.val (.long x0), .second, .val (.long x2), .second, iv x4, iv x5, iv x6, iv x7, iv x8, iv x9, iv x10, rv x11, iv x12, iv x13, iv x14, iv x15, iv x16, .unset, .unset, .unset, .unset, .unset, .unset, .unset, .unset, .unset] [(.int x8), (.int (0 : Int32)), (.ref b997), (.ref b997)])) (fun tt_ kk_ => XS.dup X997.here hx rfl (hb hby at_252) rfl rfl (XS.iconst X997.here hx rfl (hb hby at_253) (XS.iload X997.here hx rfl (hb hby at_254) rfl kk_))) ?_
  obtain ⟨T1003, h1003, X1003, e1003, W1003, P1003, st1003⟩ := own_stI X997 hx hZ e997 P997 (by decide) (by decide) (g := (mkF m 256 #[.val (.long x0), .second, .val (.long x2), .second, iv x4, iv x5, iv x6, iv x7, iv x8, iv x9, iv x10, rv x11, iv x12, iv x13, iv x14, iv x15, iv x16, .unset, .unset, .unset, .unset, .unset, .unset, .unset, .unset, .unset] [(.int x8), (.int (0 : Int32)), (.ref b997), (.ref b997)])) rfl rfl (hb hby at_256)
  have N1003 := Fr.snoc X1003 N0 gz997
  have Z1003 : n0 ≤ h1003.size := Nat.le_trans Z997 (Keep.of_wr W1003).1
  refine own_stW st1003 ?_
  refine own_stW (g' := (mkF m 264 #[.val (.long x0), .second, .val (.long x2), .second, iv x4, iv x5, iv x6, iv x7, iv x8, iv x9, iv x10, rv x11, iv x12, iv x13, iv x14, iv x15, iv x16, .unset, .unset, .unset, .unset, .unset, .unset, .unset, .unset, .unset] [(.int (x8 + (9 : Int32))), (.int (1 : Int32)), (.ref b997), (.ref b997)])) (fun tt_ kk_ => XS.dup X1003.here hx rfl (hb hby at_257) rfl rfl (XS.iconst X1003.here hx rfl (hb hby at_258) (XS.iload X1003.here hx rfl (hb hby at_259) rfl (XS.bipush X1003.here hx rfl (hb hby at_261) (XS.iadd X1003.here hx rfl (hb hby at_263) rfl kk_))))) ?_
  obtain ⟨T1004, h1004, X1004, e1004, W1004, P1004, st1004⟩ := own_stI X1003 hx hZ e1003 P1003 (by decide) (by decide) (g := (mkF m 264 #[.val (.long x0), .second, .val (.long x2), .second, iv x4, iv x5, iv x6, iv x7, iv x8, iv x9, iv x10, rv x11, iv x12, iv x13, iv x14, iv x15, iv x16, .unset, .unset, .unset, .unset, .unset, .unset, .unset, .unset, .unset] [(.int (x8 + (9 : Int32))), (.int (1 : Int32)), (.ref b997), (.ref b997)])) rfl rfl (hb hby at_264)
  have N1004 := Fr.snoc X1004 N1003 gz997
  have Z1004 : n0 ≤ h1004.size := Nat.le_trans Z1003 (Keep.of_wr W1004).1
  refine own_stW st1004 ?_
  refine own_stW (g' := (mkF m 272 #[.val (.long x0), .second, .val (.long x2), .second, iv x4, iv x5, iv x6, iv x7, iv x8, iv x9, iv x10, rv x11, iv x12, iv x13, iv x14, iv x15, iv x16, .unset, .unset, .unset, .unset, .unset, .unset, .unset, .unset, .unset] [(.int (x8 + (20 : Int32))), (.int (2 : Int32)), (.ref b997), (.ref b997)])) (fun tt_ kk_ => XS.dup X1004.here hx rfl (hb hby at_265) rfl rfl (XS.iconst X1004.here hx rfl (hb hby at_266) (XS.iload X1004.here hx rfl (hb hby at_267) rfl (XS.bipush X1004.here hx rfl (hb hby at_269) (XS.iadd X1004.here hx rfl (hb hby at_271) rfl kk_))))) ?_
  obtain ⟨T1005, h1005, X1005, e1005, W1005, P1005, st1005⟩ := own_stI X1004 hx hZ e1004 P1004 (by decide) (by decide) (g := (mkF m 272 #[.val (.long x0), .second, .val (.long x2), .second, iv x4, iv x5, iv x6, iv x7, iv x8, iv x9, iv x10, rv x11, iv x12, iv x13, iv x14, iv x15, iv x16, .unset, .unset, .unset, .unset, .unset, .unset, .unset, .unset, .unset] [(.int (x8 + (20 : Int32))), (.int (2 : Int32)), (.ref b997), (.ref b997)])) rfl rfl (hb hby at_272)
  have N1005 := Fr.snoc X1005 N1004 gz997
  have Z1005 : n0 ≤ h1005.size := Nat.le_trans Z1004 (Keep.of_wr W1005).1
  refine own_stW st1005 ?_
  refine own_stW (g' := (mkF m 280 #[.val (.long x0), .second, .val (.long x2), .second, iv x4, iv x5, iv x6, iv x7, iv x8, iv x9, iv x10, rv x11, iv x12, iv x13, iv x14, iv x15, iv x16, .unset, .unset, .unset, .unset, .unset, .unset, .unset, .unset, .unset] [(.int (x8 + (29 : Int32))), (.int (3 : Int32)), (.ref b997), (.ref b997)])) (fun tt_ kk_ => XS.dup X1005.here hx rfl (hb hby at_273) rfl rfl (XS.iconst X1005.here hx rfl (hb hby at_274) (XS.iload X1005.here hx rfl (hb hby at_275) rfl (XS.bipush X1005.here hx rfl (hb hby at_277) (XS.iadd X1005.here hx rfl (hb hby at_279) rfl kk_))))) ?_
  obtain ⟨T1006, h1006, X1006, e1006, W1006, P1006, st1006⟩ := own_stI X1005 hx hZ e1005 P1005 (by decide) (by decide) (g := (mkF m 280 #[.val (.long x0), .second, .val (.long x2), .second, iv x4, iv x5, iv x6, iv x7, iv x8, iv x9, iv x10, rv x11, iv x12, iv x13, iv x14, iv x15, iv x16, .unset, .unset, .unset, .unset, .unset, .unset, .unset, .unset, .unset] [(.int (x8 + (29 : Int32))), (.int (3 : Int32)), (.ref b997), (.ref b997)])) rfl rfl (hb hby at_280)
  have N1006 := Fr.snoc X1006 N1005 gz997
  have Z1006 : n0 ≤ h1006.size := Nat.le_trans Z1005 (Keep.of_wr W1006).1
  refine own_stW st1006 ?_
  refine own_stW (g' := (mkF m 288 #[.val (.long x0), .second, .val (.long x2), .second, iv x4, iv x5, iv x6, iv x7, iv x8, iv x9, iv x10, rv x11, iv x12, iv x13, iv x14, iv x15, iv x16, .unset, .unset, .unset, .unset, .unset, .unset, .unset, .unset, .unset] [(.int (x8 + (40 : Int32))), (.int (4 : Int32)), (.ref b997), (.ref b997)])) (fun tt_ kk_ => XS.dup X1006.here hx rfl (hb hby at_281) rfl rfl (XS.iconst X1006.here hx rfl (hb hby at_282) (XS.iload X1006.here hx rfl (hb hby at_283) rfl (XS.bipush X1006.here hx rfl (hb hby at_285) (XS.iadd X1006.here hx rfl (hb hby at_287) rfl kk_))))) ?_
  obtain ⟨T1007, h1007, X1007, e1007, W1007, P1007, st1007⟩ := own_stI X1006 hx hZ e1006 P1006 (by decide) (by decide) (g := (mkF m 288 #[.val (.long x0), .second, .val (.long x2), .second, iv x4, iv x5, iv x6, iv x7, iv x8, iv x9, iv x10, rv x11, iv x12, iv x13, iv x14, iv x15, iv x16, .unset, .unset, .unset, .unset, .unset, .unset, .unset, .unset, .unset] [(.int (x8 + (40 : Int32))), (.int (4 : Int32)), (.ref b997), (.ref b997)])) rfl rfl (hb hby at_288)
  have N1007 := Fr.snoc X1007 N1006 gz997
  have Z1007 : n0 ≤ h1007.size := Nat.le_trans Z1006 (Keep.of_wr W1007).1
  refine own_stW st1007 ?_
  refine own_stW (g' := (mkF m 296 #[.val (.long x0), .second, .val (.long x2), .second, iv x4, iv x5, iv x6, iv x7, iv x8, iv x9, iv x10, rv x11, iv x12, iv x13, iv x14, iv x15, iv x16, .unset, .unset, .unset, .unset, .unset, .unset, .unset, .unset, .unset] [(.int (x8 + (49 : Int32))), (.int (5 : Int32)), (.ref b997), (.ref b997)])) (fun tt_ kk_ => XS.dup X1007.here hx rfl (hb hby at_289) rfl rfl (XS.iconst X1007.here hx rfl (hb hby at_290) (XS.iload X1007.here hx rfl (hb hby at_291) rfl (XS.bipush X1007.here hx rfl (hb hby at_293) (XS.iadd X1007.here hx rfl (hb hby at_295) rfl kk_))))) ?_
  obtain ⟨T1008, h1008, X1008, e1008, W1008, P1008, st1008⟩ := own_stI X1007 hx hZ e1007 P1007 (by decide) (by decide) (g := (mkF m 296 #[.val (.long x0), .second, .val (.long x2), .second, iv x4, iv x5, iv x6, iv x7, iv x8, iv x9, iv x10, rv x11, iv x12, iv x13, iv x14, iv x15, iv x16, .unset, .unset, .unset, .unset, .unset, .unset, .unset, .unset, .unset] [(.int (x8 + (49 : Int32))), (.int (5 : Int32)), (.ref b997), (.ref b997)])) rfl rfl (hb hby at_296)
  have N1008 := Fr.snoc X1008 N1007 gz997
  have Z1008 : n0 ≤ h1008.size := Nat.le_trans Z1007 (Keep.of_wr W1008).1
  refine own_stW st1008 ?_
  refine own_stW (g' := (mkF m 318 #[.val (.long x0), .second, .val (.long x2), .second, iv x4, iv x5, iv x6, iv x7, iv x8, iv x9, iv x10, rv x11, iv x12, iv x13, iv x14, iv x15, iv x16, rv b997, iv ((x8 + ((20 : Int32) * x15)) + x12), .unset, .unset, .unset, .unset, .unset, .unset, .unset] [(.int x16), (.int (20 : Int32)), (.int x8)])) (fun tt_ kk_ => XS.astore X1008.here hx rfl (hb hby at_297) rfl rfl (l' := #[.val (.long x0), .second, .val (.long x2), .second, iv x4, iv x5, iv x6, iv x7, iv x8, iv x9, iv x10, rv x11, iv x12, iv x13, iv x14, iv x15, iv x16, rv b997, .unset, .unset, .unset, .unset, .unset, .unset, .unset, .unset]) rfl (XS.iload X1008.here hx rfl (hb hby at_299) rfl (XS.bipush X1008.here hx rfl (hb hby at_301) (XS.iload X1008.here hx rfl (hb hby at_303) rfl (XS.imul X1008.here hx rfl (hb hby at_305) rfl (XS.iadd X1008.here hx rfl (hb hby at_306) rfl (XS.iload X1008.here hx rfl (hb hby at_307) rfl (XS.iadd X1008.here hx rfl (hb hby at_309) rfl (XS.istore X1008.here hx rfl (hb hby at_310) rfl (l' := #[.val (.long x0), .second, .val (.long x2), .second, iv x4, iv x5, iv x6, iv x7, iv x8, iv x9, iv x10, rv x11, iv x12, iv x13, iv x14, iv x15, iv x16, rv b997, iv ((x8 + ((20 : Int32) * x15)) + x12), .unset, .unset, .unset, .unset, .unset, .unset, .unset]) rfl (XS.iload X1008.here hx rfl (hb hby at_312) rfl (XS.bipush X1008.here hx rfl (hb hby at_314) (XS.iload X1008.here hx rfl (hb hby at_316) rfl kk_)))))))))))) ?_
  refine own_stW (g' := (mkF m 335 #[.val (.long x0), .second, .val (.long x2), .second, iv x4, iv x5, iv x6, iv x7, iv x8, iv x9, iv x10, rv x11, iv x12, iv x13, iv x14, iv x15, iv x16, rv b997, iv ((x8 + ((20 : Int32) * x15)) + x12), iv ((x8 + ((20 : Int32) * x16)) + x13), .unset, .unset, .unset, .unset, .unset, .unset] [(.int (x13 + (1 : Int32))), (.long (((10 : Int32) - x12).toInt64))])) (fun tt_ kk_ => XS.imul X1008.here hx rfl (hb hby at_318) rfl (XS.iadd X1008.here hx rfl (hb hby at_319) rfl (XS.iload X1008.here hx rfl (hb hby at_320) rfl (XS.iadd X1008.here hx rfl (hb hby at_322) rfl (XS.istore X1008.here hx rfl (hb hby at_323) rfl (l' := #[.val (.long x0), .second, .val (.long x2), .second, iv x4, iv x5, iv x6, iv x7, iv x8, iv x9, iv x10, rv x11, iv x12, iv x13, iv x14, iv x15, iv x16, rv b997, iv ((x8 + ((20 : Int32) * x15)) + x12), iv ((x8 + ((20 : Int32) * x16)) + x13), .unset, .unset, .unset, .unset, .unset, .unset]) rfl (XS.bipush X1008.here hx rfl (hb hby at_325) (XS.iload X1008.here hx rfl (hb hby at_327) rfl (XS.isub X1008.here hx rfl (hb hby at_329) rfl (XS.i2l X1008.here hx rfl (hb hby at_330) rfl (XS.iload X1008.here hx rfl (hb hby at_331) rfl (XS.iconst X1008.here hx rfl (hb hby at_333) (XS.iadd X1008.here hx rfl (hb hby at_334) rfl kk_)))))))))))) ?_
  refine own_stW (g' := (mkF m 352 #[.val (.long x0), .second, .val (.long x2), .second, iv x4, iv x5, iv x6, iv x7, iv x8, iv x9, iv x10, rv x11, iv x12, iv x13, iv x14, iv x15, iv x16, rv b997, iv ((x8 + ((20 : Int32) * x15)) + x12), iv ((x8 + ((20 : Int32) * x16)) + x13), .val (.long (((((10 : Int32) - x12).toInt64) + ((x13 + (1 : Int32)).toInt64)) + ((10 : Int64) * (((x16 - x15) - (1 : Int32)).toInt64)))), .second, .unset, .unset, .unset, .unset] [])) (fun tt_ kk_ => XS.i2l X1008.here hx rfl (hb hby at_335) rfl (XS.ladd X1008.here hx rfl (hb hby at_336) rfl (X1008.ldc2Long hx hown (mvT hZ (own_w hw 164 rfl)) (g := (mkF m 337 #[.val (.long x0), .second, .val (.long x2), .second, iv x4, iv x5, iv x6, iv x7, iv x8, iv x9, iv x10, rv x11, iv x12, iv x13, iv x14, iv x15, iv x16, rv b997, iv ((x8 + ((20 : Int32) * x15)) + x12), iv ((x8 + ((20 : Int32) * x16)) + x13), .unset, .unset, .unset, .unset, .unset, .unset] [(.long ((((10 : Int32) - x12).toInt64) + ((x13 + (1 : Int32)).toInt64)))])) rfl (hb hby at_337) _ (XS.iload X1008.here hx rfl (hb hby at_340) rfl (XS.iload X1008.here hx rfl (hb hby at_342) rfl (XS.isub X1008.here hx rfl (hb hby at_344) rfl (XS.iconst X1008.here hx rfl (hb hby at_345) (XS.isub X1008.here hx rfl (hb hby at_346) rfl (XS.i2l X1008.here hx rfl (hb hby at_347) rfl (XS.lmul X1008.here hx rfl (hb hby at_348) rfl (XS.ladd X1008.here hx rfl (hb hby at_349) rfl (XS.lstore X1008.here hx rfl (hb hby at_350) rfl (l' := #[.val (.long x0), .second, .val (.long x2), .second, iv x4, iv x5, iv x6, iv x7, iv x8, iv x9, iv x10, rv x11, iv x12, iv x13, iv x14, iv x15, iv x16, rv b997, iv ((x8 + ((20 : Int32) * x15)) + x12), iv ((x8 + ((20 : Int32) * x16)) + x13), .val (.long (((((10 : Int32) - x12).toInt64) + ((x13 + (1 : Int32)).toInt64)) + ((10 : Int64) * (((x16 - x15) - (1 : Int32)).toInt64)))), .second, .unset, .unset, .unset, .unset]) rfl kk_)))))))))))) ?_
  obtain ⟨T1009, h1009, X1009, e1009, E1009, A1009, D1009, -, st1009⟩ := newO X1008 hx hZ hown (own_w hw 83 rfl) (own_w hw 84 rfl) (own_w hw 85 rfl) e1008 (g := (mkF m 352 #[.val (.long x0), .second, .val (.long x2), .second, iv x4, iv x5, iv x6, iv x7, iv x8, iv x9, iv x10, rv x11, iv x12, iv x13, iv x14, iv x15, iv x16, rv b997, iv ((x8 + ((20 : Int32) * x15)) + x12), iv ((x8 + ((20 : Int32) * x16)) + x13), .val (.long (((((10 : Int32) - x12).toInt64) + ((x13 + (1 : Int32)).toInt64)) + ((10 : Int64) * (((x16 - x15) - (1 : Int32)).toInt64)))), .second, .unset, .unset, .unset, .unset] [])) rfl (hb hby at_352) (show cells + 1 + 1 ≤ 48 by omega) (show slots + 6 + 20 ≤ 3264 by omega)
  obtain ⟨b1009, g1009⟩ : ∃ z, z = h1008.size := ⟨_, rfl⟩
  rw [← g1009] at A1009 D1009 st1009
  have ne1010 : b997 ≠ b1009 := Nat.ne_of_lt (Nat.lt_of_lt_of_le P1008.lt (Nat.le_of_eq g1009.symm))
  have F1012 := (((((((H2.ext E997).wr W1003).wr W1004).wr W1005).wr W1006).wr W1007).wr W1008)
  have ne1011 : x11 ≠ b1009 := Nat.ne_of_lt (Nat.lt_of_lt_of_le F1012.lt (Nat.le_of_eq g1009.symm))
  have F1014 := (((((((H4.ext E997).wr W1003).wr W1004).wr W1005).wr W1006).wr W1007).wr W1008)
  have ne1013 : z2 ≠ b1009 := Nat.ne_of_lt (Nat.lt_of_lt_of_le F1014.lt (Nat.le_of_eq g1009.symm))
  have F1016 := (((((((H10.ext E997).other W1003 ne1000).other W1004 ne1000).other W1005 ne1000).other W1006 ne1000).other W1007 ne1000).other W1008 ne1000)
  have ne1015 : z3 ≠ b1009 := Nat.ne_of_lt (Nat.lt_of_lt_of_le F1016.lt (Nat.le_of_eq g1009.symm))
  have F1018 := (((((((H11.ext E997).other W1003 ne1001).other W1004 ne1001).other W1005 ne1001).other W1006 ne1001).other W1007 ne1001).other W1008 ne1001)
  have ne1017 : z4 ≠ b1009 := Nat.ne_of_lt (Nat.lt_of_lt_of_le F1018.lt (Nat.le_of_eq g1009.symm))
  have F1020 := (((((((H12.ext E997).other W1003 ne1002).other W1004 ne1002).other W1005 ne1002).other W1006 ne1002).other W1007 ne1002).other W1008 ne1002)
  have ne1019 : z5 ≠ b1009 := Nat.ne_of_lt (Nat.lt_of_lt_of_le F1020.lt (Nat.le_of_eq g1009.symm))
  have gz1009 : n0 ≤ b1009 := Nat.le_trans Z1008 (Nat.le_of_eq g1009.symm)
  have Z1009 : n0 ≤ h1009.size := Nat.le_trans Z1008 E1009.1
  have F_watchers_b1009 : Fld Z h1009 b1009 own_z0 "watchers" own_z3 .null := D1009 (Or.inl (own_w hw 101 rfl)) (ty := (.array (.object own_z26))) (by decide)
  have F_tags_b1009 : Fld Z h1009 b1009 own_z0 "tags" "[I" .null := D1009 (Or.inl (own_w hw 103 rfl)) (ty := (.array .int)) (by decide)
  have F_model_b1009 : Fld Z h1009 b1009 own_z0 "model" own_z4 .null := D1009 (Or.inr (own_w hw 105 rfl)) (ty := (.object own_z2)) (by decide)
  have F_index_b1009 : Fld Z h1009 b1009 own_z0 "index" "I" (.int (0 : Int32)) := D1009 (Or.inr (own_w hw 107 rfl)) (ty := .int) (by decide)
  have F_name_b1009 : Fld Z h1009 b1009 own_z0 "name" own_z12 .null := D1009 (Or.inr (own_w hw 109 rfl)) (ty := (.object "java/lang/String")) (by decide)
  have F_min_b1009 : Fld Z h1009 b1009 own_z0 "min" "I" (.int (0 : Int32)) := D1009 (Or.inl (own_w hw 111 rfl)) (ty := .int) (by decide)
  have F_max_b1009 : Fld Z h1009 b1009 own_z0 "max" "I" (.int (0 : Int32)) := D1009 (Or.inl (own_w hw 113 rfl)) (ty := .int) (by decide)
  have F_initialMin_b1009 : Fld Z h1009 b1009 own_z0 "initialMin" "I" (.int (0 : Int32)) := D1009 (Or.inr (own_w hw 115 rfl)) (ty := .int) (by decide)
  have F_initialMax_b1009 : Fld Z h1009 b1009 own_z0 "initialMax" "I" (.int (0 : Int32)) := D1009 (Or.inr (own_w hw 117 rfl)) (ty := .int) (by decide)
  have F_size_b1009 : Fld Z h1009 b1009 own_z0 "size" "J" (.long (0 : Int64)) := D1009 (Or.inl (own_w hw 119 rfl)) (ty := .long) (by decide)
  have F_small_b1009 : Fld Z h1009 b1009 own_z0 "small" "Z" (.int (0 : Int32)) := D1009 (Or.inr (own_w hw 122 rfl)) (ty := .boolean) (by decide)
  have F_bits_b1009 : Fld Z h1009 b1009 own_z0 "bits" "J" (.long (0 : Int64)) := D1009 (Or.inl (own_w hw 125 rfl)) (ty := .long) (by decide)
  have F_ranges_b1009 : Fld Z h1009 b1009 own_z0 "ranges" "[I" .null := D1009 (Or.inl (own_w hw 132 rfl)) (ty := (.array .int)) (by decide)
  have F_first_b1009 : Fld Z h1009 b1009 own_z0 "first" "I" (.int (0 : Int32)) := D1009 (Or.inl (own_w hw 134 rfl)) (ty := .int) (by decide)
  have F_last_b1009 : Fld Z h1009 b1009 own_z0 "last" "I" (.int (0 : Int32)) := D1009 (Or.inl (own_w hw 136 rfl)) (ty := .int) (by decide)
  have F_stamp_b1009 : Fld Z h1009 b1009 own_z0 "stamp" "I" (.int (0 : Int32)) := D1009 (Or.inl (own_w hw 138 rfl)) (ty := .int) (by decide)
  have F_boundsFrom_b1009 : Fld Z h1009 b1009 own_z0 "boundsFrom" "I" (.int (0 : Int32)) := D1009 (Or.inl (own_w hw 224 rfl)) (ty := .int) (by decide)
  have F_toldFrom_b1009 : Fld Z h1009 b1009 own_z0 "toldFrom" "I" (.int (0 : Int32)) := D1009 (Or.inl (own_w hw 226 rfl)) (ty := .int) (by decide)
  have F_watcherCount_b1009 : Fld Z h1009 b1009 own_z0 own_z9 "I" (.int (0 : Int32)) := D1009 (Or.inl (own_w hw 228 rfl)) (ty := .int) (by decide)
  have F_domainFrom_b1009 : Fld Z h1009 b1009 own_z0 "domainFrom" "I" (.int (0 : Int32)) := D1009 (Or.inl (own_w hw 239 rfl)) (ty := .int) (by decide)
  refine own_stW st1009 ?_
  refine own_stW (g' := (mkF m 359 #[.val (.long x0), .second, .val (.long x2), .second, iv x4, iv x5, iv x6, iv x7, iv x8, iv x9, iv x10, rv x11, iv x12, iv x13, iv x14, iv x15, iv x16, rv b997, iv ((x8 + ((20 : Int32) * x15)) + x12), iv ((x8 + ((20 : Int32) * x16)) + x13), .val (.long (((((10 : Int32) - x12).toInt64) + ((x13 + (1 : Int32)).toInt64)) + ((10 : Int64) * (((x16 - x15) - (1 : Int32)).toInt64)))), .second, .unset, .unset, .unset, .unset] [(.int (0 : Int32)), (.ref x11), (.ref b1009), (.ref b1009)])) (fun tt_ kk_ => XS.dup X1009.here hx rfl (hb hby at_355) rfl rfl (XS.aload X1009.here hx rfl (hb hby at_356) rfl rfl (XS.iconst X1009.here hx rfl (hb hby at_358) kk_))) ?_
  obtain ⟨xs, T1021, h1021, k1021, X1021, e1021, E1021, hS1021, hk1021, hZ1021, hown1021, st1021⟩ := ldcS (s := s) (vm0 := s.vm) X1009 hx hZ hown (own_w hw 86 rfl) (own_strA hw) e1009 ((State.WarmedH.refl s).since 0) (Nat.zero_le _) (g := (mkF m 359 #[.val (.long x0), .second, .val (.long x2), .second, iv x4, iv x5, iv x6, iv x7, iv x8, iv x9, iv x10, rv x11, iv x12, iv x13, iv x14, iv x15, iv x16, rv b997, iv ((x8 + ((20 : Int32) * x15)) + x12), iv ((x8 + ((20 : Int32) * x16)) + x13), .val (.long (((((10 : Int32) - x12).toInt64) + ((x13 + (1 : Int32)).toInt64)) + ((10 : Int64) * (((x16 - x15) - (1 : Int32)).toInt64)))), .second, .unset, .unset, .unset, .unset] [(.int (0 : Int32)), (.ref x11), (.ref b1009), (.ref b1009)])) rfl (hb hby at_359) (n := 4) (by decide) (by decide) (show cells + 1 + 1 + 2 ≤ 48 by omega) (show slots + 6 + 20 + (4 + 4) ≤ 3264 by omega)
  have Z1021 : n0 ≤ h1021.size := Nat.le_trans Z1009 E1021.1
  refine own_stW st1021 ?_
  have F1022 := ((P1008.ext E1009).ext E1021)
  have PN1023 : own_AI Z h1021 b997 6 (own_R x8) := F1022.congr (by intro i hi; have q : i = 0 ∨ i = 1 ∨ i = 2 ∨ i = 3 ∨ i = 4 ∨ i = 5 := (by omega); rcases q with rfl | rfl | rfl | rfl | rfl | rfl <;> rfl)
  have F1024 := (((((((((H0.ext E997).wr W1003).wr W1004).wr W1005).wr W1006).wr W1007).wr W1008).ext E1009).ext E1021)
  have F1025 := (((((((((H1.ext E997).wr W1003).wr W1004).wr W1005).wr W1006).wr W1007).wr W1008).ext E1009).ext E1021)
  have F1026 := ((F1012.ext E1009).ext E1021)
  have F1027 := (((((((((H3.ext E997).other W1003 (Or.inl ne998)).other W1004 (Or.inl ne998)).other W1005 (Or.inl ne998)).other W1006 (Or.inl ne998)).other W1007 (Or.inl ne998)).other W1008 (Or.inl ne998)).ext E1009).ext E1021)
  have F1028 := ((F1014.ext E1009).ext E1021)
  have F1029 := (((((((((H5.ext E997).other W1003 (Or.inl ne999)).other W1004 (Or.inl ne999)).other W1005 (Or.inl ne999)).other W1006 (Or.inl ne999)).other W1007 (Or.inl ne999)).other W1008 (Or.inl ne999)).ext E1009).ext E1021)
  have F1030 := (((((((((H6.ext E997).other W1003 (Or.inl ne999)).other W1004 (Or.inl ne999)).other W1005 (Or.inl ne999)).other W1006 (Or.inl ne999)).other W1007 (Or.inl ne999)).other W1008 (Or.inl ne999)).ext E1009).ext E1021)
  have F1031 := (((((((((H7.ext E997).other W1003 (Or.inl ne999)).other W1004 (Or.inl ne999)).other W1005 (Or.inl ne999)).other W1006 (Or.inl ne999)).other W1007 (Or.inl ne999)).other W1008 (Or.inl ne999)).ext E1009).ext E1021)
  have F1032 := (((((((((H8.ext E997).other W1003 (Or.inl ne999)).other W1004 (Or.inl ne999)).other W1005 (Or.inl ne999)).other W1006 (Or.inl ne999)).other W1007 (Or.inl ne999)).other W1008 (Or.inl ne999)).ext E1009).ext E1021)
  have F1033 := (((((((((H9.ext E997).other W1003 (Or.inl ne999)).other W1004 (Or.inl ne999)).other W1005 (Or.inl ne999)).other W1006 (Or.inl ne999)).other W1007 (Or.inl ne999)).other W1008 (Or.inl ne999)).ext E1009).ext E1021)
  have F1034 := ((F1016.ext E1009).ext E1021)
  have F1035 := ((F1018.ext E1009).ext E1021)
  have F1036 := ((F1020.ext E1009).ext E1021)
  have F1037 := ((((((((B997.wr W1003).wr W1004).wr W1005).wr W1006).wr W1007).wr W1008).ext E1009).ext E1021)
  have F1038 := (A1009.ext E1021)
  have F1039 := (F_watchers_b1009.ext E1021)
  have F1040 := (F_tags_b1009.ext E1021)
  have F1041 := (F_model_b1009.ext E1021)
  have F1042 := (F_index_b1009.ext E1021)
  have F1043 := (F_name_b1009.ext E1021)
  have F1044 := (F_min_b1009.ext E1021)
  have F1045 := (F_max_b1009.ext E1021)
  have F1046 := (F_initialMin_b1009.ext E1021)
  have F1047 := (F_initialMax_b1009.ext E1021)
  have F1048 := (F_size_b1009.ext E1021)
  have F1049 := (F_small_b1009.ext E1021)
  have F1050 := (F_bits_b1009.ext E1021)
  have F1051 := (F_ranges_b1009.ext E1021)
  have F1052 := (F_first_b1009.ext E1021)
  have F1053 := (F_last_b1009.ext E1021)
  have F1054 := (F_stamp_b1009.ext E1021)
  have F1055 := (F_boundsFrom_b1009.ext E1021)
  have F1056 := (F_toldFrom_b1009.ext E1021)
  have F1057 := (F_watcherCount_b1009.ext E1021)
  have F1058 := (F_domainFrom_b1009.ext E1021)
  exact own_t361 X1021 hx hlk hby hml hret hown1021 hZ1021 hw e1021 N1008 Z1021 (by omega) (by omega) hS1021 hk1021 x0 x2 x4 x5 x6 x7 x8 x9 x10 x11 x12 x13 x14 x15 x16 b997 ((x8 + ((20 : Int32) * x15)) + x12) ((x8 + ((20 : Int32) * x16)) + x13) (((((10 : Int32) - x12).toInt64) + ((x13 + (1 : Int32)).toInt64)) + ((10 : Int64) * (((x16 - x15) - (1 : Int32)).toInt64))) xs (0 : Int32) b1009 z0 z1 z2 z3 z4 z5 hbb hk hv hA hB hfl rfl rfl rfl F1024 F1025 F1026 F1027 F1028 F1029 F1030 F1031 F1032 F1033 F1034 F1035 F1036 PN1023 F1037 F1038 F1039 F1040 F1041 F1042 F1043 F1044 F1045 F1046 F1047 F1048 F1049 F1050 F1051 F1052 F1053 F1054 F1055 F1056 F1057 F1058 ne998 ne1011 ne0 ne1 ne2 ne3 ne1010 (Ne.symm ne999) (Ne.symm ne1000) (Ne.symm ne1001) (Ne.symm ne1002) (Ne.symm ne1013) (Ne.symm ne1015) (Ne.symm ne1017) (Ne.symm ne1019) ne4 ne5 ne6 ne7 ne8 ne9 g_x11 gz997 gz1009 g_z2 g_z3 g_z4 g_z5
set_option maxRecDepth 65536 in
set_option maxHeartbeats 16000000 in
theorem own_t223 {p : Program} {l : Launch} {e : Env} {s : State} {m : MethodId} {args : Array Value} {below : List Frame} {meth : Method} {c : Code} {T : State} {locs : List Loc} {cells slots : Nat} {Z : State} {a0 : Array Value} {h0 : Heap} {n0 : Nat} (X0 : Stand p l e room_1 s m args below meth c T locs cells slots) (hx : p.tables.exec = Jvm.exec) (hlk : meth.locks = false) (hby : c.code = code) (hml : c.maxLocals = 26) (hret : meth.sig.returnType = some .boolean) (hown : s.vm.findClass own_z17 = some m.cls) (hZ : Z.Warmed39 s.vm) (hw : own_HW Z a0) (e0 : T.heap = h0) (N0 : Fr n0 locs) (Z0 : n0 ≤ h0.size) (hcc : cells ≤ 15) (hss : slots ≤ 1058) (x0 : Int64) (x2 : Int64) (x4 : Int32) (x5 : Int32) (x6 : Int32) (x7 : Int32) (x8 : Int32) (x9 : Int32) (x10 : Int32) (x11 : Addr) (x12 : Int32) (x13 : Int32) (x14 : Int32) (z0 : Addr) (z1 : Addr) (z2 : Addr) (z3 : Addr) (z4 : Addr) (z5 : Addr) (hbb : -1073741824 ≤ x8.toInt ∧ x8.toInt < 1073741824) (hk : 0 ≤ x9.toInt ∧ x9.toInt ≤ 63) (hv : x10 = x8 + x9) (hA : 0 ≤ x12.toInt ∧ x12.toInt ≤ 9) (hB : 0 ≤ x13.toInt ∧ x13.toInt ≤ 9) (H0 : Sta Z h0 own_z6 "FIX" own_z5 (.ref z0)) (H1 : Sta Z h0 own_z6 "BOUNDS" own_z5 (.ref z1)) (H2 : Exa Z h0 x11 own_z2) (H3 : Fld Z h0 x11 own_z2 "trail" own_z7 (.ref z2)) (H4 : Exa Z h0 z2 own_z1) (H5 : Fld Z h0 z2 own_z1 "depth" "I" (.int (0 : Int32))) (H6 : Fld Z h0 z2 own_z1 "entries" "I" (.int (0 : Int32))) (H7 : Fld Z h0 z2 own_z1 "ints" "[I" (.ref z3)) (H8 : Fld Z h0 z2 own_z1 "longs" "[J" (.ref z4)) (H9 : Fld Z h0 z2 own_z1 "ranges" "[[I" (.ref z5)) (H10 : own_AI Z h0 z3 384 (fun _ => 0)) (H11 : own_AJ Z h0 z4 128 (fun _ => 0)) (H12 : own_AR Z h0 z5 64) (ne0 : x11 ≠ z2) (ne1 : x11 ≠ z3) (ne2 : x11 ≠ z4) (ne3 : x11 ≠ z5) (ne4 : z2 ≠ z3) (ne5 : z2 ≠ z4) (ne6 : z2 ≠ z5) (ne7 : z3 ≠ z4) (ne8 : z3 ≠ z5) (ne9 : z4 ≠ z5) (g_x11 : n0 ≤ x11) (g_z2 : n0 ≤ z2) (g_z3 : n0 ≤ z3) (g_z4 : n0 ≤ z4) (g_z5 : n0 ≤ z5) :
    own_GoW p e below s T (mkF m 223 #[.val (.long x0), .second, .val (.long x2), .second, iv x4, iv x5, iv x6, iv x7, iv x8, iv x9, iv x10, rv x11, iv x12, iv x13, iv x14, .unset, .unset, .unset, .unset, .unset, .unset, .unset, .unset, .unset, .unset, .unset] []) (own_Q0 n0) 48 3264 := by
  refine own_stW (g' := (mkF m 226 #[.val (.long x0), .second, .val (.long x2), .second, iv x4, iv x5, iv x6, iv x7, iv x8, iv x9, iv x10, rv x11, iv x12, iv x13, iv x14, .unset, .unset, .unset, .unset, .unset, .unset, .unset, .unset, .unset, .unset, .unset] [(.int (2 : Int32)), (.int x14)])) (fun tt_ kk_ => XS.iload X0.here hx rfl (hb hby at_223) rfl (XS.iconst X0.here hx rfl (hb hby at_225) kk_)) ?_
  by_cases hc226 : x14 = (2 : Int32)
  · skip
    refine own_stW (g' := (mkF m 238 #[.val (.long x0), .second, .val (.long x2), .second, iv x4, iv x5, iv x6, iv x7, iv x8, iv x9, iv x10, rv x11, iv x12, iv x13, iv x14, iv (1 : Int32), .unset, .unset, .unset, .unset, .unset, .unset, .unset, .unset, .unset, .unset] [(.int x14)])) (fun tt_ kk_ => XS.icmpNo X0.here hx rfl (hb hby at_226) rfl (teq hc226).2 (XS.iconst X0.here hx rfl (hb hby at_229) (XS.goto X0.here hx rfl (pc0 := 230) (pc' := 234) rfl (hb hby at_230) (by decide) (by decide) (XS.istore X0.here hx rfl (hb hby at_234) rfl (l' := #[.val (.long x0), .second, .val (.long x2), .second, iv x4, iv x5, iv x6, iv x7, iv x8, iv x9, iv x10, rv x11, iv x12, iv x13, iv x14, iv (1 : Int32), .unset, .unset, .unset, .unset, .unset, .unset, .unset, .unset, .unset, .unset]) rfl (XS.iload X0.here hx rfl (hb hby at_236) rfl kk_))))) ?_
    refine own_stW (g' := (mkF m 248 #[.val (.long x0), .second, .val (.long x2), .second, iv x4, iv x5, iv x6, iv x7, iv x8, iv x9, iv x10, rv x11, iv x12, iv x13, iv x14, iv (1 : Int32), iv (2 : Int32), .unset, .unset, .unset, .unset, .unset, .unset, .unset, .unset, .unset] [])) (fun tt_ kk_ => XS.ifYes X0.here hx rfl (pc0 := 238) (pc' := 245) rfl (hb hby at_238) rfl ((if0 _ _).trans (feq (by rw [hc226]; decide)).2) (by decide) (by decide) (XS.iconst X0.here hx rfl (hb hby at_245) (XS.istore X0.here hx rfl (hb hby at_246) rfl (l' := #[.val (.long x0), .second, .val (.long x2), .second, iv x4, iv x5, iv x6, iv x7, iv x8, iv x9, iv x10, rv x11, iv x12, iv x13, iv x14, iv (1 : Int32), iv (2 : Int32), .unset, .unset, .unset, .unset, .unset, .unset, .unset, .unset, .unset]) rfl kk_))) ?_
    exact own_t248 X0 hx hlk hby hml hret hown hZ hw e0 N0 Z0 (by omega) (by omega) x0 x2 x4 x5 x6 x7 x8 x9 x10 x11 x12 x13 x14 (1 : Int32) (2 : Int32) z0 z1 z2 z3 z4 z5 hbb hk hv hA hB (Or.inr (Or.inr ⟨rfl, rfl⟩)) H0 H1 H2 H3 H4 H5 H6 H7 H8 H9 H10 H11 H12 ne0 ne1 ne2 ne3 ne4 ne5 ne6 ne7 ne8 ne9 g_x11 g_z2 g_z3 g_z4 g_z5
  refine own_stW (g' := (mkF m 238 #[.val (.long x0), .second, .val (.long x2), .second, iv x4, iv x5, iv x6, iv x7, iv x8, iv x9, iv x10, rv x11, iv x12, iv x13, iv x14, iv (0 : Int32), .unset, .unset, .unset, .unset, .unset, .unset, .unset, .unset, .unset, .unset] [(.int x14)])) (fun tt_ kk_ => XS.icmpYes X0.here hx rfl (pc0 := 226) (pc' := 233) rfl (hb hby at_226) rfl (feq hc226).2 (by decide) (by decide) (XS.iconst X0.here hx rfl (hb hby at_233) (XS.istore X0.here hx rfl (hb hby at_234) rfl (l' := #[.val (.long x0), .second, .val (.long x2), .second, iv x4, iv x5, iv x6, iv x7, iv x8, iv x9, iv x10, rv x11, iv x12, iv x13, iv x14, iv (0 : Int32), .unset, .unset, .unset, .unset, .unset, .unset, .unset, .unset, .unset, .unset]) rfl (XS.iload X0.here hx rfl (hb hby at_236) rfl kk_)))) ?_
  by_cases hc238 : x14 = (0 : Int32)
  · skip
    refine own_stW (g' := (mkF m 248 #[.val (.long x0), .second, .val (.long x2), .second, iv x4, iv x5, iv x6, iv x7, iv x8, iv x9, iv x10, rv x11, iv x12, iv x13, iv x14, iv (0 : Int32), iv (1 : Int32), .unset, .unset, .unset, .unset, .unset, .unset, .unset, .unset, .unset] [])) (fun tt_ kk_ => XS.ifNo X0.here hx rfl (hb hby at_238) rfl ((if0 _ _).trans (teq hc238).2) (XS.iconst X0.here hx rfl (hb hby at_241) (XS.goto X0.here hx rfl (pc0 := 242) (pc' := 246) rfl (hb hby at_242) (by decide) (by decide) (XS.istore X0.here hx rfl (hb hby at_246) rfl (l' := #[.val (.long x0), .second, .val (.long x2), .second, iv x4, iv x5, iv x6, iv x7, iv x8, iv x9, iv x10, rv x11, iv x12, iv x13, iv x14, iv (0 : Int32), iv (1 : Int32), .unset, .unset, .unset, .unset, .unset, .unset, .unset, .unset, .unset]) rfl kk_)))) ?_
    exact own_t248 X0 hx hlk hby hml hret hown hZ hw e0 N0 Z0 (by omega) (by omega) x0 x2 x4 x5 x6 x7 x8 x9 x10 x11 x12 x13 x14 (0 : Int32) (1 : Int32) z0 z1 z2 z3 z4 z5 hbb hk hv hA hB (Or.inl ⟨rfl, rfl⟩) H0 H1 H2 H3 H4 H5 H6 H7 H8 H9 H10 H11 H12 ne0 ne1 ne2 ne3 ne4 ne5 ne6 ne7 ne8 ne9 g_x11 g_z2 g_z3 g_z4 g_z5
  refine own_stW (g' := (mkF m 248 #[.val (.long x0), .second, .val (.long x2), .second, iv x4, iv x5, iv x6, iv x7, iv x8, iv x9, iv x10, rv x11, iv x12, iv x13, iv x14, iv (0 : Int32), iv (2 : Int32), .unset, .unset, .unset, .unset, .unset, .unset, .unset, .unset, .unset] [])) (fun tt_ kk_ => XS.ifYes X0.here hx rfl (pc0 := 238) (pc' := 245) rfl (hb hby at_238) rfl ((if0 _ _).trans (feq hc238).2) (by decide) (by decide) (XS.iconst X0.here hx rfl (hb hby at_245) (XS.istore X0.here hx rfl (hb hby at_246) rfl (l' := #[.val (.long x0), .second, .val (.long x2), .second, iv x4, iv x5, iv x6, iv x7, iv x8, iv x9, iv x10, rv x11, iv x12, iv x13, iv x14, iv (0 : Int32), iv (2 : Int32), .unset, .unset, .unset, .unset, .unset, .unset, .unset, .unset, .unset]) rfl kk_))) ?_
  exact own_t248 X0 hx hlk hby hml hret hown hZ hw e0 N0 Z0 (by omega) (by omega) x0 x2 x4 x5 x6 x7 x8 x9 x10 x11 x12 x13 x14 (0 : Int32) (2 : Int32) z0 z1 z2 z3 z4 z5 hbb hk hv hA hB (Or.inr (Or.inl ⟨rfl, rfl⟩)) H0 H1 H2 H3 H4 H5 H6 H7 H8 H9 H10 H11 H12 ne0 ne1 ne2 ne3 ne4 ne5 ne6 ne7 ne8 ne9 g_x11 g_z2 g_z3 g_z4 g_z5
theorem own_ef0 (m : MethodId) (x0 : Int64) (x2 : Int64) (x4 : Int32) (x5 : Int32) (x6 : Int32) (x7 : Int32) : entryFrame m #[(.long x0), (.long x2), (.int x4), (.int x5), (.int x6), (.int x7)] maxLocals = mkF m 0 #[.val (.long x0), .second, .val (.long x2), .second, iv x4, iv x5, iv x6, iv x7, .unset, .unset, .unset, .unset, .unset, .unset, .unset, .unset, .unset, .unset, .unset, .unset, .unset, .unset, .unset, .unset, .unset, .unset] [] := by first | (simp [entryFrame, mkF, argsToLocals, Value.category, maxLocals]; done) | rfl
set_option maxRecDepth 65536 in
set_option maxHeartbeats 16000000 in
theorem own_rm0 (l : Launch) (Z : State) (a0 : Array Value) (hw : own_HW Z a0) (ws : List Jvm.Cond) (x0 : Int64) (x2 : Int64) (x4 : Int32) (x5 : Int32) (x6 : Int32) (x7 : Int32) (h0 : Heap) (n0 : Nat) (Z0 : n0 ≤ h0.size) (dA dn ef eb : Addr) (S_d : Sta Z h0 own_z16 "DEFAULTCAPACITY_EMPTY_ELEMENTDATA" own_z22 (.ref dA)) (S_n : Sta Z h0 own_z28 "NONE" own_z13 (.ref dn)) (S_f : Sta Z h0 own_z6 "FIX" own_z5 (.ref ef)) (S_b : Sta Z h0 own_z6 "BOUNDS" own_z5 (.ref eb)) :
    MetFree l x (head1 (Jvm.Cond.code x code maxLocals ret :: ws) room_1) (fun aa UU => aa = #[(.long x0), (.long x2), (.int x4), (.int x5), (.int x6), (.int x7)] ∧ Z.Warmed39 UU.vm ∧ UU.heap = h0) (fun _ _ _ _ _ => True) (fun _ U o U' => ∃ v L, o = .returned v ∧ own_Q0 n0 v U'.heap L ∧ (∃ v : Option Value, o = Outcome.returned v) ∧ U.Warmed39 U'.vm ∧ (∀ (j : Nat) (p : Array UInt16 × Addr), U.vm.interned.size ≤ j → U'.vm.interned[j]? = some p → U.heap.size ≤ p.2 ∧ p.2 < U'.heap.size) ∧ U.sameButNew { U' with vm := U.vm } L 48 3264) := by
  refine MetFree.of_bodySF (plainFor_of_name own_pn6) hisR ?_
  intro p e s m args below meth c s₁ Bd hml hP hK
  obtain ⟨rfl, hZ, hh⟩ := hP
  have hx := Bd.exec
  have hlk := Bd.notSynchronized
  have hby := Bd.bytes
  have hret := Bd.returns
  have hown := findClass_of_methodNamed Bd.named
  have X0 : Stand p l e room_1 s m #[(.long x0), (.long x2), (.int x4), (.int x5), (.int x6), (.int x7)] below meth c s₁ [] 0 0 := Stand.of_body Bd
  have e0 : s₁.heap = h0 := by rw [← hh, Bd.state]; rfl
  have N0 := Fr.nil n0
  refine own_castW (own_ef0 m x0 x2 x4 x5 x6 x7) ?_
  show own_GoW p e below s s₁ _ (own_Q0 n0) 48 3264
  refine own_stW (g' := (mkF m 20 #[.val (.long x0), .second, .val (.long x2), .second, iv x4, iv x5, iv x6, iv x7, iv (x5 >>> ((1 : Int32) &&& 31)), iv (x7 &&& (63 : Int32)), iv ((x5 >>> ((1 : Int32) &&& 31)) + (x7 &&& (63 : Int32))), .unset, .unset, .unset, .unset, .unset, .unset, .unset, .unset, .unset, .unset, .unset, .unset, .unset, .unset, .unset] [])) (fun tt_ kk_ => XS.iload X0.here hx rfl (hb hby at_0) rfl (XS.iconst X0.here hx rfl (hb hby at_2) (XS.ishr X0.here hx rfl (hb hby at_3) rfl (XS.istore X0.here hx rfl (hb hby at_4) rfl (l' := #[.val (.long x0), .second, .val (.long x2), .second, iv x4, iv x5, iv x6, iv x7, iv (x5 >>> ((1 : Int32) &&& 31)), .unset, .unset, .unset, .unset, .unset, .unset, .unset, .unset, .unset, .unset, .unset, .unset, .unset, .unset, .unset, .unset, .unset]) rfl (XS.iload X0.here hx rfl (hb hby at_6) rfl (XS.bipush X0.here hx rfl (hb hby at_8) (XS.iand X0.here hx rfl (hb hby at_10) rfl (XS.istore X0.here hx rfl (hb hby at_11) rfl (l' := #[.val (.long x0), .second, .val (.long x2), .second, iv x4, iv x5, iv x6, iv x7, iv (x5 >>> ((1 : Int32) &&& 31)), iv (x7 &&& (63 : Int32)), .unset, .unset, .unset, .unset, .unset, .unset, .unset, .unset, .unset, .unset, .unset, .unset, .unset, .unset, .unset, .unset]) rfl (XS.iload X0.here hx rfl (hb hby at_13) rfl (XS.iload X0.here hx rfl (hb hby at_15) rfl (XS.iadd X0.here hx rfl (hb hby at_17) rfl (XS.istore X0.here hx rfl (hb hby at_18) rfl (l' := #[.val (.long x0), .second, .val (.long x2), .second, iv x4, iv x5, iv x6, iv x7, iv (x5 >>> ((1 : Int32) &&& 31)), iv (x7 &&& (63 : Int32)), iv ((x5 >>> ((1 : Int32) &&& 31)) + (x7 &&& (63 : Int32))), .unset, .unset, .unset, .unset, .unset, .unset, .unset, .unset, .unset, .unset, .unset, .unset, .unset, .unset, .unset]) rfl kk_)))))))))))) ?_
  obtain ⟨T948, h948, X948, e948, E948, A948, D948, -, st948⟩ := newO X0 hx hZ hown (own_w hw 0 rfl) (own_w hw 1 rfl) (own_w hw 2 rfl) e0 (g := (mkF m 20 #[.val (.long x0), .second, .val (.long x2), .second, iv x4, iv x5, iv x6, iv x7, iv (x5 >>> ((1 : Int32) &&& 31)), iv (x7 &&& (63 : Int32)), iv ((x5 >>> ((1 : Int32) &&& 31)) + (x7 &&& (63 : Int32))), .unset, .unset, .unset, .unset, .unset, .unset, .unset, .unset, .unset, .unset, .unset, .unset, .unset, .unset, .unset] [])) rfl (hb hby at_20) (show 0 + 1 ≤ 48 by omega) (show 0 + 11 ≤ 3264 by omega)
  obtain ⟨b948, g948⟩ : ∃ z, z = h0.size := ⟨_, rfl⟩
  rw [← g948] at A948 D948 st948
  have gz948 : n0 ≤ b948 := Nat.le_trans Z0 (Nat.le_of_eq g948.symm)
  have Z948 : n0 ≤ h948.size := Nat.le_trans Z0 E948.1
  have F_variables_b948 : Fld Z h948 b948 own_z2 "variables" own_z10 .null := D948 (Or.inr (own_w hw 34 rfl)) (ty := (.object "java/util/List")) (by decide)
  have F_constraints_b948 : Fld Z h948 b948 own_z2 "constraints" own_z10 .null := D948 (Or.inr (own_w hw 36 rfl)) (ty := (.object "java/util/List")) (by decide)
  have F_trail_b948 : Fld Z h948 b948 own_z2 "trail" own_z7 .null := D948 (Or.inr (own_w hw 73 rfl)) (ty := (.object own_z1)) (by decide)
  have F_queue_b948 : Fld Z h948 b948 own_z2 "queue" "[I" .null := D948 (Or.inl (own_w hw 75 rfl)) (ty := (.array .int)) (by decide)
  have F_running_b948 : Fld Z h948 b948 own_z2 "running" "I" (.int (0 : Int32)) := D948 (Or.inl (own_w hw 77 rfl)) (ty := .int) (by decide)
  have F_deadline_b948 : Fld Z h948 b948 own_z2 "deadline" own_z13 .null := D948 (Or.inl (own_w hw 82 rfl)) (ty := (.object own_z28)) (by decide)
  refine own_stW st948 ?_
  refine own_stW (g' := (mkF m 24 #[.val (.long x0), .second, .val (.long x2), .second, iv x4, iv x5, iv x6, iv x7, iv (x5 >>> ((1 : Int32) &&& 31)), iv (x7 &&& (63 : Int32)), iv ((x5 >>> ((1 : Int32) &&& 31)) + (x7 &&& (63 : Int32))), .unset, .unset, .unset, .unset, .unset, .unset, .unset, .unset, .unset, .unset, .unset, .unset, .unset, .unset, .unset] [(.ref b948), (.ref b948)])) (fun tt_ kk_ => XS.dup X948.here hx rfl (hb hby at_23) rfl rfl kk_) ?_
  have F949 := (S_d.ext E948)
  have F950 := (S_n.ext E948)
  obtain ⟨_, _, ⟨T951, L951, k951, n951⟩, -, X951, ⟨Lc951, hQ951, l951, y951, z951⟩, st951⟩ := X948.specialBack hx (y := (⟨own_z2, "<init>", "()V"⟩ : MethodName)) rfl hown (mvT hZ (own_w hw 3 rfl)) (mvT hZ (own_w hw 4 rfl)) (mvT hZ (own_w hw 5 rfl)) (by decide) (backOf (W := 1) (own_rmmod l Z a0 hw [] b948 dA dn h948 n0 Z948 A948 F_variables_b948 F_constraints_b948 F_trail_b948 F_queue_b948 F_running_b948 F_deadline_b948 F949 F950 gz948) hZ (own_w hw 5 rfl) (own_w hw 2 rfl) (by decide) (by decide)) (g := (mkF m 24 #[.val (.long x0), .second, .val (.long x2), .second, iv x4, iv x5, iv x6, iv x7, iv (x5 >>> ((1 : Int32) &&& 31)), iv (x7 &&& (63 : Int32)), iv ((x5 >>> ((1 : Int32) &&& 31)) + (x7 &&& (63 : Int32))), .unset, .unset, .unset, .unset, .unset, .unset, .unset, .unset, .unset, .unset, .unset, .unset, .unset, .unset, .unset] [(.ref b948), (.ref b948)])) rfl (by rw [hml]; rfl) (Steps.refl _) (a := b948) (argsL := []) (rest := [(.ref b948)]) (lenOf own_pd0 rfl) rfl (by show 2 * 0 + _ ≤ _; exact Nat.le_of_eq rfl) (hb hby at_24) (fun _ _ => ⟨rfl, e948, (show 0 + 1 + 14 ≤ 48 by omega), (show 0 + 11 + 1047 ≤ 3264 by omega)⟩)
  dsimp only [Pt.U, Pt.locs, Pt.cells, Pt.slots] at X951 l951 y951 z951 st951 hQ951
  rw [l951, y951, z951] at X951
  obtain ⟨rfl, N951q, K951q, tr_951, it_951, lt_951, rt_951, f951_0, f951_1, f951_2, f951_3, f951_4, f951_5, f951_6, f951_7, f951_8, f951_9, f951_10, f951_11, f951_12, f951_13, f951_14, f951_15, f951_16, f951_17, f951_18, f951_19, f951_20⟩ := hQ951
  obtain ⟨h951, e951⟩ : ∃ z, T951.heap = z := ⟨_, rfl⟩
  rw [e951] at K951q f951_0 f951_1 f951_2 f951_3 f951_4 f951_5 f951_6 f951_7 f951_8 f951_9 f951_10
  have Z951 : n0 ≤ h951.size := Nat.le_trans Z948 K951q.1
  have ne952 : b948 ≠ it_951 := Nat.ne_of_lt (Nat.lt_of_lt_of_le A948.lt f951_17)
  have gx953 : n0 ≤ it_951 := Nat.le_trans Z948 f951_17
  have ne954 : b948 ≠ lt_951 := Nat.ne_of_lt (Nat.lt_of_lt_of_le A948.lt f951_18)
  have gx955 : n0 ≤ lt_951 := Nat.le_trans Z948 f951_18
  have ne956 : b948 ≠ rt_951 := Nat.ne_of_lt (Nat.lt_of_lt_of_le A948.lt f951_19)
  have gx957 : n0 ≤ rt_951 := Nat.le_trans Z948 f951_19
  have ne958 : b948 ≠ tr_951 := Nat.ne_of_lt (Nat.lt_of_lt_of_le A948.lt f951_20)
  have gx959 : n0 ≤ tr_951 := Nat.le_trans Z948 f951_20
  have N951 := Fr.app N0 N951q
  refine own_stW (fun t k => st951.trans k) ?_
  refine own_stW (g' := (mkF m 33 #[.val (.long x0), .second, .val (.long x2), .second, iv x4, iv x5, iv x6, iv x7, iv (x5 >>> ((1 : Int32) &&& 31)), iv (x7 &&& (63 : Int32)), iv ((x5 >>> ((1 : Int32) &&& 31)) + (x7 &&& (63 : Int32))), rv b948, .unset, .unset, .unset, .unset, .unset, .unset, .unset, .unset, .unset, .unset, .unset, .unset, .unset, .unset] [(.int (x6 &&& (1 : Int32)))])) (fun tt_ kk_ => XS.astore X951.here hx rfl (hb hby at_27) rfl rfl (l' := #[.val (.long x0), .second, .val (.long x2), .second, iv x4, iv x5, iv x6, iv x7, iv (x5 >>> ((1 : Int32) &&& 31)), iv (x7 &&& (63 : Int32)), iv ((x5 >>> ((1 : Int32) &&& 31)) + (x7 &&& (63 : Int32))), rv b948, .unset, .unset, .unset, .unset, .unset, .unset, .unset, .unset, .unset, .unset, .unset, .unset, .unset, .unset]) rfl (XS.iload X951.here hx rfl (hb hby at_29) rfl (XS.iconst X951.here hx rfl (hb hby at_31) (XS.iand X951.here hx rfl (hb hby at_32) rfl kk_)))) ?_
  obtain ⟨hbb, hk⟩ := And.intro (own_bs x5) (own_k63 x7)
  by_cases hc33 : (x6 &&& (1 : Int32)) = (0 : Int32)
  · skip
    refine own_stW (g' := (mkF m 36 #[.val (.long x0), .second, .val (.long x2), .second, iv x4, iv x5, iv x6, iv x7, iv (x5 >>> ((1 : Int32) &&& 31)), iv (x7 &&& (63 : Int32)), iv ((x5 >>> ((1 : Int32) &&& 31)) + (x7 &&& (63 : Int32))), rv b948, .unset, .unset, .unset, .unset, .unset, .unset, .unset, .unset, .unset, .unset, .unset, .unset, .unset, .unset] [])) (fun tt_ kk_ => XS.ifNo X951.here hx rfl (hb hby at_33) rfl ((if0 _ _).trans (teq hc33).2) kk_) ?_
    have hv : ((x5 >>> ((1 : Int32) &&& 31)) + (x7 &&& (63 : Int32))) = ((x5 >>> ((1 : Int32) &&& 31)) + (x7 &&& (63 : Int32))) := rfl
    refine own_stW (g' := (mkF m 55 #[.val (.long x0), .second, .val (.long x2), .second, iv x4, iv x5, iv x6, iv x7, iv (x5 >>> ((1 : Int32) &&& 31)), iv (x7 &&& (63 : Int32)), iv ((x5 >>> ((1 : Int32) &&& 31)) + (x7 &&& (63 : Int32))), rv b948, iv ((x5 >>> ((1 : Int32) &&& 31)) + (((x6.toUInt32 >>> ((1 : Int32) &&& 31).toUInt32).toInt32) &&& (63 : Int32))), .unset, .unset, .unset, .unset, .unset, .unset, .unset, .unset, .unset, .unset, .unset, .unset, .unset] [(.int ((x6.toUInt32 >>> ((7 : Int32) &&& 31).toUInt32).toInt32)), (.int (x5 >>> ((1 : Int32) &&& 31)))])) (fun tt_ kk_ => XS.iload X951.here hx rfl (hb hby at_36) rfl (XS.iload X951.here hx rfl (hb hby at_38) rfl (XS.iconst X951.here hx rfl (hb hby at_40) (XS.iushr X951.here hx rfl (hb hby at_41) rfl (XS.bipush X951.here hx rfl (hb hby at_42) (XS.iand X951.here hx rfl (hb hby at_44) rfl (XS.iadd X951.here hx rfl (hb hby at_45) rfl (XS.istore X951.here hx rfl (hb hby at_46) rfl (l' := #[.val (.long x0), .second, .val (.long x2), .second, iv x4, iv x5, iv x6, iv x7, iv (x5 >>> ((1 : Int32) &&& 31)), iv (x7 &&& (63 : Int32)), iv ((x5 >>> ((1 : Int32) &&& 31)) + (x7 &&& (63 : Int32))), rv b948, iv ((x5 >>> ((1 : Int32) &&& 31)) + (((x6.toUInt32 >>> ((1 : Int32) &&& 31).toUInt32).toInt32) &&& (63 : Int32))), .unset, .unset, .unset, .unset, .unset, .unset, .unset, .unset, .unset, .unset, .unset, .unset, .unset]) rfl (XS.iload X951.here hx rfl (hb hby at_48) rfl (XS.iload X951.here hx rfl (hb hby at_50) rfl (XS.bipush X951.here hx rfl (hb hby at_52) (XS.iushr X951.here hx rfl (hb hby at_54) rfl kk_)))))))))))) ?_
    refine own_stW (g' := (mkF m 61 #[.val (.long x0), .second, .val (.long x2), .second, iv x4, iv x5, iv x6, iv x7, iv (x5 >>> ((1 : Int32) &&& 31)), iv (x7 &&& (63 : Int32)), iv ((x5 >>> ((1 : Int32) &&& 31)) + (x7 &&& (63 : Int32))), rv b948, iv ((x5 >>> ((1 : Int32) &&& 31)) + (((x6.toUInt32 >>> ((1 : Int32) &&& 31).toUInt32).toInt32) &&& (63 : Int32))), iv ((x5 >>> ((1 : Int32) &&& 31)) + (((x6.toUInt32 >>> ((7 : Int32) &&& 31).toUInt32).toInt32) &&& (63 : Int32))), .unset, .unset, .unset, .unset, .unset, .unset, .unset, .unset, .unset, .unset, .unset, .unset] [])) (fun tt_ kk_ => XS.bipush X951.here hx rfl (hb hby at_55) (XS.iand X951.here hx rfl (hb hby at_57) rfl (XS.iadd X951.here hx rfl (hb hby at_58) rfl (XS.istore X951.here hx rfl (hb hby at_59) rfl (l' := #[.val (.long x0), .second, .val (.long x2), .second, iv x4, iv x5, iv x6, iv x7, iv (x5 >>> ((1 : Int32) &&& 31)), iv (x7 &&& (63 : Int32)), iv ((x5 >>> ((1 : Int32) &&& 31)) + (x7 &&& (63 : Int32))), rv b948, iv ((x5 >>> ((1 : Int32) &&& 31)) + (((x6.toUInt32 >>> ((1 : Int32) &&& 31).toUInt32).toInt32) &&& (63 : Int32))), iv ((x5 >>> ((1 : Int32) &&& 31)) + (((x6.toUInt32 >>> ((7 : Int32) &&& 31).toUInt32).toInt32) &&& (63 : Int32))), .unset, .unset, .unset, .unset, .unset, .unset, .unset, .unset, .unset, .unset, .unset, .unset]) rfl kk_)))) ?_
    obtain ⟨T960, h960, X960, e960, E960, A960, D960, -, st960⟩ := newO X951 hx hZ hown (own_w hw 83 rfl) (own_w hw 84 rfl) (own_w hw 85 rfl) e951 (g := (mkF m 61 #[.val (.long x0), .second, .val (.long x2), .second, iv x4, iv x5, iv x6, iv x7, iv (x5 >>> ((1 : Int32) &&& 31)), iv (x7 &&& (63 : Int32)), iv ((x5 >>> ((1 : Int32) &&& 31)) + (x7 &&& (63 : Int32))), rv b948, iv ((x5 >>> ((1 : Int32) &&& 31)) + (((x6.toUInt32 >>> ((1 : Int32) &&& 31).toUInt32).toInt32) &&& (63 : Int32))), iv ((x5 >>> ((1 : Int32) &&& 31)) + (((x6.toUInt32 >>> ((7 : Int32) &&& 31).toUInt32).toInt32) &&& (63 : Int32))), .unset, .unset, .unset, .unset, .unset, .unset, .unset, .unset, .unset, .unset, .unset, .unset] [])) rfl (hb hby at_61) (show 0 + 1 + 14 + 1 ≤ 48 by omega) (show 0 + 11 + 1047 + 20 ≤ 3264 by omega)
    obtain ⟨b960, g960⟩ : ∃ z, z = h951.size := ⟨_, rfl⟩
    rw [← g960] at A960 D960 st960
    have ne961 : b948 ≠ b960 := Nat.ne_of_lt (Nat.lt_of_lt_of_le f951_0.lt (Nat.le_of_eq g960.symm))
    have ne962 : tr_951 ≠ b960 := Nat.ne_of_lt (Nat.lt_of_lt_of_le f951_2.lt (Nat.le_of_eq g960.symm))
    have ne963 : it_951 ≠ b960 := Nat.ne_of_lt (Nat.lt_of_lt_of_le f951_8.lt (Nat.le_of_eq g960.symm))
    have ne964 : lt_951 ≠ b960 := Nat.ne_of_lt (Nat.lt_of_lt_of_le f951_9.lt (Nat.le_of_eq g960.symm))
    have ne965 : rt_951 ≠ b960 := Nat.ne_of_lt (Nat.lt_of_lt_of_le f951_10.lt (Nat.le_of_eq g960.symm))
    have gz960 : n0 ≤ b960 := Nat.le_trans Z951 (Nat.le_of_eq g960.symm)
    have Z960 : n0 ≤ h960.size := Nat.le_trans Z951 E960.1
    have F_watchers_b960 : Fld Z h960 b960 own_z0 "watchers" own_z3 .null := D960 (Or.inl (own_w hw 101 rfl)) (ty := (.array (.object own_z26))) (by decide)
    have F_tags_b960 : Fld Z h960 b960 own_z0 "tags" "[I" .null := D960 (Or.inl (own_w hw 103 rfl)) (ty := (.array .int)) (by decide)
    have F_model_b960 : Fld Z h960 b960 own_z0 "model" own_z4 .null := D960 (Or.inr (own_w hw 105 rfl)) (ty := (.object own_z2)) (by decide)
    have F_index_b960 : Fld Z h960 b960 own_z0 "index" "I" (.int (0 : Int32)) := D960 (Or.inr (own_w hw 107 rfl)) (ty := .int) (by decide)
    have F_name_b960 : Fld Z h960 b960 own_z0 "name" own_z12 .null := D960 (Or.inr (own_w hw 109 rfl)) (ty := (.object "java/lang/String")) (by decide)
    have F_min_b960 : Fld Z h960 b960 own_z0 "min" "I" (.int (0 : Int32)) := D960 (Or.inl (own_w hw 111 rfl)) (ty := .int) (by decide)
    have F_max_b960 : Fld Z h960 b960 own_z0 "max" "I" (.int (0 : Int32)) := D960 (Or.inl (own_w hw 113 rfl)) (ty := .int) (by decide)
    have F_initialMin_b960 : Fld Z h960 b960 own_z0 "initialMin" "I" (.int (0 : Int32)) := D960 (Or.inr (own_w hw 115 rfl)) (ty := .int) (by decide)
    have F_initialMax_b960 : Fld Z h960 b960 own_z0 "initialMax" "I" (.int (0 : Int32)) := D960 (Or.inr (own_w hw 117 rfl)) (ty := .int) (by decide)
    have F_size_b960 : Fld Z h960 b960 own_z0 "size" "J" (.long (0 : Int64)) := D960 (Or.inl (own_w hw 119 rfl)) (ty := .long) (by decide)
    have F_small_b960 : Fld Z h960 b960 own_z0 "small" "Z" (.int (0 : Int32)) := D960 (Or.inr (own_w hw 122 rfl)) (ty := .boolean) (by decide)
    have F_bits_b960 : Fld Z h960 b960 own_z0 "bits" "J" (.long (0 : Int64)) := D960 (Or.inl (own_w hw 125 rfl)) (ty := .long) (by decide)
    have F_ranges_b960 : Fld Z h960 b960 own_z0 "ranges" "[I" .null := D960 (Or.inl (own_w hw 132 rfl)) (ty := (.array .int)) (by decide)
    have F_first_b960 : Fld Z h960 b960 own_z0 "first" "I" (.int (0 : Int32)) := D960 (Or.inl (own_w hw 134 rfl)) (ty := .int) (by decide)
    have F_last_b960 : Fld Z h960 b960 own_z0 "last" "I" (.int (0 : Int32)) := D960 (Or.inl (own_w hw 136 rfl)) (ty := .int) (by decide)
    have F_stamp_b960 : Fld Z h960 b960 own_z0 "stamp" "I" (.int (0 : Int32)) := D960 (Or.inl (own_w hw 138 rfl)) (ty := .int) (by decide)
    have F_boundsFrom_b960 : Fld Z h960 b960 own_z0 "boundsFrom" "I" (.int (0 : Int32)) := D960 (Or.inl (own_w hw 224 rfl)) (ty := .int) (by decide)
    have F_toldFrom_b960 : Fld Z h960 b960 own_z0 "toldFrom" "I" (.int (0 : Int32)) := D960 (Or.inl (own_w hw 226 rfl)) (ty := .int) (by decide)
    have F_watcherCount_b960 : Fld Z h960 b960 own_z0 own_z9 "I" (.int (0 : Int32)) := D960 (Or.inl (own_w hw 228 rfl)) (ty := .int) (by decide)
    have F_domainFrom_b960 : Fld Z h960 b960 own_z0 "domainFrom" "I" (.int (0 : Int32)) := D960 (Or.inl (own_w hw 239 rfl)) (ty := .int) (by decide)
    refine own_stW st960 ?_
    refine own_stW (g' := (mkF m 68 #[.val (.long x0), .second, .val (.long x2), .second, iv x4, iv x5, iv x6, iv x7, iv (x5 >>> ((1 : Int32) &&& 31)), iv (x7 &&& (63 : Int32)), iv ((x5 >>> ((1 : Int32) &&& 31)) + (x7 &&& (63 : Int32))), rv b948, iv ((x5 >>> ((1 : Int32) &&& 31)) + (((x6.toUInt32 >>> ((1 : Int32) &&& 31).toUInt32).toInt32) &&& (63 : Int32))), iv ((x5 >>> ((1 : Int32) &&& 31)) + (((x6.toUInt32 >>> ((7 : Int32) &&& 31).toUInt32).toInt32) &&& (63 : Int32))), .unset, .unset, .unset, .unset, .unset, .unset, .unset, .unset, .unset, .unset, .unset, .unset] [(.int (0 : Int32)), (.ref b948), (.ref b960), (.ref b960)])) (fun tt_ kk_ => XS.dup X960.here hx rfl (hb hby at_64) rfl rfl (XS.aload X960.here hx rfl (hb hby at_65) rfl rfl (XS.iconst X960.here hx rfl (hb hby at_67) kk_))) ?_
    obtain ⟨xs, T966, h966, k966, X966, e966, E966, hS966, hk966, hZ966, hown966, st966⟩ := ldcS (s := s) (vm0 := s.vm) X960 hx hZ hown (own_w hw 86 rfl) (own_strA hw) e960 ((State.WarmedH.refl s).since 0) (Nat.zero_le _) (g := (mkF m 68 #[.val (.long x0), .second, .val (.long x2), .second, iv x4, iv x5, iv x6, iv x7, iv (x5 >>> ((1 : Int32) &&& 31)), iv (x7 &&& (63 : Int32)), iv ((x5 >>> ((1 : Int32) &&& 31)) + (x7 &&& (63 : Int32))), rv b948, iv ((x5 >>> ((1 : Int32) &&& 31)) + (((x6.toUInt32 >>> ((1 : Int32) &&& 31).toUInt32).toInt32) &&& (63 : Int32))), iv ((x5 >>> ((1 : Int32) &&& 31)) + (((x6.toUInt32 >>> ((7 : Int32) &&& 31).toUInt32).toInt32) &&& (63 : Int32))), .unset, .unset, .unset, .unset, .unset, .unset, .unset, .unset, .unset, .unset, .unset, .unset] [(.int (0 : Int32)), (.ref b948), (.ref b960), (.ref b960)])) rfl (hb hby at_68) (n := 4) (by decide) (by decide) (show 0 + 1 + 14 + 1 + 2 ≤ 48 by omega) (show 0 + 11 + 1047 + 20 + (4 + 4) ≤ 3264 by omega)
    have Z966 : n0 ≤ h966.size := Nat.le_trans Z960 E966.1
    refine own_stW st966 ?_
    have F967 := (A960.ext E966)
    have F968 := (F_watchers_b960.ext E966)
    have F969 := (F_tags_b960.ext E966)
    have F970 := (F_model_b960.ext E966)
    have F971 := (F_index_b960.ext E966)
    have F972 := (F_name_b960.ext E966)
    have F973 := (F_min_b960.ext E966)
    have F974 := (F_max_b960.ext E966)
    have F975 := (F_initialMin_b960.ext E966)
    have F976 := (F_initialMax_b960.ext E966)
    have F977 := (F_size_b960.ext E966)
    have F978 := (F_small_b960.ext E966)
    have F979 := (F_bits_b960.ext E966)
    have F980 := (F_ranges_b960.ext E966)
    have F981 := (F_first_b960.ext E966)
    have F982 := (F_last_b960.ext E966)
    have F983 := (F_stamp_b960.ext E966)
    have F984 := (F_boundsFrom_b960.ext E966)
    have F985 := (F_toldFrom_b960.ext E966)
    have F986 := (F_watcherCount_b960.ext E966)
    have F987 := (F_domainFrom_b960.ext E966)
    exact own_t70 X966 hx hlk hby hml hret hown966 hZ966 hw e966 N951 Z966 (by omega) (by omega) hS966 hk966 x0 x2 x4 x5 x6 x7 (x5 >>> ((1 : Int32) &&& 31)) (x7 &&& (63 : Int32)) ((x5 >>> ((1 : Int32) &&& 31)) + (x7 &&& (63 : Int32))) b948 ((x5 >>> ((1 : Int32) &&& 31)) + (((x6.toUInt32 >>> ((1 : Int32) &&& 31).toUInt32).toInt32) &&& (63 : Int32))) ((x5 >>> ((1 : Int32) &&& 31)) + (((x6.toUInt32 >>> ((7 : Int32) &&& 31).toUInt32).toInt32) &&& (63 : Int32))) xs (0 : Int32) b960 hbb hk hv F967 F968 F969 F970 F971 F972 F973 F974 F975 F976 F977 F978 F979 F980 F981 F982 F983 F984 F985 F986 F987  gz960
  refine own_stW (g' := (mkF m 188 #[.val (.long x0), .second, .val (.long x2), .second, iv x4, iv x5, iv x6, iv x7, iv (x5 >>> ((1 : Int32) &&& 31)), iv (x7 &&& (63 : Int32)), iv ((x5 >>> ((1 : Int32) &&& 31)) + (x7 &&& (63 : Int32))), rv b948, .unset, .unset, .unset, .unset, .unset, .unset, .unset, .unset, .unset, .unset, .unset, .unset, .unset, .unset] [])) (fun tt_ kk_ => XS.ifYes X951.here hx rfl (pc0 := 33) (pc' := 188) rfl (hb hby at_33) rfl ((if0 _ _).trans (feq hc33).2) (by decide) (by decide) kk_) ?_
  have hv : ((x5 >>> ((1 : Int32) &&& 31)) + (x7 &&& (63 : Int32))) = ((x5 >>> ((1 : Int32) &&& 31)) + (x7 &&& (63 : Int32))) := rfl
  refine own_stW (g' := (mkF m 206 #[.val (.long x0), .second, .val (.long x2), .second, iv x4, iv x5, iv x6, iv x7, iv (x5 >>> ((1 : Int32) &&& 31)), iv (x7 &&& (63 : Int32)), iv ((x5 >>> ((1 : Int32) &&& 31)) + (x7 &&& (63 : Int32))), rv b948, iv ((((x6.toUInt32 >>> ((1 : Int32) &&& 31).toUInt32).toInt32) &&& (15 : Int32)) % (10 : Int32)), .unset, .unset, .unset, .unset, .unset, .unset, .unset, .unset, .unset, .unset, .unset, .unset, .unset] [(.int (15 : Int32)), (.int ((x6.toUInt32 >>> ((5 : Int32) &&& 31).toUInt32).toInt32))])) (fun tt_ kk_ => XS.iload X951.here hx rfl (hb hby at_188) rfl (XS.iconst X951.here hx rfl (hb hby at_190) (XS.iushr X951.here hx rfl (hb hby at_191) rfl (XS.bipush X951.here hx rfl (hb hby at_192) (XS.iand X951.here hx rfl (hb hby at_194) rfl (XS.bipush X951.here hx rfl (hb hby at_195) (iremM X951 hx rfl (hb hby at_197) rfl (by decide) (XS.istore X951.here hx rfl (hb hby at_198) rfl (l' := #[.val (.long x0), .second, .val (.long x2), .second, iv x4, iv x5, iv x6, iv x7, iv (x5 >>> ((1 : Int32) &&& 31)), iv (x7 &&& (63 : Int32)), iv ((x5 >>> ((1 : Int32) &&& 31)) + (x7 &&& (63 : Int32))), rv b948, iv ((((x6.toUInt32 >>> ((1 : Int32) &&& 31).toUInt32).toInt32) &&& (15 : Int32)) % (10 : Int32)), .unset, .unset, .unset, .unset, .unset, .unset, .unset, .unset, .unset, .unset, .unset, .unset, .unset]) rfl (XS.iload X951.here hx rfl (hb hby at_200) rfl (XS.iconst X951.here hx rfl (hb hby at_202) (XS.iushr X951.here hx rfl (hb hby at_203) rfl (XS.bipush X951.here hx rfl (hb hby at_204) kk_)))))))))))) ?_
  refine own_stW (g' := (mkF m 223 #[.val (.long x0), .second, .val (.long x2), .second, iv x4, iv x5, iv x6, iv x7, iv (x5 >>> ((1 : Int32) &&& 31)), iv (x7 &&& (63 : Int32)), iv ((x5 >>> ((1 : Int32) &&& 31)) + (x7 &&& (63 : Int32))), rv b948, iv ((((x6.toUInt32 >>> ((1 : Int32) &&& 31).toUInt32).toInt32) &&& (15 : Int32)) % (10 : Int32)), iv ((((x6.toUInt32 >>> ((5 : Int32) &&& 31).toUInt32).toInt32) &&& (15 : Int32)) % (10 : Int32)), iv ((((x6.toUInt32 >>> ((9 : Int32) &&& 31).toUInt32).toInt32) &&& (3 : Int32)) % (3 : Int32)), .unset, .unset, .unset, .unset, .unset, .unset, .unset, .unset, .unset, .unset, .unset] [])) (fun tt_ kk_ => XS.iand X951.here hx rfl (hb hby at_206) rfl (XS.bipush X951.here hx rfl (hb hby at_207) (iremM X951 hx rfl (hb hby at_209) rfl (by decide) (XS.istore X951.here hx rfl (hb hby at_210) rfl (l' := #[.val (.long x0), .second, .val (.long x2), .second, iv x4, iv x5, iv x6, iv x7, iv (x5 >>> ((1 : Int32) &&& 31)), iv (x7 &&& (63 : Int32)), iv ((x5 >>> ((1 : Int32) &&& 31)) + (x7 &&& (63 : Int32))), rv b948, iv ((((x6.toUInt32 >>> ((1 : Int32) &&& 31).toUInt32).toInt32) &&& (15 : Int32)) % (10 : Int32)), iv ((((x6.toUInt32 >>> ((5 : Int32) &&& 31).toUInt32).toInt32) &&& (15 : Int32)) % (10 : Int32)), .unset, .unset, .unset, .unset, .unset, .unset, .unset, .unset, .unset, .unset, .unset, .unset]) rfl (XS.iload X951.here hx rfl (hb hby at_212) rfl (XS.bipush X951.here hx rfl (hb hby at_214) (XS.iushr X951.here hx rfl (hb hby at_216) rfl (XS.iconst X951.here hx rfl (hb hby at_217) (XS.iand X951.here hx rfl (hb hby at_218) rfl (XS.iconst X951.here hx rfl (hb hby at_219) (iremM X951 hx rfl (hb hby at_220) rfl (by decide) (XS.istore X951.here hx rfl (hb hby at_221) rfl (l' := #[.val (.long x0), .second, .val (.long x2), .second, iv x4, iv x5, iv x6, iv x7, iv (x5 >>> ((1 : Int32) &&& 31)), iv (x7 &&& (63 : Int32)), iv ((x5 >>> ((1 : Int32) &&& 31)) + (x7 &&& (63 : Int32))), rv b948, iv ((((x6.toUInt32 >>> ((1 : Int32) &&& 31).toUInt32).toInt32) &&& (15 : Int32)) % (10 : Int32)), iv ((((x6.toUInt32 >>> ((5 : Int32) &&& 31).toUInt32).toInt32) &&& (15 : Int32)) % (10 : Int32)), iv ((((x6.toUInt32 >>> ((9 : Int32) &&& 31).toUInt32).toInt32) &&& (3 : Int32)) % (3 : Int32)), .unset, .unset, .unset, .unset, .unset, .unset, .unset, .unset, .unset, .unset, .unset]) rfl kk_)))))))))))) ?_
  have F995 := (own_Sta_keep (S_f.ext E948) A948 K951q)
  have F996 := (own_Sta_keep (S_b.ext E948) A948 K951q)
  exact own_t223 X951 hx hlk hby hml hret hown hZ hw e951 N951 Z951 (by omega) (by omega) x0 x2 x4 x5 x6 x7 (x5 >>> ((1 : Int32) &&& 31)) (x7 &&& (63 : Int32)) ((x5 >>> ((1 : Int32) &&& 31)) + (x7 &&& (63 : Int32))) b948 ((((x6.toUInt32 >>> ((1 : Int32) &&& 31).toUInt32).toInt32) &&& (15 : Int32)) % (10 : Int32)) ((((x6.toUInt32 >>> ((5 : Int32) &&& 31).toUInt32).toInt32) &&& (15 : Int32)) % (10 : Int32)) ((((x6.toUInt32 >>> ((9 : Int32) &&& 31).toUInt32).toInt32) &&& (3 : Int32)) % (3 : Int32)) ef eb tr_951 it_951 lt_951 rt_951 hbb hk hv (own_d10 _) (own_d10 _) F995 F996 f951_0 f951_1 f951_2 f951_3 f951_4 f951_5 f951_6 f951_7 f951_8 f951_9 f951_10 ne958 ne952 ne954 ne956 f951_11 f951_12 f951_13 f951_14 f951_15 f951_16 gz948 gx959 gx953 gx955 gx957
set_option maxRecDepth 65536 in
set_option maxHeartbeats 4000000 in
theorem own_comes_1 {Post : Tables → Env → Array Value → State → Outcome → State → Prop} (hpost : ∀ tb e args s v u, (limb_1_1.after args s (.returned v) u = true ∧ limb_1_2.after args s (.returned v) u = true ∧ True) → Jvm.D.FramedW s (.returned v) u (Jvm.fieldLocs frame_1_writes args s ++ Jvm.arrayLocs frame_1_arrays args s ++ Jvm.staticLocs frame_1_statics s) 48 3264 → Post tb e args s (.returned v) u) :
    ArmFor flags0 classFile x code maxLocals ret World_1 tables_1 room_1 Calls_1 rest_1 Pre_1 Post := by
  intro l hfl _ _ p e ha hc hk s m args below hf hA hF happ hP
  obtain ⟨hcalls, hrest, hpre⟩ := hP
  obtain ⟨-, -, -, hnamed, -, -, -, hat⟩ := (Spec.applies_iff hf).mp happ
  obtain ⟨hg, hn⟩ := and_e (Cond.before_iff.mp (show (Jvm.Cond.and given_1 narrow_1).before args s = true from hpre))
  obtain ⟨gg1, gg2⟩ := and_e hg
  obtain ⟨gg3, gg4⟩ := and_e gg2
  obtain ⟨gg5, gg6⟩ := and_e gg4
  obtain ⟨gg7, gg8⟩ := and_e gg6
  obtain ⟨gg9, gg10⟩ := and_e gg8
  obtain ⟨gg11, gg12⟩ := and_e gg10
  obtain ⟨w0, w1, w2, w3, w4, w5, rfl⟩ : ∃ w0 w1 w2 w3 w4 w5 : Value, args = #[w0, w1, w2, w3, w4, w5] := by
    have hs : args.size = 6 := by simpa [Cond.value, given_1] using gg1
    obtain ⟨L⟩ := args
    match L, hs with
    | [w0, w1, w2, w3, w4, w5], _ => exact ⟨w0, w1, w2, w3, w4, w5, rfl⟩
  have hw := fun d (hd : d ∈ tables_1) => atoms_spec (ws := Jvm.Cond.code x code maxLocals ret :: tables_1) hat d (List.mem_cons_of_mem _ hd)
  have hfit : Fit s := fun {y c} hc i hi => by
    obtain ⟨ha, rfl⟩ := Array.getElem?_eq_some_iff.mp hc
    have q := List.all_eq_true.mp ((Array.all_eq_true_iff_forall_mem.mp hF) _ (Array.getElem_mem ha)) i (List.mem_range.mpr hi)
    simpa [Array.getElem?_eq_getElem hi] using q
  obtain ⟨hsets, hown0⟩ := atoms_of _ (rest_1_c_eq ▸ (show rest_1_c.before _ s = true from hrest))
  obtain ⟨i0, ei0⟩ := isL_v gg3
  obtain rfl : w0 = (.long i0) := Option.some.inj ei0
  obtain ⟨i1, ei1⟩ := isL_v gg5
  obtain rfl : w1 = (.long i1) := Option.some.inj ei1
  obtain ⟨i2, ei2⟩ := is_v gg7
  obtain rfl : w2 = (.int i2) := Option.some.inj ei2
  obtain ⟨i3, ei3⟩ := is_v gg9
  obtain rfl : w3 = (.int i3) := Option.some.inj ei3
  obtain ⟨i4, ei4⟩ := is_v gg11
  obtain rfl : w4 = (.int i4) := Option.some.inj ei4
  obtain ⟨i5, ei5⟩ := is_v gg12
  obtain rfl : w5 = (.int i5) := Option.some.inj ei5
  obtain ⟨dA, evd⟩ := arr_v (Cond.before_iff.mp (hsets _ (List.mem_of_getElem? (i := 6) rfl)))
  have S_d := Sta.start evd (Or.inr ⟨(own_w hw 11 rfl), hsets _ (List.mem_of_getElem? (i := 2) rfl)⟩)
  obtain ⟨hn1, hn2⟩ := and_e hn
  obtain ⟨hn3, hn4⟩ := and_e hn2
  obtain ⟨hn5, hn6⟩ := and_e hn4
  obtain ⟨dn, evn⟩ := exa_v hn1
  obtain ⟨eb, evb⟩ := exa_v hn3
  obtain ⟨ef, evf⟩ := exa_v hn5
  have S_n := Sta.start evn (Or.inr ⟨(own_w hw 79 rfl), (own_w hw 80 rfl)⟩)
  have S_f := Sta.start evf (Or.inr ⟨(own_w hw 215 rfl), (own_w hw 222 rfl)⟩)
  have S_b := Sta.start evb (Or.inr ⟨(own_w hw 215 rfl), (own_w hw 216 rfl)⟩)
  obtain ⟨n, o, h1, h2, h3, _, L, rfl, ⟨rfl, N⟩, hq⟩ := own_rm0 l s _ hw tables_1 i0 i1 i2 i3 i4 i5 s.heap s.heap.size (Nat.le_refl _) dA dn ef eb S_d S_n S_f S_b p e ha hc hk s m _ below hf ((Spec.applies_iff_loose hf).mp happ).1 ⟨rfl, State.Warmed39.refl s, rfl⟩ trivial
  refine ⟨n, _, h1, h2, h3, hpost _ _ _ _ _ _ ⟨Cond.after_iff.mpr rfl, Cond.after_iff.mpr (eq_i res_at (Term.int_eval (1)) rfl), trivial⟩ ⟨hq.1, hq.2.1, hq.2.2.1, (hq.2.2.2.sift fun y hy => Or.inr (N y hy)).mono (by decide) (by decide)⟩⟩
theorem main_1_1 : Claimed_1_1 := own_comes_1 fun _ _ _ _ _ _ h hF => ⟨h.1, hF⟩
theorem main_1_2 : Claimed_1_2 := own_comes_1 fun _ _ _ _ _ _ h hF => ⟨h.2.1, hF⟩
end Jvm.Pilot.@@N@@
namespace Jvm.Pilot.@@N@@
open Jvm Jvm.ClassFile Sem Op Lib Jvm.Free Jvm.Stand Jvm.Pilot.@@N@@.Jvm.D
/-! MADE BY PROGRAM (witnessworld.py) out of the Statement's table words and the real class files: 35 classes; the members and pool entries that the words name. The judged class is class 1, her method 1. -/
namespace start1
open Jvm.ClassFile
def u (s : String) : CpInfo := .utf8 (stringToUtf16 s)
/-- a pool by its gaps: so many unusable entries, then the entry; so many at the end -/
def gap : Nat → List CpInfo → List CpInfo
  | 0, r => r
  | n + 1, r => .unusable :: gap n r
def poolList (es : List (Nat × CpInfo)) (last : Nat) : List CpInfo := es.foldr (fun e r => gap e.1 (e.2 :: r)) (gap last [])
def pool (es : List (Nat × CpInfo)) (last : Nat) : Array CpInfo := ⟨poolList es last⟩
def fileOf (pool : Array CpInfo) (this : Nat) (attrs : Array Attribute := #[]) (ms : Array MethodInfo := #[]) (fl : Nat := 33) (sup : Nat := 0) (ifs : Array Nat := #[]) (fds : Array FieldInfo := #[]) : ClassFile where
  minorVersion := 0
  majorVersion := 65
  constantPool := pool
  accessFlags := fl
  thisClass := this
  superClass := sup
  interfaces := ifs
  fields := fds
  methods := ms
  attributes := attrs
def plain (name : String) (sup : Option ClassId) : Class where
  name := name
  kind := .ordinary
  loader := none
  accessFlags := 33
  super := sup
  interfaces := #[]
  cf := none
  fields := #[]
  methods := #[]
  instanceTypes := #[]
  staticTypes := #[]
  resolved := #[]
  callSites := []
  init := .initialized
  statics := none
  mirror := none

def pool0 : Array CpInfo := pool [(5, u "<init>"), (0, u "()V"), (1, .class_ 10), (1, u "java/lang/Object")] 113

def k0c0 : Code := { maxStack := 0, maxLocals := 1, code := object_method_1_code, exceptionTable := #[], attributes := #[] }
def k0m0 : Method := { name := "<init>", desc := "()V", sig := { parameters := [], returnType := none }, accessFlags := 1, code := some k0c0 }
/-- java/lang/Object -/
def k0 : Class := { plain "java/lang/Object" none with
  accessFlags := 33
  interfaces := #[]
  cf := some (fileOf pool0 8 #[] #[{ accessFlags := 1, nameIndex := 5, descriptorIndex := 6, attributes := #[] }] 33 0 #[] #[])
  fields := #[]
  methods := #[k0m0]
  instanceTypes := #[]
  staticTypes := #[]
  resolved := Array.replicate 124 none
  statics := none }

def pool1 : Array CpInfo := pool [(2, .class_ 4), (0, .nameAndType 5 6), (0, u "java/lang/Object"), (0, u "<init>"), (0, u "()V"), (0, .class_ 8), (0, u "com/example/propagule/propagule/Model"), (0, .methodref 7 3), (0, .class_ 11), (0, u "com/example/propagule/propagule/IntVar"), (0, .string 13), (0, u "x"), (0, .methodref 10 15), (0, .nameAndType 5 16), (0, u "(Lcom/example/propagule/propagule/Model;ILjava/lang/String;II)V"), (0, .methodref 10 18), (0, .nameAndType 19 20), (0, u "restore"), (0, u "(IIJJ[IIII)V"), (0, .methodref 10 22), (0, .nameAndType 23 24), (0, u "min"), (0, u "()I"), (0, .methodref 10 26), (0, .nameAndType 27 24), (0, u "max"), (0, .methodref 10 29), (0, .nameAndType 30 31), (0, u "size"), (0, u "()J"), (0, .methodref 10 33), (0, .nameAndType 34 24), (0, u "stamp"), (0, .methodref 10 36), (0, .nameAndType 37 38), (0, u "contains"), (0, u "(I)Z"), (0, .long 10), (3, .integer 2147483648), (0, .integer 2147483647), (0, .methodref 10 46), (0, .nameAndType 47 48), (0, u "removeAbove"), (0, u "(J)Z"), (0, .class_ 50), (0, u "com/example/propagule/propagule/IntVarRestorePinLaw"), (2, u "law"), (0, u "(JJIIII)Z")] 5

def k1m0 : Method := { name := "<init>", desc := "()V", sig := { parameters := [], returnType := none }, accessFlags := 2, code := none }
def k1c1 : Code := { maxStack := 11, maxLocals := 26, code := code, exceptionTable := #[], attributes := #[] }
def k1m1 : Method := { name := "law", desc := "(JJIIII)Z", sig := { parameters := [.long, .long, .int, .int, .int, .int], returnType := some .boolean }, accessFlags := 9, code := some k1c1 }
/-- com/example/propagule/propagule/IntVarRestorePinLaw -/
def k1 : Class := { plain "com/example/propagule/propagule/IntVarRestorePinLaw" (some 0) with
  accessFlags := 49
  interfaces := #[]
  cf := some (fileOf pool1 49 #[] #[{ accessFlags := 2, nameIndex := 5, descriptorIndex := 6, attributes := #[] }, { accessFlags := 9, nameIndex := 53, descriptorIndex := 54, attributes := #[] }] 49 2 #[] #[])
  fields := #[]
  methods := #[k1m0, k1m1]
  instanceTypes := #[]
  staticTypes := #[]
  resolved := Array.replicate 60 none
  statics := none }

def pool2 : Array CpInfo := pool [(1, .methodref 2 3), (0, .class_ 4), (0, .nameAndType 5 6), (0, u "java/lang/Object"), (0, u "<init>"), (0, u "()V"), (0, .class_ 8), (0, u "java/util/ArrayList"), (0, .methodref 7 3), (0, .fieldref 11 12), (0, .class_ 13), (0, .nameAndType 14 15), (0, u "com/example/propagule/propagule/Model"), (0, u "variables"), (0, u "Ljava/util/List;"), (0, .fieldref 11 17), (0, .nameAndType 18 15), (0, u "constraints"), (0, .class_ 20), (0, u "com/example/propagule/propagule/Trail"), (0, .methodref 19 22), (0, .nameAndType 5 23), (0, u "(Ljava/util/List;)V"), (0, .fieldref 11 25), (0, .nameAndType 26 27), (0, u "trail"), (0, u "Lcom/example/propagule/propagule/Trail;"), (0, .fieldref 11 29), (0, .nameAndType 30 31), (0, u "queue"), (0, u "[I"), (0, .fieldref 11 33), (0, .nameAndType 34 35), (0, u "running"), (0, u "I"), (0, .fieldref 37 38), (0, .class_ 39), (0, .nameAndType 40 41), (0, u "com/example/propagule/propagule/Deadline"), (0, u "NONE"), (0, u "Lcom/example/propagule/propagule/Deadline;"), (0, .fieldref 11 43), (0, .nameAndType 44 41), (0, u "deadline"), (152, u "queueSize"), (2, u "queueHead"), (4, u "failed"), (0, u "Z"), (8, .class_ 217), (1, u "com/example/propagule/propagule/Model$Propagation"), (15, u "searching"), (2, u "steps"), (63, u "STEPS_PER_CLOCK_CHECK"), (14, u "()Lcom/example/propagule/propagule/Trail;"), (6, u "schedule"), (0, u "([Lcom/example/propagule/propagule/Constraint;II)V")] 39

def k2c0 : Code := { maxStack := 4, maxLocals := 1, code := prog_46_method_1_code, exceptionTable := #[], attributes := #[] }
def k2m0 : Method := { name := "<init>", desc := "()V", sig := { parameters := [], returnType := none }, accessFlags := 1, code := some k2c0 }
def k2c1 : Code := { maxStack := 1, maxLocals := 1, code := prog_46_method_10_code, exceptionTable := #[], attributes := #[] }
def k2m1 : Method := { name := "trail", desc := "()Lcom/example/propagule/propagule/Trail;", sig := { parameters := [], returnType := some (.object "com/example/propagule/propagule/Trail") }, accessFlags := 0, code := some k2c1 }
def k2c2 : Code := { maxStack := 2, maxLocals := 6, code := prog_46_method_19_code, exceptionTable := #[], attributes := #[] }
def k2m2 : Method := { name := "schedule", desc := "([Lcom/example/propagule/propagule/Constraint;II)V", sig := { parameters := [(.array (.object "com/example/propagule/propagule/Constraint")), .int, .int], returnType := none }, accessFlags := 0, code := some k2c2 }
/-- com/example/propagule/propagule/Model -/
def k2 : Class := { plain "com/example/propagule/propagule/Model" (some 0) with
  accessFlags := 49
  interfaces := #[]
  cf := some (fileOf pool2 11 #[.nestMembers #[215]] #[{ accessFlags := 1, nameIndex := 5, descriptorIndex := 6, attributes := #[] }, { accessFlags := 0, nameIndex := 26, descriptorIndex := 315, attributes := #[] }, { accessFlags := 0, nameIndex := 322, descriptorIndex := 323, attributes := #[] }] 49 2 #[] #[{ accessFlags := 26, nameIndex := 300, descriptorIndex := 35, attributes := #[] }, { accessFlags := 18, nameIndex := 14, descriptorIndex := 15, attributes := #[] }, { accessFlags := 18, nameIndex := 18, descriptorIndex := 15, attributes := #[] }, { accessFlags := 18, nameIndex := 26, descriptorIndex := 27, attributes := #[] }, { accessFlags := 2, nameIndex := 30, descriptorIndex := 31, attributes := #[] }, { accessFlags := 2, nameIndex := 200, descriptorIndex := 35, attributes := #[] }, { accessFlags := 2, nameIndex := 197, descriptorIndex := 35, attributes := #[] }, { accessFlags := 2, nameIndex := 34, descriptorIndex := 35, attributes := #[] }, { accessFlags := 2, nameIndex := 205, descriptorIndex := 206, attributes := #[] }, { accessFlags := 2, nameIndex := 233, descriptorIndex := 206, attributes := #[] }, { accessFlags := 2, nameIndex := 44, descriptorIndex := 41, attributes := #[] }, { accessFlags := 2, nameIndex := 236, descriptorIndex := 35, attributes := #[] }])
  fields := #[{ name := "STEPS_PER_CLOCK_CHECK", type := .int, accessFlags := 26, slot := 0, constantValue := 0 }, { name := "variables", type := (.object "java/util/List"), accessFlags := 18, slot := 0, constantValue := 0 }, { name := "constraints", type := (.object "java/util/List"), accessFlags := 18, slot := 1, constantValue := 0 }, { name := "trail", type := (.object "com/example/propagule/propagule/Trail"), accessFlags := 18, slot := 2, constantValue := 0 }, { name := "queue", type := (.array .int), accessFlags := 2, slot := 3, constantValue := 0 }, { name := "queueHead", type := .int, accessFlags := 2, slot := 4, constantValue := 0 }, { name := "queueSize", type := .int, accessFlags := 2, slot := 5, constantValue := 0 }, { name := "running", type := .int, accessFlags := 2, slot := 6, constantValue := 0 }, { name := "failed", type := .boolean, accessFlags := 2, slot := 7, constantValue := 0 }, { name := "searching", type := .boolean, accessFlags := 2, slot := 8, constantValue := 0 }, { name := "deadline", type := (.object "com/example/propagule/propagule/Deadline"), accessFlags := 2, slot := 9, constantValue := 0 }, { name := "steps", type := .int, accessFlags := 2, slot := 10, constantValue := 0 }]
  methods := #[k2m0, k2m1, k2m2]
  instanceTypes := #[(.object "java/util/List"), (.object "java/util/List"), (.object "com/example/propagule/propagule/Trail"), (.array .int), .int, .int, .int, .boolean, .boolean, (.object "com/example/propagule/propagule/Deadline"), .int]
  staticTypes := #[.int]
  resolved := Array.replicate 363 none
  statics := none }

def pool3 : Array CpInfo := pool [(8, .class_ 10), (1, u "java/lang/Iterable"), (24, .class_ 36), (0, u "java/lang/Object")] 25

/-- java/lang/Iterable -/
def k3 : Class := { plain "java/lang/Iterable" (some 0) with
  accessFlags := 1537
  interfaces := #[]
  cf := some (fileOf pool3 8 #[] #[] 1537 35 #[] #[])
  fields := #[]
  methods := #[]
  instanceTypes := #[]
  staticTypes := #[]
  resolved := Array.replicate 62 none
  statics := none }

def pool4 : Array CpInfo := pool [(10, .class_ 12), (1, u "java/util/Collection"), (47, .class_ 61), (0, u "java/lang/Object"), (0, .class_ 63), (0, u "java/lang/Iterable")] 51

/-- java/util/Collection -/
def k4 : Class := { plain "java/util/Collection" (some 0) with
  accessFlags := 1537
  interfaces := #[3]
  cf := some (fileOf pool4 10 #[] #[] 1537 60 #[62] #[])
  fields := #[]
  methods := #[]
  instanceTypes := #[]
  staticTypes := #[]
  resolved := Array.replicate 115 none
  statics := none }

def pool5 : Array CpInfo := pool [(1, .methodref 2 3), (0, .class_ 4), (0, .nameAndType 5 6), (0, u "java/lang/Object"), (0, u "<init>"), (0, u "()V"), (1, .class_ 10), (1, u "java/util/AbstractCollection"), (66, .class_ 78), (0, u "java/util/Collection")] 81

def k5c0 : Code := { maxStack := 1, maxLocals := 1, code := jdk_22_method_1_code, exceptionTable := #[], attributes := #[] }
def k5m0 : Method := { name := "<init>", desc := "()V", sig := { parameters := [], returnType := none }, accessFlags := 4, code := some k5c0 }
/-- java/util/AbstractCollection -/
def k5 : Class := { plain "java/util/AbstractCollection" (some 0) with
  accessFlags := 1057
  interfaces := #[4]
  cf := some (fileOf pool5 8 #[] #[{ accessFlags := 4, nameIndex := 5, descriptorIndex := 6, attributes := #[] }] 1057 2 #[77] #[])
  fields := #[]
  methods := #[k5m0]
  instanceTypes := #[]
  staticTypes := #[]
  resolved := Array.replicate 160 none
  statics := none }

def pool6 : Array CpInfo := pool [(8, .class_ 10), (1, u "java/util/SequencedCollection"), (15, .class_ 27), (0, u "java/lang/Object"), (0, .class_ 29), (0, u "java/util/Collection")] 27

/-- java/util/SequencedCollection -/
def k6 : Class := { plain "java/util/SequencedCollection" (some 0) with
  accessFlags := 1537
  interfaces := #[4]
  cf := some (fileOf pool6 8 #[] #[] 1537 26 #[28] #[])
  fields := #[]
  methods := #[]
  instanceTypes := #[]
  staticTypes := #[]
  resolved := Array.replicate 57 none
  statics := none }

def pool7 : Array CpInfo := pool [(8, .class_ 10), (1, u "java/util/List"), (92, .class_ 104), (0, u "java/lang/Object"), (15, .class_ 121), (0, u "java/util/SequencedCollection")] 129

/-- java/util/List -/
def k7 : Class := { plain "java/util/List" (some 0) with
  accessFlags := 1537
  interfaces := #[6]
  cf := some (fileOf pool7 8 #[] #[] 1537 103 #[120] #[])
  fields := #[]
  methods := #[]
  instanceTypes := #[]
  staticTypes := #[]
  resolved := Array.replicate 251 none
  statics := none }

def pool8 : Array CpInfo := pool [(1, .methodref 2 3), (0, .class_ 4), (0, .nameAndType 5 6), (0, u "java/util/AbstractCollection"), (0, u "<init>"), (0, u "()V"), (0, .fieldref 8 9), (0, .class_ 10), (0, .nameAndType 11 12), (0, u "java/util/AbstractList"), (0, u "modCount"), (0, u "I"), (64, .class_ 78), (0, u "java/util/AbstractList$Itr"), (3, .class_ 83), (0, u "java/util/AbstractList$ListItr"), (9, .class_ 94), (0, u "java/util/AbstractList$RandomAccessSubList"), (3, .class_ 99), (0, u "java/util/AbstractList$SubList"), (33, .class_ 134), (0, u "java/util/List"), (73, .class_ 209), (0, u "java/util/AbstractList$SubList$1"), (0, .class_ 211), (0, u "java/util/AbstractList$RandomAccessSpliterator")] 6

def k8c0 : Code := { maxStack := 2, maxLocals := 1, code := jdk_39_method_1_code, exceptionTable := #[], attributes := #[] }
def k8m0 : Method := { name := "<init>", desc := "()V", sig := { parameters := [], returnType := none }, accessFlags := 4, code := some k8c0 }
/-- java/util/AbstractList -/
def k8 : Class := { plain "java/util/AbstractList" (some 5) with
  accessFlags := 1057
  interfaces := #[7]
  cf := some (fileOf pool8 8 #[.nestMembers #[93, 98, 208, 210, 82, 77]] #[{ accessFlags := 4, nameIndex := 5, descriptorIndex := 6, attributes := #[] }] 1057 2 #[133] #[{ accessFlags := 132, nameIndex := 11, descriptorIndex := 12, attributes := #[] }])
  fields := #[{ name := "modCount", type := .int, accessFlags := 132, slot := 0, constantValue := 0 }]
  methods := #[k8m0]
  instanceTypes := #[.int]
  staticTypes := #[]
  resolved := Array.replicate 218 none
  statics := none }

def pool9 : Array CpInfo := pool [(1, .class_ 2), (0, u "java/util/RandomAccess"), (0, .class_ 4), (0, u "java/lang/Object")] 2

/-- java/util/RandomAccess -/
def k9 : Class := { plain "java/util/RandomAccess" (some 0) with
  accessFlags := 1537
  interfaces := #[]
  cf := some (fileOf pool9 1 #[] #[] 1537 3 #[] #[])
  fields := #[]
  methods := #[]
  instanceTypes := #[]
  staticTypes := #[]
  resolved := Array.replicate 7 none
  statics := none }

def pool10 : Array CpInfo := pool [(1, .class_ 2), (0, u "java/lang/Cloneable"), (0, .class_ 4), (0, u "java/lang/Object")] 2

/-- java/lang/Cloneable -/
def k10 : Class := { plain "java/lang/Cloneable" (some 0) with
  accessFlags := 1537
  interfaces := #[]
  cf := some (fileOf pool10 1 #[] #[] 1537 3 #[] #[])
  fields := #[]
  methods := #[]
  instanceTypes := #[]
  staticTypes := #[]
  resolved := Array.replicate 7 none
  statics := none }

def pool11 : Array CpInfo := pool [(1, .class_ 2), (0, u "java/io/Serializable"), (0, .class_ 4), (0, u "java/lang/Object")] 2

/-- java/io/Serializable -/
def k11 : Class := { plain "java/io/Serializable" (some 0) with
  accessFlags := 1537
  interfaces := #[]
  cf := some (fileOf pool11 1 #[] #[] 1537 3 #[] #[])
  fields := #[]
  methods := #[]
  instanceTypes := #[]
  staticTypes := #[]
  resolved := Array.replicate 7 none
  statics := none }

def pool12 : Array CpInfo := pool [(1, .methodref 2 3), (0, .class_ 4), (0, .nameAndType 5 6), (0, u "java/util/AbstractList"), (0, u "<init>"), (0, u "()V"), (2, .fieldref 10 11), (0, .class_ 12), (0, .nameAndType 13 14), (0, u "java/util/ArrayList"), (0, u "elementData"), (0, u "[Ljava/lang/Object;"), (2, u "EMPTY_ELEMENTDATA"), (21, .fieldref 10 40), (0, .nameAndType 41 14), (0, u "DEFAULTCAPACITY_EMPTY_ELEMENTDATA"), (8, u "size"), (0, u "I"), (96, .class_ 149), (0, u "java/util/List"), (112, .class_ 263), (0, u "java/util/ArrayList$ListItr"), (3, .class_ 268), (0, u "java/util/ArrayList$Itr"), (7, .class_ 277), (0, u "java/util/ArrayList$SubList"), (12, .class_ 291), (0, u "java/util/ArrayList$ArrayListSpliterator"), (37, .class_ 330), (0, u "java/util/RandomAccess"), (0, .class_ 332), (0, u "java/lang/Cloneable"), (0, .class_ 334), (0, u "java/io/Serializable"), (0, u "serialVersionUID"), (0, u "J"), (3, u "DEFAULT_CAPACITY"), (159, .class_ 501), (0, u "java/util/ArrayList$SubList$2"), (0, .class_ 503), (0, u "java/util/ArrayList$SubList$1")] 5

def k12c0 : Code := { maxStack := 2, maxLocals := 1, code := jdk_38_method_2_code, exceptionTable := #[], attributes := #[] }
def k12m0 : Method := { name := "<init>", desc := "()V", sig := { parameters := [], returnType := none }, accessFlags := 1, code := some k12c0 }
/-- java/util/ArrayList -/
def k12 : Class := { plain "java/util/ArrayList" (some 8) with
  accessFlags := 33
  interfaces := #[7, 9, 10, 11]
  cf := some (fileOf pool12 10 #[.nestMembers #[290, 276, 500, 502, 262, 267]] #[{ accessFlags := 1, nameIndex := 5, descriptorIndex := 6, attributes := #[] }] 33 2 #[148, 329, 331, 333] #[{ accessFlags := 26, nameIndex := 335, descriptorIndex := 336, attributes := #[] }, { accessFlags := 26, nameIndex := 340, descriptorIndex := 51, attributes := #[] }, { accessFlags := 26, nameIndex := 17, descriptorIndex := 14, attributes := #[] }, { accessFlags := 26, nameIndex := 41, descriptorIndex := 14, attributes := #[] }, { accessFlags := 128, nameIndex := 13, descriptorIndex := 14, attributes := #[] }, { accessFlags := 2, nameIndex := 50, descriptorIndex := 51, attributes := #[] }])
  fields := #[{ name := "serialVersionUID", type := .long, accessFlags := 26, slot := 0, constantValue := 0 }, { name := "DEFAULT_CAPACITY", type := .int, accessFlags := 26, slot := 1, constantValue := 0 }, { name := "EMPTY_ELEMENTDATA", type := (.array (.object "java/lang/Object")), accessFlags := 26, slot := 2, constantValue := 0 }, { name := "DEFAULTCAPACITY_EMPTY_ELEMENTDATA", type := (.array (.object "java/lang/Object")), accessFlags := 26, slot := 3, constantValue := 0 }, { name := "elementData", type := (.array (.object "java/lang/Object")), accessFlags := 128, slot := 1, constantValue := 0 }, { name := "size", type := .int, accessFlags := 2, slot := 2, constantValue := 0 }]
  methods := #[k12m0]
  instanceTypes := #[.int, (.array (.object "java/lang/Object")), .int]
  staticTypes := #[.long, .int, (.array (.object "java/lang/Object")), (.array (.object "java/lang/Object"))]
  resolved := Array.replicate 509 none
  statics := some 0 }

def pool13 : Array CpInfo := pool [(1, .methodref 2 3), (0, .class_ 4), (0, .nameAndType 5 6), (0, u "java/lang/Object"), (0, u "<init>"), (0, u "()V"), (0, .class_ 8), (0, u "com/example/propagule/propagule/Trail"), (0, .fieldref 7 10), (0, .nameAndType 11 12), (0, u "ints"), (0, u "[I"), (0, .fieldref 7 14), (0, .nameAndType 15 16), (0, u "longs"), (0, u "[J"), (0, .class_ 12), (0, .fieldref 7 19), (0, .nameAndType 20 21), (0, u "ranges"), (0, u "[[I"), (0, .class_ 23), (0, u "com/example/propagule/propagule/ReversibleLongs"), (0, .fieldref 7 25), (0, .nameAndType 26 27), (0, u "cellOwners"), (0, u "[Lcom/example/propagule/propagule/ReversibleLongs;"), (0, .fieldref 7 29), (0, .nameAndType 30 12), (0, u "cellIndexes"), (0, .fieldref 7 32), (0, .nameAndType 33 16), (0, u "cellValues"), (0, .fieldref 7 35), (0, .nameAndType 36 12), (0, u "cellStamps"), (0, .fieldref 7 38), (0, .nameAndType 39 12), (0, u "worldMarks"), (0, .fieldref 7 41), (0, .nameAndType 42 12), (0, u "cellMarks"), (0, .fieldref 7 44), (0, .nameAndType 45 16), (0, u "worldNumbers"), (0, .fieldref 7 47), (0, .nameAndType 48 49), (0, u "variables"), (0, u "Ljava/util/List;"), (0, .fieldref 7 51), (0, .nameAndType 52 53), (0, u "depth"), (0, u "I"), (9, .fieldref 7 64), (0, .nameAndType 65 53), (0, u "entries"), (2, u "cellEntries"), (2, u "worldsOpened"), (0, u "J"), (15, .class_ 89), (0, u "com/example/propagule/propagule/IntVar"), (10, .methodref 88 101), (0, .nameAndType 102 103), (0, u "index"), (0, u "()I"), (0, .methodref 88 105), (0, .nameAndType 106 103), (0, u "stamp"), (5, u "INITIAL_CAPACITY"), (2, u "INTS"), (1, u "VAR"), (1, u "MIN"), (1, u "MAX"), (1, u "FIRST"), (1, u "LAST"), (1, u "STAMP"), (1, u "LONGS"), (2, u "(Ljava/util/List;)V"), (11, u "save"), (0, u "(Lcom/example/propagule/propagule/IntVar;IIJJ[III)V")] 18

def k13c0 : Code := { maxStack := 2, maxLocals := 2, code := prog_75_method_1_code, exceptionTable := #[], attributes := #[] }
def k13m0 : Method := { name := "<init>", desc := "(Ljava/util/List;)V", sig := { parameters := [(.object "java/util/List")], returnType := none }, accessFlags := 0, code := some k13c0 }
def k13c1 : Code := { maxStack := 1, maxLocals := 1, code := prog_75_method_2_code, exceptionTable := #[], attributes := #[] }
def k13m1 : Method := { name := "depth", desc := "()I", sig := { parameters := [], returnType := some .int }, accessFlags := 0, code := some k13c1 }
def k13c2 : Code := { maxStack := 4, maxLocals := 12, code := prog_75_method_7_code, exceptionTable := #[], attributes := #[] }
def k13m2 : Method := { name := "save", desc := "(Lcom/example/propagule/propagule/IntVar;IIJJ[III)V", sig := { parameters := [(.object "com/example/propagule/propagule/IntVar"), .int, .int, .long, .long, (.array .int), .int, .int], returnType := none }, accessFlags := 0, code := some k13c2 }
/-- com/example/propagule/propagule/Trail -/
def k13 : Class := { plain "com/example/propagule/propagule/Trail" (some 0) with
  accessFlags := 48
  interfaces := #[]
  cf := some (fileOf pool13 7 #[] #[{ accessFlags := 0, nameIndex := 5, descriptorIndex := 132, attributes := #[] }, { accessFlags := 0, nameIndex := 52, descriptorIndex := 103, attributes := #[] }, { accessFlags := 0, nameIndex := 144, descriptorIndex := 145, attributes := #[] }] 48 2 #[] #[{ accessFlags := 26, nameIndex := 112, descriptorIndex := 53, attributes := #[] }, { accessFlags := 26, nameIndex := 115, descriptorIndex := 53, attributes := #[] }, { accessFlags := 26, nameIndex := 117, descriptorIndex := 53, attributes := #[] }, { accessFlags := 26, nameIndex := 119, descriptorIndex := 53, attributes := #[] }, { accessFlags := 26, nameIndex := 121, descriptorIndex := 53, attributes := #[] }, { accessFlags := 26, nameIndex := 123, descriptorIndex := 53, attributes := #[] }, { accessFlags := 26, nameIndex := 125, descriptorIndex := 53, attributes := #[] }, { accessFlags := 26, nameIndex := 127, descriptorIndex := 53, attributes := #[] }, { accessFlags := 26, nameIndex := 129, descriptorIndex := 53, attributes := #[] }, { accessFlags := 18, nameIndex := 48, descriptorIndex := 49, attributes := #[] }, { accessFlags := 2, nameIndex := 11, descriptorIndex := 12, attributes := #[] }, { accessFlags := 2, nameIndex := 15, descriptorIndex := 16, attributes := #[] }, { accessFlags := 2, nameIndex := 20, descriptorIndex := 21, attributes := #[] }, { accessFlags := 2, nameIndex := 65, descriptorIndex := 53, attributes := #[] }, { accessFlags := 2, nameIndex := 26, descriptorIndex := 27, attributes := #[] }, { accessFlags := 2, nameIndex := 30, descriptorIndex := 12, attributes := #[] }, { accessFlags := 2, nameIndex := 33, descriptorIndex := 16, attributes := #[] }, { accessFlags := 2, nameIndex := 36, descriptorIndex := 12, attributes := #[] }, { accessFlags := 2, nameIndex := 68, descriptorIndex := 53, attributes := #[] }, { accessFlags := 2, nameIndex := 39, descriptorIndex := 12, attributes := #[] }, { accessFlags := 2, nameIndex := 42, descriptorIndex := 12, attributes := #[] }, { accessFlags := 2, nameIndex := 45, descriptorIndex := 16, attributes := #[] }, { accessFlags := 2, nameIndex := 71, descriptorIndex := 72, attributes := #[] }, { accessFlags := 2, nameIndex := 52, descriptorIndex := 53, attributes := #[] }])
  fields := #[{ name := "INITIAL_CAPACITY", type := .int, accessFlags := 26, slot := 0, constantValue := 0 }, { name := "INTS", type := .int, accessFlags := 26, slot := 1, constantValue := 0 }, { name := "VAR", type := .int, accessFlags := 26, slot := 2, constantValue := 0 }, { name := "MIN", type := .int, accessFlags := 26, slot := 3, constantValue := 0 }, { name := "MAX", type := .int, accessFlags := 26, slot := 4, constantValue := 0 }, { name := "FIRST", type := .int, accessFlags := 26, slot := 5, constantValue := 0 }, { name := "LAST", type := .int, accessFlags := 26, slot := 6, constantValue := 0 }, { name := "STAMP", type := .int, accessFlags := 26, slot := 7, constantValue := 0 }, { name := "LONGS", type := .int, accessFlags := 26, slot := 8, constantValue := 0 }, { name := "variables", type := (.object "java/util/List"), accessFlags := 18, slot := 0, constantValue := 0 }, { name := "ints", type := (.array .int), accessFlags := 2, slot := 1, constantValue := 0 }, { name := "longs", type := (.array .long), accessFlags := 2, slot := 2, constantValue := 0 }, { name := "ranges", type := (.array (.array .int)), accessFlags := 2, slot := 3, constantValue := 0 }, { name := "entries", type := .int, accessFlags := 2, slot := 4, constantValue := 0 }, { name := "cellOwners", type := (.array (.object "com/example/propagule/propagule/ReversibleLongs")), accessFlags := 2, slot := 5, constantValue := 0 }, { name := "cellIndexes", type := (.array .int), accessFlags := 2, slot := 6, constantValue := 0 }, { name := "cellValues", type := (.array .long), accessFlags := 2, slot := 7, constantValue := 0 }, { name := "cellStamps", type := (.array .int), accessFlags := 2, slot := 8, constantValue := 0 }, { name := "cellEntries", type := .int, accessFlags := 2, slot := 9, constantValue := 0 }, { name := "worldMarks", type := (.array .int), accessFlags := 2, slot := 10, constantValue := 0 }, { name := "cellMarks", type := (.array .int), accessFlags := 2, slot := 11, constantValue := 0 }, { name := "worldNumbers", type := (.array .long), accessFlags := 2, slot := 12, constantValue := 0 }, { name := "worldsOpened", type := .long, accessFlags := 2, slot := 13, constantValue := 0 }, { name := "depth", type := .int, accessFlags := 2, slot := 14, constantValue := 0 }]
  methods := #[k13m0, k13m1, k13m2]
  instanceTypes := #[(.object "java/util/List"), (.array .int), (.array .long), (.array (.array .int)), .int, (.array (.object "com/example/propagule/propagule/ReversibleLongs")), (.array .int), (.array .long), (.array .int), .int, (.array .int), (.array .int), (.array .long), .long, .int]
  staticTypes := #[.int, .int, .int, .int, .int, .int, .int, .int, .int]
  resolved := Array.replicate 164 none
  statics := none }

def pool14 : Array CpInfo := pool [(2, .class_ 4), (1, u "java/lang/Object"), (3, .class_ 10), (1, u "com/example/propagule/propagule/ReversibleLongs"), (0, u "trail"), (0, u "Lcom/example/propagule/propagule/Trail;"), (3, u "[J"), (4, u "values"), (2, u "stamps"), (0, u "[I")] 22

/-- com/example/propagule/propagule/ReversibleLongs -/
def k14 : Class := { plain "com/example/propagule/propagule/ReversibleLongs" (some 0) with
  accessFlags := 48
  interfaces := #[]
  cf := some (fileOf pool14 8 #[] #[] 48 2 #[] #[{ accessFlags := 18, nameIndex := 11, descriptorIndex := 12, attributes := #[] }, { accessFlags := 18, nameIndex := 21, descriptorIndex := 16, attributes := #[] }, { accessFlags := 18, nameIndex := 24, descriptorIndex := 25, attributes := #[] }])
  fields := #[{ name := "trail", type := (.object "com/example/propagule/propagule/Trail"), accessFlags := 18, slot := 0, constantValue := 0 }, { name := "values", type := (.array .long), accessFlags := 18, slot := 1, constantValue := 0 }, { name := "stamps", type := (.array .int), accessFlags := 18, slot := 2, constantValue := 0 }]
  methods := #[]
  instanceTypes := #[(.object "com/example/propagule/propagule/Trail"), (.array .long), (.array .int)]
  staticTypes := #[]
  resolved := Array.replicate 48 none
  statics := none }

def pool15 : Array CpInfo := pool [(2, .class_ 4), (1, u "java/lang/Object"), (3, .class_ 10), (1, u "com/example/propagule/propagule/Deadline"), (0, u "startNanos"), (0, u "J"), (2, u "limitNanos"), (2, u "NONE"), (0, u "Lcom/example/propagule/propagule/Deadline;")] 34

/-- com/example/propagule/propagule/Deadline -/
def k15 : Class := { plain "com/example/propagule/propagule/Deadline" (some 0) with
  accessFlags := 48
  interfaces := #[]
  cf := some (fileOf pool15 8 #[] #[] 48 2 #[] #[{ accessFlags := 24, nameIndex := 18, descriptorIndex := 19, attributes := #[] }, { accessFlags := 18, nameIndex := 11, descriptorIndex := 12, attributes := #[] }, { accessFlags := 18, nameIndex := 15, descriptorIndex := 12, attributes := #[] }])
  fields := #[{ name := "NONE", type := (.object "com/example/propagule/propagule/Deadline"), accessFlags := 24, slot := 0, constantValue := 0 }, { name := "startNanos", type := .long, accessFlags := 18, slot := 0, constantValue := 0 }, { name := "limitNanos", type := .long, accessFlags := 18, slot := 1, constantValue := 0 }]
  methods := #[]
  instanceTypes := #[.long, .long]
  staticTypes := #[(.object "com/example/propagule/propagule/Deadline")]
  resolved := Array.replicate 54 none
  statics := some 1 }

def pool16 : Array CpInfo := pool [(3, .methodref 4 5), (0, .class_ 6), (0, .nameAndType 7 8), (0, u "java/lang/Object"), (0, u "<init>"), (0, u "()V"), (0, .class_ 10), (0, u "com/example/propagule/propagule/Constraint"), (0, .fieldref 12 13), (0, .class_ 14), (0, .nameAndType 15 16), (0, u "com/example/propagule/propagule/IntVar"), (0, u "watchers"), (0, u "[Lcom/example/propagule/propagule/Constraint;"), (0, .fieldref 12 18), (0, .nameAndType 19 20), (0, u "tags"), (0, u "[I"), (0, .fieldref 12 22), (0, .nameAndType 23 24), (0, u "model"), (0, u "Lcom/example/propagule/propagule/Model;"), (0, .fieldref 12 26), (0, .nameAndType 27 28), (0, u "index"), (0, u "I"), (0, .fieldref 12 30), (0, .nameAndType 31 32), (0, u "name"), (0, u "Ljava/lang/String;"), (0, .fieldref 12 34), (0, .nameAndType 35 28), (0, u "min"), (0, .fieldref 12 37), (0, .nameAndType 38 28), (0, u "max"), (0, .fieldref 12 40), (0, .nameAndType 41 28), (0, u "initialMin"), (0, .fieldref 12 43), (0, .nameAndType 44 28), (0, u "initialMax"), (0, .fieldref 12 46), (0, .nameAndType 47 48), (0, u "size"), (0, u "J"), (0, .long 64), (1, .fieldref 12 52), (0, .nameAndType 53 54), (0, u "small"), (0, u "Z"), (0, .long 18446744073709551615), (1, .fieldref 12 58), (0, .nameAndType 59 48), (0, u "bits"), (2, u "(Lcom/example/propagule/propagule/Model;ILjava/lang/String;II)V"), (6, .fieldref 12 70), (0, .nameAndType 71 20), (0, u "ranges"), (0, .fieldref 12 73), (0, .nameAndType 74 28), (0, u "last"), (0, .methodref 12 76), (0, .nameAndType 77 78), (0, u "intervalAtOrAfter"), (0, u "(I)I"), (45, .fieldref 12 125), (0, .nameAndType 126 28), (0, u "stamp"), (5, .class_ 134), (1, u "java/lang/Math"), (0, u "(II)I"), (0, .methodref 132 137), (0, .nameAndType 35 135), (19, u "contains"), (0, u "(I)Z"), (6, u "removeAbove"), (0, u "(J)Z"), (12, .class_ 181), (1, u "com/example/propagule/propagule/IntVar$1"), (2, .class_ 186), (1, u "com/example/propagule/propagule/Event"), (1, u "()I"), (0, .fieldref 12 190), (0, .nameAndType 191 28), (0, u "boundsFrom"), (4, .fieldref 12 197), (0, .nameAndType 198 28), (0, u "domainFrom"), (0, .fieldref 12 200), (0, .nameAndType 201 28), (0, u "toldFrom"), (0, .fieldref 12 203), (0, .nameAndType 204 28), (0, u "watcherCount"), (7, .methodref 12 213), (0, .nameAndType 214 8), (0, u "save"), (3, .fieldref 12 219), (0, .nameAndType 220 28), (0, u "first"), (0, .methodref 12 222), (0, .nameAndType 223 8), (0, u "recount"), (0, .fieldref 184 225), (0, .nameAndType 226 227), (0, u "FIX"), (0, u "Lcom/example/propagule/propagule/Event;"), (0, .fieldref 184 229), (0, .nameAndType 230 227), (0, u "BOUNDS"), (0, .methodref 12 232), (0, .nameAndType 233 234), (0, u "wake"), (0, u "(Lcom/example/propagule/propagule/Event;)V"), (3, .methodref 12 239), (0, .nameAndType 240 78), (0, u "intervalAtOrBefore"), (3, .methodref 245 246), (0, .class_ 247), (0, .nameAndType 248 249), (0, u "com/example/propagule/propagule/Model"), (0, u "trail"), (0, u "()Lcom/example/propagule/propagule/Trail;"), (0, .methodref 251 252), (0, .class_ 253), (0, .nameAndType 254 188), (0, u "com/example/propagule/propagule/Trail"), (0, u "depth"), (0, .methodref 251 256), (0, .nameAndType 214 257), (0, u "(Lcom/example/propagule/propagule/IntVar;IIJJ[III)V"), (4, .methodref 245 263), (0, .nameAndType 264 265), (0, u "schedule"), (0, u "([Lcom/example/propagule/propagule/Constraint;II)V"), (0, u "WORD"), (7, u "()J"), (17, u "restore"), (0, u "(IIJJ[IIII)V")] 18

def k16c0 : Code := { maxStack := 6, maxLocals := 6, code := prog_37_method_1_code, exceptionTable := #[], attributes := #[] }
def k16m0 : Method := { name := "<init>", desc := "(Lcom/example/propagule/propagule/Model;ILjava/lang/String;II)V", sig := { parameters := [(.object "com/example/propagule/propagule/Model"), .int, (.object "java/lang/String"), .int, .int], returnType := none }, accessFlags := 0, code := some k16c0 }
def k16c1 : Code := { maxStack := 1, maxLocals := 1, code := prog_37_method_4_code, exceptionTable := #[], attributes := #[] }
def k16m1 : Method := { name := "min", desc := "()I", sig := { parameters := [], returnType := some .int }, accessFlags := 1, code := some k16c1 }
def k16c2 : Code := { maxStack := 1, maxLocals := 1, code := prog_37_method_5_code, exceptionTable := #[], attributes := #[] }
def k16m2 : Method := { name := "max", desc := "()I", sig := { parameters := [], returnType := some .int }, accessFlags := 1, code := some k16c2 }
def k16c3 : Code := { maxStack := 2, maxLocals := 1, code := prog_37_method_6_code, exceptionTable := #[], attributes := #[] }
def k16m3 : Method := { name := "size", desc := "()J", sig := { parameters := [], returnType := some .long }, accessFlags := 1, code := some k16c3 }
def k16c4 : Code := { maxStack := 4, maxLocals := 2, code := prog_37_method_8_code, exceptionTable := #[], attributes := #[] }
def k16m4 : Method := { name := "contains", desc := "(I)Z", sig := { parameters := [.int], returnType := some .boolean }, accessFlags := 1, code := some k16c4 }
def k16c5 : Code := { maxStack := 1, maxLocals := 1, code := prog_37_method_13_code, exceptionTable := #[], attributes := #[] }
def k16m5 : Method := { name := "index", desc := "()I", sig := { parameters := [], returnType := some .int }, accessFlags := 0, code := some k16c5 }
def k16c6 : Code := { maxStack := 1, maxLocals := 1, code := prog_37_method_16_code, exceptionTable := #[], attributes := #[] }
def k16m6 : Method := { name := "stamp", desc := "()I", sig := { parameters := [], returnType := some .int }, accessFlags := 0, code := some k16c6 }
def k16c7 : Code := { maxStack := 8, maxLocals := 4, code := prog_37_method_31_code, exceptionTable := #[], attributes := #[] }
def k16m7 : Method := { name := "removeAbove", desc := "(J)Z", sig := { parameters := [.long], returnType := some .boolean }, accessFlags := 0, code := some k16c7 }
def k16c8 : Code := { maxStack := 3, maxLocals := 11, code := prog_37_method_35_code, exceptionTable := #[], attributes := #[] }
def k16m8 : Method := { name := "restore", desc := "(IIJJ[IIII)V", sig := { parameters := [.int, .int, .long, .long, (.array .int), .int, .int, .int], returnType := none }, accessFlags := 0, code := some k16c8 }
def k16c9 : Code := { maxStack := 11, maxLocals := 3, code := prog_37_method_36_code, exceptionTable := #[], attributes := #[] }
def k16m9 : Method := { name := "save", desc := "()V", sig := { parameters := [], returnType := none }, accessFlags := 2, code := some k16c9 }
def k16c10 : Code := { maxStack := 4, maxLocals := 4, code := prog_37_method_37_code, exceptionTable := #[], attributes := #[] }
def k16m10 : Method := { name := "wake", desc := "(Lcom/example/propagule/propagule/Event;)V", sig := { parameters := [(.object "com/example/propagule/propagule/Event")], returnType := none }, accessFlags := 2, code := some k16c10 }
def k16c11 : Code := { maxStack := 7, maxLocals := 4, code := prog_37_method_38_code, exceptionTable := #[], attributes := #[] }
def k16m11 : Method := { name := "recount", desc := "()V", sig := { parameters := [], returnType := none }, accessFlags := 2, code := some k16c11 }
def k16c12 : Code := { maxStack := 3, maxLocals := 5, code := prog_37_method_39_code, exceptionTable := #[], attributes := #[] }
def k16m12 : Method := { name := "intervalAtOrAfter", desc := "(I)I", sig := { parameters := [.int], returnType := some .int }, accessFlags := 2, code := some k16c12 }
def k16c13 : Code := { maxStack := 3, maxLocals := 5, code := prog_37_method_40_code, exceptionTable := #[], attributes := #[] }
def k16m13 : Method := { name := "intervalAtOrBefore", desc := "(I)I", sig := { parameters := [.int], returnType := some .int }, accessFlags := 2, code := some k16c13 }
/-- com/example/propagule/propagule/IntVar -/
def k16 : Class := { plain "com/example/propagule/propagule/IntVar" (some 0) with
  accessFlags := 49
  interfaces := #[]
  cf := some (fileOf pool16 12 #[.nestMembers #[179]] #[{ accessFlags := 0, nameIndex := 7, descriptorIndex := 62, attributes := #[] }, { accessFlags := 1, nameIndex := 35, descriptorIndex := 188, attributes := #[] }, { accessFlags := 1, nameIndex := 38, descriptorIndex := 188, attributes := #[] }, { accessFlags := 1, nameIndex := 47, descriptorIndex := 274, attributes := #[] }, { accessFlags := 1, nameIndex := 157, descriptorIndex := 158, attributes := #[] }, { accessFlags := 0, nameIndex := 27, descriptorIndex := 188, attributes := #[] }, { accessFlags := 0, nameIndex := 126, descriptorIndex := 188, attributes := #[] }, { accessFlags := 0, nameIndex := 165, descriptorIndex := 166, attributes := #[] }, { accessFlags := 0, nameIndex := 292, descriptorIndex := 293, attributes := #[] }, { accessFlags := 2, nameIndex := 214, descriptorIndex := 8, attributes := #[] }, { accessFlags := 2, nameIndex := 233, descriptorIndex := 234, attributes := #[] }, { accessFlags := 2, nameIndex := 223, descriptorIndex := 8, attributes := #[] }, { accessFlags := 2, nameIndex := 77, descriptorIndex := 78, attributes := #[] }, { accessFlags := 2, nameIndex := 240, descriptorIndex := 78, attributes := #[] }] 49 4 #[] #[{ accessFlags := 26, nameIndex := 266, descriptorIndex := 28, attributes := #[] }, { accessFlags := 18, nameIndex := 23, descriptorIndex := 24, attributes := #[] }, { accessFlags := 18, nameIndex := 27, descriptorIndex := 28, attributes := #[] }, { accessFlags := 18, nameIndex := 31, descriptorIndex := 32, attributes := #[] }, { accessFlags := 18, nameIndex := 41, descriptorIndex := 28, attributes := #[] }, { accessFlags := 18, nameIndex := 44, descriptorIndex := 28, attributes := #[] }, { accessFlags := 18, nameIndex := 53, descriptorIndex := 54, attributes := #[] }, { accessFlags := 2, nameIndex := 35, descriptorIndex := 28, attributes := #[] }, { accessFlags := 2, nameIndex := 38, descriptorIndex := 28, attributes := #[] }, { accessFlags := 2, nameIndex := 47, descriptorIndex := 48, attributes := #[] }, { accessFlags := 2, nameIndex := 59, descriptorIndex := 48, attributes := #[] }, { accessFlags := 2, nameIndex := 71, descriptorIndex := 20, attributes := #[] }, { accessFlags := 2, nameIndex := 220, descriptorIndex := 28, attributes := #[] }, { accessFlags := 2, nameIndex := 74, descriptorIndex := 28, attributes := #[] }, { accessFlags := 2, nameIndex := 126, descriptorIndex := 28, attributes := #[] }, { accessFlags := 2, nameIndex := 15, descriptorIndex := 16, attributes := #[] }, { accessFlags := 2, nameIndex := 204, descriptorIndex := 28, attributes := #[] }, { accessFlags := 2, nameIndex := 191, descriptorIndex := 28, attributes := #[] }, { accessFlags := 2, nameIndex := 198, descriptorIndex := 28, attributes := #[] }, { accessFlags := 2, nameIndex := 201, descriptorIndex := 28, attributes := #[] }, { accessFlags := 2, nameIndex := 19, descriptorIndex := 20, attributes := #[] }])
  fields := #[{ name := "WORD", type := .int, accessFlags := 26, slot := 0, constantValue := 0 }, { name := "model", type := (.object "com/example/propagule/propagule/Model"), accessFlags := 18, slot := 0, constantValue := 0 }, { name := "index", type := .int, accessFlags := 18, slot := 1, constantValue := 0 }, { name := "name", type := (.object "java/lang/String"), accessFlags := 18, slot := 2, constantValue := 0 }, { name := "initialMin", type := .int, accessFlags := 18, slot := 3, constantValue := 0 }, { name := "initialMax", type := .int, accessFlags := 18, slot := 4, constantValue := 0 }, { name := "small", type := .boolean, accessFlags := 18, slot := 5, constantValue := 0 }, { name := "min", type := .int, accessFlags := 2, slot := 6, constantValue := 0 }, { name := "max", type := .int, accessFlags := 2, slot := 7, constantValue := 0 }, { name := "size", type := .long, accessFlags := 2, slot := 8, constantValue := 0 }, { name := "bits", type := .long, accessFlags := 2, slot := 9, constantValue := 0 }, { name := "ranges", type := (.array .int), accessFlags := 2, slot := 10, constantValue := 0 }, { name := "first", type := .int, accessFlags := 2, slot := 11, constantValue := 0 }, { name := "last", type := .int, accessFlags := 2, slot := 12, constantValue := 0 }, { name := "stamp", type := .int, accessFlags := 2, slot := 13, constantValue := 0 }, { name := "watchers", type := (.array (.object "com/example/propagule/propagule/Constraint")), accessFlags := 2, slot := 14, constantValue := 0 }, { name := "watcherCount", type := .int, accessFlags := 2, slot := 15, constantValue := 0 }, { name := "boundsFrom", type := .int, accessFlags := 2, slot := 16, constantValue := 0 }, { name := "domainFrom", type := .int, accessFlags := 2, slot := 17, constantValue := 0 }, { name := "toldFrom", type := .int, accessFlags := 2, slot := 18, constantValue := 0 }, { name := "tags", type := (.array .int), accessFlags := 2, slot := 19, constantValue := 0 }]
  methods := #[k16m0, k16m1, k16m2, k16m3, k16m4, k16m5, k16m6, k16m7, k16m8, k16m9, k16m10, k16m11, k16m12, k16m13]
  instanceTypes := #[(.object "com/example/propagule/propagule/Model"), .int, (.object "java/lang/String"), .int, .int, .boolean, .int, .int, .long, .long, (.array .int), .int, .int, .int, (.array (.object "com/example/propagule/propagule/Constraint")), .int, .int, .int, .int, (.array .int)]
  staticTypes := #[.int]
  resolved := Array.replicate 312 none
  statics := none }

def pool17 : Array CpInfo := pool [(1, .class_ 2), (0, u "java/lang/Comparable"), (0, .class_ 4), (0, u "java/lang/Object")] 7

/-- java/lang/Comparable -/
def k17 : Class := { plain "java/lang/Comparable" (some 0) with
  accessFlags := 1537
  interfaces := #[]
  cf := some (fileOf pool17 1 #[] #[] 1537 3 #[] #[])
  fields := #[]
  methods := #[]
  instanceTypes := #[]
  staticTypes := #[]
  resolved := Array.replicate 12 none
  statics := none }

def pool18 : Array CpInfo := pool [(2, .class_ 4), (1, u "java/lang/CharSequence"), (42, .class_ 48), (0, u "java/lang/CharSequence$1CodePointIterator"), (10, .class_ 60), (0, u "java/lang/CharSequence$1CharIterator"), (5, .class_ 67), (0, u "java/lang/Object")] 63

/-- java/lang/CharSequence -/
def k18 : Class := { plain "java/lang/CharSequence" (some 0) with
  accessFlags := 1537
  interfaces := #[]
  cf := some (fileOf pool18 2 #[.nestMembers #[47, 59]] #[] 1537 66 #[] #[])
  fields := #[]
  methods := #[]
  instanceTypes := #[]
  staticTypes := #[]
  resolved := Array.replicate 131 none
  statics := none }

def pool19 : Array CpInfo := pool [(1, .class_ 2), (0, u "java/lang/constant/Constable"), (0, .class_ 4), (0, u "java/lang/Object")] 6

/-- java/lang/constant/Constable -/
def k19 : Class := { plain "java/lang/constant/Constable" (some 0) with
  accessFlags := 1537
  interfaces := #[]
  cf := some (fileOf pool19 1 #[] #[] 1537 3 #[] #[])
  fields := #[]
  methods := #[]
  instanceTypes := #[]
  staticTypes := #[]
  resolved := Array.replicate 11 none
  statics := none }

def pool20 : Array CpInfo := pool [(1, .class_ 2), (0, u "java/lang/constant/ConstantDesc"), (0, .class_ 4), (0, u "java/lang/Object")] 32

/-- java/lang/constant/ConstantDesc -/
def k20 : Class := { plain "java/lang/constant/ConstantDesc" (some 0) with
  accessFlags := 1537
  interfaces := #[]
  cf := some (fileOf pool20 1 #[] #[] 1537 3 #[] #[])
  fields := #[]
  methods := #[]
  instanceTypes := #[]
  staticTypes := #[]
  resolved := Array.replicate 37 none
  statics := none }

def pool21 : Array CpInfo := pool [(2, .class_ 4), (1, u "java/lang/Object"), (0, u "<init>"), (0, u "()V"), (3, .class_ 12), (1, u "java/lang/String"), (0, u "value"), (0, u "[B"), (2, u "coder"), (0, u "B"), (2, u "hash"), (0, u "I"), (2, u "hashIsZero"), (0, u "Z"), (13, u "COMPACT_STRINGS"), (534, .class_ 576), (0, u "java/lang/CharSequence"), (22, u "CASE_INSENSITIVE_ORDER"), (0, u "Ljava/util/Comparator;"), (500, u "serialPersistentFields"), (0, u "[Ljava/io/ObjectStreamField;"), (0, .class_ 1104), (0, u "java/lang/String$CaseInsensitiveComparator"), (1, .class_ 1107), (0, u "java/io/Serializable"), (0, .class_ 1109), (0, u "java/lang/Comparable"), (0, .class_ 1111), (0, u "java/lang/constant/Constable"), (0, .class_ 1113), (0, u "java/lang/constant/ConstantDesc"), (2, u "serialVersionUID"), (0, u "J"), (3, u "REPL"), (0, u "C"), (2, u "LATIN1"), (1, u "UTF16")] 323

def k21m0 : Method := { name := "<init>", desc := "()V", sig := { parameters := [], returnType := none }, accessFlags := 1, code := none }
/-- java/lang/String -/
def k21 : Class := { plain "java/lang/String" (some 0) with
  accessFlags := 49
  interfaces := #[11, 17, 18, 19, 20]
  cf := some (fileOf pool21 10 #[.nestMembers #[1103]] #[{ accessFlags := 1, nameIndex := 5, descriptorIndex := 6, attributes := #[] }] 49 2 #[1106, 1108, 575, 1110, 1112] #[{ accessFlags := 18, nameIndex := 13, descriptorIndex := 14, attributes := #[] }, { accessFlags := 18, nameIndex := 17, descriptorIndex := 18, attributes := #[] }, { accessFlags := 2, nameIndex := 21, descriptorIndex := 22, attributes := #[] }, { accessFlags := 2, nameIndex := 25, descriptorIndex := 26, attributes := #[] }, { accessFlags := 26, nameIndex := 1116, descriptorIndex := 1117, attributes := #[] }, { accessFlags := 24, nameIndex := 40, descriptorIndex := 26, attributes := #[] }, { accessFlags := 26, nameIndex := 1101, descriptorIndex := 1102, attributes := #[] }, { accessFlags := 26, nameIndex := 1121, descriptorIndex := 1122, attributes := #[] }, { accessFlags := 25, nameIndex := 599, descriptorIndex := 600, attributes := #[] }, { accessFlags := 24, nameIndex := 1125, descriptorIndex := 18, attributes := #[] }, { accessFlags := 24, nameIndex := 1127, descriptorIndex := 18, attributes := #[] }])
  fields := #[{ name := "value", type := (.array .byte), accessFlags := 18, slot := 0, constantValue := 0 }, { name := "coder", type := .byte, accessFlags := 18, slot := 1, constantValue := 0 }, { name := "hash", type := .int, accessFlags := 2, slot := 2, constantValue := 0 }, { name := "hashIsZero", type := .boolean, accessFlags := 2, slot := 3, constantValue := 0 }, { name := "serialVersionUID", type := .long, accessFlags := 26, slot := 0, constantValue := 0 }, { name := "COMPACT_STRINGS", type := .boolean, accessFlags := 24, slot := 1, constantValue := 0 }, { name := "serialPersistentFields", type := (.array (.object "java/io/ObjectStreamField")), accessFlags := 26, slot := 2, constantValue := 0 }, { name := "REPL", type := .char, accessFlags := 26, slot := 3, constantValue := 0 }, { name := "CASE_INSENSITIVE_ORDER", type := (.object "java/util/Comparator"), accessFlags := 25, slot := 4, constantValue := 0 }, { name := "LATIN1", type := .byte, accessFlags := 24, slot := 5, constantValue := 0 }, { name := "UTF16", type := .byte, accessFlags := 24, slot := 6, constantValue := 0 }]
  methods := #[k21m0]
  instanceTypes := #[(.array .byte), .byte, .int, .boolean]
  staticTypes := #[.long, .boolean, (.array (.object "java/io/ObjectStreamField")), .char, (.object "java/util/Comparator"), .byte, .byte]
  resolved := Array.replicate 1451 none
  statics := none }

def pool22 : Array CpInfo := pool [(2, .class_ 4), (1, u "java/lang/Object"), (3, .class_ 10), (1, u "com/example/propagule/propagule/Constraint"), (0, u "place"), (0, u "I"), (4, u "entailedWorld"), (0, u "J"), (3, u "[Lcom/example/propagule/propagule/IntVar;"), (4, u "scope"), (12, u "model"), (55, u "entailedDepth"), (20, u "Lcom/example/propagule/propagule/Model;"), (2, u "scheduled"), (0, u "Z")] 54

/-- com/example/propagule/propagule/Constraint -/
def k22 : Class := { plain "com/example/propagule/propagule/Constraint" (some 0) with
  accessFlags := 1057
  interfaces := #[]
  cf := some (fileOf pool22 8 #[] #[] 1057 2 #[] #[{ accessFlags := 18, nameIndex := 27, descriptorIndex := 22, attributes := #[] }, { accessFlags := 2, nameIndex := 40, descriptorIndex := 117, attributes := #[] }, { accessFlags := 2, nameIndex := 11, descriptorIndex := 12, attributes := #[] }, { accessFlags := 2, nameIndex := 120, descriptorIndex := 121, attributes := #[] }, { accessFlags := 2, nameIndex := 96, descriptorIndex := 12, attributes := #[] }, { accessFlags := 2, nameIndex := 17, descriptorIndex := 18, attributes := #[] }])
  fields := #[{ name := "scope", type := (.array (.object "com/example/propagule/propagule/IntVar")), accessFlags := 18, slot := 0, constantValue := 0 }, { name := "model", type := (.object "com/example/propagule/propagule/Model"), accessFlags := 2, slot := 1, constantValue := 0 }, { name := "place", type := .int, accessFlags := 2, slot := 2, constantValue := 0 }, { name := "scheduled", type := .boolean, accessFlags := 2, slot := 3, constantValue := 0 }, { name := "entailedDepth", type := .int, accessFlags := 2, slot := 4, constantValue := 0 }, { name := "entailedWorld", type := .long, accessFlags := 2, slot := 5, constantValue := 0 }]
  methods := #[]
  instanceTypes := #[(.array (.object "com/example/propagule/propagule/IntVar")), (.object "com/example/propagule/propagule/Model"), .int, .boolean, .int, .long]
  staticTypes := #[]
  resolved := Array.replicate 176 none
  statics := none }

def pool23 : Array CpInfo := pool [(1, .class_ 2), (0, u "java/lang/Math"), (1, .class_ 6), (1, u "java/lang/Object"), (0, u "<init>"), (0, u "()V"), (89, .class_ 100), (1, u "java/lang/Math$RandomNumberGeneratorHolder"), (71, u "negativeZeroFloatBits"), (0, u "J"), (2, u "negativeZeroDoubleBits"), (24, u "min"), (43, u "$assertionsDisabled"), (0, u "Z"), (88, u "(II)I"), (2, u "twoToTheDoubleScaleDown"), (0, u "D"), (4, u "twoToTheDoubleScaleUp"), (9, u "E"), (3, u "PI"), (2, u "TAU"), (2, u "DEGREES_TO_RADIANS"), (0, u "RADIANS_TO_DEGREES")] 94

def k23m0 : Method := { name := "<init>", desc := "()V", sig := { parameters := [], returnType := none }, accessFlags := 2, code := none }
def k23c1 : Code := { maxStack := 2, maxLocals := 2, code := jdk_29_method_69_code, exceptionTable := #[], attributes := #[] }
def k23m1 : Method := { name := "min", desc := "(II)I", sig := { parameters := [.int, .int], returnType := some .int }, accessFlags := 9, code := some k23c1 }
/-- java/lang/Math -/
def k23 : Class := { plain "java/lang/Math" (some 0) with
  accessFlags := 49
  interfaces := #[]
  cf := some (fileOf pool23 1 #[.nestMembers #[98]] #[{ accessFlags := 2, nameIndex := 7, descriptorIndex := 8, attributes := #[] }, { accessFlags := 9, nameIndex := 201, descriptorIndex := 335, attributes := #[] }] 49 4 #[] #[{ accessFlags := 25, nameIndex := 354, descriptorIndex := 339, attributes := #[] }, { accessFlags := 25, nameIndex := 358, descriptorIndex := 339, attributes := #[] }, { accessFlags := 25, nameIndex := 361, descriptorIndex := 339, attributes := #[] }, { accessFlags := 26, nameIndex := 364, descriptorIndex := 339, attributes := #[] }, { accessFlags := 26, nameIndex := 365, descriptorIndex := 339, attributes := #[] }, { accessFlags := 26, nameIndex := 172, descriptorIndex := 173, attributes := #[] }, { accessFlags := 26, nameIndex := 176, descriptorIndex := 173, attributes := #[] }, { accessFlags := 8, nameIndex := 344, descriptorIndex := 339, attributes := #[] }, { accessFlags := 8, nameIndex := 338, descriptorIndex := 339, attributes := #[] }, { accessFlags := 4120, nameIndex := 245, descriptorIndex := 246, attributes := #[] }])
  fields := #[{ name := "E", type := .double, accessFlags := 25, slot := 0, constantValue := 0 }, { name := "PI", type := .double, accessFlags := 25, slot := 1, constantValue := 0 }, { name := "TAU", type := .double, accessFlags := 25, slot := 2, constantValue := 0 }, { name := "DEGREES_TO_RADIANS", type := .double, accessFlags := 26, slot := 3, constantValue := 0 }, { name := "RADIANS_TO_DEGREES", type := .double, accessFlags := 26, slot := 4, constantValue := 0 }, { name := "negativeZeroFloatBits", type := .long, accessFlags := 26, slot := 5, constantValue := 0 }, { name := "negativeZeroDoubleBits", type := .long, accessFlags := 26, slot := 6, constantValue := 0 }, { name := "twoToTheDoubleScaleUp", type := .double, accessFlags := 8, slot := 7, constantValue := 0 }, { name := "twoToTheDoubleScaleDown", type := .double, accessFlags := 8, slot := 8, constantValue := 0 }, { name := "$assertionsDisabled", type := .boolean, accessFlags := 4120, slot := 9, constantValue := 0 }]
  methods := #[k23m0, k23m1]
  instanceTypes := #[]
  staticTypes := #[.double, .double, .double, .double, .double, .long, .long, .double, .double, .boolean]
  resolved := Array.replicate 460 none
  statics := none }

def pool24 : Array CpInfo := pool [(2, .class_ 4), (1, u "java/lang/Enum"), (0, u "name"), (0, u "Ljava/lang/String;"), (2, u "ordinal"), (0, u "I"), (1, .class_ 14), (1, u "java/lang/Object"), (4, u "hash"), (86, .class_ 108), (1, u "java/lang/Enum$EnumDesc"), (2, .class_ 112), (0, u "java/lang/constant/Constable"), (0, .class_ 114), (0, u "java/lang/Comparable"), (0, .class_ 116), (0, u "java/io/Serializable")] 87

/-- java/lang/Enum -/
def k24 : Class := { plain "java/lang/Enum" (some 0) with
  accessFlags := 1057
  interfaces := #[19, 17, 11]
  cf := some (fileOf pool24 2 #[.nestMembers #[106]] #[] 1057 12 #[111, 113, 115] #[{ accessFlags := 18, nameIndex := 5, descriptorIndex := 6, attributes := #[] }, { accessFlags := 18, nameIndex := 9, descriptorIndex := 10, attributes := #[] }, { accessFlags := 2, nameIndex := 19, descriptorIndex := 10, attributes := #[] }])
  fields := #[{ name := "name", type := (.object "java/lang/String"), accessFlags := 18, slot := 0, constantValue := 0 }, { name := "ordinal", type := .int, accessFlags := 18, slot := 1, constantValue := 0 }, { name := "hash", type := .int, accessFlags := 2, slot := 2, constantValue := 0 }]
  methods := #[]
  instanceTypes := #[(.object "java/lang/String"), .int, .int]
  staticTypes := #[]
  resolved := Array.replicate 204 none
  statics := none }

def pool25 : Array CpInfo := pool [(1, .class_ 2), (0, u "com/example/propagule/propagule/Event"), (2, u "FIX"), (0, u "Lcom/example/propagule/propagule/Event;"), (2, u "BOUNDS"), (2, u "DOMAIN"), (2, u "$VALUES"), (0, u "[Lcom/example/propagule/propagule/Event;"), (6, .class_ 25), (1, u "java/lang/Enum")] 25

/-- com/example/propagule/propagule/Event -/
def k25 : Class := { plain "com/example/propagule/propagule/Event" (some 24) with
  accessFlags := 16432
  interfaces := #[]
  cf := some (fileOf pool25 1 #[] #[] 16432 23 #[] #[{ accessFlags := 16409, nameIndex := 5, descriptorIndex := 6, attributes := #[] }, { accessFlags := 16409, nameIndex := 9, descriptorIndex := 6, attributes := #[] }, { accessFlags := 16409, nameIndex := 12, descriptorIndex := 6, attributes := #[] }, { accessFlags := 4122, nameIndex := 15, descriptorIndex := 16, attributes := #[] }])
  fields := #[{ name := "FIX", type := (.object "com/example/propagule/propagule/Event"), accessFlags := 16409, slot := 0, constantValue := 0 }, { name := "BOUNDS", type := (.object "com/example/propagule/propagule/Event"), accessFlags := 16409, slot := 1, constantValue := 0 }, { name := "DOMAIN", type := (.object "com/example/propagule/propagule/Event"), accessFlags := 16409, slot := 2, constantValue := 0 }, { name := "$VALUES", type := (.array (.object "com/example/propagule/propagule/Event")), accessFlags := 4122, slot := 3, constantValue := 0 }]
  methods := #[]
  instanceTypes := #[(.object "java/lang/String"), .int, .int]
  staticTypes := #[(.object "com/example/propagule/propagule/Event"), (.object "com/example/propagule/propagule/Event"), (.object "com/example/propagule/propagule/Event"), (.array (.object "com/example/propagule/propagule/Event"))]
  resolved := Array.replicate 51 none
  statics := some 2 }

/-- the primitive byte -/
def k26 : Class := { plain "byte" none with kind := .primitive 'B', accessFlags := 0x411 }
/-- [B -/
def k27 : Class := { plain "[B" (some 0) with kind := .array 26 .byte, interfaces := #[10, 11], accessFlags := 1041 }

/-- the primitive int -/
def k28 : Class := { plain "int" none with kind := .primitive 'I', accessFlags := 0x411 }
/-- [I -/
def k29 : Class := { plain "[I" (some 0) with kind := .array 28 .int, interfaces := #[10, 11], accessFlags := 1041 }

/-- the primitive long -/
def k30 : Class := { plain "long" none with kind := .primitive 'J', accessFlags := 0x411 }
/-- [J -/
def k31 : Class := { plain "[J" (some 0) with kind := .array 30 .long, interfaces := #[10, 11], accessFlags := 1041 }

/-- [Lcom/example/propagule/propagule/Constraint; -/
def k32 : Class := { plain "[Lcom/example/propagule/propagule/Constraint;" (some 0) with kind := .array 22 (.object "com/example/propagule/propagule/Constraint"), interfaces := #[10, 11], accessFlags := 1041 }

/-- [Lcom/example/propagule/propagule/ReversibleLongs; -/
def k33 : Class := { plain "[Lcom/example/propagule/propagule/ReversibleLongs;" (some 0) with kind := .array 14 (.object "com/example/propagule/propagule/ReversibleLongs"), interfaces := #[10, 11], accessFlags := 1041 }

/-- [Ljava/lang/Object; -/
def k34 : Class := { plain "[Ljava/lang/Object;" (some 0) with kind := .array 0 (.object "java/lang/Object"), interfaces := #[10, 11], accessFlags := 1041 }

/-- [[I -/
def k35 : Class := { plain "[[I" (some 0) with kind := .array 29 (.array .int), interfaces := #[10, 11], accessFlags := 1041 }
def heap : Heap := #[{ cls := 12, slots := #[.long 0, .int 0, .ref 6, .ref 7], vm := .statics 12 },
  { cls := 15, slots := #[.ref 3], vm := .statics 15 },
  { cls := 25, slots := #[.ref 5, .ref 4, .null, .null], vm := .statics 25 },
  { cls := 15, slots := #[.long 0, .long 0], vm := .none },
  { cls := 25, slots := #[.null, .int 1, .int 0], vm := .none },
  { cls := 25, slots := #[.null, .int 0, .int 0], vm := .none },
  { cls := 34, slots := #[], vm := .none },
  { cls := 34, slots := #[], vm := .none }]
def classes : Array Class := #[k0, k1, k2, k3, k4, k5, k6, k7, k8, k9, k10, k11, k12, k13, k14, k15, k16, k17, k18, k19, k20, k21, k22, k23, k24, k25, k26, k27, k28, k29, k30, k31, k32, k33, k34, k35]
def interned : List (Array UInt16 × Addr) := []
def slotsUsed : Nat := 17
def theMethod : MethodId := ⟨1, 1⟩
def args0 : Array Value := #[.long 5, .long 3, .int 1, .int 7, .int 3, .int 9]
def aboutOver (below : List Frame) : State where
  vm := { classes := classes, interned := interned.toArray }
  heap := heap
  slotsUsed := slotsUsed
  threads := #[{ frames := .invoking theMethod args0 :: below }]
def below0 : List Frame := [.native { method := ⟨0, 0⟩, args := #[] }]
def about1 : State := aboutOver below0
def p0 : Program := .bare "" "" ""
def e0 : Env := launch0.env 0 0 0
theorem w_frames : about1.frames = Frame.invoking theMethod args0 :: below0 := rfl
set_option maxRecDepth 65536 in
theorem w_args : argsFit about1.vm theMethod args0 = true := by decide +kernel
set_option maxRecDepth 65536 in
theorem w_heap : heapFits about1 = true := by decide +kernel
set_option maxRecDepth 65536 in
theorem w_runnable : about1.curStatus? = some .runnable := by decide +kernel
set_option maxRecDepth 65536 in
theorem w_alone : about1.alone = true := by decide +kernel
set_option maxRecDepth 65536 in
theorem w_named : about1.methodNamed? x = some theMethod := by decide +kernel
set_option maxRecDepth 65536 in
theorem w_hears : about1.hears theMethod below0 = true := by decide +kernel
set_option maxRecDepth 65536 in
theorem w_ripe : about1.ripe theMethod args0 below0 = true := by decide +kernel
theorem w_running : about1.status = .running := rfl
set_option maxRecDepth 65536 in
theorem w_room : about1.hasRoom e0.platform room_1 = true :=
  launch0.hasRoom_least _ room_1 (by decide +kernel) (by decide +kernel) (by decide +kernel) (by decide +kernel) (by decide +kernel) (by decide +kernel)
theorem allAtoms_all (ts : List Jvm.Cond) (a : Array Jvm.Value) (st : Jvm.State) : (allAtoms ts).before a st = ts.all (fun c => c.before a st) := by
  induction ts with
  | nil => rfl
  | cons c t ih =>
    show (Jvm.Cond.and c (allAtoms t)).before a st = _
    rw [Jvm.Cond.before_and, ih, List.all_cons]
def words1 : List Jvm.Cond := Jvm.Cond.code x code maxLocals ret :: tables_1
/-- a 'code' word, met by the world's own term for the bytes: nothing is compared byte by byte -/
theorem code_word {y : MethodName} {bytes : ByteArray} {mx : Nat} {rt : Option FieldType} {a : Array Value} {s : State} {m : MethodId} {meth : Method} {c : Code} (h1 : s.methodNamed? y = some m) (h2 : s.vm.method? m = some meth) (h3 : meth.code = some c) (h4 : c.code = bytes)
    (h5 : (c.maxLocals == mx && c.exceptionTable.isEmpty && decide (c.maxStack ≤ mostOperands) && decide (meth.sig.returnType = rt) && !meth.locks && decide (parseMethodDescriptor y.desc = some meth.sig)) = true) : (Jvm.Cond.code y bytes mx rt).before a s = true := by
  simp only [Bool.and_eq_true, beq_iff_eq, Bool.not_eq_true', decide_eq_true_eq] at h5
  obtain ⟨⟨⟨⟨⟨g1, g2⟩, g3⟩, g4⟩, g5⟩, g6⟩ := h5
  simp [Cond.before, Cond.holds, Cond.value, h1, h2, h3, h4, g1, g2, g3, g4, g5, g6]
def isCode : Jvm.Cond → Bool
  | .code _ _ _ _ => true
  | _ => false
theorem all_split {L : List Jvm.Cond} {P : Jvm.Cond → Bool} (h1 : L.all (fun c => isCode c || P c) = true) (h2 : ∀ c ∈ L.filter isCode, P c = true) : L.all P = true := by
  refine List.all_eq_true.mpr fun c hc => ?_
  have h := List.all_eq_true.mp h1 c hc
  rcases Bool.eq_false_or_eq_true (isCode c) with hi | hi
  · exact h2 c (List.mem_filter.mpr ⟨hc, hi⟩)
  · simpa [hi] using h
set_option maxRecDepth 65536 in
theorem w_c0 : (Jvm.Cond.code x code maxLocals ret).before args0 about1 = true := code_word (m := ⟨1, 1⟩) (meth := k1m1) (c := k1c1) (by decide +kernel) rfl rfl rfl (by decide +kernel)
set_option maxRecDepth 65536 in
theorem w_c1 : (Jvm.Cond.code ({ cls := "com/example/propagule/propagule/Model", name := "<init>", desc := "()V" } : Jvm.MethodName) prog_46_method_1_code (1 : Nat) (Option.none : Option Jvm.ClassFile.FieldType)).before args0 about1 = true := code_word (m := ⟨2, 0⟩) (meth := k2m0) (c := k2c0) (by decide +kernel) rfl rfl rfl (by decide +kernel)
set_option maxRecDepth 65536 in
theorem w_c2 : (Jvm.Cond.code ({ cls := "java/lang/Object", name := "<init>", desc := "()V" } : Jvm.MethodName) object_method_1_code (1 : Nat) (Option.none : Option Jvm.ClassFile.FieldType)).before args0 about1 = true := code_word (m := ⟨0, 0⟩) (meth := k0m0) (c := k0c0) (by decide +kernel) rfl rfl rfl (by decide +kernel)
set_option maxRecDepth 65536 in
theorem w_c3 : (Jvm.Cond.code ({ cls := "java/util/ArrayList", name := "<init>", desc := "()V" } : Jvm.MethodName) jdk_38_method_2_code (1 : Nat) (Option.none : Option Jvm.ClassFile.FieldType)).before args0 about1 = true := code_word (m := ⟨12, 0⟩) (meth := k12m0) (c := k12c0) (by decide +kernel) rfl rfl rfl (by decide +kernel)
set_option maxRecDepth 65536 in
theorem w_c4 : (Jvm.Cond.code ({ cls := "java/util/AbstractList", name := "<init>", desc := "()V" } : Jvm.MethodName) jdk_39_method_1_code (1 : Nat) (Option.none : Option Jvm.ClassFile.FieldType)).before args0 about1 = true := code_word (m := ⟨8, 0⟩) (meth := k8m0) (c := k8c0) (by decide +kernel) rfl rfl rfl (by decide +kernel)
set_option maxRecDepth 65536 in
theorem w_c5 : (Jvm.Cond.code ({ cls := "java/util/AbstractCollection", name := "<init>", desc := "()V" } : Jvm.MethodName) jdk_22_method_1_code (1 : Nat) (Option.none : Option Jvm.ClassFile.FieldType)).before args0 about1 = true := code_word (m := ⟨5, 0⟩) (meth := k5m0) (c := k5c0) (by decide +kernel) rfl rfl rfl (by decide +kernel)
set_option maxRecDepth 65536 in
theorem w_c6 : (Jvm.Cond.code ({ cls := "com/example/propagule/propagule/Trail", name := "<init>", desc := "(Ljava/util/List;)V" } : Jvm.MethodName) prog_75_method_1_code (2 : Nat) (Option.none : Option Jvm.ClassFile.FieldType)).before args0 about1 = true := code_word (m := ⟨13, 0⟩) (meth := k13m0) (c := k13c0) (by decide +kernel) rfl rfl rfl (by decide +kernel)
set_option maxRecDepth 65536 in
theorem w_c7 : (Jvm.Cond.code ({ cls := "com/example/propagule/propagule/IntVar", name := "<init>", desc := "(Lcom/example/propagule/propagule/Model;ILjava/lang/String;II)V" } : Jvm.MethodName) prog_37_method_1_code (6 : Nat) (Option.none : Option Jvm.ClassFile.FieldType)).before args0 about1 = true := code_word (m := ⟨16, 0⟩) (meth := k16m0) (c := k16c0) (by decide +kernel) rfl rfl rfl (by decide +kernel)
set_option maxRecDepth 65536 in
theorem w_c8 : (Jvm.Cond.code ({ cls := "com/example/propagule/propagule/IntVar", name := "restore", desc := "(IIJJ[IIII)V" } : Jvm.MethodName) prog_37_method_35_code (11 : Nat) (Option.none : Option Jvm.ClassFile.FieldType)).before args0 about1 = true := code_word (m := ⟨16, 8⟩) (meth := k16m8) (c := k16c8) (by decide +kernel) rfl rfl rfl (by decide +kernel)
set_option maxRecDepth 65536 in
theorem w_c9 : (Jvm.Cond.code ({ cls := "com/example/propagule/propagule/IntVar", name := "min", desc := "()I" } : Jvm.MethodName) prog_37_method_4_code (1 : Nat) (Option.some Jvm.ClassFile.FieldType.int)).before args0 about1 = true := code_word (m := ⟨16, 1⟩) (meth := k16m1) (c := k16c1) (by decide +kernel) rfl rfl rfl (by decide +kernel)
set_option maxRecDepth 65536 in
theorem w_c10 : (Jvm.Cond.code ({ cls := "com/example/propagule/propagule/IntVar", name := "max", desc := "()I" } : Jvm.MethodName) prog_37_method_5_code (1 : Nat) (Option.some Jvm.ClassFile.FieldType.int)).before args0 about1 = true := code_word (m := ⟨16, 2⟩) (meth := k16m2) (c := k16c2) (by decide +kernel) rfl rfl rfl (by decide +kernel)
set_option maxRecDepth 65536 in
theorem w_c11 : (Jvm.Cond.code ({ cls := "com/example/propagule/propagule/IntVar", name := "size", desc := "()J" } : Jvm.MethodName) prog_37_method_6_code (1 : Nat) (Option.some Jvm.ClassFile.FieldType.long)).before args0 about1 = true := code_word (m := ⟨16, 3⟩) (meth := k16m3) (c := k16c3) (by decide +kernel) rfl rfl rfl (by decide +kernel)
set_option maxRecDepth 65536 in
theorem w_c12 : (Jvm.Cond.code ({ cls := "com/example/propagule/propagule/IntVar", name := "stamp", desc := "()I" } : Jvm.MethodName) prog_37_method_16_code (1 : Nat) (Option.some Jvm.ClassFile.FieldType.int)).before args0 about1 = true := code_word (m := ⟨16, 6⟩) (meth := k16m6) (c := k16c6) (by decide +kernel) rfl rfl rfl (by decide +kernel)
set_option maxRecDepth 65536 in
theorem w_c13 : (Jvm.Cond.code ({ cls := "com/example/propagule/propagule/IntVar", name := "contains", desc := "(I)Z" } : Jvm.MethodName) prog_37_method_8_code (2 : Nat) (Option.some Jvm.ClassFile.FieldType.boolean)).before args0 about1 = true := code_word (m := ⟨16, 4⟩) (meth := k16m4) (c := k16c4) (by decide +kernel) rfl rfl rfl (by decide +kernel)
set_option maxRecDepth 65536 in
theorem w_c14 : (Jvm.Cond.code ({ cls := "com/example/propagule/propagule/IntVar", name := "removeAbove", desc := "(J)Z" } : Jvm.MethodName) prog_37_method_31_code (4 : Nat) (Option.some Jvm.ClassFile.FieldType.boolean)).before args0 about1 = true := code_word (m := ⟨16, 7⟩) (meth := k16m7) (c := k16c7) (by decide +kernel) rfl rfl rfl (by decide +kernel)
set_option maxRecDepth 65536 in
theorem w_c15 : (Jvm.Cond.code ({ cls := "com/example/propagule/propagule/IntVar", name := "save", desc := "()V" } : Jvm.MethodName) prog_37_method_36_code (3 : Nat) (Option.none : Option Jvm.ClassFile.FieldType)).before args0 about1 = true := code_word (m := ⟨16, 9⟩) (meth := k16m9) (c := k16c9) (by decide +kernel) rfl rfl rfl (by decide +kernel)
set_option maxRecDepth 65536 in
theorem w_c16 : (Jvm.Cond.code ({ cls := "com/example/propagule/propagule/Model", name := "trail", desc := "()Lcom/example/propagule/propagule/Trail;" } : Jvm.MethodName) prog_46_method_10_code (1 : Nat) (Option.some (Jvm.ClassFile.FieldType.object "com/example/propagule/propagule/Trail"))).before args0 about1 = true := code_word (m := ⟨2, 1⟩) (meth := k2m1) (c := k2c1) (by decide +kernel) rfl rfl rfl (by decide +kernel)
set_option maxRecDepth 65536 in
theorem w_c17 : (Jvm.Cond.code ({ cls := "com/example/propagule/propagule/Trail", name := "depth", desc := "()I" } : Jvm.MethodName) prog_75_method_2_code (1 : Nat) (Option.some Jvm.ClassFile.FieldType.int)).before args0 about1 = true := code_word (m := ⟨13, 1⟩) (meth := k13m1) (c := k13c1) (by decide +kernel) rfl rfl rfl (by decide +kernel)
set_option maxRecDepth 65536 in
theorem w_c18 : (Jvm.Cond.code ({ cls := "com/example/propagule/propagule/Trail", name := "save", desc := "(Lcom/example/propagule/propagule/IntVar;IIJJ[III)V" } : Jvm.MethodName) prog_75_method_7_code (12 : Nat) (Option.none : Option Jvm.ClassFile.FieldType)).before args0 about1 = true := code_word (m := ⟨13, 2⟩) (meth := k13m2) (c := k13c2) (by decide +kernel) rfl rfl rfl (by decide +kernel)
set_option maxRecDepth 65536 in
theorem w_c19 : (Jvm.Cond.code ({ cls := "com/example/propagule/propagule/IntVar", name := "index", desc := "()I" } : Jvm.MethodName) prog_37_method_13_code (1 : Nat) (Option.some Jvm.ClassFile.FieldType.int)).before args0 about1 = true := code_word (m := ⟨16, 5⟩) (meth := k16m5) (c := k16c5) (by decide +kernel) rfl rfl rfl (by decide +kernel)
set_option maxRecDepth 65536 in
theorem w_c20 : (Jvm.Cond.code ({ cls := "com/example/propagule/propagule/IntVar", name := "intervalAtOrBefore", desc := "(I)I" } : Jvm.MethodName) prog_37_method_40_code (5 : Nat) (Option.some Jvm.ClassFile.FieldType.int)).before args0 about1 = true := code_word (m := ⟨16, 13⟩) (meth := k16m13) (c := k16c13) (by decide +kernel) rfl rfl rfl (by decide +kernel)
set_option maxRecDepth 65536 in
theorem w_c21 : (Jvm.Cond.code ({ cls := "java/lang/Math", name := "min", desc := "(II)I" } : Jvm.MethodName) jdk_29_method_69_code (2 : Nat) (Option.some Jvm.ClassFile.FieldType.int)).before args0 about1 = true := code_word (m := ⟨23, 1⟩) (meth := k23m1) (c := k23c1) (by decide +kernel) rfl rfl rfl (by decide +kernel)
set_option maxRecDepth 65536 in
theorem w_c22 : (Jvm.Cond.code ({ cls := "com/example/propagule/propagule/IntVar", name := "recount", desc := "()V" } : Jvm.MethodName) prog_37_method_38_code (4 : Nat) (Option.none : Option Jvm.ClassFile.FieldType)).before args0 about1 = true := code_word (m := ⟨16, 11⟩) (meth := k16m11) (c := k16c11) (by decide +kernel) rfl rfl rfl (by decide +kernel)
set_option maxRecDepth 65536 in
theorem w_c23 : (Jvm.Cond.code ({ cls := "com/example/propagule/propagule/IntVar", name := "wake", desc := "(Lcom/example/propagule/propagule/Event;)V" } : Jvm.MethodName) prog_37_method_37_code (4 : Nat) (Option.none : Option Jvm.ClassFile.FieldType)).before args0 about1 = true := code_word (m := ⟨16, 10⟩) (meth := k16m10) (c := k16c10) (by decide +kernel) rfl rfl rfl (by decide +kernel)
set_option maxRecDepth 65536 in
theorem w_c24 : (Jvm.Cond.code ({ cls := "com/example/propagule/propagule/Model", name := "schedule", desc := "([Lcom/example/propagule/propagule/Constraint;II)V" } : Jvm.MethodName) prog_46_method_19_code (6 : Nat) (Option.none : Option Jvm.ClassFile.FieldType)).before args0 about1 = true := code_word (m := ⟨2, 2⟩) (meth := k2m2) (c := k2c2) (by decide +kernel) rfl rfl rfl (by decide +kernel)
set_option maxRecDepth 65536 in
theorem w_c25 : (Jvm.Cond.code ({ cls := "com/example/propagule/propagule/IntVar", name := "intervalAtOrAfter", desc := "(I)I" } : Jvm.MethodName) prog_37_method_39_code (5 : Nat) (Option.some Jvm.ClassFile.FieldType.int)).before args0 about1 = true := code_word (m := ⟨16, 12⟩) (meth := k16m12) (c := k16c12) (by decide +kernel) rfl rfl rfl (by decide +kernel)
def codes1 : List Jvm.Cond := [Jvm.Cond.code x code maxLocals ret, Jvm.Cond.code ({ cls := "com/example/propagule/propagule/Model", name := "<init>", desc := "()V" } : Jvm.MethodName) prog_46_method_1_code (1 : Nat) (Option.none : Option Jvm.ClassFile.FieldType), Jvm.Cond.code ({ cls := "java/lang/Object", name := "<init>", desc := "()V" } : Jvm.MethodName) object_method_1_code (1 : Nat) (Option.none : Option Jvm.ClassFile.FieldType), Jvm.Cond.code ({ cls := "java/util/ArrayList", name := "<init>", desc := "()V" } : Jvm.MethodName) jdk_38_method_2_code (1 : Nat) (Option.none : Option Jvm.ClassFile.FieldType), Jvm.Cond.code ({ cls := "java/util/AbstractList", name := "<init>", desc := "()V" } : Jvm.MethodName) jdk_39_method_1_code (1 : Nat) (Option.none : Option Jvm.ClassFile.FieldType), Jvm.Cond.code ({ cls := "java/util/AbstractCollection", name := "<init>", desc := "()V" } : Jvm.MethodName) jdk_22_method_1_code (1 : Nat) (Option.none : Option Jvm.ClassFile.FieldType), Jvm.Cond.code ({ cls := "com/example/propagule/propagule/Trail", name := "<init>", desc := "(Ljava/util/List;)V" } : Jvm.MethodName) prog_75_method_1_code (2 : Nat) (Option.none : Option Jvm.ClassFile.FieldType), Jvm.Cond.code ({ cls := "com/example/propagule/propagule/IntVar", name := "<init>", desc := "(Lcom/example/propagule/propagule/Model;ILjava/lang/String;II)V" } : Jvm.MethodName) prog_37_method_1_code (6 : Nat) (Option.none : Option Jvm.ClassFile.FieldType), Jvm.Cond.code ({ cls := "com/example/propagule/propagule/IntVar", name := "restore", desc := "(IIJJ[IIII)V" } : Jvm.MethodName) prog_37_method_35_code (11 : Nat) (Option.none : Option Jvm.ClassFile.FieldType), Jvm.Cond.code ({ cls := "com/example/propagule/propagule/IntVar", name := "min", desc := "()I" } : Jvm.MethodName) prog_37_method_4_code (1 : Nat) (Option.some Jvm.ClassFile.FieldType.int), Jvm.Cond.code ({ cls := "com/example/propagule/propagule/IntVar", name := "max", desc := "()I" } : Jvm.MethodName) prog_37_method_5_code (1 : Nat) (Option.some Jvm.ClassFile.FieldType.int), Jvm.Cond.code ({ cls := "com/example/propagule/propagule/IntVar", name := "size", desc := "()J" } : Jvm.MethodName) prog_37_method_6_code (1 : Nat) (Option.some Jvm.ClassFile.FieldType.long), Jvm.Cond.code ({ cls := "com/example/propagule/propagule/IntVar", name := "stamp", desc := "()I" } : Jvm.MethodName) prog_37_method_16_code (1 : Nat) (Option.some Jvm.ClassFile.FieldType.int), Jvm.Cond.code ({ cls := "com/example/propagule/propagule/IntVar", name := "contains", desc := "(I)Z" } : Jvm.MethodName) prog_37_method_8_code (2 : Nat) (Option.some Jvm.ClassFile.FieldType.boolean), Jvm.Cond.code ({ cls := "com/example/propagule/propagule/IntVar", name := "removeAbove", desc := "(J)Z" } : Jvm.MethodName) prog_37_method_31_code (4 : Nat) (Option.some Jvm.ClassFile.FieldType.boolean), Jvm.Cond.code ({ cls := "com/example/propagule/propagule/IntVar", name := "save", desc := "()V" } : Jvm.MethodName) prog_37_method_36_code (3 : Nat) (Option.none : Option Jvm.ClassFile.FieldType), Jvm.Cond.code ({ cls := "com/example/propagule/propagule/Model", name := "trail", desc := "()Lcom/example/propagule/propagule/Trail;" } : Jvm.MethodName) prog_46_method_10_code (1 : Nat) (Option.some (Jvm.ClassFile.FieldType.object "com/example/propagule/propagule/Trail")), Jvm.Cond.code ({ cls := "com/example/propagule/propagule/Trail", name := "depth", desc := "()I" } : Jvm.MethodName) prog_75_method_2_code (1 : Nat) (Option.some Jvm.ClassFile.FieldType.int), Jvm.Cond.code ({ cls := "com/example/propagule/propagule/Trail", name := "save", desc := "(Lcom/example/propagule/propagule/IntVar;IIJJ[III)V" } : Jvm.MethodName) prog_75_method_7_code (12 : Nat) (Option.none : Option Jvm.ClassFile.FieldType), Jvm.Cond.code ({ cls := "com/example/propagule/propagule/IntVar", name := "index", desc := "()I" } : Jvm.MethodName) prog_37_method_13_code (1 : Nat) (Option.some Jvm.ClassFile.FieldType.int), Jvm.Cond.code ({ cls := "com/example/propagule/propagule/IntVar", name := "intervalAtOrBefore", desc := "(I)I" } : Jvm.MethodName) prog_37_method_40_code (5 : Nat) (Option.some Jvm.ClassFile.FieldType.int), Jvm.Cond.code ({ cls := "java/lang/Math", name := "min", desc := "(II)I" } : Jvm.MethodName) jdk_29_method_69_code (2 : Nat) (Option.some Jvm.ClassFile.FieldType.int), Jvm.Cond.code ({ cls := "com/example/propagule/propagule/IntVar", name := "recount", desc := "()V" } : Jvm.MethodName) prog_37_method_38_code (4 : Nat) (Option.none : Option Jvm.ClassFile.FieldType), Jvm.Cond.code ({ cls := "com/example/propagule/propagule/IntVar", name := "wake", desc := "(Lcom/example/propagule/propagule/Event;)V" } : Jvm.MethodName) prog_37_method_37_code (4 : Nat) (Option.none : Option Jvm.ClassFile.FieldType), Jvm.Cond.code ({ cls := "com/example/propagule/propagule/Model", name := "schedule", desc := "([Lcom/example/propagule/propagule/Constraint;II)V" } : Jvm.MethodName) prog_46_method_19_code (6 : Nat) (Option.none : Option Jvm.ClassFile.FieldType), Jvm.Cond.code ({ cls := "com/example/propagule/propagule/IntVar", name := "intervalAtOrAfter", desc := "(I)I" } : Jvm.MethodName) prog_37_method_39_code (5 : Nat) (Option.some Jvm.ClassFile.FieldType.int)]
set_option maxRecDepth 65536 in
theorem codes_eq : words1.filter isCode = codes1 := rfl
theorem w_codes : ∀ c ∈ words1.filter isCode, c.before args0 about1 = true := by
  rw [codes_eq]
  intro c hc
  simp only [codes1, List.mem_cons, List.not_mem_nil, or_false] at hc
  rcases hc with rfl | rfl | rfl | rfl | rfl | rfl | rfl | rfl | rfl | rfl | rfl | rfl | rfl | rfl | rfl | rfl | rfl | rfl | rfl | rfl | rfl | rfl | rfl | rfl | rfl | rfl
  · exact w_c0
  · exact w_c1
  · exact w_c2
  · exact w_c3
  · exact w_c4
  · exact w_c5
  · exact w_c6
  · exact w_c7
  · exact w_c8
  · exact w_c9
  · exact w_c10
  · exact w_c11
  · exact w_c12
  · exact w_c13
  · exact w_c14
  · exact w_c15
  · exact w_c16
  · exact w_c17
  · exact w_c18
  · exact w_c19
  · exact w_c20
  · exact w_c21
  · exact w_c22
  · exact w_c23
  · exact w_c24
  · exact w_c25
set_option maxRecDepth 65536 in
theorem w_t1 : (words1.take 24).all (fun c => isCode c || c.before args0 about1) = true := by decide +kernel
set_option maxRecDepth 65536 in
theorem w_t2 : ((words1.drop 24).take 24).all (fun c => isCode c || c.before args0 about1) = true := by decide +kernel
set_option maxRecDepth 65536 in
theorem w_t3 : (((words1.drop 24).drop 24).take 24).all (fun c => isCode c || c.before args0 about1) = true := by decide +kernel
set_option maxRecDepth 65536 in
theorem w_t4 : ((((words1.drop 24).drop 24).drop 24).take 24).all (fun c => isCode c || c.before args0 about1) = true := by decide +kernel
set_option maxRecDepth 65536 in
theorem w_t5 : (((((words1.drop 24).drop 24).drop 24).drop 24).take 24).all (fun c => isCode c || c.before args0 about1) = true := by decide +kernel
set_option maxRecDepth 65536 in
theorem w_t6 : ((((((words1.drop 24).drop 24).drop 24).drop 24).drop 24).take 24).all (fun c => isCode c || c.before args0 about1) = true := by decide +kernel
set_option maxRecDepth 65536 in
theorem w_t7 : (((((((words1.drop 24).drop 24).drop 24).drop 24).drop 24).drop 24).take 24).all (fun c => isCode c || c.before args0 about1) = true := by decide +kernel
set_option maxRecDepth 65536 in
theorem w_t8 : ((((((((words1.drop 24).drop 24).drop 24).drop 24).drop 24).drop 24).drop 24).take 24).all (fun c => isCode c || c.before args0 about1) = true := by decide +kernel
set_option maxRecDepth 65536 in
theorem w_t9 : (((((((((words1.drop 24).drop 24).drop 24).drop 24).drop 24).drop 24).drop 24).drop 24).take 24).all (fun c => isCode c || c.before args0 about1) = true := by decide +kernel
set_option maxRecDepth 65536 in
theorem w_t10 : ((((((((((words1.drop 24).drop 24).drop 24).drop 24).drop 24).drop 24).drop 24).drop 24).drop 24).take 24).all (fun c => isCode c || c.before args0 about1) = true := by decide +kernel
set_option maxRecDepth 65536 in
theorem w_t11 : ((((((((((words1.drop 24).drop 24).drop 24).drop 24).drop 24).drop 24).drop 24).drop 24).drop 24).drop 24).all (fun c => isCode c || c.before args0 about1) = true := by decide +kernel
theorem w_tables : (allAtoms (Jvm.Cond.code x code maxLocals ret :: tables_1)).before args0 about1 = true := by
  rw [allAtoms_all]
  show words1.all (fun c => c.before args0 about1) = true
  refine all_split ?_ w_codes
  rw [← List.take_append_drop 24 words1, List.all_append, w_t1, ← List.take_append_drop 24 (words1.drop 24), List.all_append, w_t2, ← List.take_append_drop 24 ((words1.drop 24).drop 24), List.all_append, w_t3, ← List.take_append_drop 24 (((words1.drop 24).drop 24).drop 24), List.all_append, w_t4, ← List.take_append_drop 24 ((((words1.drop 24).drop 24).drop 24).drop 24), List.all_append, w_t5, ← List.take_append_drop 24 (((((words1.drop 24).drop 24).drop 24).drop 24).drop 24), List.all_append, w_t6, ← List.take_append_drop 24 ((((((words1.drop 24).drop 24).drop 24).drop 24).drop 24).drop 24), List.all_append, w_t7, ← List.take_append_drop 24 (((((((words1.drop 24).drop 24).drop 24).drop 24).drop 24).drop 24).drop 24), List.all_append, w_t8, ← List.take_append_drop 24 ((((((((words1.drop 24).drop 24).drop 24).drop 24).drop 24).drop 24).drop 24).drop 24), List.all_append, w_t9, ← List.take_append_drop 24 (((((((((words1.drop 24).drop 24).drop 24).drop 24).drop 24).drop 24).drop 24).drop 24).drop 24), List.all_append, w_t10, w_t11]
  rfl
set_option maxRecDepth 65536 in
theorem w_rest : rest_1_c.before args0 about1 = true := by decide +kernel
set_option maxRecDepth 65536 in
theorem w_case : (Jvm.Cond.and given_1 narrow_1).before args0 about1 = true := by decide +kernel
theorem w_applies : (headSpec (Jvm.Cond.code x code maxLocals ret :: tables_1) room_1).applies x e0.platform about1 = true :=
  (Spec.applies_iff w_frames).mpr ⟨w_running, w_runnable, w_alone, w_named, w_hears, w_ripe, w_room, w_tables⟩
theorem atStart : AtStart classFile x code maxLocals ret World_1 tables_1 room_1 Calls_1 rest_1 Pre_1 launch0 p0 e0 about1 theMethod args0 below0 :=
  ⟨lists_1, trivial, launch0.admits_env _ _ _, launch0.least_env, fairChoices_fair.cas, fairChoices_fair.clock, w_frames, w_args, w_heap, w_applies, trivial, w_rest, w_case⟩
end start1
theorem witness_1 : WitnessClaimed_1 := ⟨start1.p0, start1.e0, start1.about1, start1.theMethod, start1.args0, start1.below0, start1.atStart⟩
end Jvm.Pilot.@@N@@
