import JvmDerived
import JvmDerived.Pilot.@@N@@Statement
import JvmDerived.Pilot.@@N@@Code
set_option linter.unusedVariables false
set_option linter.unusedSimpArgs false
namespace Jvm.Pilot.@@N@@
open Jvm Jvm.ClassFile Sem Op Lib Jvm.Free Jvm.Stand Jvm.LawKit Jvm.RoadKit Bundle Jvm.Pilot.@@N@@.Jvm.D
section Own
variable {p : Program} {l : Launch} {e : Env} {R : Room} {s : State} {m : MethodId} {args : Array Value} {below : List Frame} {meth : Method} {c : Code} {T T' : State} {locs : List Loc} {cells slots kc ks : Nat} {g g' : JFrame} {Q : Option Value → Heap → List Loc → Prop}
/-- from here the run goes on to its return, with Q of what it returns, the heap and the places written -/
def own_Go (p : Program) (e : Env) (below : List Frame) (s T : State) (g : JFrame) (Q : Option Value → Heap → List Loc → Prop) (kc ks : Nat) : Prop :=
  ∃ s₂ o, Steps p.tables e below (T.setTop g) s₂ ∧ s₂.status = .running ∧ Ended s₂ below o ∧ ∃ v L, o = .returned v ∧ Q v s₂.heap L ∧ FrameEnd s o s₂ L kc ks
theorem own_st (st : ∀ t, Steps p.tables e below (T'.setTop g') t → Steps p.tables e below (T.setTop g) t) (k : own_Go p e below s T' g' Q kc ks) : own_Go p e below s T g Q kc ks := by
  obtain ⟨s₂, o, h1, h2⟩ := k
  exact ⟨s₂, o, st _ h1, h2⟩
theorem own_stt (st : Steps p.tables e below (T.setTop g) (T'.setTop g')) (k : own_Go p e below s T' g' Q kc ks) : own_Go p e below s T g Q kc ks := own_st (fun _ k => st.trans k) k
theorem own_cast (q : g = g') (k : own_Go p e below s T g' Q kc ks) : own_Go p e below s T g Q kc ks := q ▸ k
theorem own_retN (X : Stand p l e R s m args below meth c T locs cells slots) (hx : p.tables.exec = Jvm.exec) (hlk : meth.locks = false) {t : FieldType} (ht : t = .boolean ∨ t = .byte ∨ t = .char ∨ t = .short) (hret : meth.sig.returnType = some t)
    {pc : Nat} {Ls : Array Slot} {z : Int32} {rest : List Value} (hd : decode c.code pc = .ok (.ireturn, 1)) (hc : cells ≤ kc) (hs : slots ≤ ks) (hq : Q (some (.int (nar t z))) T.heap locs) :
    own_Go p e below s T (mkF m pc Ls (.int z :: rest)) Q kc ks := by
  obtain ⟨fs, hr, hrun, hended, hW, hsame⟩ := X.leave (v := some (.int (nar t z))) (fun h => by rw [hret] at h; cases h) hlk
  exact ⟨_, _, retN X hx hret ht hd hr, hrun, hended, _, _, rfl, hq, ⟨_, rfl⟩, hW, hsame.mono hc hs⟩
theorem own_retI (X : Stand p l e R s m args below meth c T locs cells slots) (hx : p.tables.exec = Jvm.exec) (hlk : meth.locks = false) (hret : meth.sig.returnType = some .int)
    {pc : Nat} {Ls : Array Slot} {z : Int32} {rest : List Value} (hd : decode c.code pc = .ok (.ireturn, 1)) (hc : cells ≤ kc) (hs : slots ≤ ks) (hq : Q (some (.int z)) T.heap locs) :
    own_Go p e below s T (mkF m pc Ls (.int z :: rest)) Q kc ks := by
  obtain ⟨fs, hr, hrun, hended, hW, hsame⟩ := X.leave (v := some (.int z)) (fun h => by rw [hret] at h; cases h) hlk
  exact ⟨_, _, retOut X hx hret rfl (Or.inl ⟨rfl, Or.inl rfl, _, rfl⟩) hd hr, hrun, hended, _, _, rfl, hq, ⟨_, rfl⟩, hW, hsame.mono hc hs⟩
theorem own_retJ (X : Stand p l e R s m args below meth c T locs cells slots) (hx : p.tables.exec = Jvm.exec) (hlk : meth.locks = false) (hret : meth.sig.returnType = some .long)
    {pc : Nat} {Ls : Array Slot} {z : Int64} {rest : List Value} (hd : decode c.code pc = .ok (.lreturn, 1)) (hc : cells ≤ kc) (hs : slots ≤ ks) (hq : Q (some (.long z)) T.heap locs) :
    own_Go p e below s T (mkF m pc Ls (.long z :: rest)) Q kc ks := by
  obtain ⟨fs, hr, hrun, hended, hW, hsame⟩ := X.leave (v := some (.long z)) (fun h => by rw [hret] at h; cases h) hlk
  exact ⟨_, _, retOut X hx hret rfl (Or.inr (Or.inl ⟨rfl, rfl, _, rfl⟩)) hd hr, hrun, hended, _, _, rfl, hq, ⟨_, rfl⟩, hW, hsame.mono hc hs⟩
theorem own_retV (X : Stand p l e R s m args below meth c T locs cells slots) (hx : p.tables.exec = Jvm.exec) (hlk : meth.locks = false) (hret : meth.sig.returnType = none)
    {pc : Nat} {Ls : Array Slot} (hd : decode c.code pc = .ok (.return_, 1)) (hc : cells ≤ kc) (hs : slots ≤ ks) (hq : Q none T.heap locs) :
    own_Go p e below s T (mkF m pc Ls []) Q kc ks := by
  obtain ⟨fs, hr, hrun, hended, hW, hsame⟩ := X.leave (v := none) (fun _ => rfl) hlk
  exact ⟨_, _, X.returnOut hx hret hd hr, hrun, hended, _, _, rfl, hq, ⟨_, rfl⟩, hW, hsame.mono hc hs⟩
end Own
/-- what a body that writes nothing leaves: its value, nothing old written, the heap as it was -/
def own_QP (w : Value) (h0 : Heap) (n0 : Nat) (v : Option Value) (h : Heap) (L : List Loc) : Prop := v = some w ∧ Fr n0 L ∧ h = h0
def own_Q0 (n0 : Nat) (v : Option Value) (h : Heap) (L : List Loc) : Prop := v = some (.int 1) ∧ Fr n0 L
theorem own_d1_0 : decode prog_174_method_3_code 0 = .ok (.iload_n 0, 1) := by decide +kernel
theorem own_d1_1 : decode prog_174_method_3_code 1 = .ok (.iconst 1, 1) := by decide +kernel
theorem own_d1_2 : decode prog_174_method_3_code 2 = .ok (.if_icmp .lt 31, 3) := by decide +kernel
theorem own_d1_5 : decode prog_174_method_3_code 5 = .ok (.iload_n 0, 1) := by decide +kernel
theorem own_d1_6 : decode prog_174_method_3_code 6 = .ok (.bipush 31, 2) := by decide +kernel
theorem own_d1_8 : decode prog_174_method_3_code 8 = .ok (.if_icmp .gt 25, 3) := by decide +kernel
theorem own_d1_11 : decode prog_174_method_3_code 11 = .ok (.iload_n 0, 1) := by decide +kernel
theorem own_d1_12 : decode prog_174_method_3_code 12 = .ok (.bipush 9, 2) := by decide +kernel
theorem own_d1_14 : decode prog_174_method_3_code 14 = .ok (.if_icmp .eq 19, 3) := by decide +kernel
theorem own_d1_17 : decode prog_174_method_3_code 17 = .ok (.iload_n 0, 1) := by decide +kernel
theorem own_d1_18 : decode prog_174_method_3_code 18 = .ok (.bipush 10, 2) := by decide +kernel
theorem own_d1_20 : decode prog_174_method_3_code 20 = .ok (.if_icmp .eq 13, 3) := by decide +kernel
theorem own_d1_23 : decode prog_174_method_3_code 23 = .ok (.iload_n 0, 1) := by decide +kernel
theorem own_d1_24 : decode prog_174_method_3_code 24 = .ok (.bipush 13, 2) := by decide +kernel
theorem own_d1_26 : decode prog_174_method_3_code 26 = .ok (.if_icmp .eq 7, 3) := by decide +kernel
theorem own_d1_29 : decode prog_174_method_3_code 29 = .ok (.iconst 1, 1) := by decide +kernel
theorem own_d1_30 : decode prog_174_method_3_code 30 = .ok (.goto 4, 3) := by decide +kernel
theorem own_d1_33 : decode prog_174_method_3_code 33 = .ok (.iconst 0, 1) := by decide +kernel
theorem own_d1_34 : decode prog_174_method_3_code 34 = .ok (.istore_n 1, 1) := by decide +kernel
theorem own_d1_35 : decode prog_174_method_3_code 35 = .ok (.iload_n 0, 1) := by decide +kernel
theorem own_d1_36 : decode prog_174_method_3_code 36 = .ok (.bipush 127, 2) := by decide +kernel
theorem own_d1_38 : decode prog_174_method_3_code 38 = .ok (.if_icmp .lt 21, 3) := by decide +kernel
theorem own_d1_41 : decode prog_174_method_3_code 41 = .ok (.iload_n 0, 1) := by decide +kernel
theorem own_d1_42 : decode prog_174_method_3_code 42 = .ok (.sipush 159, 3) := by decide +kernel
theorem own_d1_45 : decode prog_174_method_3_code 45 = .ok (.if_icmp .gt 14, 3) := by decide +kernel
theorem own_d1_48 : decode prog_174_method_3_code 48 = .ok (.iload_n 0, 1) := by decide +kernel
theorem own_d1_49 : decode prog_174_method_3_code 49 = .ok (.sipush 133, 3) := by decide +kernel
theorem own_d1_52 : decode prog_174_method_3_code 52 = .ok (.if_icmp .eq 7, 3) := by decide +kernel
theorem own_d1_55 : decode prog_174_method_3_code 55 = .ok (.iconst 1, 1) := by decide +kernel
theorem own_d1_56 : decode prog_174_method_3_code 56 = .ok (.goto 4, 3) := by decide +kernel
theorem own_d1_59 : decode prog_174_method_3_code 59 = .ok (.iconst 0, 1) := by decide +kernel
theorem own_d1_60 : decode prog_174_method_3_code 60 = .ok (.istore_n 2, 1) := by decide +kernel
theorem own_d1_61 : decode prog_174_method_3_code 61 = .ok (.iload_n 1, 1) := by decide +kernel
theorem own_d1_62 : decode prog_174_method_3_code 62 = .ok (.ifCond .ne 7, 3) := by decide +kernel
theorem own_d1_65 : decode prog_174_method_3_code 65 = .ok (.iload_n 2, 1) := by decide +kernel
theorem own_d1_66 : decode prog_174_method_3_code 66 = .ok (.ifCond .eq 7, 3) := by decide +kernel
theorem own_d1_69 : decode prog_174_method_3_code 69 = .ok (.iconst 1, 1) := by decide +kernel
theorem own_d1_70 : decode prog_174_method_3_code 70 = .ok (.goto 4, 3) := by decide +kernel
theorem own_d1_73 : decode prog_174_method_3_code 73 = .ok (.iconst 0, 1) := by decide +kernel
theorem own_d1_74 : decode prog_174_method_3_code 74 = .ok (.ireturn, 1) := by decide +kernel
theorem own_pn0 : plainName "com/example/flycatcher/flycatcher/xml/XmlChars" = true := by first | (simp [plainName, overriddenIn]; done) | decide +kernel
def own_f1_60 (x0 : Int32) (x1 : Int32) (y0 : Int32) : Int32 := (if x1 = (0 : Int32) then (if y0 = (0 : Int32) then (0 : Int32) else (1 : Int32)) else (1 : Int32))
set_option maxRecDepth 65536 in
set_option maxHeartbeats 4000000 in
theorem own_b1_60 {p : Program} {l : Launch} {e : Env} {s : State} {m : MethodId} {args : Array Value} {below : List Frame} {meth : Method} {c : Code} {T : State} {locs : List Loc} {cells slots kc ks : Nat} {Z : State} {a0 : Array Value} {h0 : Heap} {n0 : Nat} (X0 : Stand p l e ({ frames := 0, cells := 0, slots := 0, locals := 0 } : Room) s m args below meth c T locs cells slots) (hx : p.tables.exec = Jvm.exec) (hlk : meth.locks = false) (hby : c.code = prog_174_method_3_code) (hml : c.maxLocals = 3) (hret : meth.sig.returnType = some .boolean) (hown : s.vm.findClass "com/example/flycatcher/flycatcher/xml/XmlChars" = some m.cls) (hZ : Z.Warmed39 s.vm) (hw : ∀ d ∈ tables_1, d.before a0 Z = true) (e0 : T.heap = h0) (N0 : Fr n0 locs) (hcs : cells ≤ kc) (hss : slots ≤ ks) (x0 : Int32) (x1 : Int32) (y0 : Int32) :
    own_Go p e below s T (mkF m 60 #[.val (.int x0), .val (.int x1), .unset] [(.int y0)]) (own_QP (.int (nar .boolean (own_f1_60 x0 x1 y0))) h0 n0) kc ks := by
  unfold own_f1_60
  refine own_st (g' := (mkF m 61 #[.val (.int x0), .val (.int x1), .val (.int y0)] [])) (fun t k => XS.istoreN X0.here hx rfl (hb hby own_d1_60) rfl (l' := #[.val (.int x0), .val (.int x1), .val (.int y0)]) rfl k) ?_
  refine own_st (g' := (mkF m 62 #[.val (.int x0), .val (.int x1), .val (.int y0)] [(.int x1)])) (fun t k => XS.iloadN X0.here hx rfl (hb hby own_d1_61) rfl k) ?_
  by_cases hc62 : x1 = (0 : Int32)
  · rw [if_pos hc62]
    refine own_st (g' := (mkF m 65 #[.val (.int x0), .val (.int x1), .val (.int y0)] [])) (fun t k => XS.ifNo X0.here hx rfl (hb hby own_d1_62) rfl ((if0 _ _).trans (teq hc62).2) k) ?_
    refine own_st (g' := (mkF m 66 #[.val (.int x0), .val (.int x1), .val (.int y0)] [(.int y0)])) (fun t k => XS.iloadN X0.here hx rfl (hb hby own_d1_65) rfl k) ?_
    by_cases hc66 : y0 = (0 : Int32)
    · rw [if_pos hc66]
      refine own_st (g' := (mkF m 73 #[.val (.int x0), .val (.int x1), .val (.int y0)] [])) (fun t k => XS.ifYes X0.here hx rfl (pc0 := 66) (pc' := 73) rfl (hb hby own_d1_66) rfl ((if0 _ _).trans (teq hc66).1) (by decide) (by decide) k) ?_
      refine own_st (g' := (mkF m 74 #[.val (.int x0), .val (.int x1), .val (.int y0)] [(.int (0 : Int32))])) (fun t k => XS.iconst X0.here hx rfl (hb hby own_d1_73) k) ?_
      exact own_retN X0 hx hlk (t := .boolean) (Or.inl rfl) hret (hb hby own_d1_74) hcs hss ⟨rfl, N0, e0⟩
    rw [if_neg hc66]
    refine own_st (g' := (mkF m 69 #[.val (.int x0), .val (.int x1), .val (.int y0)] [])) (fun t k => XS.ifNo X0.here hx rfl (hb hby own_d1_66) rfl ((if0 _ _).trans (feq hc66).1) k) ?_
    refine own_st (g' := (mkF m 70 #[.val (.int x0), .val (.int x1), .val (.int y0)] [(.int (1 : Int32))])) (fun t k => XS.iconst X0.here hx rfl (hb hby own_d1_69) k) ?_
    refine own_st (g' := (mkF m 74 #[.val (.int x0), .val (.int x1), .val (.int y0)] [(.int (1 : Int32))])) (fun t k => XS.goto X0.here hx rfl (pc0 := 70) (pc' := 74) rfl (hb hby own_d1_70) (by decide) (by decide) k) ?_
    exact own_retN X0 hx hlk (t := .boolean) (Or.inl rfl) hret (hb hby own_d1_74) hcs hss ⟨rfl, N0, e0⟩
  rw [if_neg hc62]
  refine own_st (g' := (mkF m 69 #[.val (.int x0), .val (.int x1), .val (.int y0)] [])) (fun t k => XS.ifYes X0.here hx rfl (pc0 := 62) (pc' := 69) rfl (hb hby own_d1_62) rfl ((if0 _ _).trans (feq hc62).2) (by decide) (by decide) k) ?_
  refine own_st (g' := (mkF m 70 #[.val (.int x0), .val (.int x1), .val (.int y0)] [(.int (1 : Int32))])) (fun t k => XS.iconst X0.here hx rfl (hb hby own_d1_69) k) ?_
  refine own_st (g' := (mkF m 74 #[.val (.int x0), .val (.int x1), .val (.int y0)] [(.int (1 : Int32))])) (fun t k => XS.goto X0.here hx rfl (pc0 := 70) (pc' := 74) rfl (hb hby own_d1_70) (by decide) (by decide) k) ?_
  exact own_retN X0 hx hlk (t := .boolean) (Or.inl rfl) hret (hb hby own_d1_74) hcs hss ⟨rfl, N0, e0⟩
def own_f1_59 (x0 : Int32) (x1 : Int32) : Int32 := (own_f1_60 x0 x1 (0 : Int32))
set_option maxRecDepth 65536 in
set_option maxHeartbeats 4000000 in
theorem own_b1_59 {p : Program} {l : Launch} {e : Env} {s : State} {m : MethodId} {args : Array Value} {below : List Frame} {meth : Method} {c : Code} {T : State} {locs : List Loc} {cells slots kc ks : Nat} {Z : State} {a0 : Array Value} {h0 : Heap} {n0 : Nat} (X0 : Stand p l e ({ frames := 0, cells := 0, slots := 0, locals := 0 } : Room) s m args below meth c T locs cells slots) (hx : p.tables.exec = Jvm.exec) (hlk : meth.locks = false) (hby : c.code = prog_174_method_3_code) (hml : c.maxLocals = 3) (hret : meth.sig.returnType = some .boolean) (hown : s.vm.findClass "com/example/flycatcher/flycatcher/xml/XmlChars" = some m.cls) (hZ : Z.Warmed39 s.vm) (hw : ∀ d ∈ tables_1, d.before a0 Z = true) (e0 : T.heap = h0) (N0 : Fr n0 locs) (hcs : cells ≤ kc) (hss : slots ≤ ks) (x0 : Int32) (x1 : Int32) :
    own_Go p e below s T (mkF m 59 #[.val (.int x0), .val (.int x1), .unset] []) (own_QP (.int (nar .boolean (own_f1_59 x0 x1))) h0 n0) kc ks := by
  unfold own_f1_59
  refine own_st (g' := (mkF m 60 #[.val (.int x0), .val (.int x1), .unset] [(.int (0 : Int32))])) (fun t k => XS.iconst X0.here hx rfl (hb hby own_d1_59) k) ?_
  exact own_b1_60 X0 hx hlk hby hml hret hown hZ hw e0 N0 hcs hss x0 x1 (0 : Int32)
def own_f1_34 (x0 : Int32) (y0 : Int32) : Int32 := (if x0 < (127 : Int32) then (own_f1_59 x0 y0) else (if (159 : Int32) < x0 then (own_f1_59 x0 y0) else (if x0 = (133 : Int32) then (own_f1_59 x0 y0) else (own_f1_60 x0 y0 (1 : Int32)))))
set_option maxRecDepth 65536 in
set_option maxHeartbeats 4000000 in
theorem own_b1_34 {p : Program} {l : Launch} {e : Env} {s : State} {m : MethodId} {args : Array Value} {below : List Frame} {meth : Method} {c : Code} {T : State} {locs : List Loc} {cells slots kc ks : Nat} {Z : State} {a0 : Array Value} {h0 : Heap} {n0 : Nat} (X0 : Stand p l e ({ frames := 0, cells := 0, slots := 0, locals := 0 } : Room) s m args below meth c T locs cells slots) (hx : p.tables.exec = Jvm.exec) (hlk : meth.locks = false) (hby : c.code = prog_174_method_3_code) (hml : c.maxLocals = 3) (hret : meth.sig.returnType = some .boolean) (hown : s.vm.findClass "com/example/flycatcher/flycatcher/xml/XmlChars" = some m.cls) (hZ : Z.Warmed39 s.vm) (hw : ∀ d ∈ tables_1, d.before a0 Z = true) (e0 : T.heap = h0) (N0 : Fr n0 locs) (hcs : cells ≤ kc) (hss : slots ≤ ks) (x0 : Int32) (y0 : Int32) :
    own_Go p e below s T (mkF m 34 #[.val (.int x0), .unset, .unset] [(.int y0)]) (own_QP (.int (nar .boolean (own_f1_34 x0 y0))) h0 n0) kc ks := by
  unfold own_f1_34
  refine own_st (g' := (mkF m 35 #[.val (.int x0), .val (.int y0), .unset] [])) (fun t k => XS.istoreN X0.here hx rfl (hb hby own_d1_34) rfl (l' := #[.val (.int x0), .val (.int y0), .unset]) rfl k) ?_
  refine own_st (g' := (mkF m 36 #[.val (.int x0), .val (.int y0), .unset] [(.int x0)])) (fun t k => XS.iloadN X0.here hx rfl (hb hby own_d1_35) rfl k) ?_
  refine own_st (g' := (mkF m 38 #[.val (.int x0), .val (.int y0), .unset] [(.int (127 : Int32)), (.int x0)])) (fun t k => XS.bipush X0.here hx rfl (hb hby own_d1_36) k) ?_
  by_cases hc38 : x0 < (127 : Int32)
  · rw [if_pos hc38]
    refine own_st (g' := (mkF m 59 #[.val (.int x0), .val (.int y0), .unset] [])) (fun t k => XS.icmpYes X0.here hx rfl (pc0 := 38) (pc' := 59) rfl (hb hby own_d1_38) rfl (tlt hc38).1 (by decide) (by decide) k) ?_
    exact own_b1_59 X0 hx hlk hby hml hret hown hZ hw e0 N0 hcs hss x0 y0
  rw [if_neg hc38]
  refine own_st (g' := (mkF m 41 #[.val (.int x0), .val (.int y0), .unset] [])) (fun t k => XS.icmpNo X0.here hx rfl (hb hby own_d1_38) rfl (flt hc38).1 k) ?_
  refine own_st (g' := (mkF m 42 #[.val (.int x0), .val (.int y0), .unset] [(.int x0)])) (fun t k => XS.iloadN X0.here hx rfl (hb hby own_d1_41) rfl k) ?_
  refine own_st (g' := (mkF m 45 #[.val (.int x0), .val (.int y0), .unset] [(.int (159 : Int32)), (.int x0)])) (fun t k => XS.sipush X0.here hx rfl (hb hby own_d1_42) k) ?_
  by_cases hc45 : (159 : Int32) < x0
  · rw [if_pos hc45]
    refine own_st (g' := (mkF m 59 #[.val (.int x0), .val (.int y0), .unset] [])) (fun t k => XS.icmpYes X0.here hx rfl (pc0 := 45) (pc' := 59) rfl (hb hby own_d1_45) rfl (tlt hc45).2.2.1 (by decide) (by decide) k) ?_
    exact own_b1_59 X0 hx hlk hby hml hret hown hZ hw e0 N0 hcs hss x0 y0
  rw [if_neg hc45]
  refine own_st (g' := (mkF m 48 #[.val (.int x0), .val (.int y0), .unset] [])) (fun t k => XS.icmpNo X0.here hx rfl (hb hby own_d1_45) rfl (flt hc45).2.2.1 k) ?_
  refine own_st (g' := (mkF m 49 #[.val (.int x0), .val (.int y0), .unset] [(.int x0)])) (fun t k => XS.iloadN X0.here hx rfl (hb hby own_d1_48) rfl k) ?_
  refine own_st (g' := (mkF m 52 #[.val (.int x0), .val (.int y0), .unset] [(.int (133 : Int32)), (.int x0)])) (fun t k => XS.sipush X0.here hx rfl (hb hby own_d1_49) k) ?_
  by_cases hc52 : x0 = (133 : Int32)
  · rw [if_pos hc52]
    refine own_st (g' := (mkF m 59 #[.val (.int x0), .val (.int y0), .unset] [])) (fun t k => XS.icmpYes X0.here hx rfl (pc0 := 52) (pc' := 59) rfl (hb hby own_d1_52) rfl (teq hc52).1 (by decide) (by decide) k) ?_
    exact own_b1_59 X0 hx hlk hby hml hret hown hZ hw e0 N0 hcs hss x0 y0
  rw [if_neg hc52]
  refine own_st (g' := (mkF m 55 #[.val (.int x0), .val (.int y0), .unset] [])) (fun t k => XS.icmpNo X0.here hx rfl (hb hby own_d1_52) rfl (feq hc52).1 k) ?_
  refine own_st (g' := (mkF m 56 #[.val (.int x0), .val (.int y0), .unset] [(.int (1 : Int32))])) (fun t k => XS.iconst X0.here hx rfl (hb hby own_d1_55) k) ?_
  refine own_st (g' := (mkF m 60 #[.val (.int x0), .val (.int y0), .unset] [(.int (1 : Int32))])) (fun t k => XS.goto X0.here hx rfl (pc0 := 56) (pc' := 60) rfl (hb hby own_d1_56) (by decide) (by decide) k) ?_
  exact own_b1_60 X0 hx hlk hby hml hret hown hZ hw e0 N0 hcs hss x0 y0 (1 : Int32)
def own_f1_33 (x0 : Int32) : Int32 := (own_f1_34 x0 (0 : Int32))
set_option maxRecDepth 65536 in
set_option maxHeartbeats 4000000 in
theorem own_b1_33 {p : Program} {l : Launch} {e : Env} {s : State} {m : MethodId} {args : Array Value} {below : List Frame} {meth : Method} {c : Code} {T : State} {locs : List Loc} {cells slots kc ks : Nat} {Z : State} {a0 : Array Value} {h0 : Heap} {n0 : Nat} (X0 : Stand p l e ({ frames := 0, cells := 0, slots := 0, locals := 0 } : Room) s m args below meth c T locs cells slots) (hx : p.tables.exec = Jvm.exec) (hlk : meth.locks = false) (hby : c.code = prog_174_method_3_code) (hml : c.maxLocals = 3) (hret : meth.sig.returnType = some .boolean) (hown : s.vm.findClass "com/example/flycatcher/flycatcher/xml/XmlChars" = some m.cls) (hZ : Z.Warmed39 s.vm) (hw : ∀ d ∈ tables_1, d.before a0 Z = true) (e0 : T.heap = h0) (N0 : Fr n0 locs) (hcs : cells ≤ kc) (hss : slots ≤ ks) (x0 : Int32) :
    own_Go p e below s T (mkF m 33 #[.val (.int x0), .unset, .unset] []) (own_QP (.int (nar .boolean (own_f1_33 x0))) h0 n0) kc ks := by
  unfold own_f1_33
  refine own_st (g' := (mkF m 34 #[.val (.int x0), .unset, .unset] [(.int (0 : Int32))])) (fun t k => XS.iconst X0.here hx rfl (hb hby own_d1_33) k) ?_
  exact own_b1_34 X0 hx hlk hby hml hret hown hZ hw e0 N0 hcs hss x0 (0 : Int32)
def own_f1_0 (x0 : Int32) : Int32 := (if x0 < (1 : Int32) then (own_f1_33 x0) else (if (31 : Int32) < x0 then (own_f1_33 x0) else (if x0 = (9 : Int32) then (own_f1_33 x0) else (if x0 = (10 : Int32) then (own_f1_33 x0) else (if x0 = (13 : Int32) then (own_f1_33 x0) else (own_f1_34 x0 (1 : Int32)))))))
set_option maxRecDepth 65536 in
set_option maxHeartbeats 4000000 in
theorem own_b1_0 {p : Program} {l : Launch} {e : Env} {s : State} {m : MethodId} {args : Array Value} {below : List Frame} {meth : Method} {c : Code} {T : State} {locs : List Loc} {cells slots kc ks : Nat} {Z : State} {a0 : Array Value} {h0 : Heap} {n0 : Nat} (X0 : Stand p l e ({ frames := 0, cells := 0, slots := 0, locals := 0 } : Room) s m args below meth c T locs cells slots) (hx : p.tables.exec = Jvm.exec) (hlk : meth.locks = false) (hby : c.code = prog_174_method_3_code) (hml : c.maxLocals = 3) (hret : meth.sig.returnType = some .boolean) (hown : s.vm.findClass "com/example/flycatcher/flycatcher/xml/XmlChars" = some m.cls) (hZ : Z.Warmed39 s.vm) (hw : ∀ d ∈ tables_1, d.before a0 Z = true) (e0 : T.heap = h0) (N0 : Fr n0 locs) (hcs : cells ≤ kc) (hss : slots ≤ ks) (x0 : Int32) :
    own_Go p e below s T (mkF m 0 #[.val (.int x0), .unset, .unset] []) (own_QP (.int (nar .boolean (own_f1_0 x0))) h0 n0) kc ks := by
  unfold own_f1_0
  refine own_st (g' := (mkF m 1 #[.val (.int x0), .unset, .unset] [(.int x0)])) (fun t k => XS.iloadN X0.here hx rfl (hb hby own_d1_0) rfl k) ?_
  refine own_st (g' := (mkF m 2 #[.val (.int x0), .unset, .unset] [(.int (1 : Int32)), (.int x0)])) (fun t k => XS.iconst X0.here hx rfl (hb hby own_d1_1) k) ?_
  by_cases hc2 : x0 < (1 : Int32)
  · rw [if_pos hc2]
    refine own_st (g' := (mkF m 33 #[.val (.int x0), .unset, .unset] [])) (fun t k => XS.icmpYes X0.here hx rfl (pc0 := 2) (pc' := 33) rfl (hb hby own_d1_2) rfl (tlt hc2).1 (by decide) (by decide) k) ?_
    exact own_b1_33 X0 hx hlk hby hml hret hown hZ hw e0 N0 hcs hss x0
  rw [if_neg hc2]
  refine own_st (g' := (mkF m 5 #[.val (.int x0), .unset, .unset] [])) (fun t k => XS.icmpNo X0.here hx rfl (hb hby own_d1_2) rfl (flt hc2).1 k) ?_
  refine own_st (g' := (mkF m 6 #[.val (.int x0), .unset, .unset] [(.int x0)])) (fun t k => XS.iloadN X0.here hx rfl (hb hby own_d1_5) rfl k) ?_
  refine own_st (g' := (mkF m 8 #[.val (.int x0), .unset, .unset] [(.int (31 : Int32)), (.int x0)])) (fun t k => XS.bipush X0.here hx rfl (hb hby own_d1_6) k) ?_
  by_cases hc8 : (31 : Int32) < x0
  · rw [if_pos hc8]
    refine own_st (g' := (mkF m 33 #[.val (.int x0), .unset, .unset] [])) (fun t k => XS.icmpYes X0.here hx rfl (pc0 := 8) (pc' := 33) rfl (hb hby own_d1_8) rfl (tlt hc8).2.2.1 (by decide) (by decide) k) ?_
    exact own_b1_33 X0 hx hlk hby hml hret hown hZ hw e0 N0 hcs hss x0
  rw [if_neg hc8]
  refine own_st (g' := (mkF m 11 #[.val (.int x0), .unset, .unset] [])) (fun t k => XS.icmpNo X0.here hx rfl (hb hby own_d1_8) rfl (flt hc8).2.2.1 k) ?_
  refine own_st (g' := (mkF m 12 #[.val (.int x0), .unset, .unset] [(.int x0)])) (fun t k => XS.iloadN X0.here hx rfl (hb hby own_d1_11) rfl k) ?_
  refine own_st (g' := (mkF m 14 #[.val (.int x0), .unset, .unset] [(.int (9 : Int32)), (.int x0)])) (fun t k => XS.bipush X0.here hx rfl (hb hby own_d1_12) k) ?_
  by_cases hc14 : x0 = (9 : Int32)
  · rw [if_pos hc14]
    refine own_st (g' := (mkF m 33 #[.val (.int x0), .unset, .unset] [])) (fun t k => XS.icmpYes X0.here hx rfl (pc0 := 14) (pc' := 33) rfl (hb hby own_d1_14) rfl (teq hc14).1 (by decide) (by decide) k) ?_
    exact own_b1_33 X0 hx hlk hby hml hret hown hZ hw e0 N0 hcs hss x0
  rw [if_neg hc14]
  refine own_st (g' := (mkF m 17 #[.val (.int x0), .unset, .unset] [])) (fun t k => XS.icmpNo X0.here hx rfl (hb hby own_d1_14) rfl (feq hc14).1 k) ?_
  refine own_st (g' := (mkF m 18 #[.val (.int x0), .unset, .unset] [(.int x0)])) (fun t k => XS.iloadN X0.here hx rfl (hb hby own_d1_17) rfl k) ?_
  refine own_st (g' := (mkF m 20 #[.val (.int x0), .unset, .unset] [(.int (10 : Int32)), (.int x0)])) (fun t k => XS.bipush X0.here hx rfl (hb hby own_d1_18) k) ?_
  by_cases hc20 : x0 = (10 : Int32)
  · rw [if_pos hc20]
    refine own_st (g' := (mkF m 33 #[.val (.int x0), .unset, .unset] [])) (fun t k => XS.icmpYes X0.here hx rfl (pc0 := 20) (pc' := 33) rfl (hb hby own_d1_20) rfl (teq hc20).1 (by decide) (by decide) k) ?_
    exact own_b1_33 X0 hx hlk hby hml hret hown hZ hw e0 N0 hcs hss x0
  rw [if_neg hc20]
  refine own_st (g' := (mkF m 23 #[.val (.int x0), .unset, .unset] [])) (fun t k => XS.icmpNo X0.here hx rfl (hb hby own_d1_20) rfl (feq hc20).1 k) ?_
  refine own_st (g' := (mkF m 24 #[.val (.int x0), .unset, .unset] [(.int x0)])) (fun t k => XS.iloadN X0.here hx rfl (hb hby own_d1_23) rfl k) ?_
  refine own_st (g' := (mkF m 26 #[.val (.int x0), .unset, .unset] [(.int (13 : Int32)), (.int x0)])) (fun t k => XS.bipush X0.here hx rfl (hb hby own_d1_24) k) ?_
  by_cases hc26 : x0 = (13 : Int32)
  · rw [if_pos hc26]
    refine own_st (g' := (mkF m 33 #[.val (.int x0), .unset, .unset] [])) (fun t k => XS.icmpYes X0.here hx rfl (pc0 := 26) (pc' := 33) rfl (hb hby own_d1_26) rfl (teq hc26).1 (by decide) (by decide) k) ?_
    exact own_b1_33 X0 hx hlk hby hml hret hown hZ hw e0 N0 hcs hss x0
  rw [if_neg hc26]
  refine own_st (g' := (mkF m 29 #[.val (.int x0), .unset, .unset] [])) (fun t k => XS.icmpNo X0.here hx rfl (hb hby own_d1_26) rfl (feq hc26).1 k) ?_
  refine own_st (g' := (mkF m 30 #[.val (.int x0), .unset, .unset] [(.int (1 : Int32))])) (fun t k => XS.iconst X0.here hx rfl (hb hby own_d1_29) k) ?_
  refine own_st (g' := (mkF m 34 #[.val (.int x0), .unset, .unset] [(.int (1 : Int32))])) (fun t k => XS.goto X0.here hx rfl (pc0 := 30) (pc' := 34) rfl (hb hby own_d1_30) (by decide) (by decide) k) ?_
  exact own_b1_34 X0 hx hlk hby hml hret hown hZ hw e0 N0 hcs hss x0 (1 : Int32)
theorem own_ef1 (m : MethodId) (x0 : Int32) : entryFrame m #[(.int x0)] 3 = mkF m 0 #[.val (.int x0), .unset, .unset] [] := by first | (simp [entryFrame, mkF, argsToLocals, Value.category]; done) | rfl
set_option maxRecDepth 65536 in
set_option maxHeartbeats 4000000 in
theorem own_rm1 (l : Launch) (Z : State) (a0 : Array Value) (hw : ∀ d ∈ tables_1, d.before a0 Z = true) (ws : List Jvm.Cond) (x0 : Int32) (h0 : Heap) (n0 : Nat) :
    MetFree l (⟨"com/example/flycatcher/flycatcher/xml/XmlChars", "isRestrictedChar", "(I)Z"⟩ : MethodName) (head1 (Jvm.Cond.code (⟨"com/example/flycatcher/flycatcher/xml/XmlChars", "isRestrictedChar", "(I)Z"⟩ : MethodName) prog_174_method_3_code 3 (some .boolean) :: ws) ({ frames := 0, cells := 0, slots := 0, locals := 0 } : Room)) (fun a U => a = #[(.int x0)] ∧ Z.Warmed39 U.vm ∧ U.heap = h0) (fun _ _ _ _ _ => True) (fun _ U o U' => ∃ v L, o = .returned v ∧ own_QP (.int (nar .boolean (own_f1_0 x0))) h0 n0 v U'.heap L ∧ FrameEnd U o U' L ({ frames := 0, cells := 0, slots := 0, locals := 0 } : Room).cells ({ frames := 0, cells := 0, slots := 0, locals := 0 } : Room).slots) := by
  refine MetFree.of_bodySF (plainFor_of_name own_pn0) hisR ?_
  intro p e s m args below meth c s₁ Bd hml0 hP hK
  obtain ⟨rfl, hZ, hh⟩ := hP
  have X0 : Stand p l e ({ frames := 0, cells := 0, slots := 0, locals := 0 } : Room) s m #[(.int x0)] below meth c s₁ [] 0 0 := Stand.of_body Bd
  have e0 : s₁.heap = h0 := by rw [← hh, Bd.state]; rfl
  refine own_cast (own_ef1 m x0) ?_
  exact own_b1_0 X0 Bd.exec Bd.notSynchronized Bd.bytes hml0 Bd.returns (findClass_of_methodNamed Bd.named) hZ hw e0 (Fr.nil n0) (by decide) (by decide) x0
theorem own_d2_0 : decode method_2_code 0 = .ok (.iload_n 0, 1) := by decide +kernel
theorem own_d2_1 : decode method_2_code 1 = .ok (.ifCond .lt 25, 3) := by decide +kernel
theorem own_d2_4 : decode method_2_code 4 = .ok (.iload_n 0, 1) := by decide +kernel
theorem own_d2_5 : decode method_2_code 5 = .ok (.bipush 32, 2) := by decide +kernel
theorem own_d2_7 : decode method_2_code 7 = .ok (.if_icmp .ge 19, 3) := by decide +kernel
theorem own_d2_10 : decode method_2_code 10 = .ok (.sipush (-9730), 3) := by decide +kernel
theorem own_d2_13 : decode method_2_code 13 = .ok (.iload_n 0, 1) := by decide +kernel
theorem own_d2_14 : decode method_2_code 14 = .ok (.iushr, 1) := by decide +kernel
theorem own_d2_15 : decode method_2_code 15 = .ok (.iconst 1, 1) := by decide +kernel
theorem own_d2_16 : decode method_2_code 16 = .ok (.iand, 1) := by decide +kernel
theorem own_d2_17 : decode method_2_code 17 = .ok (.ifCond .eq 7, 3) := by decide +kernel
theorem own_d2_20 : decode method_2_code 20 = .ok (.iconst 1, 1) := by decide +kernel
theorem own_d2_21 : decode method_2_code 21 = .ok (.goto 4, 3) := by decide +kernel
theorem own_d2_24 : decode method_2_code 24 = .ok (.iconst 0, 1) := by decide +kernel
theorem own_d2_25 : decode method_2_code 25 = .ok (.ireturn, 1) := by decide +kernel
theorem own_d2_26 : decode method_2_code 26 = .ok (.iload_n 0, 1) := by decide +kernel
theorem own_d2_27 : decode method_2_code 27 = .ok (.bipush 127, 2) := by decide +kernel
theorem own_d2_29 : decode method_2_code 29 = .ok (.if_icmp .lt 31, 3) := by decide +kernel
theorem own_d2_32 : decode method_2_code 32 = .ok (.iload_n 0, 1) := by decide +kernel
theorem own_d2_33 : decode method_2_code 33 = .ok (.sipush 159, 3) := by decide +kernel
theorem own_d2_36 : decode method_2_code 36 = .ok (.if_icmp .gt 24, 3) := by decide +kernel
theorem own_d2_39 : decode method_2_code 39 = .ok (.ldc2_w 9, 3) := by decide +kernel
theorem own_d2_42 : decode method_2_code 42 = .ok (.iload_n 0, 1) := by decide +kernel
theorem own_d2_43 : decode method_2_code 43 = .ok (.bipush 127, 2) := by decide +kernel
theorem own_d2_45 : decode method_2_code 45 = .ok (.isub, 1) := by decide +kernel
theorem own_d2_46 : decode method_2_code 46 = .ok (.lushr, 1) := by decide +kernel
theorem own_d2_47 : decode method_2_code 47 = .ok (.lconst 1, 1) := by decide +kernel
theorem own_d2_48 : decode method_2_code 48 = .ok (.land, 1) := by decide +kernel
theorem own_d2_49 : decode method_2_code 49 = .ok (.lconst 0, 1) := by decide +kernel
theorem own_d2_50 : decode method_2_code 50 = .ok (.lcmp, 1) := by decide +kernel
theorem own_d2_51 : decode method_2_code 51 = .ok (.ifCond .eq 7, 3) := by decide +kernel
theorem own_d2_54 : decode method_2_code 54 = .ok (.iconst 1, 1) := by decide +kernel
theorem own_d2_55 : decode method_2_code 55 = .ok (.goto 4, 3) := by decide +kernel
theorem own_d2_58 : decode method_2_code 58 = .ok (.iconst 0, 1) := by decide +kernel
theorem own_d2_59 : decode method_2_code 59 = .ok (.ireturn, 1) := by decide +kernel
theorem own_d2_60 : decode method_2_code 60 = .ok (.iconst 0, 1) := by decide +kernel
theorem own_d2_61 : decode method_2_code 61 = .ok (.ireturn, 1) := by decide +kernel
theorem own_pn1 : plainName "com/example/flycatcher/flycatcher/xml/XmlCharsIsRestrictedCharPinLaw" = true := by first | (simp [plainName, overriddenIn]; done) | decide +kernel
def own_f2_26 (x0 : Int32) : Int32 := (if x0 < (127 : Int32) then (0 : Int32) else (if (159 : Int32) < x0 then (0 : Int32) else (if (lcmpW ((((8589934527 : Int64).toUInt64 >>> ((x0 - (127 : Int32)) &&& 0x3f).toInt64.toUInt64).toInt64) &&& (1 : Int64)) (0 : Int64)) = (0 : Int32) then (0 : Int32) else (1 : Int32))))
set_option maxRecDepth 65536 in
set_option maxHeartbeats 4000000 in
theorem own_b2_26 {p : Program} {l : Launch} {e : Env} {s : State} {m : MethodId} {args : Array Value} {below : List Frame} {meth : Method} {c : Code} {T : State} {locs : List Loc} {cells slots kc ks : Nat} {Z : State} {a0 : Array Value} {h0 : Heap} {n0 : Nat} (X0 : Stand p l e ({ frames := 0, cells := 0, slots := 0, locals := 0 } : Room) s m args below meth c T locs cells slots) (hx : p.tables.exec = Jvm.exec) (hlk : meth.locks = false) (hby : c.code = method_2_code) (hml : c.maxLocals = 1) (hret : meth.sig.returnType = some .boolean) (hown : s.vm.findClass "com/example/flycatcher/flycatcher/xml/XmlCharsIsRestrictedCharPinLaw" = some m.cls) (hZ : Z.Warmed39 s.vm) (hw : ∀ d ∈ tables_1, d.before a0 Z = true) (e0 : T.heap = h0) (N0 : Fr n0 locs) (hcs : cells ≤ kc) (hss : slots ≤ ks) (x0 : Int32) :
    own_Go p e below s T (mkF m 26 #[.val (.int x0)] []) (own_QP (.int (nar .boolean (own_f2_26 x0))) h0 n0) kc ks := by
  unfold own_f2_26
  refine own_st (g' := (mkF m 27 #[.val (.int x0)] [(.int x0)])) (fun t k => XS.iloadN X0.here hx rfl (hb hby own_d2_26) rfl k) ?_
  refine own_st (g' := (mkF m 29 #[.val (.int x0)] [(.int (127 : Int32)), (.int x0)])) (fun t k => XS.bipush X0.here hx rfl (hb hby own_d2_27) k) ?_
  by_cases hc29 : x0 < (127 : Int32)
  · rw [if_pos hc29]
    refine own_st (g' := (mkF m 60 #[.val (.int x0)] [])) (fun t k => XS.icmpYes X0.here hx rfl (pc0 := 29) (pc' := 60) rfl (hb hby own_d2_29) rfl (tlt hc29).1 (by decide) (by decide) k) ?_
    refine own_st (g' := (mkF m 61 #[.val (.int x0)] [(.int (0 : Int32))])) (fun t k => XS.iconst X0.here hx rfl (hb hby own_d2_60) k) ?_
    exact own_retN X0 hx hlk (t := .boolean) (Or.inl rfl) hret (hb hby own_d2_61) hcs hss ⟨rfl, N0, e0⟩
  rw [if_neg hc29]
  refine own_st (g' := (mkF m 32 #[.val (.int x0)] [])) (fun t k => XS.icmpNo X0.here hx rfl (hb hby own_d2_29) rfl (flt hc29).1 k) ?_
  refine own_st (g' := (mkF m 33 #[.val (.int x0)] [(.int x0)])) (fun t k => XS.iloadN X0.here hx rfl (hb hby own_d2_32) rfl k) ?_
  refine own_st (g' := (mkF m 36 #[.val (.int x0)] [(.int (159 : Int32)), (.int x0)])) (fun t k => XS.sipush X0.here hx rfl (hb hby own_d2_33) k) ?_
  by_cases hc36 : (159 : Int32) < x0
  · rw [if_pos hc36]
    refine own_st (g' := (mkF m 60 #[.val (.int x0)] [])) (fun t k => XS.icmpYes X0.here hx rfl (pc0 := 36) (pc' := 60) rfl (hb hby own_d2_36) rfl (tlt hc36).2.2.1 (by decide) (by decide) k) ?_
    refine own_st (g' := (mkF m 61 #[.val (.int x0)] [(.int (0 : Int32))])) (fun t k => XS.iconst X0.here hx rfl (hb hby own_d2_60) k) ?_
    exact own_retN X0 hx hlk (t := .boolean) (Or.inl rfl) hret (hb hby own_d2_61) hcs hss ⟨rfl, N0, e0⟩
  rw [if_neg hc36]
  refine own_st (g' := (mkF m 39 #[.val (.int x0)] [])) (fun t k => XS.icmpNo X0.here hx rfl (hb hby own_d2_36) rfl (flt hc36).2.2.1 k) ?_
  refine own_st (g' := (mkF m 42 #[.val (.int x0)] [(.long (8589934527 : Int64))])) (fun t k => X0.ldc2Long hx hown (mvT hZ (hw _ (List.mem_of_getElem? (i := 8) rfl))) (g := (mkF m 39 #[.val (.int x0)] [])) rfl (hb hby own_d2_39) _ k) ?_
  refine own_st (g' := (mkF m 43 #[.val (.int x0)] [(.int x0), (.long (8589934527 : Int64))])) (fun t k => XS.iloadN X0.here hx rfl (hb hby own_d2_42) rfl k) ?_
  refine own_st (g' := (mkF m 45 #[.val (.int x0)] [(.int (127 : Int32)), (.int x0), (.long (8589934527 : Int64))])) (fun t k => XS.bipush X0.here hx rfl (hb hby own_d2_43) k) ?_
  refine own_st (g' := (mkF m 46 #[.val (.int x0)] [(.int (x0 - (127 : Int32))), (.long (8589934527 : Int64))])) (fun t k => XS.isub X0.here hx rfl (hb hby own_d2_45) rfl k) ?_
  refine own_st (g' := (mkF m 47 #[.val (.int x0)] [(.long (((8589934527 : Int64).toUInt64 >>> ((x0 - (127 : Int32)) &&& 0x3f).toInt64.toUInt64).toInt64))])) (fun t k => XS.lushr X0.here hx rfl (hb hby own_d2_46) rfl k) ?_
  refine own_st (g' := (mkF m 48 #[.val (.int x0)] [(.long (1 : Int64)), (.long (((8589934527 : Int64).toUInt64 >>> ((x0 - (127 : Int32)) &&& 0x3f).toInt64.toUInt64).toInt64))])) (fun t k => XS.lconst X0.here hx rfl (hb hby own_d2_47) k) ?_
  refine own_st (g' := (mkF m 49 #[.val (.int x0)] [(.long ((((8589934527 : Int64).toUInt64 >>> ((x0 - (127 : Int32)) &&& 0x3f).toInt64.toUInt64).toInt64) &&& (1 : Int64)))])) (fun t k => XS.land X0.here hx rfl (hb hby own_d2_48) rfl k) ?_
  refine own_st (g' := (mkF m 50 #[.val (.int x0)] [(.long (0 : Int64)), (.long ((((8589934527 : Int64).toUInt64 >>> ((x0 - (127 : Int32)) &&& 0x3f).toInt64.toUInt64).toInt64) &&& (1 : Int64)))])) (fun t k => XS.lconst X0.here hx rfl (hb hby own_d2_49) k) ?_
  refine own_st (g' := (mkF m 51 #[.val (.int x0)] [(.int (lcmpW ((((8589934527 : Int64).toUInt64 >>> ((x0 - (127 : Int32)) &&& 0x3f).toInt64.toUInt64).toInt64) &&& (1 : Int64)) (0 : Int64)))])) (fun t k => XS.lcmp X0.here hx rfl (hb hby own_d2_50) rfl k) ?_
  by_cases hc51 : (lcmpW ((((8589934527 : Int64).toUInt64 >>> ((x0 - (127 : Int32)) &&& 0x3f).toInt64.toUInt64).toInt64) &&& (1 : Int64)) (0 : Int64)) = (0 : Int32)
  · rw [if_pos hc51]
    refine own_st (g' := (mkF m 58 #[.val (.int x0)] [])) (fun t k => XS.ifYes X0.here hx rfl (pc0 := 51) (pc' := 58) rfl (hb hby own_d2_51) rfl ((if0 _ _).trans (teq hc51).1) (by decide) (by decide) k) ?_
    refine own_st (g' := (mkF m 59 #[.val (.int x0)] [(.int (0 : Int32))])) (fun t k => XS.iconst X0.here hx rfl (hb hby own_d2_58) k) ?_
    exact own_retN X0 hx hlk (t := .boolean) (Or.inl rfl) hret (hb hby own_d2_59) hcs hss ⟨rfl, N0, e0⟩
  rw [if_neg hc51]
  refine own_st (g' := (mkF m 54 #[.val (.int x0)] [])) (fun t k => XS.ifNo X0.here hx rfl (hb hby own_d2_51) rfl ((if0 _ _).trans (feq hc51).1) k) ?_
  refine own_st (g' := (mkF m 55 #[.val (.int x0)] [(.int (1 : Int32))])) (fun t k => XS.iconst X0.here hx rfl (hb hby own_d2_54) k) ?_
  refine own_st (g' := (mkF m 59 #[.val (.int x0)] [(.int (1 : Int32))])) (fun t k => XS.goto X0.here hx rfl (pc0 := 55) (pc' := 59) rfl (hb hby own_d2_55) (by decide) (by decide) k) ?_
  exact own_retN X0 hx hlk (t := .boolean) (Or.inl rfl) hret (hb hby own_d2_59) hcs hss ⟨rfl, N0, e0⟩
def own_f2_0 (x0 : Int32) : Int32 := (if x0 < (0 : Int32) then (own_f2_26 x0) else (if x0 < (32 : Int32) then (if ((((-9730 : Int32).toUInt32 >>> (x0 &&& 31).toUInt32).toInt32) &&& (1 : Int32)) = (0 : Int32) then (0 : Int32) else (1 : Int32)) else (own_f2_26 x0)))
set_option maxRecDepth 65536 in
set_option maxHeartbeats 4000000 in
theorem own_b2_0 {p : Program} {l : Launch} {e : Env} {s : State} {m : MethodId} {args : Array Value} {below : List Frame} {meth : Method} {c : Code} {T : State} {locs : List Loc} {cells slots kc ks : Nat} {Z : State} {a0 : Array Value} {h0 : Heap} {n0 : Nat} (X0 : Stand p l e ({ frames := 0, cells := 0, slots := 0, locals := 0 } : Room) s m args below meth c T locs cells slots) (hx : p.tables.exec = Jvm.exec) (hlk : meth.locks = false) (hby : c.code = method_2_code) (hml : c.maxLocals = 1) (hret : meth.sig.returnType = some .boolean) (hown : s.vm.findClass "com/example/flycatcher/flycatcher/xml/XmlCharsIsRestrictedCharPinLaw" = some m.cls) (hZ : Z.Warmed39 s.vm) (hw : ∀ d ∈ tables_1, d.before a0 Z = true) (e0 : T.heap = h0) (N0 : Fr n0 locs) (hcs : cells ≤ kc) (hss : slots ≤ ks) (x0 : Int32) :
    own_Go p e below s T (mkF m 0 #[.val (.int x0)] []) (own_QP (.int (nar .boolean (own_f2_0 x0))) h0 n0) kc ks := by
  unfold own_f2_0
  refine own_st (g' := (mkF m 1 #[.val (.int x0)] [(.int x0)])) (fun t k => XS.iloadN X0.here hx rfl (hb hby own_d2_0) rfl k) ?_
  by_cases hc1 : x0 < (0 : Int32)
  · rw [if_pos hc1]
    refine own_st (g' := (mkF m 26 #[.val (.int x0)] [])) (fun t k => XS.ifYes X0.here hx rfl (pc0 := 1) (pc' := 26) rfl (hb hby own_d2_1) rfl ((if0 _ _).trans (tlt hc1).1) (by decide) (by decide) k) ?_
    exact own_b2_26 X0 hx hlk hby hml hret hown hZ hw e0 N0 hcs hss x0
  rw [if_neg hc1]
  refine own_st (g' := (mkF m 4 #[.val (.int x0)] [])) (fun t k => XS.ifNo X0.here hx rfl (hb hby own_d2_1) rfl ((if0 _ _).trans (flt hc1).1) k) ?_
  refine own_st (g' := (mkF m 5 #[.val (.int x0)] [(.int x0)])) (fun t k => XS.iloadN X0.here hx rfl (hb hby own_d2_4) rfl k) ?_
  refine own_st (g' := (mkF m 7 #[.val (.int x0)] [(.int (32 : Int32)), (.int x0)])) (fun t k => XS.bipush X0.here hx rfl (hb hby own_d2_5) k) ?_
  by_cases hc7 : x0 < (32 : Int32)
  · rw [if_pos hc7]
    refine own_st (g' := (mkF m 10 #[.val (.int x0)] [])) (fun t k => XS.icmpNo X0.here hx rfl (hb hby own_d2_7) rfl (tlt hc7).2.1 k) ?_
    refine own_st (g' := (mkF m 13 #[.val (.int x0)] [(.int (-9730 : Int32))])) (fun t k => XS.sipush X0.here hx rfl (hb hby own_d2_10) k) ?_
    refine own_st (g' := (mkF m 14 #[.val (.int x0)] [(.int x0), (.int (-9730 : Int32))])) (fun t k => XS.iloadN X0.here hx rfl (hb hby own_d2_13) rfl k) ?_
    refine own_st (g' := (mkF m 15 #[.val (.int x0)] [(.int (((-9730 : Int32).toUInt32 >>> (x0 &&& 31).toUInt32).toInt32))])) (fun t k => XS.iushr X0.here hx rfl (hb hby own_d2_14) rfl k) ?_
    refine own_st (g' := (mkF m 16 #[.val (.int x0)] [(.int (1 : Int32)), (.int (((-9730 : Int32).toUInt32 >>> (x0 &&& 31).toUInt32).toInt32))])) (fun t k => XS.iconst X0.here hx rfl (hb hby own_d2_15) k) ?_
    refine own_st (g' := (mkF m 17 #[.val (.int x0)] [(.int ((((-9730 : Int32).toUInt32 >>> (x0 &&& 31).toUInt32).toInt32) &&& (1 : Int32)))])) (fun t k => XS.iand X0.here hx rfl (hb hby own_d2_16) rfl k) ?_
    by_cases hc17 : ((((-9730 : Int32).toUInt32 >>> (x0 &&& 31).toUInt32).toInt32) &&& (1 : Int32)) = (0 : Int32)
    · rw [if_pos hc17]
      refine own_st (g' := (mkF m 24 #[.val (.int x0)] [])) (fun t k => XS.ifYes X0.here hx rfl (pc0 := 17) (pc' := 24) rfl (hb hby own_d2_17) rfl ((if0 _ _).trans (teq hc17).1) (by decide) (by decide) k) ?_
      refine own_st (g' := (mkF m 25 #[.val (.int x0)] [(.int (0 : Int32))])) (fun t k => XS.iconst X0.here hx rfl (hb hby own_d2_24) k) ?_
      exact own_retN X0 hx hlk (t := .boolean) (Or.inl rfl) hret (hb hby own_d2_25) hcs hss ⟨rfl, N0, e0⟩
    rw [if_neg hc17]
    refine own_st (g' := (mkF m 20 #[.val (.int x0)] [])) (fun t k => XS.ifNo X0.here hx rfl (hb hby own_d2_17) rfl ((if0 _ _).trans (feq hc17).1) k) ?_
    refine own_st (g' := (mkF m 21 #[.val (.int x0)] [(.int (1 : Int32))])) (fun t k => XS.iconst X0.here hx rfl (hb hby own_d2_20) k) ?_
    refine own_st (g' := (mkF m 25 #[.val (.int x0)] [(.int (1 : Int32))])) (fun t k => XS.goto X0.here hx rfl (pc0 := 21) (pc' := 25) rfl (hb hby own_d2_21) (by decide) (by decide) k) ?_
    exact own_retN X0 hx hlk (t := .boolean) (Or.inl rfl) hret (hb hby own_d2_25) hcs hss ⟨rfl, N0, e0⟩
  rw [if_neg hc7]
  refine own_st (g' := (mkF m 26 #[.val (.int x0)] [])) (fun t k => XS.icmpYes X0.here hx rfl (pc0 := 7) (pc' := 26) rfl (hb hby own_d2_7) rfl (flt hc7).2.1 (by decide) (by decide) k) ?_
  exact own_b2_26 X0 hx hlk hby hml hret hown hZ hw e0 N0 hcs hss x0
theorem own_ef2 (m : MethodId) (x0 : Int32) : entryFrame m #[(.int x0)] 1 = mkF m 0 #[.val (.int x0)] [] := by first | (simp [entryFrame, mkF, argsToLocals, Value.category]; done) | rfl
set_option maxRecDepth 65536 in
set_option maxHeartbeats 4000000 in
theorem own_rm2 (l : Launch) (Z : State) (a0 : Array Value) (hw : ∀ d ∈ tables_1, d.before a0 Z = true) (ws : List Jvm.Cond) (x0 : Int32) (h0 : Heap) (n0 : Nat) :
    MetFree l (⟨"com/example/flycatcher/flycatcher/xml/XmlCharsIsRestrictedCharPinLaw", "expected", "(I)Z"⟩ : MethodName) (head1 (Jvm.Cond.code (⟨"com/example/flycatcher/flycatcher/xml/XmlCharsIsRestrictedCharPinLaw", "expected", "(I)Z"⟩ : MethodName) method_2_code 1 (some .boolean) :: ws) ({ frames := 0, cells := 0, slots := 0, locals := 0 } : Room)) (fun a U => a = #[(.int x0)] ∧ Z.Warmed39 U.vm ∧ U.heap = h0) (fun _ _ _ _ _ => True) (fun _ U o U' => ∃ v L, o = .returned v ∧ own_QP (.int (nar .boolean (own_f2_0 x0))) h0 n0 v U'.heap L ∧ FrameEnd U o U' L ({ frames := 0, cells := 0, slots := 0, locals := 0 } : Room).cells ({ frames := 0, cells := 0, slots := 0, locals := 0 } : Room).slots) := by
  refine MetFree.of_bodySF (plainFor_of_name own_pn1) hisR ?_
  intro p e s m args below meth c s₁ Bd hml0 hP hK
  obtain ⟨rfl, hZ, hh⟩ := hP
  have X0 : Stand p l e ({ frames := 0, cells := 0, slots := 0, locals := 0 } : Room) s m #[(.int x0)] below meth c s₁ [] 0 0 := Stand.of_body Bd
  have e0 : s₁.heap = h0 := by rw [← hh, Bd.state]; rfl
  refine own_cast (own_ef2 m x0) ?_
  exact own_b2_0 X0 Bd.exec Bd.notSynchronized Bd.bytes hml0 Bd.returns (findClass_of_methodNamed Bd.named) hZ hw e0 (Fr.nil n0) (by decide) (by decide) x0
theorem own_case (P : Int32 → Prop) (K : Nat) (hK : K < 2 ^ 31) (h1 : ∀ n : Fin K, P (Int32.ofNat n.1)) (h2 : ∀ x : Int32, (x.toInt < 0 ∨ (K : Int) ≤ x.toInt) → P x) (x : Int32) : P x := by
  by_cases h : x.toInt < 0 ∨ (K : Int) ≤ x.toInt
  · exact h2 x h
  · have e : x = Int32.ofNat x.toInt.toNat := by
      apply Int32.toInt_inj.mp
      rw [Int32.toInt_ofNat_of_lt (by omega)]
      omega
    have := h1 ⟨x.toInt.toNat, by omega⟩
    rw [← e] at this
    exact this
set_option maxHeartbeats 4000000 in
theorem own_o1 (x : Int32) (h : x.toInt < 0 ∨ (160 : Int) ≤ x.toInt) : own_f1_0 x = 0 := by
  simp +decide only [own_f1_0, own_f1_33, own_f1_34, own_f1_59, own_f1_60, if_true, if_false]
  simp only [Int32.lt_iff_toInt_lt, ← @Int32.toInt_inj x, Int32.reduceToInt]
  generalize x.toInt = i at h
  repeat' split
  all_goals first | rfl | (exfalso; omega)
set_option maxHeartbeats 4000000 in
theorem own_o2 (x : Int32) (h : x.toInt < 0 ∨ (160 : Int) ≤ x.toInt) : own_f2_0 x = 0 := by
  have a : x < (0 : Int32) ∨ ¬ x < (32 : Int32) := by simp only [Int32.lt_iff_toInt_lt, Int32.reduceToInt]; omega
  have b : x < (127 : Int32) ∨ (159 : Int32) < x := by simp only [Int32.lt_iff_toInt_lt, Int32.reduceToInt]; omega
  have e : own_f2_26 x = 0 := by unfold own_f2_26; rcases b with b | b <;> simp only [b, if_true]; split <;> rfl
  unfold own_f2_0
  rw [e]
  rcases a with a | a
  · rw [if_pos a]
  · rw [if_neg a]; split <;> rfl
set_option maxRecDepth 65536 in
theorem own_law (x : Int32) : nar .boolean (own_f1_0 x) = nar .boolean (own_f2_0 x) := by
  revert x
  refine own_case _ 160 (by decide) (by decide +kernel) ?_
  intro x h
  rw [own_o1 x h, own_o2 x h]
theorem own_pd0 : parseMethodDescriptor "(I)Z" = some ⟨[.int], some .boolean⟩ := by decide +kernel
set_option maxRecDepth 65536 in
set_option maxHeartbeats 8000000 in
theorem own_t20 {p : Program} {l : Launch} {e : Env} {s : State} {m : MethodId} {args : Array Value} {below : List Frame} {meth : Method} {c : Code} {T : State} {locs : List Loc} {cells slots : Nat} {Z : State} {a0 : Array Value} {h0 : Heap} {n0 : Nat} (X0 : Stand p l e room_1 s m args below meth c T locs cells slots) (hx : p.tables.exec = Jvm.exec) (hlk : meth.locks = false) (hby : c.code = code) (hml : c.maxLocals = 3) (hret : meth.sig.returnType = some .boolean) (hown : s.vm.findClass "com/example/flycatcher/flycatcher/xml/XmlCharsIsRestrictedCharPinLaw" = some m.cls) (hZ : Z.Warmed39 s.vm) (hw : ∀ d ∈ tables_1, d.before a0 Z = true) (e0 : T.heap = h0) (N0 : Fr n0 locs) (Z0 : n0 ≤ h0.size) (hcc : cells ≤ 0) (hss : slots ≤ 0) (x0 : Int32) (x1 : Int32) (x2 : Int32) :
    own_Go p e below s T (mkF m 20 #[.val (.int x0), .val (.int x1), .val (.int x2)] []) (own_Q0 n0) 0 0 := by
  refine own_st (g' := (mkF m 21 #[.val (.int x0), .val (.int x1), .val (.int x2)] [(.int x2)])) (fun t k => XS.iloadN X0.here hx rfl (hb hby at_20) rfl k) ?_
  obtain ⟨_, _, ⟨T1, L1, k1, n1⟩, -, X1, ⟨Lc1, hQ1, l1, y1, z1⟩, st1⟩ := Jvm.LawKit.callS X0 hx (y := (⟨"com/example/flycatcher/flycatcher/xml/XmlChars", "isRestrictedChar", "(I)Z"⟩ : MethodName)) hown (mvT hZ (hw _ (List.mem_of_getElem? (i := 0) rfl))) (mvT hZ (hw _ (List.mem_of_getElem? (i := 1) rfl))) (mvT hZ (hw _ (List.mem_of_getElem? (i := 2) rfl))) (mvT hZ (hw _ (List.mem_of_getElem? (i := 3) rfl))) (by decide) (backOf (W := 0) (own_rm1 l Z a0 hw [] x2 h0 n0) hZ (hw _ (List.mem_of_getElem? (i := 3) rfl)) (hw _ (List.mem_of_getElem? (i := 2) rfl)) (by decide) (by decide)) (g := (mkF m 21 #[.val (.int x0), .val (.int x1), .val (.int x2)] [(.int x2)])) rfl (by rw [hml]; rfl) (argsL := [(.int x2)]) (rest := []) (lenOf own_pd0 rfl) rfl (by show 2 * 0 + _ ≤ _; exact Nat.le_of_eq rfl) (hb hby at_21) (fun _ _ => ⟨rfl, e0, (show cells + 0 ≤ 0 by omega), (show slots + 0 ≤ 0 by omega)⟩)
  dsimp only [Pt.U, Pt.locs, Pt.cells, Pt.slots] at X1 l1 y1 z1 st1 hQ1
  rw [l1, y1, z1] at X1
  obtain ⟨rfl, N1q, e1⟩ := hQ1
  have N1 := Fr.app N0 N1q
  refine own_st (g' := (mkF m 24 #[.val (.int x0), .val (.int x1), .val (.int x2)] [(.int (nar .boolean (own_f1_0 x2)))])) st1 ?_
  refine own_st (g' := (mkF m 25 #[.val (.int x0), .val (.int x1), .val (.int x2)] [(.int x2), (.int (nar .boolean (own_f1_0 x2)))])) (fun t k => XS.iloadN X1.here hx rfl (hb hby at_24) rfl k) ?_
  obtain ⟨_, _, ⟨T2, L2, k2, n2⟩, -, X2, ⟨Lc2, hQ2, l2, y2, z2⟩, st2⟩ := Jvm.LawKit.callS X1 hx (y := (⟨"com/example/flycatcher/flycatcher/xml/XmlCharsIsRestrictedCharPinLaw", "expected", "(I)Z"⟩ : MethodName)) hown (mvT hZ (hw _ (List.mem_of_getElem? (i := 4) rfl))) (mvT hZ (hw _ (List.mem_of_getElem? (i := 5) rfl))) (mvT hZ (hw _ (List.mem_of_getElem? (i := 6) rfl))) (mvT hZ (hw _ (List.mem_of_getElem? (i := 7) rfl))) (by decide) (backOf (W := 1) (own_rm2 l Z a0 hw [] x2 h0 n0) hZ (hw _ (List.mem_of_getElem? (i := 7) rfl)) (hw _ (List.mem_of_getElem? (i := 6) rfl)) (by decide) (by decide)) (g := (mkF m 25 #[.val (.int x0), .val (.int x1), .val (.int x2)] [(.int x2), (.int (nar .boolean (own_f1_0 x2)))])) rfl (by rw [hml]; rfl) (argsL := [(.int x2)]) (rest := [(.int (nar .boolean (own_f1_0 x2)))]) (lenOf own_pd0 rfl) rfl (by show 2 * 0 + _ ≤ _; exact Nat.le_of_eq rfl) (hb hby at_25) (fun _ _ => ⟨rfl, e1, (show cells + 0 ≤ 0 by omega), (show slots + 0 ≤ 0 by omega)⟩)
  dsimp only [Pt.U, Pt.locs, Pt.cells, Pt.slots] at X2 l2 y2 z2 st2 hQ2
  rw [l2, y2, z2] at X2
  obtain ⟨rfl, N2q, e2⟩ := hQ2
  have N2 := Fr.app N1 N2q
  refine own_st (g' := (mkF m 28 #[.val (.int x0), .val (.int x1), .val (.int x2)] [(.int (nar .boolean (own_f2_0 x2))), (.int (nar .boolean (own_f1_0 x2)))])) st2 ?_
  refine own_st (g' := (mkF m 31 #[.val (.int x0), .val (.int x1), .val (.int x2)] [])) (fun t k => XS.icmpNo X2.here hx rfl (hb hby at_28) rfl (teq (own_law _)).2 k) ?_
  refine own_st (g' := (mkF m 32 #[.val (.int x0), .val (.int x1), .val (.int x2)] [(.int (1 : Int32))])) (fun t k => XS.iconst X2.here hx rfl (hb hby at_31) k) ?_
  refine own_st (g' := (mkF m 36 #[.val (.int x0), .val (.int x1), .val (.int x2)] [(.int (1 : Int32))])) (fun t k => XS.goto X2.here hx rfl (pc0 := 32) (pc' := 36) rfl (hb hby at_32) (by decide) (by decide) k) ?_
  exact own_retN X2 hx hlk (t := .boolean) (Or.inl rfl) hret (hb hby at_36) (by omega) (by omega) ⟨rfl, N2⟩
set_option maxRecDepth 65536 in
set_option maxHeartbeats 8000000 in
theorem own_t0 {p : Program} {l : Launch} {e : Env} {s : State} {m : MethodId} {args : Array Value} {below : List Frame} {meth : Method} {c : Code} {T : State} {locs : List Loc} {cells slots : Nat} {Z : State} {a0 : Array Value} {h0 : Heap} {n0 : Nat} (X0 : Stand p l e room_1 s m args below meth c T locs cells slots) (hx : p.tables.exec = Jvm.exec) (hlk : meth.locks = false) (hby : c.code = code) (hml : c.maxLocals = 3) (hret : meth.sig.returnType = some .boolean) (hown : s.vm.findClass "com/example/flycatcher/flycatcher/xml/XmlCharsIsRestrictedCharPinLaw" = some m.cls) (hZ : Z.Warmed39 s.vm) (hw : ∀ d ∈ tables_1, d.before a0 Z = true) (e0 : T.heap = h0) (N0 : Fr n0 locs) (Z0 : n0 ≤ h0.size) (hcc : cells ≤ 0) (hss : slots ≤ 0) (x0 : Int32) (x1 : Int32) :
    own_Go p e below s T (mkF m 0 #[.val (.int x0), .val (.int x1), .unset] []) (own_Q0 n0) 0 0 := by
  refine own_st (g' := (mkF m 1 #[.val (.int x0), .val (.int x1), .unset] [(.int x1)])) (fun t k => XS.iloadN X0.here hx rfl (hb hby at_0) rfl k) ?_
  refine own_st (g' := (mkF m 2 #[.val (.int x0), .val (.int x1), .unset] [(.int (1 : Int32)), (.int x1)])) (fun t k => XS.iconst X0.here hx rfl (hb hby at_1) k) ?_
  refine own_st (g' := (mkF m 3 #[.val (.int x0), .val (.int x1), .unset] [(.int (x1 &&& (1 : Int32)))])) (fun t k => XS.iand X0.here hx rfl (hb hby at_2) rfl k) ?_
  by_cases hc3 : (x1 &&& (1 : Int32)) = (0 : Int32)
  · skip
    refine own_st (g' := (mkF m 18 #[.val (.int x0), .val (.int x1), .unset] [])) (fun t k => XS.ifYes X0.here hx rfl (pc0 := 3) (pc' := 18) rfl (hb hby at_3) rfl ((if0 _ _).trans (teq hc3).1) (by decide) (by decide) k) ?_
    refine own_st (g' := (mkF m 19 #[.val (.int x0), .val (.int x1), .unset] [(.int x0)])) (fun t k => XS.iloadN X0.here hx rfl (hb hby at_18) rfl k) ?_
    refine own_st (g' := (mkF m 20 #[.val (.int x0), .val (.int x1), .val (.int x0)] [])) (fun t k => XS.istoreN X0.here hx rfl (hb hby at_19) rfl (l' := #[.val (.int x0), .val (.int x1), .val (.int x0)]) rfl k) ?_
    exact own_t20 X0 hx hlk hby hml hret hown hZ hw e0 N0 Z0 (by omega) (by omega) x0 x1 x0
  refine own_st (g' := (mkF m 6 #[.val (.int x0), .val (.int x1), .unset] [])) (fun t k => XS.ifNo X0.here hx rfl (hb hby at_3) rfl ((if0 _ _).trans (feq hc3).1) k) ?_
  refine own_st (g' := (mkF m 7 #[.val (.int x0), .val (.int x1), .unset] [(.int x0)])) (fun t k => XS.iloadN X0.here hx rfl (hb hby at_6) rfl k) ?_
  refine own_st (g' := (mkF m 10 #[.val (.int x0), .val (.int x1), .unset] [(.int (255 : Int32)), (.int x0)])) (fun t k => XS.sipush X0.here hx rfl (hb hby at_7) k) ?_
  refine own_st (g' := (mkF m 11 #[.val (.int x0), .val (.int x1), .unset] [(.int (x0 &&& (255 : Int32)))])) (fun t k => XS.iand X0.here hx rfl (hb hby at_10) rfl k) ?_
  refine own_st (g' := (mkF m 13 #[.val (.int x0), .val (.int x1), .unset] [(.int (32 : Int32)), (.int (x0 &&& (255 : Int32)))])) (fun t k => XS.bipush X0.here hx rfl (hb hby at_11) k) ?_
  refine own_st (g' := (mkF m 14 #[.val (.int x0), .val (.int x1), .unset] [(.int ((x0 &&& (255 : Int32)) - (32 : Int32)))])) (fun t k => XS.isub X0.here hx rfl (hb hby at_13) rfl k) ?_
  refine own_st (g' := (mkF m 15 #[.val (.int x0), .val (.int x1), .val (.int ((x0 &&& (255 : Int32)) - (32 : Int32)))] [])) (fun t k => XS.istoreN X0.here hx rfl (hb hby at_14) rfl (l' := #[.val (.int x0), .val (.int x1), .val (.int ((x0 &&& (255 : Int32)) - (32 : Int32)))]) rfl k) ?_
  refine own_st (g' := (mkF m 20 #[.val (.int x0), .val (.int x1), .val (.int ((x0 &&& (255 : Int32)) - (32 : Int32)))] [])) (fun t k => XS.goto X0.here hx rfl (pc0 := 15) (pc' := 20) rfl (hb hby at_15) (by decide) (by decide) k) ?_
  exact own_t20 X0 hx hlk hby hml hret hown hZ hw e0 N0 Z0 (by omega) (by omega) x0 x1 ((x0 &&& (255 : Int32)) - (32 : Int32))
theorem own_ef0 (m : MethodId) (x0 : Int32) (x1 : Int32) : entryFrame m #[(.int x0), (.int x1)] maxLocals = mkF m 0 #[.val (.int x0), .val (.int x1), .unset] [] := by first | (simp [entryFrame, mkF, argsToLocals, Value.category, maxLocals]; done) | rfl
set_option maxRecDepth 65536 in
set_option maxHeartbeats 4000000 in
theorem own_rm0 (l : Launch) (Z : State) (a0 : Array Value) (hw : ∀ d ∈ tables_1, d.before a0 Z = true) (ws : List Jvm.Cond) (x0 : Int32) (x1 : Int32) (h0 : Heap) (n0 : Nat) (Z0 : n0 ≤ h0.size) :
    MetFree l x (head1 (Jvm.Cond.code x code maxLocals ret :: ws) room_1) (fun a U => a = #[(.int x0), (.int x1)] ∧ Z.Warmed39 U.vm ∧ U.heap = h0) (fun _ _ _ _ _ => True) (fun _ U o U' => ∃ v L, o = .returned v ∧ own_Q0 n0 v U'.heap L ∧ FrameEnd U o U' L 0 0) := by
  refine MetFree.of_bodySF (plainFor_of_name own_pn1) hisR ?_
  intro p e s m args below meth c s₁ Bd hml0 hP hK
  obtain ⟨rfl, hZ, hh⟩ := hP
  have X0 : Stand p l e room_1 s m #[(.int x0), (.int x1)] below meth c s₁ [] 0 0 := Stand.of_body Bd
  have e0 : s₁.heap = h0 := by rw [← hh, Bd.state]; rfl
  refine own_cast (own_ef0 m x0 x1) ?_
  exact own_t0 X0 Bd.exec Bd.notSynchronized Bd.bytes hml0 Bd.returns (findClass_of_methodNamed Bd.named) hZ hw e0 (Fr.nil n0) Z0 (by decide) (by decide) x0 x1
set_option maxRecDepth 65536 in
set_option maxHeartbeats 4000000 in
theorem own_comes_1 {Post : Tables → Env → Array Value → State → Outcome → State → Prop} (hpost : ∀ tb e args s v u, (limb_1_1.after args s (.returned v) u = true ∧ limb_1_2.after args s (.returned v) u = true ∧ True) → FrameEnd s (.returned v) u (Jvm.fieldLocs frame_1_writes args s ++ Jvm.arrayLocs frame_1_arrays args s ++ Jvm.staticLocs frame_1_statics s) 0 0 → Post tb e args s (.returned v) u) :
    ArmFor flags0 classFile x code maxLocals ret World_1 tables_1 room_1 Calls_1 rest_1 Pre_1 Post := by
  intro l hfl _ _ p e ha hc hk s m args below hf hA hF happ hP
  obtain ⟨hcalls, hrest, hpre⟩ := hP
  obtain ⟨-, -, -, hnamed, -, -, -, hat⟩ := (Spec.applies_iff hf).mp happ
  obtain ⟨hg, hn⟩ := and_e (Cond.before_iff.mp (show (Jvm.Cond.and given_1 narrow_1).before args s = true from hpre))
  obtain ⟨gg1, gg2⟩ := and_e hg
  obtain ⟨gg3, gg4⟩ := and_e gg2
  obtain ⟨w0, w1, rfl⟩ : ∃ w0 w1 : Value, args = #[w0, w1] := by
    have hs : args.size = 2 := by simpa [Cond.value, given_1] using gg1
    obtain ⟨L⟩ := args
    match L, hs with
    | [w0, w1], _ => exact ⟨w0, w1, rfl⟩
  have hw := fun d (hd : d ∈ tables_1) => atoms_spec (ws := Jvm.Cond.code x code maxLocals ret :: tables_1) hat d (List.mem_cons_of_mem _ hd)
  have hfit : Fit s := fun {y c} hc i hi => by
    obtain ⟨ha, rfl⟩ := Array.getElem?_eq_some_iff.mp hc
    have q := List.all_eq_true.mp ((Array.all_eq_true_iff_forall_mem.mp hF) _ (Array.getElem_mem ha)) i (List.mem_range.mpr hi)
    simpa [Array.getElem?_eq_getElem hi] using q
  obtain ⟨i0, ei0⟩ := is_v gg3
  obtain rfl : w0 = (.int i0) := Option.some.inj ei0
  obtain ⟨i1, ei1⟩ := is_v gg4
  obtain rfl : w1 = (.int i1) := Option.some.inj ei1
  obtain ⟨n, o, h1, h2, h3, _, L, rfl, ⟨rfl, N⟩, hq⟩ := own_rm0 l s _ hw tables_1 i0 i1 s.heap s.heap.size (Nat.le_refl _) p e ha hc hk s m _ below hf ((Spec.applies_iff_loose hf).mp happ).1 ⟨rfl, State.Warmed39.refl s, rfl⟩ trivial
  refine ⟨n, _, h1, h2, h3, hpost _ _ _ _ _ _ ⟨Cond.after_iff.mpr rfl, Cond.after_iff.mpr (eq_i res_at (Term.int_eval (1)) rfl), trivial⟩ ⟨hq.1, hq.2.1, (hq.2.2.sift fun y hy => Or.inr (N y hy)).mono (by decide) (by decide)⟩⟩
theorem main_1_1 : Claimed_1_1 := own_comes_1 fun _ _ _ _ _ _ h hF => ⟨h.1, hF⟩
theorem main_1_2 : Claimed_1_2 := own_comes_1 fun _ _ _ _ _ _ h hF => ⟨h.2.1, hF⟩
end Jvm.Pilot.@@N@@
namespace Jvm.Pilot.@@N@@
open Jvm Jvm.ClassFile Sem Op Lib Jvm.Free Jvm.Stand Jvm.Pilot.@@N@@.Jvm.D
/-! MADE BY PROGRAM (witnessworld.py) out of the Statement's table words and the real class files: 9 classes; the members and pool entries that the words name. The judged class is class 1, her method 2. -/
namespace start1
open Jvm.ClassFile
def u (s : String) : CpInfo := .utf8 (stringToUtf16 s)
/-- a pool by its gaps: so many unusable entries, then the entry; so many at the end -/
def gap : Nat → List CpInfo → List CpInfo
  | 0, r => r
  | n + 1, r => .unusable :: gap n r
def poolList (es : List (Nat × CpInfo)) (last : Nat) : List CpInfo := es.foldr (fun e r => gap e.1 (e.2 :: r)) (gap last [])
def pool (es : List (Nat × CpInfo)) (last : Nat) : Array CpInfo := ⟨poolList es last⟩
def fileOf (pool : Array CpInfo) (this : Nat) (attrs : Array Attribute := #[]) (ms : Array MethodInfo := #[]) (fl : Nat := 33) (sup : Nat := 0) (ifs : Array Nat := #[]) (fds : Array FieldInfo := #[]) : ClassFile where
  minorVersion := 0
  majorVersion := 65
  constantPool := pool
  accessFlags := fl
  thisClass := this
  superClass := sup
  interfaces := ifs
  fields := fds
  methods := ms
  attributes := attrs
def plain (name : String) (sup : Option ClassId) : Class where
  name := name
  kind := .ordinary
  loader := none
  accessFlags := 33
  super := sup
  interfaces := #[]
  cf := none
  fields := #[]
  methods := #[]
  instanceTypes := #[]
  staticTypes := #[]
  resolved := #[]
  callSites := []
  init := .initialized
  statics := none
  mirror := none

def pool0 : Array CpInfo := pool [(5, u "<init>"), (0, u "()V"), (1, .class_ 10), (1, u "java/lang/Object")] 113

def k0m0 : Method := { name := "<init>", desc := "()V", sig := { parameters := [], returnType := none }, accessFlags := 1, code := none }
/-- java/lang/Object -/
def k0 : Class := { plain "java/lang/Object" none with
  accessFlags := 33
  interfaces := #[]
  cf := some (fileOf pool0 8 #[] #[{ accessFlags := 1, nameIndex := 5, descriptorIndex := 6, attributes := #[] }] 33 0 #[] #[])
  fields := #[]
  methods := #[k0m0]
  instanceTypes := #[]
  staticTypes := #[]
  resolved := Array.replicate 124 none
  statics := none }

def pool1 : Array CpInfo := pool [(2, .class_ 4), (1, u "java/lang/Object"), (0, u "<init>"), (0, u "()V"), (0, .class_ 8), (0, u "com/example/flycatcher/flycatcher/xml/XmlCharsIsRestrictedCharPinLaw"), (0, .long 8589934527), (1, .methodref 12 13), (0, .class_ 14), (0, .nameAndType 15 16), (0, u "com/example/flycatcher/flycatcher/xml/XmlChars"), (0, u "isRestrictedChar"), (0, u "(I)Z"), (0, .methodref 7 18), (0, .nameAndType 19 16), (0, u "expected"), (0, u "C0_TABLE"), (0, u "I"), (2, u "C1_TABLE"), (0, u "J"), (3, u "law"), (0, u "(II)Z")] 2

def k1m0 : Method := { name := "<init>", desc := "()V", sig := { parameters := [], returnType := none }, accessFlags := 2, code := none }
def k1c1 : Code := { maxStack := 4, maxLocals := 1, code := method_2_code, exceptionTable := #[], attributes := #[] }
def k1m1 : Method := { name := "expected", desc := "(I)Z", sig := { parameters := [.int], returnType := some .boolean }, accessFlags := 10, code := some k1c1 }
def k1c2 : Code := { maxStack := 2, maxLocals := 3, code := code, exceptionTable := #[], attributes := #[] }
def k1m2 : Method := { name := "law", desc := "(II)Z", sig := { parameters := [.int, .int], returnType := some .boolean }, accessFlags := 9, code := some k1c2 }
/-- com/example/flycatcher/flycatcher/xml/XmlCharsIsRestrictedCharPinLaw -/
def k1 : Class := { plain "com/example/flycatcher/flycatcher/xml/XmlCharsIsRestrictedCharPinLaw" (some 0) with
  accessFlags := 49
  interfaces := #[]
  cf := some (fileOf pool1 7 #[] #[{ accessFlags := 2, nameIndex := 5, descriptorIndex := 6, attributes := #[] }, { accessFlags := 10, nameIndex := 19, descriptorIndex := 16, attributes := #[] }, { accessFlags := 9, nameIndex := 29, descriptorIndex := 30, attributes := #[] }] 49 2 #[] #[{ accessFlags := 26, nameIndex := 20, descriptorIndex := 21, attributes := #[] }, { accessFlags := 26, nameIndex := 24, descriptorIndex := 25, attributes := #[] }])
  fields := #[{ name := "C0_TABLE", type := .int, accessFlags := 26, slot := 0, constantValue := 0 }, { name := "C1_TABLE", type := .long, accessFlags := 26, slot := 1, constantValue := 0 }]
  methods := #[k1m0, k1m1, k1m2]
  instanceTypes := #[]
  staticTypes := #[.int, .long]
  resolved := Array.replicate 33 none
  statics := none }

def pool2 : Array CpInfo := pool [(2, .class_ 4), (1, u "java/lang/Object"), (0, u "<init>"), (0, u "()V"), (6, .class_ 15), (1, u "com/example/flycatcher/flycatcher/xml/XmlChars$ComposingCharacters"), (7, u "(I)Z"), (1, .class_ 27), (1, u "com/example/flycatcher/flycatcher/xml/XmlChars"), (0, u "ASCII"), (0, u "[B"), (34, .class_ 66), (1, u "com/example/flycatcher/flycatcher/xml/XmlChars$FourthEditionNames"), (0, u "NAME_START"), (5, u "NAME"), (18, u "PREDEFINED_ENTITIES"), (0, u "Ljava/util/List;"), (32, u "I"), (3, u "ORDINARY"), (3, u "PREDEFINED_CHARACTERS"), (0, u "Ljava/lang/String;"), (0, u "PUBID_PUNCTUATION"), (4, u "isRestrictedChar")] 24

def k2m0 : Method := { name := "<init>", desc := "()V", sig := { parameters := [], returnType := none }, accessFlags := 2, code := none }
def k2c1 : Code := { maxStack := 2, maxLocals := 3, code := prog_174_method_3_code, exceptionTable := #[], attributes := #[] }
def k2m1 : Method := { name := "isRestrictedChar", desc := "(I)Z", sig := { parameters := [.int], returnType := some .boolean }, accessFlags := 9, code := some k2c1 }
/-- com/example/flycatcher/flycatcher/xml/XmlChars -/
def k2 : Class := { plain "com/example/flycatcher/flycatcher/xml/XmlChars" (some 0) with
  accessFlags := 33
  interfaces := #[]
  cf := some (fileOf pool2 25 #[.nestMembers #[64, 13]] #[{ accessFlags := 2, nameIndex := 5, descriptorIndex := 6, attributes := #[] }, { accessFlags := 9, nameIndex := 141, descriptorIndex := 23, attributes := #[] }] 33 2 #[] #[{ accessFlags := 26, nameIndex := 67, descriptorIndex := 126, attributes := #[] }, { accessFlags := 26, nameIndex := 73, descriptorIndex := 126, attributes := #[] }, { accessFlags := 26, nameIndex := 130, descriptorIndex := 126, attributes := #[] }, { accessFlags := 26, nameIndex := 28, descriptorIndex := 29, attributes := #[] }, { accessFlags := 26, nameIndex := 92, descriptorIndex := 93, attributes := #[] }, { accessFlags := 26, nameIndex := 134, descriptorIndex := 135, attributes := #[] }, { accessFlags := 26, nameIndex := 136, descriptorIndex := 135, attributes := #[] }])
  fields := #[{ name := "NAME_START", type := .int, accessFlags := 26, slot := 0, constantValue := 0 }, { name := "NAME", type := .int, accessFlags := 26, slot := 1, constantValue := 0 }, { name := "ORDINARY", type := .int, accessFlags := 26, slot := 2, constantValue := 0 }, { name := "ASCII", type := (.array .byte), accessFlags := 26, slot := 3, constantValue := 0 }, { name := "PREDEFINED_ENTITIES", type := (.object "java/util/List"), accessFlags := 26, slot := 4, constantValue := 0 }, { name := "PREDEFINED_CHARACTERS", type := (.object "java/lang/String"), accessFlags := 26, slot := 5, constantValue := 0 }, { name := "PUBID_PUNCTUATION", type := (.object "java/lang/String"), accessFlags := 26, slot := 6, constantValue := 0 }]
  methods := #[k2m0, k2m1]
  instanceTypes := #[]
  staticTypes := #[.int, .int, .int, (.array .byte), (.object "java/util/List"), (.object "java/lang/String"), (.object "java/lang/String")]
  resolved := Array.replicate 166 none
  statics := none }

def pool3 : Array CpInfo := pool [(1, u "java/lang/Cloneable"), (0, .class_ 1), (0, u "java/lang/Object"), (0, .class_ 3)] 3

/-- java/lang/Cloneable -/
def k3 : Class := { plain "java/lang/Cloneable" (some 0) with
  accessFlags := 1537
  interfaces := #[]
  cf := some (fileOf pool3 2 #[] #[] 1537 4 #[] #[])
  fields := #[]
  methods := #[]
  instanceTypes := #[]
  staticTypes := #[]
  resolved := Array.replicate 8 none
  statics := none }

def pool4 : Array CpInfo := pool [(1, u "java/io/Serializable"), (0, .class_ 1), (0, u "java/lang/Object"), (0, .class_ 3)] 3

/-- java/io/Serializable -/
def k4 : Class := { plain "java/io/Serializable" (some 0) with
  accessFlags := 1537
  interfaces := #[]
  cf := some (fileOf pool4 2 #[] #[] 1537 4 #[] #[])
  fields := #[]
  methods := #[]
  instanceTypes := #[]
  staticTypes := #[]
  resolved := Array.replicate 8 none
  statics := none }

/-- the primitive byte -/
def k5 : Class := { plain "byte" none with kind := .primitive 'B', accessFlags := 0x411 }
/-- [B -/
def k6 : Class := { plain "[B" (some 0) with kind := .array 5 .byte, interfaces := #[3, 4], accessFlags := 1041 }

/-- the primitive int -/
def k7 : Class := { plain "int" none with kind := .primitive 'I', accessFlags := 0x411 }
/-- [I -/
def k8 : Class := { plain "[I" (some 0) with kind := .array 7 .int, interfaces := #[3, 4], accessFlags := 1041 }

def heap : Heap := #[]
def classes : Array Class := #[k0, k1, k2, k3, k4, k5, k6, k7, k8]
def interned : List (Array UInt16 × Addr) := []
def slotsUsed : Nat := 0
def theMethod : MethodId := ⟨1, 2⟩
def args0 : Array Value := #[.int 5, .int 1]
def aboutOver (below : List Frame) : State where
  vm := { classes := classes, interned := interned.toArray }
  heap := heap
  slotsUsed := slotsUsed
  threads := #[{ frames := .invoking theMethod args0 :: below }]
def below0 : List Frame := [.native { method := ⟨0, 0⟩, args := #[] }]
def about1 : State := aboutOver below0
def p0 : Program := .bare "" "" ""
def e0 : Env := launch0.env 0 0 0
theorem w_frames : about1.frames = Frame.invoking theMethod args0 :: below0 := rfl
set_option maxRecDepth 65536 in
theorem w_args : argsFit about1.vm theMethod args0 = true := by decide +kernel
set_option maxRecDepth 65536 in
theorem w_heap : heapFits about1 = true := by decide +kernel
set_option maxRecDepth 65536 in
theorem w_runnable : about1.curStatus? = some .runnable := by decide +kernel
set_option maxRecDepth 65536 in
theorem w_alone : about1.alone = true := by decide +kernel
set_option maxRecDepth 65536 in
theorem w_named : about1.methodNamed? x = some theMethod := by decide +kernel
set_option maxRecDepth 65536 in
theorem w_hears : about1.hears theMethod below0 = true := by decide +kernel
set_option maxRecDepth 65536 in
theorem w_ripe : about1.ripe theMethod args0 below0 = true := by decide +kernel
theorem w_running : about1.status = .running := rfl
set_option maxRecDepth 65536 in
theorem w_room : about1.hasRoom e0.platform room_1 = true :=
  launch0.hasRoom_least _ room_1 (by decide +kernel) (by decide +kernel) (by decide +kernel) (by decide +kernel) (by decide +kernel) (by decide +kernel)
theorem allAtoms_all (ts : List Jvm.Cond) (a : Array Jvm.Value) (st : Jvm.State) : (allAtoms ts).before a st = ts.all (fun c => c.before a st) := by
  induction ts with
  | nil => rfl
  | cons c t ih =>
    show (Jvm.Cond.and c (allAtoms t)).before a st = _
    rw [Jvm.Cond.before_and, ih, List.all_cons]
def words1 : List Jvm.Cond := Jvm.Cond.code x code maxLocals ret :: tables_1
/-- a 'code' word, met by the world's own term for the bytes: nothing is compared byte by byte -/
theorem code_word {y : MethodName} {bytes : ByteArray} {mx : Nat} {rt : Option FieldType} {a : Array Value} {s : State} {m : MethodId} {meth : Method} {c : Code} (h1 : s.methodNamed? y = some m) (h2 : s.vm.method? m = some meth) (h3 : meth.code = some c) (h4 : c.code = bytes)
    (h5 : (c.maxLocals == mx && c.exceptionTable.isEmpty && decide (c.maxStack ≤ mostOperands) && decide (meth.sig.returnType = rt) && !meth.locks && decide (parseMethodDescriptor y.desc = some meth.sig)) = true) : (Jvm.Cond.code y bytes mx rt).before a s = true := by
  simp only [Bool.and_eq_true, beq_iff_eq, Bool.not_eq_true', decide_eq_true_eq] at h5
  obtain ⟨⟨⟨⟨⟨g1, g2⟩, g3⟩, g4⟩, g5⟩, g6⟩ := h5
  simp [Cond.before, Cond.holds, Cond.value, h1, h2, h3, h4, g1, g2, g3, g4, g5, g6]
def isCode : Jvm.Cond → Bool
  | .code _ _ _ _ => true
  | _ => false
theorem all_split {L : List Jvm.Cond} {P : Jvm.Cond → Bool} (h1 : L.all (fun c => isCode c || P c) = true) (h2 : ∀ c ∈ L.filter isCode, P c = true) : L.all P = true := by
  refine List.all_eq_true.mpr fun c hc => ?_
  have h := List.all_eq_true.mp h1 c hc
  rcases Bool.eq_false_or_eq_true (isCode c) with hi | hi
  · exact h2 c (List.mem_filter.mpr ⟨hc, hi⟩)
  · simpa [hi] using h
set_option maxRecDepth 65536 in
theorem w_c0 : (Jvm.Cond.code x code maxLocals ret).before args0 about1 = true := code_word (m := ⟨1, 2⟩) (meth := k1m2) (c := k1c2) (by decide +kernel) rfl rfl rfl (by decide +kernel)
set_option maxRecDepth 65536 in
theorem w_c1 : (Jvm.Cond.code ({ cls := "com/example/flycatcher/flycatcher/xml/XmlChars", name := "isRestrictedChar", desc := "(I)Z" } : Jvm.MethodName) prog_174_method_3_code (3 : Nat) (Option.some Jvm.ClassFile.FieldType.boolean)).before args0 about1 = true := code_word (m := ⟨2, 1⟩) (meth := k2m1) (c := k2c1) (by decide +kernel) rfl rfl rfl (by decide +kernel)
set_option maxRecDepth 65536 in
theorem w_c2 : (Jvm.Cond.code ({ cls := "com/example/flycatcher/flycatcher/xml/XmlCharsIsRestrictedCharPinLaw", name := "expected", desc := "(I)Z" } : Jvm.MethodName) method_2_code (1 : Nat) (Option.some Jvm.ClassFile.FieldType.boolean)).before args0 about1 = true := code_word (m := ⟨1, 1⟩) (meth := k1m1) (c := k1c1) (by decide +kernel) rfl rfl rfl (by decide +kernel)
def codes1 : List Jvm.Cond := [Jvm.Cond.code x code maxLocals ret, Jvm.Cond.code ({ cls := "com/example/flycatcher/flycatcher/xml/XmlChars", name := "isRestrictedChar", desc := "(I)Z" } : Jvm.MethodName) prog_174_method_3_code (3 : Nat) (Option.some Jvm.ClassFile.FieldType.boolean), Jvm.Cond.code ({ cls := "com/example/flycatcher/flycatcher/xml/XmlCharsIsRestrictedCharPinLaw", name := "expected", desc := "(I)Z" } : Jvm.MethodName) method_2_code (1 : Nat) (Option.some Jvm.ClassFile.FieldType.boolean)]
set_option maxRecDepth 65536 in
theorem codes_eq : words1.filter isCode = codes1 := rfl
theorem w_codes : ∀ c ∈ words1.filter isCode, c.before args0 about1 = true := by
  rw [codes_eq]
  intro c hc
  simp only [codes1, List.mem_cons, List.not_mem_nil, or_false] at hc
  rcases hc with rfl | rfl | rfl
  · exact w_c0
  · exact w_c1
  · exact w_c2
set_option maxRecDepth 65536 in
theorem w_t1 : words1.all (fun c => isCode c || c.before args0 about1) = true := by decide +kernel
theorem w_tables : (allAtoms (Jvm.Cond.code x code maxLocals ret :: tables_1)).before args0 about1 = true := by
  rw [allAtoms_all]
  show words1.all (fun c => c.before args0 about1) = true
  refine all_split ?_ w_codes
  rw [w_t1]
set_option maxRecDepth 65536 in
theorem w_case : (Jvm.Cond.and given_1 narrow_1).before args0 about1 = true := by decide +kernel
theorem w_applies : (headSpec (Jvm.Cond.code x code maxLocals ret :: tables_1) room_1).applies x e0.platform about1 = true :=
  (Spec.applies_iff w_frames).mpr ⟨w_running, w_runnable, w_alone, w_named, w_hears, w_ripe, w_room, w_tables⟩
theorem atStart : AtStart classFile x code maxLocals ret World_1 tables_1 room_1 Calls_1 rest_1 Pre_1 launch0 p0 e0 about1 theMethod args0 below0 :=
  ⟨lists_1, trivial, launch0.admits_env _ _ _, launch0.least_env, fairChoices_fair.cas, fairChoices_fair.clock, w_frames, w_args, w_heap, w_applies, trivial, trivial, w_case⟩
end start1
theorem witness_1 : WitnessClaimed_1 := ⟨start1.p0, start1.e0, start1.about1, start1.theMethod, start1.args0, start1.below0, start1.atStart⟩
end Jvm.Pilot.@@N@@
