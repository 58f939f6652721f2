import JvmDerived
import JvmDerived.Pilot.@@N@@Statement
import JvmDerived.Pilot.@@N@@Code
set_option linter.unusedVariables false
set_option linter.unusedSimpArgs false
@@BLOCK:NumsL.lean.txt@@
namespace Jvm.Pilot.@@N@@
open Jvm Jvm.ClassFile Sem Op Lib Jvm.Free Jvm.Stand Jvm.LawKit Jvm.RoadKit Bundle Jvm.Pilot.@@N@@.Jvm.D
section Own
variable {p : Program} {l : Launch} {e : Env} {R : Room} {s : State} {m : MethodId} {args : Array Value} {below : List Frame} {meth : Method} {c : Code} {T T' : State} {locs : List Loc} {cells slots kc ks : Nat} {g g' : JFrame} {Q : Option Value → Heap → List Loc → Prop}
/-- from here the run goes on to its return, with Q of what it returns, the heap and the places written -/
def own_Go (p : Program) (e : Env) (below : List Frame) (s T : State) (g : JFrame) (Q : Option Value → Heap → List Loc → Prop) (kc ks : Nat) : Prop :=
  ∃ s₂ o, Steps p.tables e below (T.setTop g) s₂ ∧ s₂.status = .running ∧ Ended s₂ below o ∧ ∃ v L, o = .returned v ∧ Q v s₂.heap L ∧ FrameEnd s o s₂ L kc ks
theorem own_st (st : ∀ t, Steps p.tables e below (T'.setTop g') t → Steps p.tables e below (T.setTop g) t) (k : own_Go p e below s T' g' Q kc ks) : own_Go p e below s T g Q kc ks := by
  obtain ⟨s₂, o, h1, h2⟩ := k
  exact ⟨s₂, o, st _ h1, h2⟩
theorem own_stt (st : Steps p.tables e below (T.setTop g) (T'.setTop g')) (k : own_Go p e below s T' g' Q kc ks) : own_Go p e below s T g Q kc ks := own_st (fun _ k => st.trans k) k
theorem own_cast (q : g = g') (k : own_Go p e below s T g' Q kc ks) : own_Go p e below s T g Q kc ks := q ▸ k
theorem own_retN (X : Stand p l e R s m args below meth c T locs cells slots) (hx : p.tables.exec = Jvm.exec) (hlk : meth.locks = false) {t : FieldType} (ht : t = .boolean ∨ t = .byte ∨ t = .char ∨ t = .short) (hret : meth.sig.returnType = some t)
    {pc : Nat} {Ls : Array Slot} {z : Int32} {rest : List Value} (hd : decode c.code pc = .ok (.ireturn, 1)) (hc : cells ≤ kc) (hs : slots ≤ ks) (hq : Q (some (.int (nar t z))) T.heap locs) :
    own_Go p e below s T (mkF m pc Ls (.int z :: rest)) Q kc ks := by
  obtain ⟨fs, hr, hrun, hended, hW, hsame⟩ := X.leave (v := some (.int (nar t z))) (fun h => by rw [hret] at h; cases h) hlk
  exact ⟨_, _, retN X hx hret ht hd hr, hrun, hended, _, _, rfl, hq, ⟨_, rfl⟩, hW, hsame.mono hc hs⟩
theorem own_retI (X : Stand p l e R s m args below meth c T locs cells slots) (hx : p.tables.exec = Jvm.exec) (hlk : meth.locks = false) (hret : meth.sig.returnType = some .int)
    {pc : Nat} {Ls : Array Slot} {z : Int32} {rest : List Value} (hd : decode c.code pc = .ok (.ireturn, 1)) (hc : cells ≤ kc) (hs : slots ≤ ks) (hq : Q (some (.int z)) T.heap locs) :
    own_Go p e below s T (mkF m pc Ls (.int z :: rest)) Q kc ks := by
  obtain ⟨fs, hr, hrun, hended, hW, hsame⟩ := X.leave (v := some (.int z)) (fun h => by rw [hret] at h; cases h) hlk
  exact ⟨_, _, retOut X hx hret rfl (Or.inl ⟨rfl, Or.inl rfl, _, rfl⟩) hd hr, hrun, hended, _, _, rfl, hq, ⟨_, rfl⟩, hW, hsame.mono hc hs⟩
theorem own_retJ (X : Stand p l e R s m args below meth c T locs cells slots) (hx : p.tables.exec = Jvm.exec) (hlk : meth.locks = false) (hret : meth.sig.returnType = some .long)
    {pc : Nat} {Ls : Array Slot} {z : Int64} {rest : List Value} (hd : decode c.code pc = .ok (.lreturn, 1)) (hc : cells ≤ kc) (hs : slots ≤ ks) (hq : Q (some (.long z)) T.heap locs) :
    own_Go p e below s T (mkF m pc Ls (.long z :: rest)) Q kc ks := by
  obtain ⟨fs, hr, hrun, hended, hW, hsame⟩ := X.leave (v := some (.long z)) (fun h => by rw [hret] at h; cases h) hlk
  exact ⟨_, _, retOut X hx hret rfl (Or.inr (Or.inl ⟨rfl, rfl, _, rfl⟩)) hd hr, hrun, hended, _, _, rfl, hq, ⟨_, rfl⟩, hW, hsame.mono hc hs⟩
theorem own_retV (X : Stand p l e R s m args below meth c T locs cells slots) (hx : p.tables.exec = Jvm.exec) (hlk : meth.locks = false) (hret : meth.sig.returnType = none)
    {pc : Nat} {Ls : Array Slot} (hd : decode c.code pc = .ok (.return_, 1)) (hc : cells ≤ kc) (hs : slots ≤ ks) (hq : Q none T.heap locs) :
    own_Go p e below s T (mkF m pc Ls []) Q kc ks := by
  obtain ⟨fs, hr, hrun, hended, hW, hsame⟩ := X.leave (v := none) (fun _ => rfl) hlk
  exact ⟨_, _, X.returnOut hx hret hd hr, hrun, hended, _, _, rfl, hq, ⟨_, rfl⟩, hW, hsame.mono hc hs⟩
end Own
/-- what a body that writes nothing leaves: its value, nothing old written, the heap as it was -/
def own_QP (w : Value) (h0 : Heap) (n0 : Nat) (v : Option Value) (h : Heap) (L : List Loc) : Prop := v = some w ∧ Fr n0 L ∧ h = h0
def own_Q0 (n0 : Nat) (v : Option Value) (h : Heap) (L : List Loc) : Prop := v = some (.int 1) ∧ Fr n0 L
/-- the table of the ASCII letters, as the case's words say it -/
def own_tabn (i : Nat) : Int32 := if i < 9 then 0 else if i < 10 then 4 else if i < 11 then 4 else if i < 32 then 0 else if i < 45 then 4 else if i < 46 then 6 else if i < 47 then 6 else if i < 48 then 4 else if i < 58 then 6 else if i < 59 then 7 else if i < 65 then 4 else if i < 91 then 7 else if i < 95 then 4 else if i < 96 then 7 else if i < 97 then 4 else if i < 123 then 7 else if i < 127 then 4 else 0
def own_tab (j : Int32) : Int32 := own_tabn j.toNatClampNeg
theorem own_clamp {j : Int32} (h1 : ¬ j < 0) : (j.toNatClampNeg : Int) = j.toInt := (nat_of h1).symm
theorem own_inb {c : Cell} {j : Int32} (L : c.slots.size = 128) (h1 : ¬ j < 0) (h2 : j < 128) : ¬ (j < 0 ∨ c.slots.size ≤ j.toNatClampNeg) := by
  rintro (h | h)
  · exact h1 h
  · have := own_clamp h1
    rw [Int32.lt_iff_toInt_lt] at h2
    have : (128 : Int32).toInt = 128 := rfl
    omega
section OwnTab
variable {Z : State} {args : Array Value} {t : Term} {a : Addr} {cl : Cell}
theorem own_or {G Y : Jvm.Cond} {idx : List Nat} (h : (Jvm.Cond.or G Y).value args Z none Z idx = some true) (hG : G.value args Z none Z idx = some false) : Y.value args Z none Z idx = some true := by
  simpa [Cond.value, hG] using h
theorem own_lenv {n : Int32} (ht : t.eval args Z none [] Z = some (.ref a)) (ha : Z.arrayAt? a = some cl) (h : (Jvm.Cond.eq (.length t) (.int n)).value args Z none Z [] = some true) : cl.slots.size.toInt32 = n ∧ cl.slots.size < 2 ^ 31 := by
  by_cases hl : cl.slots.size < 2 ^ 31
  · exact ⟨gotT (Cond.eq_ints (len_f ht ha hl) (Term.int_eval n)) h, hl⟩
  · have e : (Term.length t).eval args Z none [] Z = none := by simp [Term.eval, ht, ha, hl]
    simp [Cond.value, e] at h
theorem own_i32 {i : Nat} (h : i < 128) : i.toInt32.toInt = i := Int32.toInt_ofNat_small (by omega)
theorem own_el (hf : Fit Z) (A : Arr Z Z.heap a cl .byte) (L : cl.slots.size = 128) {i : Nat} (hi : i < 128) : ∃ x, cl.slots[i]? = some (.int x) := by
  have hj : ¬ (i.toInt32 < 0 ∨ cl.slots.size ≤ i.toInt32.toNatClampNeg) := idx_in (by omega) (by omega)
  obtain ⟨v, h1, h2⟩ := elem_fit hf A hj
  obtain ⟨x, rfl⟩ := fit_I h2 (by simp)
  have hn : ¬ i.toInt32 < 0 := fun q => hj (Or.inl q)
  have e : i.toInt32.toNatClampNeg = i := by have := own_clamp hn; rw [own_i32 hi] at this; omega
  rw [e] at h1
  exact ⟨x, h1⟩
theorem own_elem (et : ∀ idx, t.eval args Z none idx Z = some (.ref a)) (A : Arr Z Z.heap a cl .byte) (L : cl.slots.size = 128) {u : Term} {idx : List Nat} {i : Nat} (hi : i < 128) (hu : u.eval args Z none idx Z = some (.int i.toInt32)) : (Term.elem t u).eval args Z none idx Z = cl.slots[i]? := by
  have hj : ¬ (i.toInt32 < 0 ∨ cl.slots.size ≤ i.toInt32.toNatClampNeg) := idx_in (by omega) (by omega)
  have hn : ¬ i.toInt32 < 0 := fun q => hj (Or.inl q)
  have e : i.toInt32.toNatClampNeg = i := by have := own_clamp hn; rw [own_i32 hi] at this; omega
  have := elem_f (et idx) hu (A.fin (Vm.Alike.refl _)) hn
  rw [e] at this
  exact this
theorem own_eqv (hf : Fit Z) (et : ∀ idx, t.eval args Z none idx Z = some (.ref a)) (A : Arr Z Z.heap a cl .byte) (L : cl.slots.size = 128) {u : Term} {idx : List Nat} {i : Nat} (hi : i < 128) (hu : u.eval args Z none idx Z = some (.int i.toInt32)) {v : Int32} (h : (Jvm.Cond.eq (.elem t u) (.int v)).value args Z none Z idx = some true) : cl.slots[i]? = some (.int v) := by
  obtain ⟨x, hx⟩ := own_el hf A L hi
  have := gotT (Cond.eq_ints ((own_elem et A L hi hu).trans hx) (Term.int_eval v)) h
  rw [hx, this]
theorem own_pt (hf : Fit Z) (et : ∀ idx, t.eval args Z none idx Z = some (.ref a)) (A : Arr Z Z.heap a cl .byte) (L : cl.slots.size = 128) {v : Int32} (k : Nat) (hk : k < 128) (h : (Jvm.Cond.eq (.elem t (.int k.toInt32)) (.int v)).value args Z none Z [] = some true) (i : Nat) (h1 : k ≤ i) (h2 : i < k + 1) : cl.slots[i]? = some (.int v) := by
  obtain rfl : i = k := by omega
  exact own_eqv hf et A L hk (Term.int_eval _) h
theorem own_r1 (hf : Fit Z) (et : ∀ idx, t.eval args Z none idx Z = some (.ref a)) (A : Arr Z Z.heap a cl .byte) (L : cl.slots.size = 128) {v : Int32} (b : Nat) (hb : b ≤ 128) (h : (Jvm.Cond.all t (.or (.le (.int b.toInt32) (.index 0)) (.eq (.elem t (.index 0)) (.int v)))).value args Z none Z [] = some true) (i : Nat) (h2 : i < b) : cl.slots[i]? = some (.int v) := by
  have q := Cond.all_elim (et []) (A.fin (Vm.Alike.refl _)) h i (by omega)
  refine own_eqv hf et A L (by omega) (Term.index_eval i) (own_or q ?_)
  refine nay (Cond.le_ints (Term.int_eval _) (Term.index_eval i)) ?_
  rw [Int32.le_iff_toInt_le, own_i32 (i := i) (by omega)]
  have : b.toInt32.toInt = b := Int32.toInt_ofNat_small (by omega)
  omega
theorem own_r2 (hf : Fit Z) (et : ∀ idx, t.eval args Z none idx Z = some (.ref a)) (A : Arr Z Z.heap a cl .byte) (L : cl.slots.size = 128) {v : Int32} (k b : Nat) (hb : b ≤ 128) (h : (Jvm.Cond.all t (.or (.lt (.index 0) (.int k.toInt32)) (.or (.le (.int b.toInt32) (.index 0)) (.eq (.elem t (.index 0)) (.int v))))).value args Z none Z [] = some true) (i : Nat) (h1 : k ≤ i) (h2 : i < b) : cl.slots[i]? = some (.int v) := by
  have q := Cond.all_elim (et []) (A.fin (Vm.Alike.refl _)) h i (by omega)
  have bi : b.toInt32.toInt = b := Int32.toInt_ofNat_small (by omega)
  have ki : k.toInt32.toInt = k := Int32.toInt_ofNat_small (by omega)
  refine own_eqv hf et A L (by omega) (Term.index_eval i) (own_or (own_or q ?_) ?_)
  · refine nay (Cond.lt_ints (Term.index_eval i) (Term.int_eval _)) ?_
    rw [Int32.lt_iff_toInt_lt, own_i32 (i := i) (by omega)]
    omega
  · refine nay (Cond.le_ints (Term.int_eval _) (Term.index_eval i)) ?_
    rw [Int32.le_iff_toInt_le, own_i32 (i := i) (by omega)]
    omega
end OwnTab
set_option maxRecDepth 65536 in
set_option maxHeartbeats 4000000 in
theorem own_table {Z : State} {args : Array Value} (hf : Fit Z) (hi : (Jvm.Cond.initialized "com/example/flycatcher/flycatcher/xml/XmlChars").before args Z = true) (hl : (Jvm.Cond.laysStatic "com/example/flycatcher/flycatcher/xml/XmlChars" "ASCII" "[B").before args Z = true) (hn : narrow_1.value args Z none Z [] = some true) :
    ∃ tA cA, Sta Z Z.heap "com/example/flycatcher/flycatcher/xml/XmlChars" "ASCII" "[B" (.ref tA) ∧ Arr Z Z.heap tA cA .byte ∧ cA.slots.size = 128 ∧ ∀ j : Int32, ¬ j < 0 → j < 128 → cA.slots[j.toNatClampNeg]? = some (.int (own_tab j)) := by
  unfold narrow_1 at hn
  obtain ⟨n1, hn⟩ := and_e hn
  obtain ⟨n2, hn⟩ := and_e hn
  obtain ⟨n3, hn⟩ := and_e hn
  obtain ⟨n4, hn⟩ := and_e hn
  obtain ⟨n5, hn⟩ := and_e hn
  obtain ⟨n6, hn⟩ := and_e hn
  obtain ⟨n7, hn⟩ := and_e hn
  obtain ⟨n8, hn⟩ := and_e hn
  obtain ⟨n9, hn⟩ := and_e hn
  obtain ⟨n10, hn⟩ := and_e hn
  obtain ⟨n11, hn⟩ := and_e hn
  obtain ⟨n12, hn⟩ := and_e hn
  obtain ⟨n13, hn⟩ := and_e hn
  obtain ⟨n14, hn⟩ := and_e hn
  obtain ⟨n15, hn⟩ := and_e hn
  obtain ⟨n16, hn⟩ := and_e hn
  obtain ⟨n17, hn⟩ := and_e hn
  obtain ⟨n18, hn⟩ := and_e hn
  obtain ⟨n19, n20⟩ := and_e hn
  obtain ⟨tA, ev⟩ := arr_v n1
  obtain ⟨cA, A⟩ := Arr.start ev n1
  have et : ∀ idx, (Term.static "com/example/flycatcher/flycatcher/xml/XmlChars" "ASCII" "[B").eval args Z none idx Z = some (.ref tA) := fun idx => ev
  have L : cA.slots.size = 128 := by
    obtain ⟨q1, q2⟩ := own_lenv ev (A.fin (Vm.Alike.refl Z.vm)) n2
    have q := congrArg Int32.toInt q1
    rw [len_toInt q2] at q
    have : (128 : Int32).toInt = 128 := rfl
    omega
  refine ⟨tA, cA, Sta.start ev (Or.inr ⟨hi, hl⟩), A, L, fun j h1 h2 => ?_⟩
  have hj : j.toNatClampNeg < 128 := Nat.lt_of_not_le fun q => own_inb L h1 h2 (Or.inr (by omega))
  show cA.slots[j.toNatClampNeg]? = some (.int (own_tabn j.toNatClampNeg))
  generalize j.toNatClampNeg = i at hj ⊢
  unfold own_tabn
  by_cases c0 : i < 9
  · rw [if_pos c0]; exact own_r1 hf et A L 9 (by decide) n3 i (by omega)
  rw [if_neg c0]
  by_cases c1 : i < 10
  · rw [if_pos c1]; exact own_pt hf et A L 9 (by decide) n4 i (by omega) (by omega)
  rw [if_neg c1]
  by_cases c2 : i < 11
  · rw [if_pos c2]; exact own_pt hf et A L 10 (by decide) n5 i (by omega) (by omega)
  rw [if_neg c2]
  by_cases c3 : i < 32
  · rw [if_pos c3]; exact own_r2 hf et A L 11 32 (by decide) n6 i (by omega) (by omega)
  rw [if_neg c3]
  by_cases c4 : i < 45
  · rw [if_pos c4]; exact own_r2 hf et A L 32 45 (by decide) n7 i (by omega) (by omega)
  rw [if_neg c4]
  by_cases c5 : i < 46
  · rw [if_pos c5]; exact own_pt hf et A L 45 (by decide) n8 i (by omega) (by omega)
  rw [if_neg c5]
  by_cases c6 : i < 47
  · rw [if_pos c6]; exact own_pt hf et A L 46 (by decide) n9 i (by omega) (by omega)
  rw [if_neg c6]
  by_cases c7 : i < 48
  · rw [if_pos c7]; exact own_pt hf et A L 47 (by decide) n10 i (by omega) (by omega)
  rw [if_neg c7]
  by_cases c8 : i < 58
  · rw [if_pos c8]; exact own_r2 hf et A L 48 58 (by decide) n11 i (by omega) (by omega)
  rw [if_neg c8]
  by_cases c9 : i < 59
  · rw [if_pos c9]; exact own_pt hf et A L 58 (by decide) n12 i (by omega) (by omega)
  rw [if_neg c9]
  by_cases c10 : i < 65
  · rw [if_pos c10]; exact own_r2 hf et A L 59 65 (by decide) n13 i (by omega) (by omega)
  rw [if_neg c10]
  by_cases c11 : i < 91
  · rw [if_pos c11]; exact own_r2 hf et A L 65 91 (by decide) n14 i (by omega) (by omega)
  rw [if_neg c11]
  by_cases c12 : i < 95
  · rw [if_pos c12]; exact own_r2 hf et A L 91 95 (by decide) n15 i (by omega) (by omega)
  rw [if_neg c12]
  by_cases c13 : i < 96
  · rw [if_pos c13]; exact own_pt hf et A L 95 (by decide) n16 i (by omega) (by omega)
  rw [if_neg c13]
  by_cases c14 : i < 97
  · rw [if_pos c14]; exact own_pt hf et A L 96 (by decide) n17 i (by omega) (by omega)
  rw [if_neg c14]
  by_cases c15 : i < 123
  · rw [if_pos c15]; exact own_r2 hf et A L 97 123 (by decide) n18 i (by omega) (by omega)
  rw [if_neg c15]
  by_cases c16 : i < 127
  · rw [if_pos c16]; exact own_r2 hf et A L 123 127 (by decide) n19 i (by omega) (by omega)
  rw [if_neg c16]
  exact own_pt hf et A L 127 (by decide) n20 i (by omega) (by omega)
theorem own_d1_0 : decode prog_174_method_5_code 0 = .ok (.iload_n 0, 1) := by decide +kernel
theorem own_d1_1 : decode prog_174_method_5_code 1 = .ok (.sipush 128, 3) := by decide +kernel
theorem own_d1_4 : decode prog_174_method_5_code 4 = .ok (.if_icmp .ge 23, 3) := by decide +kernel
theorem own_d1_7 : decode prog_174_method_5_code 7 = .ok (.iload_n 0, 1) := by decide +kernel
theorem own_d1_8 : decode prog_174_method_5_code 8 = .ok (.ifCond .lt 17, 3) := by decide +kernel
theorem own_d1_11 : decode prog_174_method_5_code 11 = .ok (.getstatic 24, 3) := by decide +kernel
theorem own_d1_14 : decode prog_174_method_5_code 14 = .ok (.iload_n 0, 1) := by decide +kernel
theorem own_d1_15 : decode prog_174_method_5_code 15 = .ok (.baload, 1) := by decide +kernel
theorem own_d1_16 : decode prog_174_method_5_code 16 = .ok (.iconst 4, 1) := by decide +kernel
theorem own_d1_17 : decode prog_174_method_5_code 17 = .ok (.iand, 1) := by decide +kernel
theorem own_d1_18 : decode prog_174_method_5_code 18 = .ok (.ifCond .eq 7, 3) := by decide +kernel
theorem own_d1_21 : decode prog_174_method_5_code 21 = .ok (.iconst 1, 1) := by decide +kernel
theorem own_d1_22 : decode prog_174_method_5_code 22 = .ok (.goto 4, 3) := by decide +kernel
theorem own_d1_25 : decode prog_174_method_5_code 25 = .ok (.iconst 0, 1) := by decide +kernel
theorem own_d1_26 : decode prog_174_method_5_code 26 = .ok (.ireturn, 1) := by decide +kernel
theorem own_d1_27 : decode prog_174_method_5_code 27 = .ok (.iload_n 0, 1) := by decide +kernel
theorem own_d1_28 : decode prog_174_method_5_code 28 = .ok (.sipush 160, 3) := by decide +kernel
theorem own_d1_31 : decode prog_174_method_5_code 31 = .ok (.if_icmp .lt 20, 3) := by decide +kernel
theorem own_d1_34 : decode prog_174_method_5_code 34 = .ok (.iload_n 0, 1) := by decide +kernel
theorem own_d1_35 : decode prog_174_method_5_code 35 = .ok (.ldc 7, 2) := by decide +kernel
theorem own_d1_37 : decode prog_174_method_5_code 37 = .ok (.if_icmp .gt 14, 3) := by decide +kernel
theorem own_d1_40 : decode prog_174_method_5_code 40 = .ok (.iload_n 0, 1) := by decide +kernel
theorem own_d1_41 : decode prog_174_method_5_code 41 = .ok (.sipush 8232, 3) := by decide +kernel
theorem own_d1_44 : decode prog_174_method_5_code 44 = .ok (.if_icmp .eq 7, 3) := by decide +kernel
theorem own_d1_47 : decode prog_174_method_5_code 47 = .ok (.iconst 1, 1) := by decide +kernel
theorem own_d1_48 : decode prog_174_method_5_code 48 = .ok (.goto 4, 3) := by decide +kernel
theorem own_d1_51 : decode prog_174_method_5_code 51 = .ok (.iconst 0, 1) := by decide +kernel
theorem own_d1_52 : decode prog_174_method_5_code 52 = .ok (.istore_n 1, 1) := by decide +kernel
theorem own_d1_53 : decode prog_174_method_5_code 53 = .ok (.iload_n 0, 1) := by decide +kernel
theorem own_d1_54 : decode prog_174_method_5_code 54 = .ok (.ldc 8, 2) := by decide +kernel
theorem own_d1_56 : decode prog_174_method_5_code 56 = .ok (.if_icmp .lt 25, 3) := by decide +kernel
theorem own_d1_59 : decode prog_174_method_5_code 59 = .ok (.iload_n 0, 1) := by decide +kernel
theorem own_d1_60 : decode prog_174_method_5_code 60 = .ok (.ldc 9, 2) := by decide +kernel
theorem own_d1_62 : decode prog_174_method_5_code 62 = .ok (.if_icmp .gt 19, 3) := by decide +kernel
theorem own_d1_65 : decode prog_174_method_5_code 65 = .ok (.iload_n 0, 1) := by decide +kernel
theorem own_d1_66 : decode prog_174_method_5_code 66 = .ok (.ldc 30, 2) := by decide +kernel
theorem own_d1_68 : decode prog_174_method_5_code 68 = .ok (.if_icmp .lt 9, 3) := by decide +kernel
theorem own_d1_71 : decode prog_174_method_5_code 71 = .ok (.iload_n 0, 1) := by decide +kernel
theorem own_d1_72 : decode prog_174_method_5_code 72 = .ok (.ldc 31, 2) := by decide +kernel
theorem own_d1_74 : decode prog_174_method_5_code 74 = .ok (.if_icmp .le 7, 3) := by decide +kernel
theorem own_d1_77 : decode prog_174_method_5_code 77 = .ok (.iconst 1, 1) := by decide +kernel
theorem own_d1_78 : decode prog_174_method_5_code 78 = .ok (.goto 4, 3) := by decide +kernel
theorem own_d1_81 : decode prog_174_method_5_code 81 = .ok (.iconst 0, 1) := by decide +kernel
theorem own_d1_82 : decode prog_174_method_5_code 82 = .ok (.istore_n 2, 1) := by decide +kernel
theorem own_d1_83 : decode prog_174_method_5_code 83 = .ok (.iload_n 1, 1) := by decide +kernel
theorem own_d1_84 : decode prog_174_method_5_code 84 = .ok (.ifCond .ne 7, 3) := by decide +kernel
theorem own_d1_87 : decode prog_174_method_5_code 87 = .ok (.iload_n 2, 1) := by decide +kernel
theorem own_d1_88 : decode prog_174_method_5_code 88 = .ok (.ifCond .eq 7, 3) := by decide +kernel
theorem own_d1_91 : decode prog_174_method_5_code 91 = .ok (.iconst 1, 1) := by decide +kernel
theorem own_d1_92 : decode prog_174_method_5_code 92 = .ok (.goto 4, 3) := by decide +kernel
theorem own_d1_95 : decode prog_174_method_5_code 95 = .ok (.iconst 0, 1) := by decide +kernel
theorem own_d1_96 : decode prog_174_method_5_code 96 = .ok (.ireturn, 1) := by decide +kernel
theorem own_pn0 : plainName "com/example/flycatcher/flycatcher/xml/XmlChars" = true := by first | (simp [plainName, overriddenIn]; done) | decide +kernel
def own_f1_82 (x0 : Int32) (x1 : Int32) (y0 : Int32) : Int32 := (if x1 = (0 : Int32) then (if y0 = (0 : Int32) then (0 : Int32) else (1 : Int32)) else (1 : Int32))
set_option maxRecDepth 65536 in
set_option maxHeartbeats 4000000 in
theorem own_b1_82 {p : Program} {l : Launch} {e : Env} {s : State} {m : MethodId} {args : Array Value} {below : List Frame} {meth : Method} {c : Code} {T : State} {locs : List Loc} {cells slots : Nat} {Z : State} {a0 : Array Value} {h0 : Heap} {n0 : Nat} (X0 : Stand p l e ({ frames := 0, cells := 0, slots := 0, locals := 0 } : Room) s m args below meth c T locs cells slots) (hx : p.tables.exec = Jvm.exec) (hlk : meth.locks = false) (hby : c.code = prog_174_method_5_code) (hml : c.maxLocals = 3) (hret : meth.sig.returnType = some .boolean) (hown : s.vm.findClass "com/example/flycatcher/flycatcher/xml/XmlChars" = some m.cls) (hZ : Z.Warmed39 s.vm) (hw : ∀ d ∈ tables_1, d.before a0 Z = true) (e0 : T.heap = h0) (N0 : Fr n0 locs) (hcs : cells ≤ 0) (hss : slots ≤ 0) (tA : Addr) (cA : Cell) (SA : Sta Z h0 "com/example/flycatcher/flycatcher/xml/XmlChars" "ASCII" "[B" (.ref tA)) (AA : Arr Z h0 tA cA .byte) (LA : cA.slots.size = 128) (HA : ∀ j : Int32, ¬ j < 0 → j < 128 → cA.slots[j.toNatClampNeg]? = some (.int (own_tab j))) (x0 : Int32) (x1 : Int32) (y0 : Int32) :
    own_Go p e below s T (mkF m 82 #[.val (.int x0), .val (.int x1), .unset] [(.int y0)]) (own_QP (.int (nar .boolean (own_f1_82 x0 x1 y0))) h0 n0) 0 0 := by
  unfold own_f1_82
  refine own_st (g' := (mkF m 83 #[.val (.int x0), .val (.int x1), .val (.int y0)] [])) (fun tt_ kk_ => XS.istoreN X0.here hx rfl (hb hby own_d1_82) rfl (l' := #[.val (.int x0), .val (.int x1), .val (.int y0)]) rfl kk_) ?_
  refine own_st (g' := (mkF m 84 #[.val (.int x0), .val (.int x1), .val (.int y0)] [(.int x1)])) (fun tt_ kk_ => XS.iloadN X0.here hx rfl (hb hby own_d1_83) rfl kk_) ?_
  by_cases hc84 : x1 = (0 : Int32)
  · rw [if_pos hc84]
    refine own_st (g' := (mkF m 87 #[.val (.int x0), .val (.int x1), .val (.int y0)] [])) (fun tt_ kk_ => XS.ifNo X0.here hx rfl (hb hby own_d1_84) rfl ((if0 _ _).trans (teq hc84).2) kk_) ?_
    refine own_st (g' := (mkF m 88 #[.val (.int x0), .val (.int x1), .val (.int y0)] [(.int y0)])) (fun tt_ kk_ => XS.iloadN X0.here hx rfl (hb hby own_d1_87) rfl kk_) ?_
    by_cases hc88 : y0 = (0 : Int32)
    · rw [if_pos hc88]
      refine own_st (g' := (mkF m 95 #[.val (.int x0), .val (.int x1), .val (.int y0)] [])) (fun tt_ kk_ => XS.ifYes X0.here hx rfl (pc0 := 88) (pc' := 95) rfl (hb hby own_d1_88) rfl ((if0 _ _).trans (teq hc88).1) (by decide) (by decide) kk_) ?_
      refine own_st (g' := (mkF m 96 #[.val (.int x0), .val (.int x1), .val (.int y0)] [(.int (0 : Int32))])) (fun tt_ kk_ => XS.iconst X0.here hx rfl (hb hby own_d1_95) kk_) ?_
      exact own_retN X0 hx hlk (t := .boolean) (Or.inl rfl) hret (hb hby own_d1_96) hcs hss ⟨rfl, N0, e0⟩
    rw [if_neg hc88]
    refine own_st (g' := (mkF m 91 #[.val (.int x0), .val (.int x1), .val (.int y0)] [])) (fun tt_ kk_ => XS.ifNo X0.here hx rfl (hb hby own_d1_88) rfl ((if0 _ _).trans (feq hc88).1) kk_) ?_
    refine own_st (g' := (mkF m 92 #[.val (.int x0), .val (.int x1), .val (.int y0)] [(.int (1 : Int32))])) (fun tt_ kk_ => XS.iconst X0.here hx rfl (hb hby own_d1_91) kk_) ?_
    refine own_st (g' := (mkF m 96 #[.val (.int x0), .val (.int x1), .val (.int y0)] [(.int (1 : Int32))])) (fun tt_ kk_ => XS.goto X0.here hx rfl (pc0 := 92) (pc' := 96) rfl (hb hby own_d1_92) (by decide) (by decide) kk_) ?_
    exact own_retN X0 hx hlk (t := .boolean) (Or.inl rfl) hret (hb hby own_d1_96) hcs hss ⟨rfl, N0, e0⟩
  rw [if_neg hc84]
  refine own_st (g' := (mkF m 91 #[.val (.int x0), .val (.int x1), .val (.int y0)] [])) (fun tt_ kk_ => XS.ifYes X0.here hx rfl (pc0 := 84) (pc' := 91) rfl (hb hby own_d1_84) rfl ((if0 _ _).trans (feq hc84).2) (by decide) (by decide) kk_) ?_
  refine own_st (g' := (mkF m 92 #[.val (.int x0), .val (.int x1), .val (.int y0)] [(.int (1 : Int32))])) (fun tt_ kk_ => XS.iconst X0.here hx rfl (hb hby own_d1_91) kk_) ?_
  refine own_st (g' := (mkF m 96 #[.val (.int x0), .val (.int x1), .val (.int y0)] [(.int (1 : Int32))])) (fun tt_ kk_ => XS.goto X0.here hx rfl (pc0 := 92) (pc' := 96) rfl (hb hby own_d1_92) (by decide) (by decide) kk_) ?_
  exact own_retN X0 hx hlk (t := .boolean) (Or.inl rfl) hret (hb hby own_d1_96) hcs hss ⟨rfl, N0, e0⟩
def own_f1_81 (x0 : Int32) (x1 : Int32) : Int32 := (own_f1_82 x0 x1 (0 : Int32))
set_option maxRecDepth 65536 in
set_option maxHeartbeats 4000000 in
theorem own_b1_81 {p : Program} {l : Launch} {e : Env} {s : State} {m : MethodId} {args : Array Value} {below : List Frame} {meth : Method} {c : Code} {T : State} {locs : List Loc} {cells slots : Nat} {Z : State} {a0 : Array Value} {h0 : Heap} {n0 : Nat} (X0 : Stand p l e ({ frames := 0, cells := 0, slots := 0, locals := 0 } : Room) s m args below meth c T locs cells slots) (hx : p.tables.exec = Jvm.exec) (hlk : meth.locks = false) (hby : c.code = prog_174_method_5_code) (hml : c.maxLocals = 3) (hret : meth.sig.returnType = some .boolean) (hown : s.vm.findClass "com/example/flycatcher/flycatcher/xml/XmlChars" = some m.cls) (hZ : Z.Warmed39 s.vm) (hw : ∀ d ∈ tables_1, d.before a0 Z = true) (e0 : T.heap = h0) (N0 : Fr n0 locs) (hcs : cells ≤ 0) (hss : slots ≤ 0) (tA : Addr) (cA : Cell) (SA : Sta Z h0 "com/example/flycatcher/flycatcher/xml/XmlChars" "ASCII" "[B" (.ref tA)) (AA : Arr Z h0 tA cA .byte) (LA : cA.slots.size = 128) (HA : ∀ j : Int32, ¬ j < 0 → j < 128 → cA.slots[j.toNatClampNeg]? = some (.int (own_tab j))) (x0 : Int32) (x1 : Int32) :
    own_Go p e below s T (mkF m 81 #[.val (.int x0), .val (.int x1), .unset] []) (own_QP (.int (nar .boolean (own_f1_81 x0 x1))) h0 n0) 0 0 := by
  unfold own_f1_81
  refine own_st (g' := (mkF m 82 #[.val (.int x0), .val (.int x1), .unset] [(.int (0 : Int32))])) (fun tt_ kk_ => XS.iconst X0.here hx rfl (hb hby own_d1_81) kk_) ?_
  exact own_b1_82 X0 hx hlk hby hml hret hown hZ hw e0 N0 hcs hss tA cA SA AA LA HA x0 x1 (0 : Int32)
def own_f1_77 (x0 : Int32) (x1 : Int32) : Int32 := (own_f1_82 x0 x1 (1 : Int32))
set_option maxRecDepth 65536 in
set_option maxHeartbeats 4000000 in
theorem own_b1_77 {p : Program} {l : Launch} {e : Env} {s : State} {m : MethodId} {args : Array Value} {below : List Frame} {meth : Method} {c : Code} {T : State} {locs : List Loc} {cells slots : Nat} {Z : State} {a0 : Array Value} {h0 : Heap} {n0 : Nat} (X0 : Stand p l e ({ frames := 0, cells := 0, slots := 0, locals := 0 } : Room) s m args below meth c T locs cells slots) (hx : p.tables.exec = Jvm.exec) (hlk : meth.locks = false) (hby : c.code = prog_174_method_5_code) (hml : c.maxLocals = 3) (hret : meth.sig.returnType = some .boolean) (hown : s.vm.findClass "com/example/flycatcher/flycatcher/xml/XmlChars" = some m.cls) (hZ : Z.Warmed39 s.vm) (hw : ∀ d ∈ tables_1, d.before a0 Z = true) (e0 : T.heap = h0) (N0 : Fr n0 locs) (hcs : cells ≤ 0) (hss : slots ≤ 0) (tA : Addr) (cA : Cell) (SA : Sta Z h0 "com/example/flycatcher/flycatcher/xml/XmlChars" "ASCII" "[B" (.ref tA)) (AA : Arr Z h0 tA cA .byte) (LA : cA.slots.size = 128) (HA : ∀ j : Int32, ¬ j < 0 → j < 128 → cA.slots[j.toNatClampNeg]? = some (.int (own_tab j))) (x0 : Int32) (x1 : Int32) :
    own_Go p e below s T (mkF m 77 #[.val (.int x0), .val (.int x1), .unset] []) (own_QP (.int (nar .boolean (own_f1_77 x0 x1))) h0 n0) 0 0 := by
  unfold own_f1_77
  refine own_st (g' := (mkF m 78 #[.val (.int x0), .val (.int x1), .unset] [(.int (1 : Int32))])) (fun tt_ kk_ => XS.iconst X0.here hx rfl (hb hby own_d1_77) kk_) ?_
  refine own_st (g' := (mkF m 82 #[.val (.int x0), .val (.int x1), .unset] [(.int (1 : Int32))])) (fun tt_ kk_ => XS.goto X0.here hx rfl (pc0 := 78) (pc' := 82) rfl (hb hby own_d1_78) (by decide) (by decide) kk_) ?_
  exact own_b1_82 X0 hx hlk hby hml hret hown hZ hw e0 N0 hcs hss tA cA SA AA LA HA x0 x1 (1 : Int32)
def own_f1_52 (x0 : Int32) (y0 : Int32) : Int32 := (if x0 < (57344 : Int32) then (own_f1_81 x0 y0) else (if (65533 : Int32) < x0 then (own_f1_81 x0 y0) else (if x0 < (64976 : Int32) then (own_f1_77 x0 y0) else (if (65007 : Int32) < x0 then (own_f1_77 x0 y0) else (own_f1_81 x0 y0)))))
set_option maxRecDepth 65536 in
set_option maxHeartbeats 4000000 in
theorem own_b1_52 {p : Program} {l : Launch} {e : Env} {s : State} {m : MethodId} {args : Array Value} {below : List Frame} {meth : Method} {c : Code} {T : State} {locs : List Loc} {cells slots : Nat} {Z : State} {a0 : Array Value} {h0 : Heap} {n0 : Nat} (X0 : Stand p l e ({ frames := 0, cells := 0, slots := 0, locals := 0 } : Room) s m args below meth c T locs cells slots) (hx : p.tables.exec = Jvm.exec) (hlk : meth.locks = false) (hby : c.code = prog_174_method_5_code) (hml : c.maxLocals = 3) (hret : meth.sig.returnType = some .boolean) (hown : s.vm.findClass "com/example/flycatcher/flycatcher/xml/XmlChars" = some m.cls) (hZ : Z.Warmed39 s.vm) (hw : ∀ d ∈ tables_1, d.before a0 Z = true) (e0 : T.heap = h0) (N0 : Fr n0 locs) (hcs : cells ≤ 0) (hss : slots ≤ 0) (tA : Addr) (cA : Cell) (SA : Sta Z h0 "com/example/flycatcher/flycatcher/xml/XmlChars" "ASCII" "[B" (.ref tA)) (AA : Arr Z h0 tA cA .byte) (LA : cA.slots.size = 128) (HA : ∀ j : Int32, ¬ j < 0 → j < 128 → cA.slots[j.toNatClampNeg]? = some (.int (own_tab j))) (x0 : Int32) (y0 : Int32) :
    own_Go p e below s T (mkF m 52 #[.val (.int x0), .unset, .unset] [(.int y0)]) (own_QP (.int (nar .boolean (own_f1_52 x0 y0))) h0 n0) 0 0 := by
  unfold own_f1_52
  refine own_st (g' := (mkF m 53 #[.val (.int x0), .val (.int y0), .unset] [])) (fun tt_ kk_ => XS.istoreN X0.here hx rfl (hb hby own_d1_52) rfl (l' := #[.val (.int x0), .val (.int y0), .unset]) rfl kk_) ?_
  refine own_st (g' := (mkF m 54 #[.val (.int x0), .val (.int y0), .unset] [(.int x0)])) (fun tt_ kk_ => XS.iloadN X0.here hx rfl (hb hby own_d1_53) rfl kk_) ?_
  refine own_st (g' := (mkF m 56 #[.val (.int x0), .val (.int y0), .unset] [(.int (57344 : Int32)), (.int x0)])) (fun tt_ kk_ => X0.ldcInt hx hown (mvT hZ (hw _ (List.mem_of_getElem? (i := 22) rfl))) (g := (mkF m 54 #[.val (.int x0), .val (.int y0), .unset] [(.int x0)])) rfl (hb hby own_d1_54) _ kk_) ?_
  by_cases hc56 : x0 < (57344 : Int32)
  · rw [if_pos hc56]
    refine own_st (g' := (mkF m 81 #[.val (.int x0), .val (.int y0), .unset] [])) (fun tt_ kk_ => XS.icmpYes X0.here hx rfl (pc0 := 56) (pc' := 81) rfl (hb hby own_d1_56) rfl (tlt hc56).1 (by decide) (by decide) kk_) ?_
    exact own_b1_81 X0 hx hlk hby hml hret hown hZ hw e0 N0 hcs hss tA cA SA AA LA HA x0 y0
  rw [if_neg hc56]
  refine own_st (g' := (mkF m 59 #[.val (.int x0), .val (.int y0), .unset] [])) (fun tt_ kk_ => XS.icmpNo X0.here hx rfl (hb hby own_d1_56) rfl (flt hc56).1 kk_) ?_
  refine own_st (g' := (mkF m 60 #[.val (.int x0), .val (.int y0), .unset] [(.int x0)])) (fun tt_ kk_ => XS.iloadN X0.here hx rfl (hb hby own_d1_59) rfl kk_) ?_
  refine own_st (g' := (mkF m 62 #[.val (.int x0), .val (.int y0), .unset] [(.int (65533 : Int32)), (.int x0)])) (fun tt_ kk_ => X0.ldcInt hx hown (mvT hZ (hw _ (List.mem_of_getElem? (i := 23) rfl))) (g := (mkF m 60 #[.val (.int x0), .val (.int y0), .unset] [(.int x0)])) rfl (hb hby own_d1_60) _ kk_) ?_
  by_cases hc62 : (65533 : Int32) < x0
  · rw [if_pos hc62]
    refine own_st (g' := (mkF m 81 #[.val (.int x0), .val (.int y0), .unset] [])) (fun tt_ kk_ => XS.icmpYes X0.here hx rfl (pc0 := 62) (pc' := 81) rfl (hb hby own_d1_62) rfl (tlt hc62).2.2.1 (by decide) (by decide) kk_) ?_
    exact own_b1_81 X0 hx hlk hby hml hret hown hZ hw e0 N0 hcs hss tA cA SA AA LA HA x0 y0
  rw [if_neg hc62]
  refine own_st (g' := (mkF m 65 #[.val (.int x0), .val (.int y0), .unset] [])) (fun tt_ kk_ => XS.icmpNo X0.here hx rfl (hb hby own_d1_62) rfl (flt hc62).2.2.1 kk_) ?_
  refine own_st (g' := (mkF m 66 #[.val (.int x0), .val (.int y0), .unset] [(.int x0)])) (fun tt_ kk_ => XS.iloadN X0.here hx rfl (hb hby own_d1_65) rfl kk_) ?_
  refine own_st (g' := (mkF m 68 #[.val (.int x0), .val (.int y0), .unset] [(.int (64976 : Int32)), (.int x0)])) (fun tt_ kk_ => X0.ldcInt hx hown (mvT hZ (hw _ (List.mem_of_getElem? (i := 24) rfl))) (g := (mkF m 66 #[.val (.int x0), .val (.int y0), .unset] [(.int x0)])) rfl (hb hby own_d1_66) _ kk_) ?_
  by_cases hc68 : x0 < (64976 : Int32)
  · rw [if_pos hc68]
    refine own_st (g' := (mkF m 77 #[.val (.int x0), .val (.int y0), .unset] [])) (fun tt_ kk_ => XS.icmpYes X0.here hx rfl (pc0 := 68) (pc' := 77) rfl (hb hby own_d1_68) rfl (tlt hc68).1 (by decide) (by decide) kk_) ?_
    exact own_b1_77 X0 hx hlk hby hml hret hown hZ hw e0 N0 hcs hss tA cA SA AA LA HA x0 y0
  rw [if_neg hc68]
  refine own_st (g' := (mkF m 71 #[.val (.int x0), .val (.int y0), .unset] [])) (fun tt_ kk_ => XS.icmpNo X0.here hx rfl (hb hby own_d1_68) rfl (flt hc68).1 kk_) ?_
  refine own_st (g' := (mkF m 72 #[.val (.int x0), .val (.int y0), .unset] [(.int x0)])) (fun tt_ kk_ => XS.iloadN X0.here hx rfl (hb hby own_d1_71) rfl kk_) ?_
  refine own_st (g' := (mkF m 74 #[.val (.int x0), .val (.int y0), .unset] [(.int (65007 : Int32)), (.int x0)])) (fun tt_ kk_ => X0.ldcInt hx hown (mvT hZ (hw _ (List.mem_of_getElem? (i := 25) rfl))) (g := (mkF m 72 #[.val (.int x0), .val (.int y0), .unset] [(.int x0)])) rfl (hb hby own_d1_72) _ kk_) ?_
  by_cases hc74 : (65007 : Int32) < x0
  · rw [if_pos hc74]
    refine own_st (g' := (mkF m 77 #[.val (.int x0), .val (.int y0), .unset] [])) (fun tt_ kk_ => XS.icmpNo X0.here hx rfl (hb hby own_d1_74) rfl (tlt hc74).2.2.2 kk_) ?_
    exact own_b1_77 X0 hx hlk hby hml hret hown hZ hw e0 N0 hcs hss tA cA SA AA LA HA x0 y0
  rw [if_neg hc74]
  refine own_st (g' := (mkF m 81 #[.val (.int x0), .val (.int y0), .unset] [])) (fun tt_ kk_ => XS.icmpYes X0.here hx rfl (pc0 := 74) (pc' := 81) rfl (hb hby own_d1_74) rfl (flt hc74).2.2.2 (by decide) (by decide) kk_) ?_
  exact own_b1_81 X0 hx hlk hby hml hret hown hZ hw e0 N0 hcs hss tA cA SA AA LA HA x0 y0
def own_f1_51 (x0 : Int32) : Int32 := (own_f1_52 x0 (0 : Int32))
set_option maxRecDepth 65536 in
set_option maxHeartbeats 4000000 in
theorem own_b1_51 {p : Program} {l : Launch} {e : Env} {s : State} {m : MethodId} {args : Array Value} {below : List Frame} {meth : Method} {c : Code} {T : State} {locs : List Loc} {cells slots : Nat} {Z : State} {a0 : Array Value} {h0 : Heap} {n0 : Nat} (X0 : Stand p l e ({ frames := 0, cells := 0, slots := 0, locals := 0 } : Room) s m args below meth c T locs cells slots) (hx : p.tables.exec = Jvm.exec) (hlk : meth.locks = false) (hby : c.code = prog_174_method_5_code) (hml : c.maxLocals = 3) (hret : meth.sig.returnType = some .boolean) (hown : s.vm.findClass "com/example/flycatcher/flycatcher/xml/XmlChars" = some m.cls) (hZ : Z.Warmed39 s.vm) (hw : ∀ d ∈ tables_1, d.before a0 Z = true) (e0 : T.heap = h0) (N0 : Fr n0 locs) (hcs : cells ≤ 0) (hss : slots ≤ 0) (tA : Addr) (cA : Cell) (SA : Sta Z h0 "com/example/flycatcher/flycatcher/xml/XmlChars" "ASCII" "[B" (.ref tA)) (AA : Arr Z h0 tA cA .byte) (LA : cA.slots.size = 128) (HA : ∀ j : Int32, ¬ j < 0 → j < 128 → cA.slots[j.toNatClampNeg]? = some (.int (own_tab j))) (x0 : Int32) :
    own_Go p e below s T (mkF m 51 #[.val (.int x0), .unset, .unset] []) (own_QP (.int (nar .boolean (own_f1_51 x0))) h0 n0) 0 0 := by
  unfold own_f1_51
  refine own_st (g' := (mkF m 52 #[.val (.int x0), .unset, .unset] [(.int (0 : Int32))])) (fun tt_ kk_ => XS.iconst X0.here hx rfl (hb hby own_d1_51) kk_) ?_
  exact own_b1_52 X0 hx hlk hby hml hret hown hZ hw e0 N0 hcs hss tA cA SA AA LA HA x0 (0 : Int32)
def own_f1_0 (x0 : Int32) : Int32 := (if x0 < (128 : Int32) then (if x0 < (0 : Int32) then (0 : Int32) else (if ((own_tab x0) &&& (4 : Int32)) = (0 : Int32) then (0 : Int32) else (1 : Int32))) else (if x0 < (160 : Int32) then (own_f1_51 x0) else (if (55295 : Int32) < x0 then (own_f1_51 x0) else (if x0 = (8232 : Int32) then (own_f1_51 x0) else (own_f1_52 x0 (1 : Int32))))))
set_option maxRecDepth 65536 in
set_option maxHeartbeats 4000000 in
theorem own_b1_0 {p : Program} {l : Launch} {e : Env} {s : State} {m : MethodId} {args : Array Value} {below : List Frame} {meth : Method} {c : Code} {T : State} {locs : List Loc} {cells slots : Nat} {Z : State} {a0 : Array Value} {h0 : Heap} {n0 : Nat} (X0 : Stand p l e ({ frames := 0, cells := 0, slots := 0, locals := 0 } : Room) s m args below meth c T locs cells slots) (hx : p.tables.exec = Jvm.exec) (hlk : meth.locks = false) (hby : c.code = prog_174_method_5_code) (hml : c.maxLocals = 3) (hret : meth.sig.returnType = some .boolean) (hown : s.vm.findClass "com/example/flycatcher/flycatcher/xml/XmlChars" = some m.cls) (hZ : Z.Warmed39 s.vm) (hw : ∀ d ∈ tables_1, d.before a0 Z = true) (e0 : T.heap = h0) (N0 : Fr n0 locs) (hcs : cells ≤ 0) (hss : slots ≤ 0) (tA : Addr) (cA : Cell) (SA : Sta Z h0 "com/example/flycatcher/flycatcher/xml/XmlChars" "ASCII" "[B" (.ref tA)) (AA : Arr Z h0 tA cA .byte) (LA : cA.slots.size = 128) (HA : ∀ j : Int32, ¬ j < 0 → j < 128 → cA.slots[j.toNatClampNeg]? = some (.int (own_tab j))) (x0 : Int32) :
    own_Go p e below s T (mkF m 0 #[.val (.int x0), .unset, .unset] []) (own_QP (.int (nar .boolean (own_f1_0 x0))) h0 n0) 0 0 := by
  unfold own_f1_0
  refine own_st (g' := (mkF m 1 #[.val (.int x0), .unset, .unset] [(.int x0)])) (fun tt_ kk_ => XS.iloadN X0.here hx rfl (hb hby own_d1_0) rfl kk_) ?_
  refine own_st (g' := (mkF m 4 #[.val (.int x0), .unset, .unset] [(.int (128 : Int32)), (.int x0)])) (fun tt_ kk_ => XS.sipush X0.here hx rfl (hb hby own_d1_1) kk_) ?_
  by_cases hc4 : x0 < (128 : Int32)
  · rw [if_pos hc4]
    refine own_st (g' := (mkF m 7 #[.val (.int x0), .unset, .unset] [])) (fun tt_ kk_ => XS.icmpNo X0.here hx rfl (hb hby own_d1_4) rfl (tlt hc4).2.1 kk_) ?_
    refine own_st (g' := (mkF m 8 #[.val (.int x0), .unset, .unset] [(.int x0)])) (fun tt_ kk_ => XS.iloadN X0.here hx rfl (hb hby own_d1_7) rfl kk_) ?_
    by_cases hc8 : x0 < (0 : Int32)
    · rw [if_pos hc8]
      refine own_st (g' := (mkF m 25 #[.val (.int x0), .unset, .unset] [])) (fun tt_ kk_ => XS.ifYes X0.here hx rfl (pc0 := 8) (pc' := 25) rfl (hb hby own_d1_8) rfl ((if0 _ _).trans (tlt hc8).1) (by decide) (by decide) kk_) ?_
      refine own_st (g' := (mkF m 26 #[.val (.int x0), .unset, .unset] [(.int (0 : Int32))])) (fun tt_ kk_ => XS.iconst X0.here hx rfl (hb hby own_d1_25) kk_) ?_
      exact own_retN X0 hx hlk (t := .boolean) (Or.inl rfl) hret (hb hby own_d1_26) hcs hss ⟨rfl, N0, e0⟩
    rw [if_neg hc8]
    refine own_st (g' := (mkF m 11 #[.val (.int x0), .unset, .unset] [])) (fun tt_ kk_ => XS.ifNo X0.here hx rfl (hb hby own_d1_8) rfl ((if0 _ _).trans (flt hc8).1) kk_) ?_
    obtain ⟨T1, X1, e1, st1⟩ := getS2 X0 hx hZ hown (host := "") (Or.inl (hw _ (List.mem_of_getElem? (i := 14) rfl))) Via.refl e0 SA (g := (mkF m 11 #[.val (.int x0), .unset, .unset] [])) rfl (hb hby own_d1_11)
    refine own_st (g' := (mkF m 14 #[.val (.int x0), .unset, .unset] [(.ref tA)])) st1 ?_
    refine own_st (g' := (mkF m 15 #[.val (.int x0), .unset, .unset] [(.int x0), (.ref tA)])) (fun tt_ kk_ => XS.iloadN X1.here hx rfl (hb hby own_d1_14) rfl kk_) ?_
    refine own_st (g' := (mkF m 16 #[.val (.int x0), .unset, .unset] [(.int (own_tab x0))])) (fun tt_ kk_ => X1.baloadBytes hx (j := x0) (v := (.int (own_tab x0))) (by rw [e1]; exact AA.1) (State.isArrayOf_alike hZ.alike AA.2.1) AA.2.2 (own_inb LA hc8 hc4) (HA x0 hc8 hc4) (g := (mkF m 15 #[.val (.int x0), .unset, .unset] [(.int x0), (.ref tA)])) rfl rfl (hb hby own_d1_15) _ kk_) ?_
    refine own_st (g' := (mkF m 17 #[.val (.int x0), .unset, .unset] [(.int (4 : Int32)), (.int (own_tab x0))])) (fun tt_ kk_ => XS.iconst X1.here hx rfl (hb hby own_d1_16) kk_) ?_
    refine own_st (g' := (mkF m 18 #[.val (.int x0), .unset, .unset] [(.int ((own_tab x0) &&& (4 : Int32)))])) (fun tt_ kk_ => XS.iand X1.here hx rfl (hb hby own_d1_17) rfl kk_) ?_
    by_cases hc18 : ((own_tab x0) &&& (4 : Int32)) = (0 : Int32)
    · rw [if_pos hc18]
      refine own_st (g' := (mkF m 25 #[.val (.int x0), .unset, .unset] [])) (fun tt_ kk_ => XS.ifYes X1.here hx rfl (pc0 := 18) (pc' := 25) rfl (hb hby own_d1_18) rfl ((if0 _ _).trans (teq hc18).1) (by decide) (by decide) kk_) ?_
      refine own_st (g' := (mkF m 26 #[.val (.int x0), .unset, .unset] [(.int (0 : Int32))])) (fun tt_ kk_ => XS.iconst X1.here hx rfl (hb hby own_d1_25) kk_) ?_
      exact own_retN X1 hx hlk (t := .boolean) (Or.inl rfl) hret (hb hby own_d1_26) hcs hss ⟨rfl, N0, e1⟩
    rw [if_neg hc18]
    refine own_st (g' := (mkF m 21 #[.val (.int x0), .unset, .unset] [])) (fun tt_ kk_ => XS.ifNo X1.here hx rfl (hb hby own_d1_18) rfl ((if0 _ _).trans (feq hc18).1) kk_) ?_
    refine own_st (g' := (mkF m 22 #[.val (.int x0), .unset, .unset] [(.int (1 : Int32))])) (fun tt_ kk_ => XS.iconst X1.here hx rfl (hb hby own_d1_21) kk_) ?_
    refine own_st (g' := (mkF m 26 #[.val (.int x0), .unset, .unset] [(.int (1 : Int32))])) (fun tt_ kk_ => XS.goto X1.here hx rfl (pc0 := 22) (pc' := 26) rfl (hb hby own_d1_22) (by decide) (by decide) kk_) ?_
    exact own_retN X1 hx hlk (t := .boolean) (Or.inl rfl) hret (hb hby own_d1_26) hcs hss ⟨rfl, N0, e1⟩
  rw [if_neg hc4]
  refine own_st (g' := (mkF m 27 #[.val (.int x0), .unset, .unset] [])) (fun tt_ kk_ => XS.icmpYes X0.here hx rfl (pc0 := 4) (pc' := 27) rfl (hb hby own_d1_4) rfl (flt hc4).2.1 (by decide) (by decide) kk_) ?_
  refine own_st (g' := (mkF m 28 #[.val (.int x0), .unset, .unset] [(.int x0)])) (fun tt_ kk_ => XS.iloadN X0.here hx rfl (hb hby own_d1_27) rfl kk_) ?_
  refine own_st (g' := (mkF m 31 #[.val (.int x0), .unset, .unset] [(.int (160 : Int32)), (.int x0)])) (fun tt_ kk_ => XS.sipush X0.here hx rfl (hb hby own_d1_28) kk_) ?_
  by_cases hc31 : x0 < (160 : Int32)
  · rw [if_pos hc31]
    refine own_st (g' := (mkF m 51 #[.val (.int x0), .unset, .unset] [])) (fun tt_ kk_ => XS.icmpYes X0.here hx rfl (pc0 := 31) (pc' := 51) rfl (hb hby own_d1_31) rfl (tlt hc31).1 (by decide) (by decide) kk_) ?_
    exact own_b1_51 X0 hx hlk hby hml hret hown hZ hw e0 N0 hcs hss tA cA SA AA LA HA x0
  rw [if_neg hc31]
  refine own_st (g' := (mkF m 34 #[.val (.int x0), .unset, .unset] [])) (fun tt_ kk_ => XS.icmpNo X0.here hx rfl (hb hby own_d1_31) rfl (flt hc31).1 kk_) ?_
  refine own_st (g' := (mkF m 35 #[.val (.int x0), .unset, .unset] [(.int x0)])) (fun tt_ kk_ => XS.iloadN X0.here hx rfl (hb hby own_d1_34) rfl kk_) ?_
  refine own_st (g' := (mkF m 37 #[.val (.int x0), .unset, .unset] [(.int (55295 : Int32)), (.int x0)])) (fun tt_ kk_ => X0.ldcInt hx hown (mvT hZ (hw _ (List.mem_of_getElem? (i := 21) rfl))) (g := (mkF m 35 #[.val (.int x0), .unset, .unset] [(.int x0)])) rfl (hb hby own_d1_35) _ kk_) ?_
  by_cases hc37 : (55295 : Int32) < x0
  · rw [if_pos hc37]
    refine own_st (g' := (mkF m 51 #[.val (.int x0), .unset, .unset] [])) (fun tt_ kk_ => XS.icmpYes X0.here hx rfl (pc0 := 37) (pc' := 51) rfl (hb hby own_d1_37) rfl (tlt hc37).2.2.1 (by decide) (by decide) kk_) ?_
    exact own_b1_51 X0 hx hlk hby hml hret hown hZ hw e0 N0 hcs hss tA cA SA AA LA HA x0
  rw [if_neg hc37]
  refine own_st (g' := (mkF m 40 #[.val (.int x0), .unset, .unset] [])) (fun tt_ kk_ => XS.icmpNo X0.here hx rfl (hb hby own_d1_37) rfl (flt hc37).2.2.1 kk_) ?_
  refine own_st (g' := (mkF m 41 #[.val (.int x0), .unset, .unset] [(.int x0)])) (fun tt_ kk_ => XS.iloadN X0.here hx rfl (hb hby own_d1_40) rfl kk_) ?_
  refine own_st (g' := (mkF m 44 #[.val (.int x0), .unset, .unset] [(.int (8232 : Int32)), (.int x0)])) (fun tt_ kk_ => XS.sipush X0.here hx rfl (hb hby own_d1_41) kk_) ?_
  by_cases hc44 : x0 = (8232 : Int32)
  · rw [if_pos hc44]
    refine own_st (g' := (mkF m 51 #[.val (.int x0), .unset, .unset] [])) (fun tt_ kk_ => XS.icmpYes X0.here hx rfl (pc0 := 44) (pc' := 51) rfl (hb hby own_d1_44) rfl (teq hc44).1 (by decide) (by decide) kk_) ?_
    exact own_b1_51 X0 hx hlk hby hml hret hown hZ hw e0 N0 hcs hss tA cA SA AA LA HA x0
  rw [if_neg hc44]
  refine own_st (g' := (mkF m 47 #[.val (.int x0), .unset, .unset] [])) (fun tt_ kk_ => XS.icmpNo X0.here hx rfl (hb hby own_d1_44) rfl (feq hc44).1 kk_) ?_
  refine own_st (g' := (mkF m 48 #[.val (.int x0), .unset, .unset] [(.int (1 : Int32))])) (fun tt_ kk_ => XS.iconst X0.here hx rfl (hb hby own_d1_47) kk_) ?_
  refine own_st (g' := (mkF m 52 #[.val (.int x0), .unset, .unset] [(.int (1 : Int32))])) (fun tt_ kk_ => XS.goto X0.here hx rfl (pc0 := 48) (pc' := 52) rfl (hb hby own_d1_48) (by decide) (by decide) kk_) ?_
  exact own_b1_52 X0 hx hlk hby hml hret hown hZ hw e0 N0 hcs hss tA cA SA AA LA HA x0 (1 : Int32)
theorem own_ef1 (m : MethodId) (x0 : Int32) : entryFrame m #[(.int x0)] 3 = mkF m 0 #[.val (.int x0), .unset, .unset] [] := by first | (simp [entryFrame, mkF, argsToLocals, Value.category]; done) | rfl
set_option maxRecDepth 65536 in
set_option maxHeartbeats 4000000 in
theorem own_rm1 (l : Launch) (Z : State) (a0 : Array Value) (hw : ∀ d ∈ tables_1, d.before a0 Z = true) (ws : List Jvm.Cond) (x0 : Int32) (h0 : Heap) (n0 : Nat) (tA : Addr) (cA : Cell) (SA : Sta Z h0 "com/example/flycatcher/flycatcher/xml/XmlChars" "ASCII" "[B" (.ref tA)) (AA : Arr Z h0 tA cA .byte) (LA : cA.slots.size = 128) (HA : ∀ j : Int32, ¬ j < 0 → j < 128 → cA.slots[j.toNatClampNeg]? = some (.int (own_tab j))) :
    MetFree l (⟨"com/example/flycatcher/flycatcher/xml/XmlChars", "isOrdinary", "(I)Z"⟩ : MethodName) (head1 (Jvm.Cond.code (⟨"com/example/flycatcher/flycatcher/xml/XmlChars", "isOrdinary", "(I)Z"⟩ : MethodName) prog_174_method_5_code 3 (some .boolean) :: ws) ({ frames := 0, cells := 0, slots := 0, locals := 0 } : Room)) (fun aa UU => aa = #[(.int x0)] ∧ Z.Warmed39 UU.vm ∧ UU.heap = h0) (fun _ _ _ _ _ => True) (fun _ U o U' => ∃ v L, o = .returned v ∧ own_QP (.int (nar .boolean (own_f1_0 x0))) h0 n0 v U'.heap L ∧ FrameEnd U o U' L ({ frames := 0, cells := 0, slots := 0, locals := 0 } : Room).cells ({ frames := 0, cells := 0, slots := 0, locals := 0 } : Room).slots) := by
  refine MetFree.of_bodySF (plainFor_of_name own_pn0) hisR ?_
  intro p e s m args below meth c s₁ Bd hml0 hP hK
  obtain ⟨rfl, hZ, hh⟩ := hP
  have X0 : Stand p l e ({ frames := 0, cells := 0, slots := 0, locals := 0 } : Room) s m #[(.int x0)] below meth c s₁ [] 0 0 := Stand.of_body Bd
  have e0 : s₁.heap = h0 := by rw [← hh, Bd.state]; rfl
  refine own_cast (own_ef1 m x0) ?_
  exact own_b1_0 X0 Bd.exec Bd.notSynchronized Bd.bytes hml0 Bd.returns (findClass_of_methodNamed Bd.named) hZ hw e0 (Fr.nil n0) (by decide) (by decide) tA cA SA AA LA HA x0
theorem own_d2_0 : decode method_3_code 0 = .ok (.iload_n 0, 1) := by decide +kernel
theorem own_d2_1 : decode method_3_code 1 = .ok (.bipush 9, 2) := by decide +kernel
theorem own_d2_3 : decode method_3_code 3 = .ok (.if_icmp .eq 9, 3) := by decide +kernel
theorem own_d2_6 : decode method_3_code 6 = .ok (.iload_n 0, 1) := by decide +kernel
theorem own_d2_7 : decode method_3_code 7 = .ok (.bipush 10, 2) := by decide +kernel
theorem own_d2_9 : decode method_3_code 9 = .ok (.if_icmp .ne 5, 3) := by decide +kernel
theorem own_d2_12 : decode method_3_code 12 = .ok (.iconst 1, 1) := by decide +kernel
theorem own_d2_13 : decode method_3_code 13 = .ok (.ireturn, 1) := by decide +kernel
theorem own_d2_14 : decode method_3_code 14 = .ok (.iload_n 0, 1) := by decide +kernel
theorem own_d2_15 : decode method_3_code 15 = .ok (.bipush 32, 2) := by decide +kernel
theorem own_d2_17 : decode method_3_code 17 = .ok (.if_icmp .lt 11, 3) := by decide +kernel
theorem own_d2_20 : decode method_3_code 20 = .ok (.iload_n 0, 1) := by decide +kernel
theorem own_d2_21 : decode method_3_code 21 = .ok (.bipush 126, 2) := by decide +kernel
theorem own_d2_23 : decode method_3_code 23 = .ok (.if_icmp .gt 5, 3) := by decide +kernel
theorem own_d2_26 : decode method_3_code 26 = .ok (.iconst 1, 1) := by decide +kernel
theorem own_d2_27 : decode method_3_code 27 = .ok (.ireturn, 1) := by decide +kernel
theorem own_d2_28 : decode method_3_code 28 = .ok (.iload_n 0, 1) := by decide +kernel
theorem own_d2_29 : decode method_3_code 29 = .ok (.sipush 160, 3) := by decide +kernel
theorem own_d2_32 : decode method_3_code 32 = .ok (.if_icmp .lt 22, 3) := by decide +kernel
theorem own_d2_35 : decode method_3_code 35 = .ok (.iload_n 0, 1) := by decide +kernel
theorem own_d2_36 : decode method_3_code 36 = .ok (.ldc 7, 2) := by decide +kernel
theorem own_d2_38 : decode method_3_code 38 = .ok (.if_icmp .gt 16, 3) := by decide +kernel
theorem own_d2_41 : decode method_3_code 41 = .ok (.iload_n 0, 1) := by decide +kernel
theorem own_d2_42 : decode method_3_code 42 = .ok (.sipush 8232, 3) := by decide +kernel
theorem own_d2_45 : decode method_3_code 45 = .ok (.if_icmp .eq 7, 3) := by decide +kernel
theorem own_d2_48 : decode method_3_code 48 = .ok (.iconst 1, 1) := by decide +kernel
theorem own_d2_49 : decode method_3_code 49 = .ok (.goto 4, 3) := by decide +kernel
theorem own_d2_52 : decode method_3_code 52 = .ok (.iconst 0, 1) := by decide +kernel
theorem own_d2_53 : decode method_3_code 53 = .ok (.ireturn, 1) := by decide +kernel
theorem own_d2_54 : decode method_3_code 54 = .ok (.iload_n 0, 1) := by decide +kernel
theorem own_d2_55 : decode method_3_code 55 = .ok (.ldc 8, 2) := by decide +kernel
theorem own_d2_57 : decode method_3_code 57 = .ok (.if_icmp .lt 27, 3) := by decide +kernel
theorem own_d2_60 : decode method_3_code 60 = .ok (.iload_n 0, 1) := by decide +kernel
theorem own_d2_61 : decode method_3_code 61 = .ok (.ldc 11, 2) := by decide +kernel
theorem own_d2_63 : decode method_3_code 63 = .ok (.if_icmp .gt 21, 3) := by decide +kernel
theorem own_d2_66 : decode method_3_code 66 = .ok (.iload_n 0, 1) := by decide +kernel
theorem own_d2_67 : decode method_3_code 67 = .ok (.ldc 9, 2) := by decide +kernel
theorem own_d2_69 : decode method_3_code 69 = .ok (.if_icmp .lt 9, 3) := by decide +kernel
theorem own_d2_72 : decode method_3_code 72 = .ok (.iload_n 0, 1) := by decide +kernel
theorem own_d2_73 : decode method_3_code 73 = .ok (.ldc 10, 2) := by decide +kernel
theorem own_d2_75 : decode method_3_code 75 = .ok (.if_icmp .le 7, 3) := by decide +kernel
theorem own_d2_78 : decode method_3_code 78 = .ok (.iconst 1, 1) := by decide +kernel
theorem own_d2_79 : decode method_3_code 79 = .ok (.goto 4, 3) := by decide +kernel
theorem own_d2_82 : decode method_3_code 82 = .ok (.iconst 0, 1) := by decide +kernel
theorem own_d2_83 : decode method_3_code 83 = .ok (.ireturn, 1) := by decide +kernel
theorem own_d2_84 : decode method_3_code 84 = .ok (.iconst 0, 1) := by decide +kernel
theorem own_d2_85 : decode method_3_code 85 = .ok (.ireturn, 1) := by decide +kernel
theorem own_pn1 : plainName "com/example/flycatcher/flycatcher/xml/XmlCharsIsOrdinaryPinLaw" = true := by first | (simp [plainName, overriddenIn]; done) | decide +kernel
def own_f2_54 (x0 : Int32) : Int32 := (if x0 < (57344 : Int32) then (0 : Int32) else (if (65533 : Int32) < x0 then (0 : Int32) else (if x0 < (64976 : Int32) then (1 : Int32) else (if (65007 : Int32) < x0 then (1 : Int32) else (0 : Int32)))))
set_option maxRecDepth 65536 in
set_option maxHeartbeats 4000000 in
theorem own_b2_54 {p : Program} {l : Launch} {e : Env} {s : State} {m : MethodId} {args : Array Value} {below : List Frame} {meth : Method} {c : Code} {T : State} {locs : List Loc} {cells slots : Nat} {Z : State} {a0 : Array Value} {h0 : Heap} {n0 : Nat} (X0 : Stand p l e ({ frames := 0, cells := 0, slots := 0, locals := 0 } : Room) s m args below meth c T locs cells slots) (hx : p.tables.exec = Jvm.exec) (hlk : meth.locks = false) (hby : c.code = method_3_code) (hml : c.maxLocals = 1) (hret : meth.sig.returnType = some .boolean) (hown : s.vm.findClass "com/example/flycatcher/flycatcher/xml/XmlCharsIsOrdinaryPinLaw" = some m.cls) (hZ : Z.Warmed39 s.vm) (hw : ∀ d ∈ tables_1, d.before a0 Z = true) (e0 : T.heap = h0) (N0 : Fr n0 locs) (hcs : cells ≤ 0) (hss : slots ≤ 0) (x0 : Int32) :
    own_Go p e below s T (mkF m 54 #[.val (.int x0)] []) (own_QP (.int (nar .boolean (own_f2_54 x0))) h0 n0) 0 0 := by
  unfold own_f2_54
  refine own_st (g' := (mkF m 55 #[.val (.int x0)] [(.int x0)])) (fun tt_ kk_ => XS.iloadN X0.here hx rfl (hb hby own_d2_54) rfl kk_) ?_
  refine own_st (g' := (mkF m 57 #[.val (.int x0)] [(.int (57344 : Int32)), (.int x0)])) (fun tt_ kk_ => X0.ldcInt hx hown (mvT hZ (hw _ (List.mem_of_getElem? (i := 2) rfl))) (g := (mkF m 55 #[.val (.int x0)] [(.int x0)])) rfl (hb hby own_d2_55) _ kk_) ?_
  by_cases hc57 : x0 < (57344 : Int32)
  · rw [if_pos hc57]
    refine own_st (g' := (mkF m 84 #[.val (.int x0)] [])) (fun tt_ kk_ => XS.icmpYes X0.here hx rfl (pc0 := 57) (pc' := 84) rfl (hb hby own_d2_57) rfl (tlt hc57).1 (by decide) (by decide) kk_) ?_
    refine own_st (g' := (mkF m 85 #[.val (.int x0)] [(.int (0 : Int32))])) (fun tt_ kk_ => XS.iconst X0.here hx rfl (hb hby own_d2_84) kk_) ?_
    exact own_retN X0 hx hlk (t := .boolean) (Or.inl rfl) hret (hb hby own_d2_85) hcs hss ⟨rfl, N0, e0⟩
  rw [if_neg hc57]
  refine own_st (g' := (mkF m 60 #[.val (.int x0)] [])) (fun tt_ kk_ => XS.icmpNo X0.here hx rfl (hb hby own_d2_57) rfl (flt hc57).1 kk_) ?_
  refine own_st (g' := (mkF m 61 #[.val (.int x0)] [(.int x0)])) (fun tt_ kk_ => XS.iloadN X0.here hx rfl (hb hby own_d2_60) rfl kk_) ?_
  refine own_st (g' := (mkF m 63 #[.val (.int x0)] [(.int (65533 : Int32)), (.int x0)])) (fun tt_ kk_ => X0.ldcInt hx hown (mvT hZ (hw _ (List.mem_of_getElem? (i := 5) rfl))) (g := (mkF m 61 #[.val (.int x0)] [(.int x0)])) rfl (hb hby own_d2_61) _ kk_) ?_
  by_cases hc63 : (65533 : Int32) < x0
  · rw [if_pos hc63]
    refine own_st (g' := (mkF m 84 #[.val (.int x0)] [])) (fun tt_ kk_ => XS.icmpYes X0.here hx rfl (pc0 := 63) (pc' := 84) rfl (hb hby own_d2_63) rfl (tlt hc63).2.2.1 (by decide) (by decide) kk_) ?_
    refine own_st (g' := (mkF m 85 #[.val (.int x0)] [(.int (0 : Int32))])) (fun tt_ kk_ => XS.iconst X0.here hx rfl (hb hby own_d2_84) kk_) ?_
    exact own_retN X0 hx hlk (t := .boolean) (Or.inl rfl) hret (hb hby own_d2_85) hcs hss ⟨rfl, N0, e0⟩
  rw [if_neg hc63]
  refine own_st (g' := (mkF m 66 #[.val (.int x0)] [])) (fun tt_ kk_ => XS.icmpNo X0.here hx rfl (hb hby own_d2_63) rfl (flt hc63).2.2.1 kk_) ?_
  refine own_st (g' := (mkF m 67 #[.val (.int x0)] [(.int x0)])) (fun tt_ kk_ => XS.iloadN X0.here hx rfl (hb hby own_d2_66) rfl kk_) ?_
  refine own_st (g' := (mkF m 69 #[.val (.int x0)] [(.int (64976 : Int32)), (.int x0)])) (fun tt_ kk_ => X0.ldcInt hx hown (mvT hZ (hw _ (List.mem_of_getElem? (i := 3) rfl))) (g := (mkF m 67 #[.val (.int x0)] [(.int x0)])) rfl (hb hby own_d2_67) _ kk_) ?_
  by_cases hc69 : x0 < (64976 : Int32)
  · rw [if_pos hc69]
    refine own_st (g' := (mkF m 78 #[.val (.int x0)] [])) (fun tt_ kk_ => XS.icmpYes X0.here hx rfl (pc0 := 69) (pc' := 78) rfl (hb hby own_d2_69) rfl (tlt hc69).1 (by decide) (by decide) kk_) ?_
    refine own_st (g' := (mkF m 79 #[.val (.int x0)] [(.int (1 : Int32))])) (fun tt_ kk_ => XS.iconst X0.here hx rfl (hb hby own_d2_78) kk_) ?_
    refine own_st (g' := (mkF m 83 #[.val (.int x0)] [(.int (1 : Int32))])) (fun tt_ kk_ => XS.goto X0.here hx rfl (pc0 := 79) (pc' := 83) rfl (hb hby own_d2_79) (by decide) (by decide) kk_) ?_
    exact own_retN X0 hx hlk (t := .boolean) (Or.inl rfl) hret (hb hby own_d2_83) hcs hss ⟨rfl, N0, e0⟩
  rw [if_neg hc69]
  refine own_st (g' := (mkF m 72 #[.val (.int x0)] [])) (fun tt_ kk_ => XS.icmpNo X0.here hx rfl (hb hby own_d2_69) rfl (flt hc69).1 kk_) ?_
  refine own_st (g' := (mkF m 73 #[.val (.int x0)] [(.int x0)])) (fun tt_ kk_ => XS.iloadN X0.here hx rfl (hb hby own_d2_72) rfl kk_) ?_
  refine own_st (g' := (mkF m 75 #[.val (.int x0)] [(.int (65007 : Int32)), (.int x0)])) (fun tt_ kk_ => X0.ldcInt hx hown (mvT hZ (hw _ (List.mem_of_getElem? (i := 4) rfl))) (g := (mkF m 73 #[.val (.int x0)] [(.int x0)])) rfl (hb hby own_d2_73) _ kk_) ?_
  by_cases hc75 : (65007 : Int32) < x0
  · rw [if_pos hc75]
    refine own_st (g' := (mkF m 78 #[.val (.int x0)] [])) (fun tt_ kk_ => XS.icmpNo X0.here hx rfl (hb hby own_d2_75) rfl (tlt hc75).2.2.2 kk_) ?_
    refine own_st (g' := (mkF m 79 #[.val (.int x0)] [(.int (1 : Int32))])) (fun tt_ kk_ => XS.iconst X0.here hx rfl (hb hby own_d2_78) kk_) ?_
    refine own_st (g' := (mkF m 83 #[.val (.int x0)] [(.int (1 : Int32))])) (fun tt_ kk_ => XS.goto X0.here hx rfl (pc0 := 79) (pc' := 83) rfl (hb hby own_d2_79) (by decide) (by decide) kk_) ?_
    exact own_retN X0 hx hlk (t := .boolean) (Or.inl rfl) hret (hb hby own_d2_83) hcs hss ⟨rfl, N0, e0⟩
  rw [if_neg hc75]
  refine own_st (g' := (mkF m 82 #[.val (.int x0)] [])) (fun tt_ kk_ => XS.icmpYes X0.here hx rfl (pc0 := 75) (pc' := 82) rfl (hb hby own_d2_75) rfl (flt hc75).2.2.2 (by decide) (by decide) kk_) ?_
  refine own_st (g' := (mkF m 83 #[.val (.int x0)] [(.int (0 : Int32))])) (fun tt_ kk_ => XS.iconst X0.here hx rfl (hb hby own_d2_82) kk_) ?_
  exact own_retN X0 hx hlk (t := .boolean) (Or.inl rfl) hret (hb hby own_d2_83) hcs hss ⟨rfl, N0, e0⟩
def own_f2_28 (x0 : Int32) : Int32 := (if x0 < (160 : Int32) then (own_f2_54 x0) else (if (55295 : Int32) < x0 then (own_f2_54 x0) else (if x0 = (8232 : Int32) then (0 : Int32) else (1 : Int32))))
set_option maxRecDepth 65536 in
set_option maxHeartbeats 4000000 in
theorem own_b2_28 {p : Program} {l : Launch} {e : Env} {s : State} {m : MethodId} {args : Array Value} {below : List Frame} {meth : Method} {c : Code} {T : State} {locs : List Loc} {cells slots : Nat} {Z : State} {a0 : Array Value} {h0 : Heap} {n0 : Nat} (X0 : Stand p l e ({ frames := 0, cells := 0, slots := 0, locals := 0 } : Room) s m args below meth c T locs cells slots) (hx : p.tables.exec = Jvm.exec) (hlk : meth.locks = false) (hby : c.code = method_3_code) (hml : c.maxLocals = 1) (hret : meth.sig.returnType = some .boolean) (hown : s.vm.findClass "com/example/flycatcher/flycatcher/xml/XmlCharsIsOrdinaryPinLaw" = some m.cls) (hZ : Z.Warmed39 s.vm) (hw : ∀ d ∈ tables_1, d.before a0 Z = true) (e0 : T.heap = h0) (N0 : Fr n0 locs) (hcs : cells ≤ 0) (hss : slots ≤ 0) (x0 : Int32) :
    own_Go p e below s T (mkF m 28 #[.val (.int x0)] []) (own_QP (.int (nar .boolean (own_f2_28 x0))) h0 n0) 0 0 := by
  unfold own_f2_28
  refine own_st (g' := (mkF m 29 #[.val (.int x0)] [(.int x0)])) (fun tt_ kk_ => XS.iloadN X0.here hx rfl (hb hby own_d2_28) rfl kk_) ?_
  refine own_st (g' := (mkF m 32 #[.val (.int x0)] [(.int (160 : Int32)), (.int x0)])) (fun tt_ kk_ => XS.sipush X0.here hx rfl (hb hby own_d2_29) kk_) ?_
  by_cases hc32 : x0 < (160 : Int32)
  · rw [if_pos hc32]
    refine own_st (g' := (mkF m 54 #[.val (.int x0)] [])) (fun tt_ kk_ => XS.icmpYes X0.here hx rfl (pc0 := 32) (pc' := 54) rfl (hb hby own_d2_32) rfl (tlt hc32).1 (by decide) (by decide) kk_) ?_
    exact own_b2_54 X0 hx hlk hby hml hret hown hZ hw e0 N0 hcs hss x0
  rw [if_neg hc32]
  refine own_st (g' := (mkF m 35 #[.val (.int x0)] [])) (fun tt_ kk_ => XS.icmpNo X0.here hx rfl (hb hby own_d2_32) rfl (flt hc32).1 kk_) ?_
  refine own_st (g' := (mkF m 36 #[.val (.int x0)] [(.int x0)])) (fun tt_ kk_ => XS.iloadN X0.here hx rfl (hb hby own_d2_35) rfl kk_) ?_
  refine own_st (g' := (mkF m 38 #[.val (.int x0)] [(.int (55295 : Int32)), (.int x0)])) (fun tt_ kk_ => X0.ldcInt hx hown (mvT hZ (hw _ (List.mem_of_getElem? (i := 1) rfl))) (g := (mkF m 36 #[.val (.int x0)] [(.int x0)])) rfl (hb hby own_d2_36) _ kk_) ?_
  by_cases hc38 : (55295 : Int32) < x0
  · rw [if_pos hc38]
    refine own_st (g' := (mkF m 54 #[.val (.int x0)] [])) (fun tt_ kk_ => XS.icmpYes X0.here hx rfl (pc0 := 38) (pc' := 54) rfl (hb hby own_d2_38) rfl (tlt hc38).2.2.1 (by decide) (by decide) kk_) ?_
    exact own_b2_54 X0 hx hlk hby hml hret hown hZ hw e0 N0 hcs hss x0
  rw [if_neg hc38]
  refine own_st (g' := (mkF m 41 #[.val (.int x0)] [])) (fun tt_ kk_ => XS.icmpNo X0.here hx rfl (hb hby own_d2_38) rfl (flt hc38).2.2.1 kk_) ?_
  refine own_st (g' := (mkF m 42 #[.val (.int x0)] [(.int x0)])) (fun tt_ kk_ => XS.iloadN X0.here hx rfl (hb hby own_d2_41) rfl kk_) ?_
  refine own_st (g' := (mkF m 45 #[.val (.int x0)] [(.int (8232 : Int32)), (.int x0)])) (fun tt_ kk_ => XS.sipush X0.here hx rfl (hb hby own_d2_42) kk_) ?_
  by_cases hc45 : x0 = (8232 : Int32)
  · rw [if_pos hc45]
    refine own_st (g' := (mkF m 52 #[.val (.int x0)] [])) (fun tt_ kk_ => XS.icmpYes X0.here hx rfl (pc0 := 45) (pc' := 52) rfl (hb hby own_d2_45) rfl (teq hc45).1 (by decide) (by decide) kk_) ?_
    refine own_st (g' := (mkF m 53 #[.val (.int x0)] [(.int (0 : Int32))])) (fun tt_ kk_ => XS.iconst X0.here hx rfl (hb hby own_d2_52) kk_) ?_
    exact own_retN X0 hx hlk (t := .boolean) (Or.inl rfl) hret (hb hby own_d2_53) hcs hss ⟨rfl, N0, e0⟩
  rw [if_neg hc45]
  refine own_st (g' := (mkF m 48 #[.val (.int x0)] [])) (fun tt_ kk_ => XS.icmpNo X0.here hx rfl (hb hby own_d2_45) rfl (feq hc45).1 kk_) ?_
  refine own_st (g' := (mkF m 49 #[.val (.int x0)] [(.int (1 : Int32))])) (fun tt_ kk_ => XS.iconst X0.here hx rfl (hb hby own_d2_48) kk_) ?_
  refine own_st (g' := (mkF m 53 #[.val (.int x0)] [(.int (1 : Int32))])) (fun tt_ kk_ => XS.goto X0.here hx rfl (pc0 := 49) (pc' := 53) rfl (hb hby own_d2_49) (by decide) (by decide) kk_) ?_
  exact own_retN X0 hx hlk (t := .boolean) (Or.inl rfl) hret (hb hby own_d2_53) hcs hss ⟨rfl, N0, e0⟩
def own_f2_0 (x0 : Int32) : Int32 := (if x0 = (9 : Int32) then (1 : Int32) else (if x0 = (10 : Int32) then (1 : Int32) else (if x0 < (32 : Int32) then (own_f2_28 x0) else (if (126 : Int32) < x0 then (own_f2_28 x0) else (1 : Int32)))))
set_option maxRecDepth 65536 in
set_option maxHeartbeats 4000000 in
theorem own_b2_0 {p : Program} {l : Launch} {e : Env} {s : State} {m : MethodId} {args : Array Value} {below : List Frame} {meth : Method} {c : Code} {T : State} {locs : List Loc} {cells slots : Nat} {Z : State} {a0 : Array Value} {h0 : Heap} {n0 : Nat} (X0 : Stand p l e ({ frames := 0, cells := 0, slots := 0, locals := 0 } : Room) s m args below meth c T locs cells slots) (hx : p.tables.exec = Jvm.exec) (hlk : meth.locks = false) (hby : c.code = method_3_code) (hml : c.maxLocals = 1) (hret : meth.sig.returnType = some .boolean) (hown : s.vm.findClass "com/example/flycatcher/flycatcher/xml/XmlCharsIsOrdinaryPinLaw" = some m.cls) (hZ : Z.Warmed39 s.vm) (hw : ∀ d ∈ tables_1, d.before a0 Z = true) (e0 : T.heap = h0) (N0 : Fr n0 locs) (hcs : cells ≤ 0) (hss : slots ≤ 0) (x0 : Int32) :
    own_Go p e below s T (mkF m 0 #[.val (.int x0)] []) (own_QP (.int (nar .boolean (own_f2_0 x0))) h0 n0) 0 0 := by
  unfold own_f2_0
  refine own_st (g' := (mkF m 1 #[.val (.int x0)] [(.int x0)])) (fun tt_ kk_ => XS.iloadN X0.here hx rfl (hb hby own_d2_0) rfl kk_) ?_
  refine own_st (g' := (mkF m 3 #[.val (.int x0)] [(.int (9 : Int32)), (.int x0)])) (fun tt_ kk_ => XS.bipush X0.here hx rfl (hb hby own_d2_1) kk_) ?_
  by_cases hc3 : x0 = (9 : Int32)
  · rw [if_pos hc3]
    refine own_st (g' := (mkF m 12 #[.val (.int x0)] [])) (fun tt_ kk_ => XS.icmpYes X0.here hx rfl (pc0 := 3) (pc' := 12) rfl (hb hby own_d2_3) rfl (teq hc3).1 (by decide) (by decide) kk_) ?_
    refine own_st (g' := (mkF m 13 #[.val (.int x0)] [(.int (1 : Int32))])) (fun tt_ kk_ => XS.iconst X0.here hx rfl (hb hby own_d2_12) kk_) ?_
    exact own_retN X0 hx hlk (t := .boolean) (Or.inl rfl) hret (hb hby own_d2_13) hcs hss ⟨rfl, N0, e0⟩
  rw [if_neg hc3]
  refine own_st (g' := (mkF m 6 #[.val (.int x0)] [])) (fun tt_ kk_ => XS.icmpNo X0.here hx rfl (hb hby own_d2_3) rfl (feq hc3).1 kk_) ?_
  refine own_st (g' := (mkF m 7 #[.val (.int x0)] [(.int x0)])) (fun tt_ kk_ => XS.iloadN X0.here hx rfl (hb hby own_d2_6) rfl kk_) ?_
  refine own_st (g' := (mkF m 9 #[.val (.int x0)] [(.int (10 : Int32)), (.int x0)])) (fun tt_ kk_ => XS.bipush X0.here hx rfl (hb hby own_d2_7) kk_) ?_
  by_cases hc9 : x0 = (10 : Int32)
  · rw [if_pos hc9]
    refine own_st (g' := (mkF m 12 #[.val (.int x0)] [])) (fun tt_ kk_ => XS.icmpNo X0.here hx rfl (hb hby own_d2_9) rfl (teq hc9).2 kk_) ?_
    refine own_st (g' := (mkF m 13 #[.val (.int x0)] [(.int (1 : Int32))])) (fun tt_ kk_ => XS.iconst X0.here hx rfl (hb hby own_d2_12) kk_) ?_
    exact own_retN X0 hx hlk (t := .boolean) (Or.inl rfl) hret (hb hby own_d2_13) hcs hss ⟨rfl, N0, e0⟩
  rw [if_neg hc9]
  refine own_st (g' := (mkF m 14 #[.val (.int x0)] [])) (fun tt_ kk_ => XS.icmpYes X0.here hx rfl (pc0 := 9) (pc' := 14) rfl (hb hby own_d2_9) rfl (feq hc9).2 (by decide) (by decide) kk_) ?_
  refine own_st (g' := (mkF m 15 #[.val (.int x0)] [(.int x0)])) (fun tt_ kk_ => XS.iloadN X0.here hx rfl (hb hby own_d2_14) rfl kk_) ?_
  refine own_st (g' := (mkF m 17 #[.val (.int x0)] [(.int (32 : Int32)), (.int x0)])) (fun tt_ kk_ => XS.bipush X0.here hx rfl (hb hby own_d2_15) kk_) ?_
  by_cases hc17 : x0 < (32 : Int32)
  · rw [if_pos hc17]
    refine own_st (g' := (mkF m 28 #[.val (.int x0)] [])) (fun tt_ kk_ => XS.icmpYes X0.here hx rfl (pc0 := 17) (pc' := 28) rfl (hb hby own_d2_17) rfl (tlt hc17).1 (by decide) (by decide) kk_) ?_
    exact own_b2_28 X0 hx hlk hby hml hret hown hZ hw e0 N0 hcs hss x0
  rw [if_neg hc17]
  refine own_st (g' := (mkF m 20 #[.val (.int x0)] [])) (fun tt_ kk_ => XS.icmpNo X0.here hx rfl (hb hby own_d2_17) rfl (flt hc17).1 kk_) ?_
  refine own_st (g' := (mkF m 21 #[.val (.int x0)] [(.int x0)])) (fun tt_ kk_ => XS.iloadN X0.here hx rfl (hb hby own_d2_20) rfl kk_) ?_
  refine own_st (g' := (mkF m 23 #[.val (.int x0)] [(.int (126 : Int32)), (.int x0)])) (fun tt_ kk_ => XS.bipush X0.here hx rfl (hb hby own_d2_21) kk_) ?_
  by_cases hc23 : (126 : Int32) < x0
  · rw [if_pos hc23]
    refine own_st (g' := (mkF m 28 #[.val (.int x0)] [])) (fun tt_ kk_ => XS.icmpYes X0.here hx rfl (pc0 := 23) (pc' := 28) rfl (hb hby own_d2_23) rfl (tlt hc23).2.2.1 (by decide) (by decide) kk_) ?_
    exact own_b2_28 X0 hx hlk hby hml hret hown hZ hw e0 N0 hcs hss x0
  rw [if_neg hc23]
  refine own_st (g' := (mkF m 26 #[.val (.int x0)] [])) (fun tt_ kk_ => XS.icmpNo X0.here hx rfl (hb hby own_d2_23) rfl (flt hc23).2.2.1 kk_) ?_
  refine own_st (g' := (mkF m 27 #[.val (.int x0)] [(.int (1 : Int32))])) (fun tt_ kk_ => XS.iconst X0.here hx rfl (hb hby own_d2_26) kk_) ?_
  exact own_retN X0 hx hlk (t := .boolean) (Or.inl rfl) hret (hb hby own_d2_27) hcs hss ⟨rfl, N0, e0⟩
theorem own_ef2 (m : MethodId) (x0 : Int32) : entryFrame m #[(.int x0)] 1 = mkF m 0 #[.val (.int x0)] [] := by first | (simp [entryFrame, mkF, argsToLocals, Value.category]; done) | rfl
set_option maxRecDepth 65536 in
set_option maxHeartbeats 4000000 in
theorem own_rm2 (l : Launch) (Z : State) (a0 : Array Value) (hw : ∀ d ∈ tables_1, d.before a0 Z = true) (ws : List Jvm.Cond) (x0 : Int32) (h0 : Heap) (n0 : Nat) :
    MetFree l (⟨"com/example/flycatcher/flycatcher/xml/XmlCharsIsOrdinaryPinLaw", "expected", "(I)Z"⟩ : MethodName) (head1 (Jvm.Cond.code (⟨"com/example/flycatcher/flycatcher/xml/XmlCharsIsOrdinaryPinLaw", "expected", "(I)Z"⟩ : MethodName) method_3_code 1 (some .boolean) :: ws) ({ frames := 0, cells := 0, slots := 0, locals := 0 } : Room)) (fun aa UU => aa = #[(.int x0)] ∧ Z.Warmed39 UU.vm ∧ UU.heap = h0) (fun _ _ _ _ _ => True) (fun _ U o U' => ∃ v L, o = .returned v ∧ own_QP (.int (nar .boolean (own_f2_0 x0))) h0 n0 v U'.heap L ∧ FrameEnd U o U' L ({ frames := 0, cells := 0, slots := 0, locals := 0 } : Room).cells ({ frames := 0, cells := 0, slots := 0, locals := 0 } : Room).slots) := by
  refine MetFree.of_bodySF (plainFor_of_name own_pn1) hisR ?_
  intro p e s m args below meth c s₁ Bd hml0 hP hK
  obtain ⟨rfl, hZ, hh⟩ := hP
  have X0 : Stand p l e ({ frames := 0, cells := 0, slots := 0, locals := 0 } : Room) s m #[(.int x0)] below meth c s₁ [] 0 0 := Stand.of_body Bd
  have e0 : s₁.heap = h0 := by rw [← hh, Bd.state]; rfl
  refine own_cast (own_ef2 m x0) ?_
  exact own_b2_0 X0 Bd.exec Bd.notSynchronized Bd.bytes hml0 Bd.returns (findClass_of_methodNamed Bd.named) hZ hw e0 (Fr.nil n0) (by decide) (by decide) x0
theorem own_case (P : Int32 → Prop) (K : Nat) (hK : K < 2 ^ 31) (h1 : ∀ n : Fin K, P (Int32.ofNat n.1)) (h2 : ∀ x : Int32, (x.toInt < 0 ∨ (K : Int) ≤ x.toInt) → P x) (x : Int32) : P x := by
  by_cases h : x.toInt < 0 ∨ (K : Int) ≤ x.toInt
  · exact h2 x h
  · have e : x = Int32.ofNat x.toInt.toNat := by
      apply Int32.toInt_inj.mp
      rw [Int32.toInt_ofNat_of_lt (by omega)]
      omega
    have := h1 ⟨x.toInt.toNat, by omega⟩
    rw [← e] at this
    exact this
theorem own_m15 (x : Int32) : ¬ (x &&& (15 : Int32)) < 0 ∧ (x &&& (15 : Int32)) < (16 : Int32) := by
  have e : (x &&& (15 : Int32)).toInt = x.toInt % 2 ^ 4 := Jvm.Kit.i32_mask x 15 (k := 4) (by decide) (by decide)
  simp only [Int32.lt_iff_toInt_lt, e]
  have : (16 : Int32).toInt = 16 := rfl
  have : (0 : Int32).toInt = 0 := rfl
  omega
theorem own_getD (L : List Int32) (d : Int32) (i : Nat) : (L.map Value.int).getD i (.int d) = .int (L.getD i d) := by
  simp only [List.getD_eq_getElem?_getD, List.getElem?_map]
  cases L[i]? <;> rfl
def own_edges : List Int32 := [0, 9, 13, 32, 126, 128, 160, 8232, 55295, 57344, 64976, 65007, 65533, 1114111, -2147483644, 2147483644]
def own_P (i : Int) : Prop := (160 ≤ i ∧ i ≤ 55295 ∧ i ≠ 8232) ∨ (57344 ≤ i ∧ i ≤ 65533 ∧ (i < 64976 ∨ 65007 < i))
set_option maxHeartbeats 4000000 in
theorem own_o1 (x : Int32) (h : x.toInt < 0 ∨ (128 : Int) ≤ x.toInt) : (own_P x.toInt ∧ own_f1_0 x = 1) ∨ (¬ own_P x.toInt ∧ own_f1_0 x = 0) := by
  simp +decide only [own_f1_0, own_f1_51, own_f1_52, own_f1_81, own_f1_77, own_f1_82, if_true, if_false]
  simp only [Int32.lt_iff_toInt_lt, ← @Int32.toInt_inj x, Int32.reduceToInt]
  generalize x.toInt = i at h
  repeat' split
  all_goals first | (exfalso; omega) | exact Or.inl ⟨by unfold own_P; omega, rfl⟩ | exact Or.inr ⟨by unfold own_P; omega, rfl⟩
set_option maxHeartbeats 4000000 in
theorem own_o2 (x : Int32) (h : x.toInt < 0 ∨ (128 : Int) ≤ x.toInt) :  (own_P x.toInt ∧ own_f2_0 x = 1) ∨ (¬ own_P x.toInt ∧ own_f2_0 x = 0) := by
  simp +decide only [own_f2_0, own_f2_28, own_f2_54, if_true, if_false]
  simp only [Int32.lt_iff_toInt_lt, ← @Int32.toInt_inj x, Int32.reduceToInt]
  generalize x.toInt = i at h
  repeat' split
  all_goals first | (exfalso; omega) | exact Or.inl ⟨by unfold own_P; omega, rfl⟩ | exact Or.inr ⟨by unfold own_P; omega, rfl⟩
set_option maxRecDepth 65536 in
theorem own_law (x : Int32) : nar .boolean (own_f1_0 x) = nar .boolean (own_f2_0 x) := by
  revert x
  refine own_case _ 128 (by decide) (by decide +kernel) ?_
  intro x h
  rcases own_o1 x h with ⟨a, b⟩ | ⟨a, b⟩ <;> rcases own_o2 x h with ⟨a', b'⟩ | ⟨a', b'⟩
  · rw [b, b']
  · exact absurd a a'
  · exact absurd a' a
  · rw [b, b']
theorem own_pd0 : parseMethodDescriptor "(I)Z" = some ⟨[.int], some .boolean⟩ := by decide +kernel
set_option maxRecDepth 65536 in
set_option maxHeartbeats 8000000 in
theorem own_t156 {p : Program} {l : Launch} {e : Env} {s : State} {m : MethodId} {args : Array Value} {below : List Frame} {meth : Method} {c : Code} {T : State} {locs : List Loc} {cells slots : Nat} {Z : State} {a0 : Array Value} {h0 : Heap} {n0 : Nat} (X0 : Stand p l e room_1 s m args below meth c T locs cells slots) (hx : p.tables.exec = Jvm.exec) (hlk : meth.locks = false) (hby : c.code = code) (hml : c.maxLocals = 5) (hret : meth.sig.returnType = some .boolean) (hown : s.vm.findClass "com/example/flycatcher/flycatcher/xml/XmlCharsIsOrdinaryPinLaw" = some m.cls) (hZ : Z.Warmed39 s.vm) (hw : ∀ d ∈ tables_1, d.before a0 Z = true) (e0 : T.heap = h0) (N0 : Fr n0 locs) (Z0 : n0 ≤ h0.size) (hcc : cells ≤ 16) (hss : slots ≤ 128) (tA : Addr) (cA : Cell) (SA : Sta Z h0 "com/example/flycatcher/flycatcher/xml/XmlChars" "ASCII" "[B" (.ref tA)) (AA : Arr Z h0 tA cA .byte) (LA : cA.slots.size = 128) (HA : ∀ j : Int32, ¬ j < 0 → j < 128 → cA.slots[j.toNatClampNeg]? = some (.int (own_tab j))) (x0 : Int32) (x1 : Int32) (x2 : Addr) (x3 : Int32) (x4 : Int32) :
    own_Go p e below s T (mkF m 156 #[.val (.int x0), .val (.int x1), .val (.ref x2), .val (.int x3), .val (.int x4)] []) (own_Q0 n0) 16 128 := by
  refine own_st (g' := (mkF m 158 #[.val (.int x0), .val (.int x1), .val (.ref x2), .val (.int x3), .val (.int x4)] [(.int x4)])) (fun tt_ kk_ => XS.iload X0.here hx rfl (hb hby at_156) rfl kk_) ?_
  obtain ⟨_, _, ⟨T21, L21, k21, n21⟩, -, X21, ⟨Lc21, hQ21, l21, y21, z21⟩, st21⟩ := Jvm.LawKit.callS X0 hx (y := (⟨"com/example/flycatcher/flycatcher/xml/XmlChars", "isOrdinary", "(I)Z"⟩ : MethodName)) hown (mvT hZ (hw _ (List.mem_of_getElem? (i := 10) rfl))) (mvT hZ (hw _ (List.mem_of_getElem? (i := 11) rfl))) (mvT hZ (hw _ (List.mem_of_getElem? (i := 12) rfl))) (mvT hZ (hw _ (List.mem_of_getElem? (i := 13) rfl))) (by decide) (backOf (W := 0) (own_rm1 l Z a0 hw [] x4 h0 n0 tA cA SA AA LA HA) hZ (hw _ (List.mem_of_getElem? (i := 13) rfl)) (hw _ (List.mem_of_getElem? (i := 12) rfl)) (by decide) (by decide)) (g := (mkF m 158 #[.val (.int x0), .val (.int x1), .val (.ref x2), .val (.int x3), .val (.int x4)] [(.int x4)])) rfl (by rw [hml]; rfl) (argsL := [(.int x4)]) (rest := []) (lenOf own_pd0 rfl) rfl (by show 2 * 0 + _ ≤ _; exact Nat.le_of_eq rfl) (hb hby at_158) (fun _ _ => ⟨rfl, e0, (show cells + 0 ≤ 16 by omega), (show slots + 0 ≤ 128 by omega)⟩)
  dsimp only [Pt.U, Pt.locs, Pt.cells, Pt.slots] at X21 l21 y21 z21 st21 hQ21
  rw [l21, y21, z21] at X21
  obtain ⟨rfl, N21q, e21⟩ := hQ21
  have N21 := Fr.app N0 N21q
  refine own_st (g' := (mkF m 161 #[.val (.int x0), .val (.int x1), .val (.ref x2), .val (.int x3), .val (.int x4)] [(.int (nar .boolean (own_f1_0 x4)))])) st21 ?_
  refine own_st (g' := (mkF m 163 #[.val (.int x0), .val (.int x1), .val (.ref x2), .val (.int x3), .val (.int x4)] [(.int x4), (.int (nar .boolean (own_f1_0 x4)))])) (fun tt_ kk_ => XS.iload X21.here hx rfl (hb hby at_161) rfl kk_) ?_
  obtain ⟨_, _, ⟨T22, L22, k22, n22⟩, -, X22, ⟨Lc22, hQ22, l22, y22, z22⟩, st22⟩ := Jvm.LawKit.callS X21 hx (y := (⟨"com/example/flycatcher/flycatcher/xml/XmlCharsIsOrdinaryPinLaw", "expected", "(I)Z"⟩ : MethodName)) hown (mvT hZ (hw _ (List.mem_of_getElem? (i := 16) rfl))) (mvT hZ (hw _ (List.mem_of_getElem? (i := 17) rfl))) (mvT hZ (hw _ (List.mem_of_getElem? (i := 18) rfl))) (mvT hZ (hw _ (List.mem_of_getElem? (i := 19) rfl))) (by decide) (backOf (W := 1) (own_rm2 l Z a0 hw [] x4 h0 n0) hZ (hw _ (List.mem_of_getElem? (i := 19) rfl)) (hw _ (List.mem_of_getElem? (i := 18) rfl)) (by decide) (by decide)) (g := (mkF m 163 #[.val (.int x0), .val (.int x1), .val (.ref x2), .val (.int x3), .val (.int x4)] [(.int x4), (.int (nar .boolean (own_f1_0 x4)))])) rfl (by rw [hml]; rfl) (argsL := [(.int x4)]) (rest := [(.int (nar .boolean (own_f1_0 x4)))]) (lenOf own_pd0 rfl) rfl (by show 2 * 0 + _ ≤ _; exact Nat.le_of_eq rfl) (hb hby at_163) (fun _ _ => ⟨rfl, e21, (show cells + 0 ≤ 16 by omega), (show slots + 0 ≤ 128 by omega)⟩)
  dsimp only [Pt.U, Pt.locs, Pt.cells, Pt.slots] at X22 l22 y22 z22 st22 hQ22
  rw [l22, y22, z22] at X22
  obtain ⟨rfl, N22q, e22⟩ := hQ22
  have N22 := Fr.app N21 N22q
  refine own_st (g' := (mkF m 166 #[.val (.int x0), .val (.int x1), .val (.ref x2), .val (.int x3), .val (.int x4)] [(.int (nar .boolean (own_f2_0 x4))), (.int (nar .boolean (own_f1_0 x4)))])) st22 ?_
  refine own_st (g' := (mkF m 169 #[.val (.int x0), .val (.int x1), .val (.ref x2), .val (.int x3), .val (.int x4)] [])) (fun tt_ kk_ => XS.icmpNo X22.here hx rfl (hb hby at_166) rfl (teq (own_law _)).2 kk_) ?_
  refine own_st (g' := (mkF m 170 #[.val (.int x0), .val (.int x1), .val (.ref x2), .val (.int x3), .val (.int x4)] [(.int (1 : Int32))])) (fun tt_ kk_ => XS.iconst X22.here hx rfl (hb hby at_169) kk_) ?_
  refine own_st (g' := (mkF m 174 #[.val (.int x0), .val (.int x1), .val (.ref x2), .val (.int x3), .val (.int x4)] [(.int (1 : Int32))])) (fun tt_ kk_ => XS.goto X22.here hx rfl (pc0 := 170) (pc' := 174) rfl (hb hby at_170) (by decide) (by decide) kk_) ?_
  exact own_retN X22 hx hlk (t := .boolean) (Or.inl rfl) hret (hb hby at_174) (by omega) (by omega) ⟨rfl, N22⟩
set_option maxRecDepth 65536 in
set_option maxHeartbeats 8000000 in
theorem own_t0 {p : Program} {l : Launch} {e : Env} {s : State} {m : MethodId} {args : Array Value} {below : List Frame} {meth : Method} {c : Code} {T : State} {locs : List Loc} {cells slots : Nat} {Z : State} {a0 : Array Value} {h0 : Heap} {n0 : Nat} (X0 : Stand p l e room_1 s m args below meth c T locs cells slots) (hx : p.tables.exec = Jvm.exec) (hlk : meth.locks = false) (hby : c.code = code) (hml : c.maxLocals = 5) (hret : meth.sig.returnType = some .boolean) (hown : s.vm.findClass "com/example/flycatcher/flycatcher/xml/XmlCharsIsOrdinaryPinLaw" = some m.cls) (hZ : Z.Warmed39 s.vm) (hw : ∀ d ∈ tables_1, d.before a0 Z = true) (e0 : T.heap = h0) (N0 : Fr n0 locs) (Z0 : n0 ≤ h0.size) (hcc : cells ≤ 0) (hss : slots ≤ 0) (tA : Addr) (cA : Cell) (SA : Sta Z h0 "com/example/flycatcher/flycatcher/xml/XmlChars" "ASCII" "[B" (.ref tA)) (AA : Arr Z h0 tA cA .byte) (LA : cA.slots.size = 128) (HA : ∀ j : Int32, ¬ j < 0 → j < 128 → cA.slots[j.toNatClampNeg]? = some (.int (own_tab j))) (x0 : Int32) (x1 : Int32) :
    own_Go p e below s T (mkF m 0 #[.val (.int x0), .val (.int x1), .unset, .unset, .unset] []) (own_Q0 n0) 16 128 := by
  refine own_st (g' := (mkF m 2 #[.val (.int x0), .val (.int x1), .unset, .unset, .unset] [(.int (16 : Int32))])) (fun tt_ kk_ => XS.bipush X0.here hx rfl (hb hby at_0) kk_) ?_
  obtain ⟨T3, h3, k3, X3, e3, E3, A3, st3⟩ := newP X0 hx hZ (hw _ (List.mem_of_getElem? (i := 0) rfl)) e0 (g := (mkF m 2 #[.val (.int x0), .val (.int x1), .unset, .unset, .unset] [(.int (16 : Int32))])) rfl (hb hby at_2) rfl (by decide) (cap := 16) (by decide) (by decide) (show cells + 1 ≤ 16 by omega) (show slots + 16 ≤ 128 by omega)
  obtain ⟨b3, g3⟩ : ∃ z, z = h0.size := ⟨_, rfl⟩
  rw [← g3] at A3 st3
  have ne4 : tA ≠ b3 := Nat.ne_of_lt (Nat.lt_of_lt_of_le AA.lt (Nat.le_of_eq g3.symm))
  have gz3 : n0 ≤ b3 := Nat.le_trans Z0 (Nat.le_of_eq g3.symm)
  have Z3 : n0 ≤ h3.size := Nat.le_trans Z0 E3.1
  have V3 : Arv Z h3 b3 k3 .int (16 : Int32) [(.int (0 : Int32)), (.int (0 : Int32)), (.int (0 : Int32)), (.int (0 : Int32)), (.int (0 : Int32)), (.int (0 : Int32)), (.int (0 : Int32)), (.int (0 : Int32)), (.int (0 : Int32)), (.int (0 : Int32)), (.int (0 : Int32)), (.int (0 : Int32)), (.int (0 : Int32)), (.int (0 : Int32)), (.int (0 : Int32)), (.int (0 : Int32))] (.int (0 : Int32)) := (Arv.new A3 (by decide)).pad (pad_rep [] (.int (0 : Int32)) 16)
  refine own_st (g' := (mkF m 4 #[.val (.int x0), .val (.int x1), .unset, .unset, .unset] [(.ref b3)])) st3 ?_
  refine own_st (g' := (mkF m 5 #[.val (.int x0), .val (.int x1), .unset, .unset, .unset] [(.ref b3), (.ref b3)])) (fun tt_ kk_ => XS.dup X3.here hx rfl (hb hby at_4) rfl rfl kk_) ?_
  refine own_st (g' := (mkF m 6 #[.val (.int x0), .val (.int x1), .unset, .unset, .unset] [(.int (0 : Int32)), (.ref b3), (.ref b3)])) (fun tt_ kk_ => XS.iconst X3.here hx rfl (hb hby at_5) kk_) ?_
  refine own_st (g' := (mkF m 7 #[.val (.int x0), .val (.int x1), .unset, .unset, .unset] [(.int (0 : Int32)), (.int (0 : Int32)), (.ref b3), (.ref b3)])) (fun tt_ kk_ => XS.iconst X3.here hx rfl (hb hby at_6) kk_) ?_
  obtain ⟨c5, A5, q5, S5, M5, H5, G5⟩ := V3
  have i5 : ¬ ((0 : Int32) < 0 ∨ c5.slots.size ≤ ((0 : Int32)).toNatClampNeg) := inb_of S5 ⟨by decide, by decide⟩
  obtain ⟨T5, h5, X5, e5, W5, st5⟩ := stI X3 hx hZ e3 A5 (j := (0 : Int32)) i5 (g := (mkF m 7 #[.val (.int x0), .val (.int x1), .unset, .unset, .unset] [(.int (0 : Int32)), (.int (0 : Int32)), (.ref b3), (.ref b3)])) rfl rfl (hb hby at_7)
  have N5 := Fr.snoc X5 N0 gz3
  have Z5 : n0 ≤ h5.size := Nat.le_trans Z3 (Keep.of_wr W5).1
  have V5 : Arv Z h5 b3 k3 .int (16 : Int32) [(.int (0 : Int32)), (.int (0 : Int32)), (.int (0 : Int32)), (.int (0 : Int32)), (.int (0 : Int32)), (.int (0 : Int32)), (.int (0 : Int32)), (.int (0 : Int32)), (.int (0 : Int32)), (.int (0 : Int32)), (.int (0 : Int32)), (.int (0 : Int32)), (.int (0 : Int32)), (.int (0 : Int32)), (.int (0 : Int32)), (.int (0 : Int32))] (.int (0 : Int32)) := Arv.set A5 q5 S5 M5 H5 G5 rfl W5 0 rfl (Nat.le_of_ble_eq_true rfl)
  refine own_st (g' := (mkF m 8 #[.val (.int x0), .val (.int x1), .unset, .unset, .unset] [(.ref b3)])) st5 ?_
  refine own_st (g' := (mkF m 9 #[.val (.int x0), .val (.int x1), .unset, .unset, .unset] [(.ref b3), (.ref b3)])) (fun tt_ kk_ => XS.dup X5.here hx rfl (hb hby at_8) rfl rfl kk_) ?_
  refine own_st (g' := (mkF m 10 #[.val (.int x0), .val (.int x1), .unset, .unset, .unset] [(.int (1 : Int32)), (.ref b3), (.ref b3)])) (fun tt_ kk_ => XS.iconst X5.here hx rfl (hb hby at_9) kk_) ?_
  refine own_st (g' := (mkF m 12 #[.val (.int x0), .val (.int x1), .unset, .unset, .unset] [(.int (9 : Int32)), (.int (1 : Int32)), (.ref b3), (.ref b3)])) (fun tt_ kk_ => XS.bipush X5.here hx rfl (hb hby at_10) kk_) ?_
  obtain ⟨c6, A6, q6, S6, M6, H6, G6⟩ := V5
  have i6 : ¬ ((1 : Int32) < 0 ∨ c6.slots.size ≤ ((1 : Int32)).toNatClampNeg) := inb_of S6 ⟨by decide, by decide⟩
  obtain ⟨T6, h6, X6, e6, W6, st6⟩ := stI X5 hx hZ e5 A6 (j := (1 : Int32)) i6 (g := (mkF m 12 #[.val (.int x0), .val (.int x1), .unset, .unset, .unset] [(.int (9 : Int32)), (.int (1 : Int32)), (.ref b3), (.ref b3)])) rfl rfl (hb hby at_12)
  have N6 := Fr.snoc X6 N5 gz3
  have Z6 : n0 ≤ h6.size := Nat.le_trans Z5 (Keep.of_wr W6).1
  have V6 : Arv Z h6 b3 k3 .int (16 : Int32) [(.int (0 : Int32)), (.int (9 : Int32)), (.int (0 : Int32)), (.int (0 : Int32)), (.int (0 : Int32)), (.int (0 : Int32)), (.int (0 : Int32)), (.int (0 : Int32)), (.int (0 : Int32)), (.int (0 : Int32)), (.int (0 : Int32)), (.int (0 : Int32)), (.int (0 : Int32)), (.int (0 : Int32)), (.int (0 : Int32)), (.int (0 : Int32))] (.int (0 : Int32)) := Arv.set A6 q6 S6 M6 H6 G6 rfl W6 1 rfl (Nat.le_of_ble_eq_true rfl)
  refine own_st (g' := (mkF m 13 #[.val (.int x0), .val (.int x1), .unset, .unset, .unset] [(.ref b3)])) st6 ?_
  refine own_st (g' := (mkF m 14 #[.val (.int x0), .val (.int x1), .unset, .unset, .unset] [(.ref b3), (.ref b3)])) (fun tt_ kk_ => XS.dup X6.here hx rfl (hb hby at_13) rfl rfl kk_) ?_
  refine own_st (g' := (mkF m 15 #[.val (.int x0), .val (.int x1), .unset, .unset, .unset] [(.int (2 : Int32)), (.ref b3), (.ref b3)])) (fun tt_ kk_ => XS.iconst X6.here hx rfl (hb hby at_14) kk_) ?_
  refine own_st (g' := (mkF m 17 #[.val (.int x0), .val (.int x1), .unset, .unset, .unset] [(.int (13 : Int32)), (.int (2 : Int32)), (.ref b3), (.ref b3)])) (fun tt_ kk_ => XS.bipush X6.here hx rfl (hb hby at_15) kk_) ?_
  obtain ⟨c7, A7, q7, S7, M7, H7, G7⟩ := V6
  have i7 : ¬ ((2 : Int32) < 0 ∨ c7.slots.size ≤ ((2 : Int32)).toNatClampNeg) := inb_of S7 ⟨by decide, by decide⟩
  obtain ⟨T7, h7, X7, e7, W7, st7⟩ := stI X6 hx hZ e6 A7 (j := (2 : Int32)) i7 (g := (mkF m 17 #[.val (.int x0), .val (.int x1), .unset, .unset, .unset] [(.int (13 : Int32)), (.int (2 : Int32)), (.ref b3), (.ref b3)])) rfl rfl (hb hby at_17)
  have N7 := Fr.snoc X7 N6 gz3
  have Z7 : n0 ≤ h7.size := Nat.le_trans Z6 (Keep.of_wr W7).1
  have V7 : Arv Z h7 b3 k3 .int (16 : Int32) [(.int (0 : Int32)), (.int (9 : Int32)), (.int (13 : Int32)), (.int (0 : Int32)), (.int (0 : Int32)), (.int (0 : Int32)), (.int (0 : Int32)), (.int (0 : Int32)), (.int (0 : Int32)), (.int (0 : Int32)), (.int (0 : Int32)), (.int (0 : Int32)), (.int (0 : Int32)), (.int (0 : Int32)), (.int (0 : Int32)), (.int (0 : Int32))] (.int (0 : Int32)) := Arv.set A7 q7 S7 M7 H7 G7 rfl W7 2 rfl (Nat.le_of_ble_eq_true rfl)
  refine own_st (g' := (mkF m 18 #[.val (.int x0), .val (.int x1), .unset, .unset, .unset] [(.ref b3)])) st7 ?_
  refine own_st (g' := (mkF m 19 #[.val (.int x0), .val (.int x1), .unset, .unset, .unset] [(.ref b3), (.ref b3)])) (fun tt_ kk_ => XS.dup X7.here hx rfl (hb hby at_18) rfl rfl kk_) ?_
  refine own_st (g' := (mkF m 20 #[.val (.int x0), .val (.int x1), .unset, .unset, .unset] [(.int (3 : Int32)), (.ref b3), (.ref b3)])) (fun tt_ kk_ => XS.iconst X7.here hx rfl (hb hby at_19) kk_) ?_
  refine own_st (g' := (mkF m 22 #[.val (.int x0), .val (.int x1), .unset, .unset, .unset] [(.int (32 : Int32)), (.int (3 : Int32)), (.ref b3), (.ref b3)])) (fun tt_ kk_ => XS.bipush X7.here hx rfl (hb hby at_20) kk_) ?_
  obtain ⟨c8, A8, q8, S8, M8, H8, G8⟩ := V7
  have i8 : ¬ ((3 : Int32) < 0 ∨ c8.slots.size ≤ ((3 : Int32)).toNatClampNeg) := inb_of S8 ⟨by decide, by decide⟩
  obtain ⟨T8, h8, X8, e8, W8, st8⟩ := stI X7 hx hZ e7 A8 (j := (3 : Int32)) i8 (g := (mkF m 22 #[.val (.int x0), .val (.int x1), .unset, .unset, .unset] [(.int (32 : Int32)), (.int (3 : Int32)), (.ref b3), (.ref b3)])) rfl rfl (hb hby at_22)
  have N8 := Fr.snoc X8 N7 gz3
  have Z8 : n0 ≤ h8.size := Nat.le_trans Z7 (Keep.of_wr W8).1
  have V8 : Arv Z h8 b3 k3 .int (16 : Int32) [(.int (0 : Int32)), (.int (9 : Int32)), (.int (13 : Int32)), (.int (32 : Int32)), (.int (0 : Int32)), (.int (0 : Int32)), (.int (0 : Int32)), (.int (0 : Int32)), (.int (0 : Int32)), (.int (0 : Int32)), (.int (0 : Int32)), (.int (0 : Int32)), (.int (0 : Int32)), (.int (0 : Int32)), (.int (0 : Int32)), (.int (0 : Int32))] (.int (0 : Int32)) := Arv.set A8 q8 S8 M8 H8 G8 rfl W8 3 rfl (Nat.le_of_ble_eq_true rfl)
  refine own_st (g' := (mkF m 23 #[.val (.int x0), .val (.int x1), .unset, .unset, .unset] [(.ref b3)])) st8 ?_
  refine own_st (g' := (mkF m 24 #[.val (.int x0), .val (.int x1), .unset, .unset, .unset] [(.ref b3), (.ref b3)])) (fun tt_ kk_ => XS.dup X8.here hx rfl (hb hby at_23) rfl rfl kk_) ?_
  refine own_st (g' := (mkF m 25 #[.val (.int x0), .val (.int x1), .unset, .unset, .unset] [(.int (4 : Int32)), (.ref b3), (.ref b3)])) (fun tt_ kk_ => XS.iconst X8.here hx rfl (hb hby at_24) kk_) ?_
  refine own_st (g' := (mkF m 27 #[.val (.int x0), .val (.int x1), .unset, .unset, .unset] [(.int (126 : Int32)), (.int (4 : Int32)), (.ref b3), (.ref b3)])) (fun tt_ kk_ => XS.bipush X8.here hx rfl (hb hby at_25) kk_) ?_
  obtain ⟨c9, A9, q9, S9, M9, H9, G9⟩ := V8
  have i9 : ¬ ((4 : Int32) < 0 ∨ c9.slots.size ≤ ((4 : Int32)).toNatClampNeg) := inb_of S9 ⟨by decide, by decide⟩
  obtain ⟨T9, h9, X9, e9, W9, st9⟩ := stI X8 hx hZ e8 A9 (j := (4 : Int32)) i9 (g := (mkF m 27 #[.val (.int x0), .val (.int x1), .unset, .unset, .unset] [(.int (126 : Int32)), (.int (4 : Int32)), (.ref b3), (.ref b3)])) rfl rfl (hb hby at_27)
  have N9 := Fr.snoc X9 N8 gz3
  have Z9 : n0 ≤ h9.size := Nat.le_trans Z8 (Keep.of_wr W9).1
  have V9 : Arv Z h9 b3 k3 .int (16 : Int32) [(.int (0 : Int32)), (.int (9 : Int32)), (.int (13 : Int32)), (.int (32 : Int32)), (.int (126 : Int32)), (.int (0 : Int32)), (.int (0 : Int32)), (.int (0 : Int32)), (.int (0 : Int32)), (.int (0 : Int32)), (.int (0 : Int32)), (.int (0 : Int32)), (.int (0 : Int32)), (.int (0 : Int32)), (.int (0 : Int32)), (.int (0 : Int32))] (.int (0 : Int32)) := Arv.set A9 q9 S9 M9 H9 G9 rfl W9 4 rfl (Nat.le_of_ble_eq_true rfl)
  refine own_st (g' := (mkF m 28 #[.val (.int x0), .val (.int x1), .unset, .unset, .unset] [(.ref b3)])) st9 ?_
  refine own_st (g' := (mkF m 29 #[.val (.int x0), .val (.int x1), .unset, .unset, .unset] [(.ref b3), (.ref b3)])) (fun tt_ kk_ => XS.dup X9.here hx rfl (hb hby at_28) rfl rfl kk_) ?_
  refine own_st (g' := (mkF m 30 #[.val (.int x0), .val (.int x1), .unset, .unset, .unset] [(.int (5 : Int32)), (.ref b3), (.ref b3)])) (fun tt_ kk_ => XS.iconst X9.here hx rfl (hb hby at_29) kk_) ?_
  refine own_st (g' := (mkF m 33 #[.val (.int x0), .val (.int x1), .unset, .unset, .unset] [(.int (128 : Int32)), (.int (5 : Int32)), (.ref b3), (.ref b3)])) (fun tt_ kk_ => XS.sipush X9.here hx rfl (hb hby at_30) kk_) ?_
  obtain ⟨c10, A10, q10, S10, M10, H10, G10⟩ := V9
  have i10 : ¬ ((5 : Int32) < 0 ∨ c10.slots.size ≤ ((5 : Int32)).toNatClampNeg) := inb_of S10 ⟨by decide, by decide⟩
  obtain ⟨T10, h10, X10, e10, W10, st10⟩ := stI X9 hx hZ e9 A10 (j := (5 : Int32)) i10 (g := (mkF m 33 #[.val (.int x0), .val (.int x1), .unset, .unset, .unset] [(.int (128 : Int32)), (.int (5 : Int32)), (.ref b3), (.ref b3)])) rfl rfl (hb hby at_33)
  have N10 := Fr.snoc X10 N9 gz3
  have Z10 : n0 ≤ h10.size := Nat.le_trans Z9 (Keep.of_wr W10).1
  have V10 : Arv Z h10 b3 k3 .int (16 : Int32) [(.int (0 : Int32)), (.int (9 : Int32)), (.int (13 : Int32)), (.int (32 : Int32)), (.int (126 : Int32)), (.int (128 : Int32)), (.int (0 : Int32)), (.int (0 : Int32)), (.int (0 : Int32)), (.int (0 : Int32)), (.int (0 : Int32)), (.int (0 : Int32)), (.int (0 : Int32)), (.int (0 : Int32)), (.int (0 : Int32)), (.int (0 : Int32))] (.int (0 : Int32)) := Arv.set A10 q10 S10 M10 H10 G10 rfl W10 5 rfl (Nat.le_of_ble_eq_true rfl)
  refine own_st (g' := (mkF m 34 #[.val (.int x0), .val (.int x1), .unset, .unset, .unset] [(.ref b3)])) st10 ?_
  refine own_st (g' := (mkF m 35 #[.val (.int x0), .val (.int x1), .unset, .unset, .unset] [(.ref b3), (.ref b3)])) (fun tt_ kk_ => XS.dup X10.here hx rfl (hb hby at_34) rfl rfl kk_) ?_
  refine own_st (g' := (mkF m 37 #[.val (.int x0), .val (.int x1), .unset, .unset, .unset] [(.int (6 : Int32)), (.ref b3), (.ref b3)])) (fun tt_ kk_ => XS.bipush X10.here hx rfl (hb hby at_35) kk_) ?_
  refine own_st (g' := (mkF m 40 #[.val (.int x0), .val (.int x1), .unset, .unset, .unset] [(.int (160 : Int32)), (.int (6 : Int32)), (.ref b3), (.ref b3)])) (fun tt_ kk_ => XS.sipush X10.here hx rfl (hb hby at_37) kk_) ?_
  obtain ⟨c11, A11, q11, S11, M11, H11, G11⟩ := V10
  have i11 : ¬ ((6 : Int32) < 0 ∨ c11.slots.size ≤ ((6 : Int32)).toNatClampNeg) := inb_of S11 ⟨by decide, by decide⟩
  obtain ⟨T11, h11, X11, e11, W11, st11⟩ := stI X10 hx hZ e10 A11 (j := (6 : Int32)) i11 (g := (mkF m 40 #[.val (.int x0), .val (.int x1), .unset, .unset, .unset] [(.int (160 : Int32)), (.int (6 : Int32)), (.ref b3), (.ref b3)])) rfl rfl (hb hby at_40)
  have N11 := Fr.snoc X11 N10 gz3
  have Z11 : n0 ≤ h11.size := Nat.le_trans Z10 (Keep.of_wr W11).1
  have V11 : Arv Z h11 b3 k3 .int (16 : Int32) [(.int (0 : Int32)), (.int (9 : Int32)), (.int (13 : Int32)), (.int (32 : Int32)), (.int (126 : Int32)), (.int (128 : Int32)), (.int (160 : Int32)), (.int (0 : Int32)), (.int (0 : Int32)), (.int (0 : Int32)), (.int (0 : Int32)), (.int (0 : Int32)), (.int (0 : Int32)), (.int (0 : Int32)), (.int (0 : Int32)), (.int (0 : Int32))] (.int (0 : Int32)) := Arv.set A11 q11 S11 M11 H11 G11 rfl W11 6 rfl (Nat.le_of_ble_eq_true rfl)
  refine own_st (g' := (mkF m 41 #[.val (.int x0), .val (.int x1), .unset, .unset, .unset] [(.ref b3)])) st11 ?_
  refine own_st (g' := (mkF m 42 #[.val (.int x0), .val (.int x1), .unset, .unset, .unset] [(.ref b3), (.ref b3)])) (fun tt_ kk_ => XS.dup X11.here hx rfl (hb hby at_41) rfl rfl kk_) ?_
  refine own_st (g' := (mkF m 44 #[.val (.int x0), .val (.int x1), .unset, .unset, .unset] [(.int (7 : Int32)), (.ref b3), (.ref b3)])) (fun tt_ kk_ => XS.bipush X11.here hx rfl (hb hby at_42) kk_) ?_
  refine own_st (g' := (mkF m 47 #[.val (.int x0), .val (.int x1), .unset, .unset, .unset] [(.int (8232 : Int32)), (.int (7 : Int32)), (.ref b3), (.ref b3)])) (fun tt_ kk_ => XS.sipush X11.here hx rfl (hb hby at_44) kk_) ?_
  obtain ⟨c12, A12, q12, S12, M12, H12, G12⟩ := V11
  have i12 : ¬ ((7 : Int32) < 0 ∨ c12.slots.size ≤ ((7 : Int32)).toNatClampNeg) := inb_of S12 ⟨by decide, by decide⟩
  obtain ⟨T12, h12, X12, e12, W12, st12⟩ := stI X11 hx hZ e11 A12 (j := (7 : Int32)) i12 (g := (mkF m 47 #[.val (.int x0), .val (.int x1), .unset, .unset, .unset] [(.int (8232 : Int32)), (.int (7 : Int32)), (.ref b3), (.ref b3)])) rfl rfl (hb hby at_47)
  have N12 := Fr.snoc X12 N11 gz3
  have Z12 : n0 ≤ h12.size := Nat.le_trans Z11 (Keep.of_wr W12).1
  have V12 : Arv Z h12 b3 k3 .int (16 : Int32) [(.int (0 : Int32)), (.int (9 : Int32)), (.int (13 : Int32)), (.int (32 : Int32)), (.int (126 : Int32)), (.int (128 : Int32)), (.int (160 : Int32)), (.int (8232 : Int32)), (.int (0 : Int32)), (.int (0 : Int32)), (.int (0 : Int32)), (.int (0 : Int32)), (.int (0 : Int32)), (.int (0 : Int32)), (.int (0 : Int32)), (.int (0 : Int32))] (.int (0 : Int32)) := Arv.set A12 q12 S12 M12 H12 G12 rfl W12 7 rfl (Nat.le_of_ble_eq_true rfl)
  refine own_st (g' := (mkF m 48 #[.val (.int x0), .val (.int x1), .unset, .unset, .unset] [(.ref b3)])) st12 ?_
  refine own_st (g' := (mkF m 49 #[.val (.int x0), .val (.int x1), .unset, .unset, .unset] [(.ref b3), (.ref b3)])) (fun tt_ kk_ => XS.dup X12.here hx rfl (hb hby at_48) rfl rfl kk_) ?_
  refine own_st (g' := (mkF m 51 #[.val (.int x0), .val (.int x1), .unset, .unset, .unset] [(.int (8 : Int32)), (.ref b3), (.ref b3)])) (fun tt_ kk_ => XS.bipush X12.here hx rfl (hb hby at_49) kk_) ?_
  refine own_st (g' := (mkF m 53 #[.val (.int x0), .val (.int x1), .unset, .unset, .unset] [(.int (55295 : Int32)), (.int (8 : Int32)), (.ref b3), (.ref b3)])) (fun tt_ kk_ => X12.ldcInt hx hown (mvT hZ (hw _ (List.mem_of_getElem? (i := 1) rfl))) (g := (mkF m 51 #[.val (.int x0), .val (.int x1), .unset, .unset, .unset] [(.int (8 : Int32)), (.ref b3), (.ref b3)])) rfl (hb hby at_51) _ kk_) ?_
  obtain ⟨c13, A13, q13, S13, M13, H13, G13⟩ := V12
  have i13 : ¬ ((8 : Int32) < 0 ∨ c13.slots.size ≤ ((8 : Int32)).toNatClampNeg) := inb_of S13 ⟨by decide, by decide⟩
  obtain ⟨T13, h13, X13, e13, W13, st13⟩ := stI X12 hx hZ e12 A13 (j := (8 : Int32)) i13 (g := (mkF m 53 #[.val (.int x0), .val (.int x1), .unset, .unset, .unset] [(.int (55295 : Int32)), (.int (8 : Int32)), (.ref b3), (.ref b3)])) rfl rfl (hb hby at_53)
  have N13 := Fr.snoc X13 N12 gz3
  have Z13 : n0 ≤ h13.size := Nat.le_trans Z12 (Keep.of_wr W13).1
  have V13 : Arv Z h13 b3 k3 .int (16 : Int32) [(.int (0 : Int32)), (.int (9 : Int32)), (.int (13 : Int32)), (.int (32 : Int32)), (.int (126 : Int32)), (.int (128 : Int32)), (.int (160 : Int32)), (.int (8232 : Int32)), (.int (55295 : Int32)), (.int (0 : Int32)), (.int (0 : Int32)), (.int (0 : Int32)), (.int (0 : Int32)), (.int (0 : Int32)), (.int (0 : Int32)), (.int (0 : Int32))] (.int (0 : Int32)) := Arv.set A13 q13 S13 M13 H13 G13 rfl W13 8 rfl (Nat.le_of_ble_eq_true rfl)
  refine own_st (g' := (mkF m 54 #[.val (.int x0), .val (.int x1), .unset, .unset, .unset] [(.ref b3)])) st13 ?_
  refine own_st (g' := (mkF m 55 #[.val (.int x0), .val (.int x1), .unset, .unset, .unset] [(.ref b3), (.ref b3)])) (fun tt_ kk_ => XS.dup X13.here hx rfl (hb hby at_54) rfl rfl kk_) ?_
  refine own_st (g' := (mkF m 57 #[.val (.int x0), .val (.int x1), .unset, .unset, .unset] [(.int (9 : Int32)), (.ref b3), (.ref b3)])) (fun tt_ kk_ => XS.bipush X13.here hx rfl (hb hby at_55) kk_) ?_
  refine own_st (g' := (mkF m 59 #[.val (.int x0), .val (.int x1), .unset, .unset, .unset] [(.int (57344 : Int32)), (.int (9 : Int32)), (.ref b3), (.ref b3)])) (fun tt_ kk_ => X13.ldcInt hx hown (mvT hZ (hw _ (List.mem_of_getElem? (i := 2) rfl))) (g := (mkF m 57 #[.val (.int x0), .val (.int x1), .unset, .unset, .unset] [(.int (9 : Int32)), (.ref b3), (.ref b3)])) rfl (hb hby at_57) _ kk_) ?_
  obtain ⟨c14, A14, q14, S14, M14, H14, G14⟩ := V13
  have i14 : ¬ ((9 : Int32) < 0 ∨ c14.slots.size ≤ ((9 : Int32)).toNatClampNeg) := inb_of S14 ⟨by decide, by decide⟩
  obtain ⟨T14, h14, X14, e14, W14, st14⟩ := stI X13 hx hZ e13 A14 (j := (9 : Int32)) i14 (g := (mkF m 59 #[.val (.int x0), .val (.int x1), .unset, .unset, .unset] [(.int (57344 : Int32)), (.int (9 : Int32)), (.ref b3), (.ref b3)])) rfl rfl (hb hby at_59)
  have N14 := Fr.snoc X14 N13 gz3
  have Z14 : n0 ≤ h14.size := Nat.le_trans Z13 (Keep.of_wr W14).1
  have V14 : Arv Z h14 b3 k3 .int (16 : Int32) [(.int (0 : Int32)), (.int (9 : Int32)), (.int (13 : Int32)), (.int (32 : Int32)), (.int (126 : Int32)), (.int (128 : Int32)), (.int (160 : Int32)), (.int (8232 : Int32)), (.int (55295 : Int32)), (.int (57344 : Int32)), (.int (0 : Int32)), (.int (0 : Int32)), (.int (0 : Int32)), (.int (0 : Int32)), (.int (0 : Int32)), (.int (0 : Int32))] (.int (0 : Int32)) := Arv.set A14 q14 S14 M14 H14 G14 rfl W14 9 rfl (Nat.le_of_ble_eq_true rfl)
  refine own_st (g' := (mkF m 60 #[.val (.int x0), .val (.int x1), .unset, .unset, .unset] [(.ref b3)])) st14 ?_
  refine own_st (g' := (mkF m 61 #[.val (.int x0), .val (.int x1), .unset, .unset, .unset] [(.ref b3), (.ref b3)])) (fun tt_ kk_ => XS.dup X14.here hx rfl (hb hby at_60) rfl rfl kk_) ?_
  refine own_st (g' := (mkF m 63 #[.val (.int x0), .val (.int x1), .unset, .unset, .unset] [(.int (10 : Int32)), (.ref b3), (.ref b3)])) (fun tt_ kk_ => XS.bipush X14.here hx rfl (hb hby at_61) kk_) ?_
  refine own_st (g' := (mkF m 65 #[.val (.int x0), .val (.int x1), .unset, .unset, .unset] [(.int (64976 : Int32)), (.int (10 : Int32)), (.ref b3), (.ref b3)])) (fun tt_ kk_ => X14.ldcInt hx hown (mvT hZ (hw _ (List.mem_of_getElem? (i := 3) rfl))) (g := (mkF m 63 #[.val (.int x0), .val (.int x1), .unset, .unset, .unset] [(.int (10 : Int32)), (.ref b3), (.ref b3)])) rfl (hb hby at_63) _ kk_) ?_
  obtain ⟨c15, A15, q15, S15, M15, H15, G15⟩ := V14
  have i15 : ¬ ((10 : Int32) < 0 ∨ c15.slots.size ≤ ((10 : Int32)).toNatClampNeg) := inb_of S15 ⟨by decide, by decide⟩
  obtain ⟨T15, h15, X15, e15, W15, st15⟩ := stI X14 hx hZ e14 A15 (j := (10 : Int32)) i15 (g := (mkF m 65 #[.val (.int x0), .val (.int x1), .unset, .unset, .unset] [(.int (64976 : Int32)), (.int (10 : Int32)), (.ref b3), (.ref b3)])) rfl rfl (hb hby at_65)
  have N15 := Fr.snoc X15 N14 gz3
  have Z15 : n0 ≤ h15.size := Nat.le_trans Z14 (Keep.of_wr W15).1
  have V15 : Arv Z h15 b3 k3 .int (16 : Int32) [(.int (0 : Int32)), (.int (9 : Int32)), (.int (13 : Int32)), (.int (32 : Int32)), (.int (126 : Int32)), (.int (128 : Int32)), (.int (160 : Int32)), (.int (8232 : Int32)), (.int (55295 : Int32)), (.int (57344 : Int32)), (.int (64976 : Int32)), (.int (0 : Int32)), (.int (0 : Int32)), (.int (0 : Int32)), (.int (0 : Int32)), (.int (0 : Int32))] (.int (0 : Int32)) := Arv.set A15 q15 S15 M15 H15 G15 rfl W15 10 rfl (Nat.le_of_ble_eq_true rfl)
  refine own_st (g' := (mkF m 66 #[.val (.int x0), .val (.int x1), .unset, .unset, .unset] [(.ref b3)])) st15 ?_
  refine own_st (g' := (mkF m 67 #[.val (.int x0), .val (.int x1), .unset, .unset, .unset] [(.ref b3), (.ref b3)])) (fun tt_ kk_ => XS.dup X15.here hx rfl (hb hby at_66) rfl rfl kk_) ?_
  refine own_st (g' := (mkF m 69 #[.val (.int x0), .val (.int x1), .unset, .unset, .unset] [(.int (11 : Int32)), (.ref b3), (.ref b3)])) (fun tt_ kk_ => XS.bipush X15.here hx rfl (hb hby at_67) kk_) ?_
  refine own_st (g' := (mkF m 71 #[.val (.int x0), .val (.int x1), .unset, .unset, .unset] [(.int (65007 : Int32)), (.int (11 : Int32)), (.ref b3), (.ref b3)])) (fun tt_ kk_ => X15.ldcInt hx hown (mvT hZ (hw _ (List.mem_of_getElem? (i := 4) rfl))) (g := (mkF m 69 #[.val (.int x0), .val (.int x1), .unset, .unset, .unset] [(.int (11 : Int32)), (.ref b3), (.ref b3)])) rfl (hb hby at_69) _ kk_) ?_
  obtain ⟨c16, A16, q16, S16, M16, H16, G16⟩ := V15
  have i16 : ¬ ((11 : Int32) < 0 ∨ c16.slots.size ≤ ((11 : Int32)).toNatClampNeg) := inb_of S16 ⟨by decide, by decide⟩
  obtain ⟨T16, h16, X16, e16, W16, st16⟩ := stI X15 hx hZ e15 A16 (j := (11 : Int32)) i16 (g := (mkF m 71 #[.val (.int x0), .val (.int x1), .unset, .unset, .unset] [(.int (65007 : Int32)), (.int (11 : Int32)), (.ref b3), (.ref b3)])) rfl rfl (hb hby at_71)
  have N16 := Fr.snoc X16 N15 gz3
  have Z16 : n0 ≤ h16.size := Nat.le_trans Z15 (Keep.of_wr W16).1
  have V16 : Arv Z h16 b3 k3 .int (16 : Int32) [(.int (0 : Int32)), (.int (9 : Int32)), (.int (13 : Int32)), (.int (32 : Int32)), (.int (126 : Int32)), (.int (128 : Int32)), (.int (160 : Int32)), (.int (8232 : Int32)), (.int (55295 : Int32)), (.int (57344 : Int32)), (.int (64976 : Int32)), (.int (65007 : Int32)), (.int (0 : Int32)), (.int (0 : Int32)), (.int (0 : Int32)), (.int (0 : Int32))] (.int (0 : Int32)) := Arv.set A16 q16 S16 M16 H16 G16 rfl W16 11 rfl (Nat.le_of_ble_eq_true rfl)
  refine own_st (g' := (mkF m 72 #[.val (.int x0), .val (.int x1), .unset, .unset, .unset] [(.ref b3)])) st16 ?_
  refine own_st (g' := (mkF m 73 #[.val (.int x0), .val (.int x1), .unset, .unset, .unset] [(.ref b3), (.ref b3)])) (fun tt_ kk_ => XS.dup X16.here hx rfl (hb hby at_72) rfl rfl kk_) ?_
  refine own_st (g' := (mkF m 75 #[.val (.int x0), .val (.int x1), .unset, .unset, .unset] [(.int (12 : Int32)), (.ref b3), (.ref b3)])) (fun tt_ kk_ => XS.bipush X16.here hx rfl (hb hby at_73) kk_) ?_
  refine own_st (g' := (mkF m 77 #[.val (.int x0), .val (.int x1), .unset, .unset, .unset] [(.int (65533 : Int32)), (.int (12 : Int32)), (.ref b3), (.ref b3)])) (fun tt_ kk_ => X16.ldcInt hx hown (mvT hZ (hw _ (List.mem_of_getElem? (i := 5) rfl))) (g := (mkF m 75 #[.val (.int x0), .val (.int x1), .unset, .unset, .unset] [(.int (12 : Int32)), (.ref b3), (.ref b3)])) rfl (hb hby at_75) _ kk_) ?_
  obtain ⟨c17, A17, q17, S17, M17, H17, G17⟩ := V16
  have i17 : ¬ ((12 : Int32) < 0 ∨ c17.slots.size ≤ ((12 : Int32)).toNatClampNeg) := inb_of S17 ⟨by decide, by decide⟩
  obtain ⟨T17, h17, X17, e17, W17, st17⟩ := stI X16 hx hZ e16 A17 (j := (12 : Int32)) i17 (g := (mkF m 77 #[.val (.int x0), .val (.int x1), .unset, .unset, .unset] [(.int (65533 : Int32)), (.int (12 : Int32)), (.ref b3), (.ref b3)])) rfl rfl (hb hby at_77)
  have N17 := Fr.snoc X17 N16 gz3
  have Z17 : n0 ≤ h17.size := Nat.le_trans Z16 (Keep.of_wr W17).1
  have V17 : Arv Z h17 b3 k3 .int (16 : Int32) [(.int (0 : Int32)), (.int (9 : Int32)), (.int (13 : Int32)), (.int (32 : Int32)), (.int (126 : Int32)), (.int (128 : Int32)), (.int (160 : Int32)), (.int (8232 : Int32)), (.int (55295 : Int32)), (.int (57344 : Int32)), (.int (64976 : Int32)), (.int (65007 : Int32)), (.int (65533 : Int32)), (.int (0 : Int32)), (.int (0 : Int32)), (.int (0 : Int32))] (.int (0 : Int32)) := Arv.set A17 q17 S17 M17 H17 G17 rfl W17 12 rfl (Nat.le_of_ble_eq_true rfl)
  refine own_st (g' := (mkF m 78 #[.val (.int x0), .val (.int x1), .unset, .unset, .unset] [(.ref b3)])) st17 ?_
  refine own_st (g' := (mkF m 79 #[.val (.int x0), .val (.int x1), .unset, .unset, .unset] [(.ref b3), (.ref b3)])) (fun tt_ kk_ => XS.dup X17.here hx rfl (hb hby at_78) rfl rfl kk_) ?_
  refine own_st (g' := (mkF m 81 #[.val (.int x0), .val (.int x1), .unset, .unset, .unset] [(.int (13 : Int32)), (.ref b3), (.ref b3)])) (fun tt_ kk_ => XS.bipush X17.here hx rfl (hb hby at_79) kk_) ?_
  refine own_st (g' := (mkF m 83 #[.val (.int x0), .val (.int x1), .unset, .unset, .unset] [(.int (1114111 : Int32)), (.int (13 : Int32)), (.ref b3), (.ref b3)])) (fun tt_ kk_ => X17.ldcInt hx hown (mvT hZ (hw _ (List.mem_of_getElem? (i := 6) rfl))) (g := (mkF m 81 #[.val (.int x0), .val (.int x1), .unset, .unset, .unset] [(.int (13 : Int32)), (.ref b3), (.ref b3)])) rfl (hb hby at_81) _ kk_) ?_
  obtain ⟨c18, A18, q18, S18, M18, H18, G18⟩ := V17
  have i18 : ¬ ((13 : Int32) < 0 ∨ c18.slots.size ≤ ((13 : Int32)).toNatClampNeg) := inb_of S18 ⟨by decide, by decide⟩
  obtain ⟨T18, h18, X18, e18, W18, st18⟩ := stI X17 hx hZ e17 A18 (j := (13 : Int32)) i18 (g := (mkF m 83 #[.val (.int x0), .val (.int x1), .unset, .unset, .unset] [(.int (1114111 : Int32)), (.int (13 : Int32)), (.ref b3), (.ref b3)])) rfl rfl (hb hby at_83)
  have N18 := Fr.snoc X18 N17 gz3
  have Z18 : n0 ≤ h18.size := Nat.le_trans Z17 (Keep.of_wr W18).1
  have V18 : Arv Z h18 b3 k3 .int (16 : Int32) [(.int (0 : Int32)), (.int (9 : Int32)), (.int (13 : Int32)), (.int (32 : Int32)), (.int (126 : Int32)), (.int (128 : Int32)), (.int (160 : Int32)), (.int (8232 : Int32)), (.int (55295 : Int32)), (.int (57344 : Int32)), (.int (64976 : Int32)), (.int (65007 : Int32)), (.int (65533 : Int32)), (.int (1114111 : Int32)), (.int (0 : Int32)), (.int (0 : Int32))] (.int (0 : Int32)) := Arv.set A18 q18 S18 M18 H18 G18 rfl W18 13 rfl (Nat.le_of_ble_eq_true rfl)
  refine own_st (g' := (mkF m 84 #[.val (.int x0), .val (.int x1), .unset, .unset, .unset] [(.ref b3)])) st18 ?_
  refine own_st (g' := (mkF m 85 #[.val (.int x0), .val (.int x1), .unset, .unset, .unset] [(.ref b3), (.ref b3)])) (fun tt_ kk_ => XS.dup X18.here hx rfl (hb hby at_84) rfl rfl kk_) ?_
  refine own_st (g' := (mkF m 87 #[.val (.int x0), .val (.int x1), .unset, .unset, .unset] [(.int (14 : Int32)), (.ref b3), (.ref b3)])) (fun tt_ kk_ => XS.bipush X18.here hx rfl (hb hby at_85) kk_) ?_
  refine own_st (g' := (mkF m 89 #[.val (.int x0), .val (.int x1), .unset, .unset, .unset] [(.int (-2147483644 : Int32)), (.int (14 : Int32)), (.ref b3), (.ref b3)])) (fun tt_ kk_ => X18.ldcInt hx hown (mvT hZ (hw _ (List.mem_of_getElem? (i := 7) rfl))) (g := (mkF m 87 #[.val (.int x0), .val (.int x1), .unset, .unset, .unset] [(.int (14 : Int32)), (.ref b3), (.ref b3)])) rfl (hb hby at_87) _ kk_) ?_
  obtain ⟨c19, A19, q19, S19, M19, H19, G19⟩ := V18
  have i19 : ¬ ((14 : Int32) < 0 ∨ c19.slots.size ≤ ((14 : Int32)).toNatClampNeg) := inb_of S19 ⟨by decide, by decide⟩
  obtain ⟨T19, h19, X19, e19, W19, st19⟩ := stI X18 hx hZ e18 A19 (j := (14 : Int32)) i19 (g := (mkF m 89 #[.val (.int x0), .val (.int x1), .unset, .unset, .unset] [(.int (-2147483644 : Int32)), (.int (14 : Int32)), (.ref b3), (.ref b3)])) rfl rfl (hb hby at_89)
  have N19 := Fr.snoc X19 N18 gz3
  have Z19 : n0 ≤ h19.size := Nat.le_trans Z18 (Keep.of_wr W19).1
  have V19 : Arv Z h19 b3 k3 .int (16 : Int32) [(.int (0 : Int32)), (.int (9 : Int32)), (.int (13 : Int32)), (.int (32 : Int32)), (.int (126 : Int32)), (.int (128 : Int32)), (.int (160 : Int32)), (.int (8232 : Int32)), (.int (55295 : Int32)), (.int (57344 : Int32)), (.int (64976 : Int32)), (.int (65007 : Int32)), (.int (65533 : Int32)), (.int (1114111 : Int32)), (.int (-2147483644 : Int32)), (.int (0 : Int32))] (.int (0 : Int32)) := Arv.set A19 q19 S19 M19 H19 G19 rfl W19 14 rfl (Nat.le_of_ble_eq_true rfl)
  refine own_st (g' := (mkF m 90 #[.val (.int x0), .val (.int x1), .unset, .unset, .unset] [(.ref b3)])) st19 ?_
  refine own_st (g' := (mkF m 91 #[.val (.int x0), .val (.int x1), .unset, .unset, .unset] [(.ref b3), (.ref b3)])) (fun tt_ kk_ => XS.dup X19.here hx rfl (hb hby at_90) rfl rfl kk_) ?_
  refine own_st (g' := (mkF m 93 #[.val (.int x0), .val (.int x1), .unset, .unset, .unset] [(.int (15 : Int32)), (.ref b3), (.ref b3)])) (fun tt_ kk_ => XS.bipush X19.here hx rfl (hb hby at_91) kk_) ?_
  refine own_st (g' := (mkF m 95 #[.val (.int x0), .val (.int x1), .unset, .unset, .unset] [(.int (2147483644 : Int32)), (.int (15 : Int32)), (.ref b3), (.ref b3)])) (fun tt_ kk_ => X19.ldcInt hx hown (mvT hZ (hw _ (List.mem_of_getElem? (i := 8) rfl))) (g := (mkF m 93 #[.val (.int x0), .val (.int x1), .unset, .unset, .unset] [(.int (15 : Int32)), (.ref b3), (.ref b3)])) rfl (hb hby at_93) _ kk_) ?_
  obtain ⟨c20, A20, q20, S20, M20, H20, G20⟩ := V19
  have i20 : ¬ ((15 : Int32) < 0 ∨ c20.slots.size ≤ ((15 : Int32)).toNatClampNeg) := inb_of S20 ⟨by decide, by decide⟩
  obtain ⟨T20, h20, X20, e20, W20, st20⟩ := stI X19 hx hZ e19 A20 (j := (15 : Int32)) i20 (g := (mkF m 95 #[.val (.int x0), .val (.int x1), .unset, .unset, .unset] [(.int (2147483644 : Int32)), (.int (15 : Int32)), (.ref b3), (.ref b3)])) rfl rfl (hb hby at_95)
  have N20 := Fr.snoc X20 N19 gz3
  have Z20 : n0 ≤ h20.size := Nat.le_trans Z19 (Keep.of_wr W20).1
  have V20 : Arv Z h20 b3 k3 .int (16 : Int32) [(.int (0 : Int32)), (.int (9 : Int32)), (.int (13 : Int32)), (.int (32 : Int32)), (.int (126 : Int32)), (.int (128 : Int32)), (.int (160 : Int32)), (.int (8232 : Int32)), (.int (55295 : Int32)), (.int (57344 : Int32)), (.int (64976 : Int32)), (.int (65007 : Int32)), (.int (65533 : Int32)), (.int (1114111 : Int32)), (.int (-2147483644 : Int32)), (.int (2147483644 : Int32))] (.int (0 : Int32)) := Arv.set A20 q20 S20 M20 H20 G20 rfl W20 15 rfl (Nat.le_of_ble_eq_true rfl)
  refine own_st (g' := (mkF m 96 #[.val (.int x0), .val (.int x1), .unset, .unset, .unset] [(.ref b3)])) st20 ?_
  refine own_st (g' := (mkF m 97 #[.val (.int x0), .val (.int x1), .val (.ref b3), .unset, .unset] [])) (fun tt_ kk_ => XS.astoreN X20.here hx rfl (hb hby at_96) rfl rfl (l' := #[.val (.int x0), .val (.int x1), .val (.ref b3), .unset, .unset]) rfl kk_) ?_
  refine own_st (g' := (mkF m 98 #[.val (.int x0), .val (.int x1), .val (.ref b3), .unset, .unset] [(.int x1)])) (fun tt_ kk_ => XS.iloadN X20.here hx rfl (hb hby at_97) rfl kk_) ?_
  refine own_st (g' := (mkF m 99 #[.val (.int x0), .val (.int x1), .val (.ref b3), .unset, .unset] [(.int (3 : Int32)), (.int x1)])) (fun tt_ kk_ => XS.iconst X20.here hx rfl (hb hby at_98) kk_) ?_
  refine own_st (g' := (mkF m 100 #[.val (.int x0), .val (.int x1), .val (.ref b3), .unset, .unset] [(.int (x1 &&& (3 : Int32)))])) (fun tt_ kk_ => XS.iand X20.here hx rfl (hb hby at_99) rfl kk_) ?_
  refine own_st (g' := (mkF m 101 #[.val (.int x0), .val (.int x1), .val (.ref b3), .val (.int (x1 &&& (3 : Int32))), .unset] [])) (fun tt_ kk_ => XS.istoreN X20.here hx rfl (hb hby at_100) rfl (l' := #[.val (.int x0), .val (.int x1), .val (.ref b3), .val (.int (x1 &&& (3 : Int32))), .unset]) rfl kk_) ?_
  refine own_st (g' := (mkF m 102 #[.val (.int x0), .val (.int x1), .val (.ref b3), .val (.int (x1 &&& (3 : Int32))), .unset] [(.int (x1 &&& (3 : Int32)))])) (fun tt_ kk_ => XS.iloadN X20.here hx rfl (hb hby at_101) rfl kk_) ?_
  by_cases hc102 : (x1 &&& (3 : Int32)) = (0 : Int32)
  · skip
    refine own_st (g' := (mkF m 105 #[.val (.int x0), .val (.int x1), .val (.ref b3), .val (.int (x1 &&& (3 : Int32))), .unset] [])) (fun tt_ kk_ => XS.ifNo X20.here hx rfl (hb hby at_102) rfl ((if0 _ _).trans (teq hc102).2) kk_) ?_
    refine own_st (g' := (mkF m 106 #[.val (.int x0), .val (.int x1), .val (.ref b3), .val (.int (x1 &&& (3 : Int32))), .unset] [(.int x0)])) (fun tt_ kk_ => XS.iloadN X20.here hx rfl (hb hby at_105) rfl kk_) ?_
    refine own_st (g' := (mkF m 108 #[.val (.int x0), .val (.int x1), .val (.ref b3), .val (.int (x1 &&& (3 : Int32))), .val (.int x0)] [])) (fun tt_ kk_ => XS.istore X20.here hx rfl (hb hby at_106) rfl (l' := #[.val (.int x0), .val (.int x1), .val (.ref b3), .val (.int (x1 &&& (3 : Int32))), .val (.int x0)]) rfl kk_) ?_
    refine own_st (g' := (mkF m 156 #[.val (.int x0), .val (.int x1), .val (.ref b3), .val (.int (x1 &&& (3 : Int32))), .val (.int x0)] [])) (fun tt_ kk_ => XS.goto X20.here hx rfl (pc0 := 108) (pc' := 156) rfl (hb hby at_108) (by decide) (by decide) kk_) ?_
    have F23 := (((((((((((((((((SA.ext E3).wr W5).wr W6).wr W7).wr W8).wr W9).wr W10).wr W11).wr W12).wr W13).wr W14).wr W15).wr W16).wr W17).wr W18).wr W19).wr W20)
    have F24 := (((((((((((((((((AA.ext E3).other W5 ne4).other W6 ne4).other W7 ne4).other W8 ne4).other W9 ne4).other W10 ne4).other W11 ne4).other W12 ne4).other W13 ne4).other W14 ne4).other W15 ne4).other W16 ne4).other W17 ne4).other W18 ne4).other W19 ne4).other W20 ne4)
    exact own_t156 X20 hx hlk hby hml hret hown hZ hw e20 N20 Z20 (by omega) (by omega) tA cA F23 F24 LA HA x0 x1 b3 (x1 &&& (3 : Int32)) x0
  refine own_st (g' := (mkF m 111 #[.val (.int x0), .val (.int x1), .val (.ref b3), .val (.int (x1 &&& (3 : Int32))), .unset] [])) (fun tt_ kk_ => XS.ifYes X20.here hx rfl (pc0 := 102) (pc' := 111) rfl (hb hby at_102) rfl ((if0 _ _).trans (feq hc102).2) (by decide) (by decide) kk_) ?_
  refine own_st (g' := (mkF m 112 #[.val (.int x0), .val (.int x1), .val (.ref b3), .val (.int (x1 &&& (3 : Int32))), .unset] [(.int (x1 &&& (3 : Int32)))])) (fun tt_ kk_ => XS.iloadN X20.here hx rfl (hb hby at_111) rfl kk_) ?_
  refine own_st (g' := (mkF m 113 #[.val (.int x0), .val (.int x1), .val (.ref b3), .val (.int (x1 &&& (3 : Int32))), .unset] [(.int (1 : Int32)), (.int (x1 &&& (3 : Int32)))])) (fun tt_ kk_ => XS.iconst X20.here hx rfl (hb hby at_112) kk_) ?_
  by_cases hc113 : (x1 &&& (3 : Int32)) = (1 : Int32)
  · skip
    refine own_st (g' := (mkF m 116 #[.val (.int x0), .val (.int x1), .val (.ref b3), .val (.int (x1 &&& (3 : Int32))), .unset] [])) (fun tt_ kk_ => XS.icmpNo X20.here hx rfl (hb hby at_113) rfl (teq hc113).2 kk_) ?_
    refine own_st (g' := (mkF m 117 #[.val (.int x0), .val (.int x1), .val (.ref b3), .val (.int (x1 &&& (3 : Int32))), .unset] [(.int x0)])) (fun tt_ kk_ => XS.iloadN X20.here hx rfl (hb hby at_116) rfl kk_) ?_
    refine own_st (g' := (mkF m 119 #[.val (.int x0), .val (.int x1), .val (.ref b3), .val (.int (x1 &&& (3 : Int32))), .unset] [(.int (65535 : Int32)), (.int x0)])) (fun tt_ kk_ => X20.ldcInt hx hown (mvT hZ (hw _ (List.mem_of_getElem? (i := 20) rfl))) (g := (mkF m 117 #[.val (.int x0), .val (.int x1), .val (.ref b3), .val (.int (x1 &&& (3 : Int32))), .unset] [(.int x0)])) rfl (hb hby at_117) _ kk_) ?_
    refine own_st (g' := (mkF m 120 #[.val (.int x0), .val (.int x1), .val (.ref b3), .val (.int (x1 &&& (3 : Int32))), .unset] [(.int (x0 &&& (65535 : Int32)))])) (fun tt_ kk_ => XS.iand X20.here hx rfl (hb hby at_119) rfl kk_) ?_
    refine own_st (g' := (mkF m 122 #[.val (.int x0), .val (.int x1), .val (.ref b3), .val (.int (x1 &&& (3 : Int32))), .val (.int (x0 &&& (65535 : Int32)))] [])) (fun tt_ kk_ => XS.istore X20.here hx rfl (hb hby at_120) rfl (l' := #[.val (.int x0), .val (.int x1), .val (.ref b3), .val (.int (x1 &&& (3 : Int32))), .val (.int (x0 &&& (65535 : Int32)))]) rfl kk_) ?_
    refine own_st (g' := (mkF m 156 #[.val (.int x0), .val (.int x1), .val (.ref b3), .val (.int (x1 &&& (3 : Int32))), .val (.int (x0 &&& (65535 : Int32)))] [])) (fun tt_ kk_ => XS.goto X20.here hx rfl (pc0 := 122) (pc' := 156) rfl (hb hby at_122) (by decide) (by decide) kk_) ?_
    have F25 := (((((((((((((((((SA.ext E3).wr W5).wr W6).wr W7).wr W8).wr W9).wr W10).wr W11).wr W12).wr W13).wr W14).wr W15).wr W16).wr W17).wr W18).wr W19).wr W20)
    have F26 := (((((((((((((((((AA.ext E3).other W5 ne4).other W6 ne4).other W7 ne4).other W8 ne4).other W9 ne4).other W10 ne4).other W11 ne4).other W12 ne4).other W13 ne4).other W14 ne4).other W15 ne4).other W16 ne4).other W17 ne4).other W18 ne4).other W19 ne4).other W20 ne4)
    exact own_t156 X20 hx hlk hby hml hret hown hZ hw e20 N20 Z20 (by omega) (by omega) tA cA F25 F26 LA HA x0 x1 b3 (x1 &&& (3 : Int32)) (x0 &&& (65535 : Int32))
  refine own_st (g' := (mkF m 125 #[.val (.int x0), .val (.int x1), .val (.ref b3), .val (.int (x1 &&& (3 : Int32))), .unset] [])) (fun tt_ kk_ => XS.icmpYes X20.here hx rfl (pc0 := 113) (pc' := 125) rfl (hb hby at_113) rfl (feq hc113).2 (by decide) (by decide) kk_) ?_
  refine own_st (g' := (mkF m 126 #[.val (.int x0), .val (.int x1), .val (.ref b3), .val (.int (x1 &&& (3 : Int32))), .unset] [(.int (x1 &&& (3 : Int32)))])) (fun tt_ kk_ => XS.iloadN X20.here hx rfl (hb hby at_125) rfl kk_) ?_
  refine own_st (g' := (mkF m 127 #[.val (.int x0), .val (.int x1), .val (.ref b3), .val (.int (x1 &&& (3 : Int32))), .unset] [(.int (2 : Int32)), (.int (x1 &&& (3 : Int32)))])) (fun tt_ kk_ => XS.iconst X20.here hx rfl (hb hby at_126) kk_) ?_
  by_cases hc127 : (x1 &&& (3 : Int32)) = (2 : Int32)
  · skip
    refine own_st (g' := (mkF m 130 #[.val (.int x0), .val (.int x1), .val (.ref b3), .val (.int (x1 &&& (3 : Int32))), .unset] [])) (fun tt_ kk_ => XS.icmpNo X20.here hx rfl (hb hby at_127) rfl (teq hc127).2 kk_) ?_
    refine own_st (g' := (mkF m 131 #[.val (.int x0), .val (.int x1), .val (.ref b3), .val (.int (x1 &&& (3 : Int32))), .unset] [(.ref b3)])) (fun tt_ kk_ => XS.aloadN X20.here hx rfl (hb hby at_130) rfl rfl kk_) ?_
    refine own_st (g' := (mkF m 132 #[.val (.int x0), .val (.int x1), .val (.ref b3), .val (.int (x1 &&& (3 : Int32))), .unset] [(.int x1), (.ref b3)])) (fun tt_ kk_ => XS.iloadN X20.here hx rfl (hb hby at_131) rfl kk_) ?_
    refine own_st (g' := (mkF m 133 #[.val (.int x0), .val (.int x1), .val (.ref b3), .val (.int (x1 &&& (3 : Int32))), .unset] [(.int (2 : Int32)), (.int x1), (.ref b3)])) (fun tt_ kk_ => XS.iconst X20.here hx rfl (hb hby at_132) kk_) ?_
    refine own_st (g' := (mkF m 134 #[.val (.int x0), .val (.int x1), .val (.ref b3), .val (.int (x1 &&& (3 : Int32))), .unset] [(.int ((x1.toUInt32 >>> ((2 : Int32) &&& 31).toUInt32).toInt32)), (.ref b3)])) (fun tt_ kk_ => XS.iushr X20.here hx rfl (hb hby at_133) rfl kk_) ?_
    refine own_st (g' := (mkF m 136 #[.val (.int x0), .val (.int x1), .val (.ref b3), .val (.int (x1 &&& (3 : Int32))), .unset] [(.int (15 : Int32)), (.int ((x1.toUInt32 >>> ((2 : Int32) &&& 31).toUInt32).toInt32)), (.ref b3)])) (fun tt_ kk_ => XS.bipush X20.here hx rfl (hb hby at_134) kk_) ?_
    refine own_st (g' := (mkF m 137 #[.val (.int x0), .val (.int x1), .val (.ref b3), .val (.int (x1 &&& (3 : Int32))), .unset] [(.int (((x1.toUInt32 >>> ((2 : Int32) &&& 31).toUInt32).toInt32) &&& (15 : Int32))), (.ref b3)])) (fun tt_ kk_ => XS.iand X20.here hx rfl (hb hby at_136) rfl kk_) ?_
    obtain ⟨c27, A27, q27, S27, M27, H27, G27⟩ := V20
    have i27 : ¬ ((((x1.toUInt32 >>> ((2 : Int32) &&& 31).toUInt32).toInt32) &&& (15 : Int32)) < 0 ∨ c27.slots.size ≤ ((((x1.toUInt32 >>> ((2 : Int32) &&& 31).toUInt32).toInt32) &&& (15 : Int32))).toNatClampNeg) := inb_of S27 (own_m15 _)
    have a27 : c27.slots[((((x1.toUInt32 >>> ((2 : Int32) &&& 31).toUInt32).toInt32) &&& (15 : Int32))).toNatClampNeg]? = some (.int (own_edges.getD ((((x1.toUInt32 >>> ((2 : Int32) &&& 31).toUInt32).toInt32) &&& (15 : Int32))).toNatClampNeg 0)) := H27.at i27 (own_getD own_edges 0 _)
    refine own_st (g' := (mkF m 138 #[.val (.int x0), .val (.int x1), .val (.ref b3), .val (.int (x1 &&& (3 : Int32))), .unset] [(.int (own_edges.getD ((((x1.toUInt32 >>> ((2 : Int32) &&& 31).toUInt32).toInt32) &&& (15 : Int32))).toNatClampNeg 0))])) (fun tt_ kk_ => X20.iaload hx (j := (((x1.toUInt32 >>> ((2 : Int32) &&& 31).toUInt32).toInt32) &&& (15 : Int32))) (v := (.int (own_edges.getD ((((x1.toUInt32 >>> ((2 : Int32) &&& 31).toUInt32).toInt32) &&& (15 : Int32))).toNatClampNeg 0))) (by rw [e20]; exact A27.1) (State.isArrayOf_alike hZ.alike A27.2.1) A27.2.2 i27 a27 (g := (mkF m 137 #[.val (.int x0), .val (.int x1), .val (.ref b3), .val (.int (x1 &&& (3 : Int32))), .unset] [(.int (((x1.toUInt32 >>> ((2 : Int32) &&& 31).toUInt32).toInt32) &&& (15 : Int32))), (.ref b3)])) rfl rfl (hb hby at_137) _ kk_) ?_
    refine own_st (g' := (mkF m 139 #[.val (.int x0), .val (.int x1), .val (.ref b3), .val (.int (x1 &&& (3 : Int32))), .unset] [(.int x0), (.int (own_edges.getD ((((x1.toUInt32 >>> ((2 : Int32) &&& 31).toUInt32).toInt32) &&& (15 : Int32))).toNatClampNeg 0))])) (fun tt_ kk_ => XS.iloadN X20.here hx rfl (hb hby at_138) rfl kk_) ?_
    refine own_st (g' := (mkF m 141 #[.val (.int x0), .val (.int x1), .val (.ref b3), .val (.int (x1 &&& (3 : Int32))), .unset] [(.int (7 : Int32)), (.int x0), (.int (own_edges.getD ((((x1.toUInt32 >>> ((2 : Int32) &&& 31).toUInt32).toInt32) &&& (15 : Int32))).toNatClampNeg 0))])) (fun tt_ kk_ => XS.bipush X20.here hx rfl (hb hby at_139) kk_) ?_
    refine own_st (g' := (mkF m 142 #[.val (.int x0), .val (.int x1), .val (.ref b3), .val (.int (x1 &&& (3 : Int32))), .unset] [(.int (x0 &&& (7 : Int32))), (.int (own_edges.getD ((((x1.toUInt32 >>> ((2 : Int32) &&& 31).toUInt32).toInt32) &&& (15 : Int32))).toNatClampNeg 0))])) (fun tt_ kk_ => XS.iand X20.here hx rfl (hb hby at_141) rfl kk_) ?_
    refine own_st (g' := (mkF m 143 #[.val (.int x0), .val (.int x1), .val (.ref b3), .val (.int (x1 &&& (3 : Int32))), .unset] [(.int (4 : Int32)), (.int (x0 &&& (7 : Int32))), (.int (own_edges.getD ((((x1.toUInt32 >>> ((2 : Int32) &&& 31).toUInt32).toInt32) &&& (15 : Int32))).toNatClampNeg 0))])) (fun tt_ kk_ => XS.iconst X20.here hx rfl (hb hby at_142) kk_) ?_
    refine own_st (g' := (mkF m 144 #[.val (.int x0), .val (.int x1), .val (.ref b3), .val (.int (x1 &&& (3 : Int32))), .unset] [(.int ((x0 &&& (7 : Int32)) - (4 : Int32))), (.int (own_edges.getD ((((x1.toUInt32 >>> ((2 : Int32) &&& 31).toUInt32).toInt32) &&& (15 : Int32))).toNatClampNeg 0))])) (fun tt_ kk_ => XS.isub X20.here hx rfl (hb hby at_143) rfl kk_) ?_
    refine own_st (g' := (mkF m 145 #[.val (.int x0), .val (.int x1), .val (.ref b3), .val (.int (x1 &&& (3 : Int32))), .unset] [(.int ((own_edges.getD ((((x1.toUInt32 >>> ((2 : Int32) &&& 31).toUInt32).toInt32) &&& (15 : Int32))).toNatClampNeg 0) + ((x0 &&& (7 : Int32)) - (4 : Int32))))])) (fun tt_ kk_ => XS.iadd X20.here hx rfl (hb hby at_144) rfl kk_) ?_
    refine own_st (g' := (mkF m 147 #[.val (.int x0), .val (.int x1), .val (.ref b3), .val (.int (x1 &&& (3 : Int32))), .val (.int ((own_edges.getD ((((x1.toUInt32 >>> ((2 : Int32) &&& 31).toUInt32).toInt32) &&& (15 : Int32))).toNatClampNeg 0) + ((x0 &&& (7 : Int32)) - (4 : Int32))))] [])) (fun tt_ kk_ => XS.istore X20.here hx rfl (hb hby at_145) rfl (l' := #[.val (.int x0), .val (.int x1), .val (.ref b3), .val (.int (x1 &&& (3 : Int32))), .val (.int ((own_edges.getD ((((x1.toUInt32 >>> ((2 : Int32) &&& 31).toUInt32).toInt32) &&& (15 : Int32))).toNatClampNeg 0) + ((x0 &&& (7 : Int32)) - (4 : Int32))))]) rfl kk_) ?_
    refine own_st (g' := (mkF m 156 #[.val (.int x0), .val (.int x1), .val (.ref b3), .val (.int (x1 &&& (3 : Int32))), .val (.int ((own_edges.getD ((((x1.toUInt32 >>> ((2 : Int32) &&& 31).toUInt32).toInt32) &&& (15 : Int32))).toNatClampNeg 0) + ((x0 &&& (7 : Int32)) - (4 : Int32))))] [])) (fun tt_ kk_ => XS.goto X20.here hx rfl (pc0 := 147) (pc' := 156) rfl (hb hby at_147) (by decide) (by decide) kk_) ?_
    have F28 := (((((((((((((((((SA.ext E3).wr W5).wr W6).wr W7).wr W8).wr W9).wr W10).wr W11).wr W12).wr W13).wr W14).wr W15).wr W16).wr W17).wr W18).wr W19).wr W20)
    have F29 := (((((((((((((((((AA.ext E3).other W5 ne4).other W6 ne4).other W7 ne4).other W8 ne4).other W9 ne4).other W10 ne4).other W11 ne4).other W12 ne4).other W13 ne4).other W14 ne4).other W15 ne4).other W16 ne4).other W17 ne4).other W18 ne4).other W19 ne4).other W20 ne4)
    exact own_t156 X20 hx hlk hby hml hret hown hZ hw e20 N20 Z20 (by omega) (by omega) tA cA F28 F29 LA HA x0 x1 b3 (x1 &&& (3 : Int32)) ((own_edges.getD ((((x1.toUInt32 >>> ((2 : Int32) &&& 31).toUInt32).toInt32) &&& (15 : Int32))).toNatClampNeg 0) + ((x0 &&& (7 : Int32)) - (4 : Int32)))
  refine own_st (g' := (mkF m 150 #[.val (.int x0), .val (.int x1), .val (.ref b3), .val (.int (x1 &&& (3 : Int32))), .unset] [])) (fun tt_ kk_ => XS.icmpYes X20.here hx rfl (pc0 := 127) (pc' := 150) rfl (hb hby at_127) rfl (feq hc127).2 (by decide) (by decide) kk_) ?_
  refine own_st (g' := (mkF m 151 #[.val (.int x0), .val (.int x1), .val (.ref b3), .val (.int (x1 &&& (3 : Int32))), .unset] [(.int x0)])) (fun tt_ kk_ => XS.iloadN X20.here hx rfl (hb hby at_150) rfl kk_) ?_
  refine own_st (g' := (mkF m 153 #[.val (.int x0), .val (.int x1), .val (.ref b3), .val (.int (x1 &&& (3 : Int32))), .unset] [(.int (2097151 : Int32)), (.int x0)])) (fun tt_ kk_ => X20.ldcInt hx hown (mvT hZ (hw _ (List.mem_of_getElem? (i := 9) rfl))) (g := (mkF m 151 #[.val (.int x0), .val (.int x1), .val (.ref b3), .val (.int (x1 &&& (3 : Int32))), .unset] [(.int x0)])) rfl (hb hby at_151) _ kk_) ?_
  refine own_st (g' := (mkF m 154 #[.val (.int x0), .val (.int x1), .val (.ref b3), .val (.int (x1 &&& (3 : Int32))), .unset] [(.int (x0 &&& (2097151 : Int32)))])) (fun tt_ kk_ => XS.iand X20.here hx rfl (hb hby at_153) rfl kk_) ?_
  refine own_st (g' := (mkF m 156 #[.val (.int x0), .val (.int x1), .val (.ref b3), .val (.int (x1 &&& (3 : Int32))), .val (.int (x0 &&& (2097151 : Int32)))] [])) (fun tt_ kk_ => XS.istore X20.here hx rfl (hb hby at_154) rfl (l' := #[.val (.int x0), .val (.int x1), .val (.ref b3), .val (.int (x1 &&& (3 : Int32))), .val (.int (x0 &&& (2097151 : Int32)))]) rfl kk_) ?_
  have F30 := (((((((((((((((((SA.ext E3).wr W5).wr W6).wr W7).wr W8).wr W9).wr W10).wr W11).wr W12).wr W13).wr W14).wr W15).wr W16).wr W17).wr W18).wr W19).wr W20)
  have F31 := (((((((((((((((((AA.ext E3).other W5 ne4).other W6 ne4).other W7 ne4).other W8 ne4).other W9 ne4).other W10 ne4).other W11 ne4).other W12 ne4).other W13 ne4).other W14 ne4).other W15 ne4).other W16 ne4).other W17 ne4).other W18 ne4).other W19 ne4).other W20 ne4)
  exact own_t156 X20 hx hlk hby hml hret hown hZ hw e20 N20 Z20 (by omega) (by omega) tA cA F30 F31 LA HA x0 x1 b3 (x1 &&& (3 : Int32)) (x0 &&& (2097151 : Int32))
theorem own_ef0 (m : MethodId) (x0 : Int32) (x1 : Int32) : entryFrame m #[(.int x0), (.int x1)] maxLocals = mkF m 0 #[.val (.int x0), .val (.int x1), .unset, .unset, .unset] [] := by first | (simp [entryFrame, mkF, argsToLocals, Value.category, maxLocals]; done) | rfl
set_option maxRecDepth 65536 in
set_option maxHeartbeats 4000000 in
theorem own_rm0 (l : Launch) (Z : State) (a0 : Array Value) (hw : ∀ d ∈ tables_1, d.before a0 Z = true) (ws : List Jvm.Cond) (x0 : Int32) (x1 : Int32) (h0 : Heap) (n0 : Nat) (Z0 : n0 ≤ h0.size) (tA : Addr) (cA : Cell) (SA : Sta Z h0 "com/example/flycatcher/flycatcher/xml/XmlChars" "ASCII" "[B" (.ref tA)) (AA : Arr Z h0 tA cA .byte) (LA : cA.slots.size = 128) (HA : ∀ j : Int32, ¬ j < 0 → j < 128 → cA.slots[j.toNatClampNeg]? = some (.int (own_tab j))) :
    MetFree l x (head1 (Jvm.Cond.code x code maxLocals ret :: ws) room_1) (fun aa UU => aa = #[(.int x0), (.int x1)] ∧ Z.Warmed39 UU.vm ∧ UU.heap = h0) (fun _ _ _ _ _ => True) (fun _ U o U' => ∃ v L, o = .returned v ∧ own_Q0 n0 v U'.heap L ∧ FrameEnd U o U' L 16 128) := by
  refine MetFree.of_bodySF (plainFor_of_name own_pn1) hisR ?_
  intro p e s m args below meth c s₁ Bd hml0 hP hK
  obtain ⟨rfl, hZ, hh⟩ := hP
  have X0 : Stand p l e room_1 s m #[(.int x0), (.int x1)] below meth c s₁ [] 0 0 := Stand.of_body Bd
  have e0 : s₁.heap = h0 := by rw [← hh, Bd.state]; rfl
  refine own_cast (own_ef0 m x0 x1) ?_
  exact own_t0 X0 Bd.exec Bd.notSynchronized Bd.bytes hml0 Bd.returns (findClass_of_methodNamed Bd.named) hZ hw e0 (Fr.nil n0) Z0 (by decide) (by decide) tA cA SA AA LA HA x0 x1
set_option maxRecDepth 65536 in
set_option maxHeartbeats 4000000 in
theorem own_comes_1 {Post : Tables → Env → Array Value → State → Outcome → State → Prop} (hpost : ∀ tb e args s v u, (limb_1_1.after args s (.returned v) u = true ∧ limb_1_2.after args s (.returned v) u = true ∧ True) → FrameEnd s (.returned v) u (Jvm.fieldLocs frame_1_writes args s ++ Jvm.arrayLocs frame_1_arrays args s ++ Jvm.staticLocs frame_1_statics s) 16 128 → Post tb e args s (.returned v) u) :
    ArmFor flags0 classFile x code maxLocals ret World_1 tables_1 room_1 Calls_1 rest_1 Pre_1 Post := by
  intro l hfl _ _ p e ha hc hk s m args below hf hA hF happ hP
  obtain ⟨hcalls, hrest, hpre⟩ := hP
  obtain ⟨-, -, -, hnamed, -, -, -, hat⟩ := (Spec.applies_iff hf).mp happ
  obtain ⟨hg, hn⟩ := and_e (Cond.before_iff.mp (show (Jvm.Cond.and given_1 narrow_1).before args s = true from hpre))
  obtain ⟨gg1, gg2⟩ := and_e hg
  obtain ⟨gg3, gg4⟩ := and_e gg2
  obtain ⟨w0, w1, rfl⟩ : ∃ w0 w1 : Value, args = #[w0, w1] := by
    have hs : args.size = 2 := by simpa [Cond.value, given_1] using gg1
    obtain ⟨L⟩ := args
    match L, hs with
    | [w0, w1], _ => exact ⟨w0, w1, rfl⟩
  have hw := fun d (hd : d ∈ tables_1) => atoms_spec (ws := Jvm.Cond.code x code maxLocals ret :: tables_1) hat d (List.mem_cons_of_mem _ hd)
  have hfit : Fit s := fun {y c} hc i hi => by
    obtain ⟨ha, rfl⟩ := Array.getElem?_eq_some_iff.mp hc
    have q := List.all_eq_true.mp ((Array.all_eq_true_iff_forall_mem.mp hF) _ (Array.getElem_mem ha)) i (List.mem_range.mpr hi)
    simpa [Array.getElem?_eq_getElem hi] using q
  obtain ⟨i0, ei0⟩ := is_v gg3
  obtain rfl : w0 = (.int i0) := Option.some.inj ei0
  obtain ⟨i1, ei1⟩ := is_v gg4
  obtain rfl : w1 = (.int i1) := Option.some.inj ei1
  obtain ⟨tA, cA, SA, AA, LA, HA⟩ := own_table hfit (hw _ (List.mem_of_getElem? (i := 12) rfl)) (hw _ (List.mem_of_getElem? (i := 15) rfl)) hn
  obtain ⟨n, o, h1, h2, h3, _, L, rfl, ⟨rfl, N⟩, hq⟩ := own_rm0 l s _ hw tables_1 i0 i1 s.heap s.heap.size (Nat.le_refl _) tA cA SA AA LA HA p e ha hc hk s m _ below hf ((Spec.applies_iff_loose hf).mp happ).1 ⟨rfl, State.Warmed39.refl s, rfl⟩ trivial
  refine ⟨n, _, h1, h2, h3, hpost _ _ _ _ _ _ ⟨Cond.after_iff.mpr rfl, Cond.after_iff.mpr (eq_i res_at (Term.int_eval (1)) rfl), trivial⟩ ⟨hq.1, hq.2.1, (hq.2.2.sift fun y hy => Or.inr (N y hy)).mono (by decide) (by decide)⟩⟩
theorem main_1_1 : Claimed_1_1 := own_comes_1 fun _ _ _ _ _ _ h hF => ⟨h.1, hF⟩
theorem main_1_2 : Claimed_1_2 := own_comes_1 fun _ _ _ _ _ _ h hF => ⟨h.2.1, hF⟩
end Jvm.Pilot.@@N@@
namespace Jvm.Pilot.@@N@@
open Jvm Jvm.ClassFile Sem Op Lib Jvm.Free Jvm.Stand Jvm.Pilot.@@N@@.Jvm.D
/-! MADE BY PROGRAM (witnessworld.py) out of the Statement's table words and the real class files: 9 classes; the members and pool entries that the words name. The judged class is class 1, her method 1. -/
namespace start1
open Jvm.ClassFile
def u (s : String) : CpInfo := .utf8 (stringToUtf16 s)
/-- a pool by its gaps: so many unusable entries, then the entry; so many at the end -/
def gap : Nat → List CpInfo → List CpInfo
  | 0, r => r
  | n + 1, r => .unusable :: gap n r
def poolList (es : List (Nat × CpInfo)) (last : Nat) : List CpInfo := es.foldr (fun e r => gap e.1 (e.2 :: r)) (gap last [])
def pool (es : List (Nat × CpInfo)) (last : Nat) : Array CpInfo := ⟨poolList es last⟩
def fileOf (pool : Array CpInfo) (this : Nat) (attrs : Array Attribute := #[]) (ms : Array MethodInfo := #[]) (fl : Nat := 33) (sup : Nat := 0) (ifs : Array Nat := #[]) (fds : Array FieldInfo := #[]) : ClassFile where
  minorVersion := 0
  majorVersion := 65
  constantPool := pool
  accessFlags := fl
  thisClass := this
  superClass := sup
  interfaces := ifs
  fields := fds
  methods := ms
  attributes := attrs
def plain (name : String) (sup : Option ClassId) : Class where
  name := name
  kind := .ordinary
  loader := none
  accessFlags := 33
  super := sup
  interfaces := #[]
  cf := none
  fields := #[]
  methods := #[]
  instanceTypes := #[]
  staticTypes := #[]
  resolved := #[]
  callSites := []
  init := .initialized
  statics := none
  mirror := none

def pool0 : Array CpInfo := pool [(5, u "<init>"), (0, u "()V"), (1, .class_ 10), (1, u "java/lang/Object")] 113

def k0m0 : Method := { name := "<init>", desc := "()V", sig := { parameters := [], returnType := none }, accessFlags := 1, code := none }
/-- java/lang/Object -/
def k0 : Class := { plain "java/lang/Object" none with
  accessFlags := 33
  interfaces := #[]
  cf := some (fileOf pool0 8 #[] #[{ accessFlags := 1, nameIndex := 5, descriptorIndex := 6, attributes := #[] }] 33 0 #[] #[])
  fields := #[]
  methods := #[k0m0]
  instanceTypes := #[]
  staticTypes := #[]
  resolved := Array.replicate 124 none
  statics := none }

def pool1 : Array CpInfo := pool [(2, .class_ 4), (1, u "java/lang/Object"), (0, u "<init>"), (0, u "()V"), (0, .integer 55295), (0, .integer 57344), (0, .integer 64976), (0, .integer 65007), (0, .integer 65533), (0, .integer 1114111), (2, .integer 2147483652), (0, .integer 2147483644), (0, .integer 65535), (0, .integer 2097151), (0, .methodref 20 21), (0, .class_ 22), (0, .nameAndType 23 24), (0, u "com/example/flycatcher/flycatcher/xml/XmlChars"), (0, u "isOrdinary"), (0, u "(I)Z"), (0, .methodref 26 27), (0, .class_ 28), (0, .nameAndType 29 24), (0, u "com/example/flycatcher/flycatcher/xml/XmlCharsIsOrdinaryPinLaw"), (0, u "expected"), (2, u "law"), (0, u "(II)Z")] 5

def k1m0 : Method := { name := "<init>", desc := "()V", sig := { parameters := [], returnType := none }, accessFlags := 2, code := none }
def k1c1 : Code := { maxStack := 4, maxLocals := 5, code := code, exceptionTable := #[], attributes := #[] }
def k1m1 : Method := { name := "law", desc := "(II)Z", sig := { parameters := [.int, .int], returnType := some .boolean }, accessFlags := 9, code := some k1c1 }
def k1c2 : Code := { maxStack := 2, maxLocals := 1, code := method_3_code, exceptionTable := #[], attributes := #[] }
def k1m2 : Method := { name := "expected", desc := "(I)Z", sig := { parameters := [.int], returnType := some .boolean }, accessFlags := 10, code := some k1c2 }
/-- com/example/flycatcher/flycatcher/xml/XmlCharsIsOrdinaryPinLaw -/
def k1 : Class := { plain "com/example/flycatcher/flycatcher/xml/XmlCharsIsOrdinaryPinLaw" (some 0) with
  accessFlags := 49
  interfaces := #[]
  cf := some (fileOf pool1 26 #[] #[{ accessFlags := 2, nameIndex := 5, descriptorIndex := 6, attributes := #[] }, { accessFlags := 9, nameIndex := 32, descriptorIndex := 33, attributes := #[] }, { accessFlags := 10, nameIndex := 29, descriptorIndex := 24, attributes := #[] }] 49 2 #[] #[])
  fields := #[]
  methods := #[k1m0, k1m1, k1m2]
  instanceTypes := #[]
  staticTypes := #[]
  resolved := Array.replicate 39 none
  statics := none }

def pool2 : Array CpInfo := pool [(2, .class_ 4), (1, u "java/lang/Object"), (0, u "<init>"), (0, u "()V"), (0, .integer 55295), (0, .integer 57344), (0, .integer 65533), (3, .class_ 15), (1, u "com/example/flycatcher/flycatcher/xml/XmlChars$ComposingCharacters"), (7, u "(I)Z"), (0, .fieldref 25 26), (0, .class_ 27), (0, .nameAndType 28 29), (0, u "com/example/flycatcher/flycatcher/xml/XmlChars"), (0, u "ASCII"), (0, u "[B"), (0, .integer 64976), (0, .integer 65007), (32, .class_ 66), (1, u "com/example/flycatcher/flycatcher/xml/XmlChars$FourthEditionNames"), (0, u "NAME_START"), (5, u "NAME"), (18, u "PREDEFINED_ENTITIES"), (0, u "Ljava/util/List;"), (32, u "I"), (3, u "ORDINARY"), (3, u "PREDEFINED_CHARACTERS"), (0, u "Ljava/lang/String;"), (0, u "PUBID_PUNCTUATION"), (6, u "isOrdinary")] 22

def k2m0 : Method := { name := "<init>", desc := "()V", sig := { parameters := [], returnType := none }, accessFlags := 2, code := none }
def k2c1 : Code := { maxStack := 2, maxLocals := 3, code := prog_174_method_5_code, exceptionTable := #[], attributes := #[] }
def k2m1 : Method := { name := "isOrdinary", desc := "(I)Z", sig := { parameters := [.int], returnType := some .boolean }, accessFlags := 9, code := some k2c1 }
/-- com/example/flycatcher/flycatcher/xml/XmlChars -/
def k2 : Class := { plain "com/example/flycatcher/flycatcher/xml/XmlChars" (some 0) with
  accessFlags := 33
  interfaces := #[]
  cf := some (fileOf pool2 25 #[.nestMembers #[64, 13]] #[{ accessFlags := 2, nameIndex := 5, descriptorIndex := 6, attributes := #[] }, { accessFlags := 9, nameIndex := 143, descriptorIndex := 23, attributes := #[] }] 33 2 #[] #[{ accessFlags := 26, nameIndex := 67, descriptorIndex := 126, attributes := #[] }, { accessFlags := 26, nameIndex := 73, descriptorIndex := 126, attributes := #[] }, { accessFlags := 26, nameIndex := 130, descriptorIndex := 126, attributes := #[] }, { accessFlags := 26, nameIndex := 28, descriptorIndex := 29, attributes := #[] }, { accessFlags := 26, nameIndex := 92, descriptorIndex := 93, attributes := #[] }, { accessFlags := 26, nameIndex := 134, descriptorIndex := 135, attributes := #[] }, { accessFlags := 26, nameIndex := 136, descriptorIndex := 135, attributes := #[] }])
  fields := #[{ name := "NAME_START", type := .int, accessFlags := 26, slot := 0, constantValue := 0 }, { name := "NAME", type := .int, accessFlags := 26, slot := 1, constantValue := 0 }, { name := "ORDINARY", type := .int, accessFlags := 26, slot := 2, constantValue := 0 }, { name := "ASCII", type := (.array .byte), accessFlags := 26, slot := 3, constantValue := 0 }, { name := "PREDEFINED_ENTITIES", type := (.object "java/util/List"), accessFlags := 26, slot := 4, constantValue := 0 }, { name := "PREDEFINED_CHARACTERS", type := (.object "java/lang/String"), accessFlags := 26, slot := 5, constantValue := 0 }, { name := "PUBID_PUNCTUATION", type := (.object "java/lang/String"), accessFlags := 26, slot := 6, constantValue := 0 }]
  methods := #[k2m0, k2m1]
  instanceTypes := #[]
  staticTypes := #[.int, .int, .int, (.array .byte), (.object "java/util/List"), (.object "java/lang/String"), (.object "java/lang/String")]
  resolved := Array.replicate 166 none
  statics := some 0 }

def pool3 : Array CpInfo := pool [(1, u "java/lang/Cloneable"), (0, .class_ 1), (0, u "java/lang/Object"), (0, .class_ 3)] 3

/-- java/lang/Cloneable -/
def k3 : Class := { plain "java/lang/Cloneable" (some 0) with
  accessFlags := 1537
  interfaces := #[]
  cf := some (fileOf pool3 2 #[] #[] 1537 4 #[] #[])
  fields := #[]
  methods := #[]
  instanceTypes := #[]
  staticTypes := #[]
  resolved := Array.replicate 8 none
  statics := none }

def pool4 : Array CpInfo := pool [(1, u "java/io/Serializable"), (0, .class_ 1), (0, u "java/lang/Object"), (0, .class_ 3)] 3

/-- java/io/Serializable -/
def k4 : Class := { plain "java/io/Serializable" (some 0) with
  accessFlags := 1537
  interfaces := #[]
  cf := some (fileOf pool4 2 #[] #[] 1537 4 #[] #[])
  fields := #[]
  methods := #[]
  instanceTypes := #[]
  staticTypes := #[]
  resolved := Array.replicate 8 none
  statics := none }

/-- the primitive byte -/
def k5 : Class := { plain "byte" none with kind := .primitive 'B', accessFlags := 0x411 }
/-- [B -/
def k6 : Class := { plain "[B" (some 0) with kind := .array 5 .byte, interfaces := #[3, 4], accessFlags := 1041 }

/-- the primitive int -/
def k7 : Class := { plain "int" none with kind := .primitive 'I', accessFlags := 0x411 }
/-- [I -/
def k8 : Class := { plain "[I" (some 0) with kind := .array 7 .int, interfaces := #[3, 4], accessFlags := 1041 }

def heap : Heap := #[{ cls := 2, slots := #[.int 0, .int 0, .int 0, .ref 1, .null, .null, .null], vm := .statics 2 },
  { cls := 6, slots := #[.int 0, .int 0, .int 0, .int 0, .int 0, .int 0, .int 0, .int 0, .int 0, .int 4, .int 4, .int 0, .int 0, .int 0, .int 0, .int 0, .int 0, .int 0, .int 0, .int 0, .int 0, .int 0, .int 0, .int 0, .int 0, .int 0, .int 0, .int 0, .int 0, .int 0, .int 0, .int 0, .int 4, .int 4, .int 4, .int 4, .int 4, .int 4, .int 4, .int 4, .int 4, .int 4, .int 4, .int 4, .int 4, .int 6, .int 6, .int 4, .int 6, .int 6, .int 6, .int 6, .int 6, .int 6, .int 6, .int 6, .int 6, .int 6, .int 7, .int 4, .int 4, .int 4, .int 4, .int 4, .int 4, .int 7, .int 7, .int 7, .int 7, .int 7, .int 7, .int 7, .int 7, .int 7, .int 7, .int 7, .int 7, .int 7, .int 7, .int 7, .int 7, .int 7, .int 7, .int 7, .int 7, .int 7, .int 7, .int 7, .int 7, .int 7, .int 7, .int 4, .int 4, .int 4, .int 4, .int 7, .int 4, .int 7, .int 7, .int 7, .int 7, .int 7, .int 7, .int 7, .int 7, .int 7, .int 7, .int 7, .int 7, .int 7, .int 7, .int 7, .int 7, .int 7, .int 7, .int 7, .int 7, .int 7, .int 7, .int 7, .int 7, .int 7, .int 7, .int 4, .int 4, .int 4, .int 4, .int 0], vm := .none }]
def classes : Array Class := #[k0, k1, k2, k3, k4, k5, k6, k7, k8]
def interned : List (Array UInt16 × Addr) := []
def slotsUsed : Nat := 135
def theMethod : MethodId := ⟨1, 1⟩
def args0 : Array Value := #[.int 5, .int 1]
def aboutOver (below : List Frame) : State where
  vm := { classes := classes, interned := interned.toArray }
  heap := heap
  slotsUsed := slotsUsed
  threads := #[{ frames := .invoking theMethod args0 :: below }]
def below0 : List Frame := [.native { method := ⟨0, 0⟩, args := #[] }]
def about1 : State := aboutOver below0
def p0 : Program := .bare "" "" ""
def e0 : Env := launch0.env 0 0 0
theorem w_frames : about1.frames = Frame.invoking theMethod args0 :: below0 := rfl
set_option maxRecDepth 65536 in
theorem w_args : argsFit about1.vm theMethod args0 = true := by decide +kernel
set_option maxRecDepth 65536 in
theorem w_heap : heapFits about1 = true := by decide +kernel
set_option maxRecDepth 65536 in
theorem w_runnable : about1.curStatus? = some .runnable := by decide +kernel
set_option maxRecDepth 65536 in
theorem w_alone : about1.alone = true := by decide +kernel
set_option maxRecDepth 65536 in
theorem w_named : about1.methodNamed? x = some theMethod := by decide +kernel
set_option maxRecDepth 65536 in
theorem w_hears : about1.hears theMethod below0 = true := by decide +kernel
set_option maxRecDepth 65536 in
theorem w_ripe : about1.ripe theMethod args0 below0 = true := by decide +kernel
theorem w_running : about1.status = .running := rfl
set_option maxRecDepth 65536 in
theorem w_room : about1.hasRoom e0.platform room_1 = true :=
  launch0.hasRoom_least _ room_1 (by decide +kernel) (by decide +kernel) (by decide +kernel) (by decide +kernel) (by decide +kernel) (by decide +kernel)
theorem allAtoms_all (ts : List Jvm.Cond) (a : Array Jvm.Value) (st : Jvm.State) : (allAtoms ts).before a st = ts.all (fun c => c.before a st) := by
  induction ts with
  | nil => rfl
  | cons c t ih =>
    show (Jvm.Cond.and c (allAtoms t)).before a st = _
    rw [Jvm.Cond.before_and, ih, List.all_cons]
def words1 : List Jvm.Cond := Jvm.Cond.code x code maxLocals ret :: tables_1
/-- a 'code' word, met by the world's own term for the bytes: nothing is compared byte by byte -/
theorem code_word {y : MethodName} {bytes : ByteArray} {mx : Nat} {rt : Option FieldType} {a : Array Value} {s : State} {m : MethodId} {meth : Method} {c : Code} (h1 : s.methodNamed? y = some m) (h2 : s.vm.method? m = some meth) (h3 : meth.code = some c) (h4 : c.code = bytes)
    (h5 : (c.maxLocals == mx && c.exceptionTable.isEmpty && decide (c.maxStack ≤ mostOperands) && decide (meth.sig.returnType = rt) && !meth.locks && decide (parseMethodDescriptor y.desc = some meth.sig)) = true) : (Jvm.Cond.code y bytes mx rt).before a s = true := by
  simp only [Bool.and_eq_true, beq_iff_eq, Bool.not_eq_true', decide_eq_true_eq] at h5
  obtain ⟨⟨⟨⟨⟨g1, g2⟩, g3⟩, g4⟩, g5⟩, g6⟩ := h5
  simp [Cond.before, Cond.holds, Cond.value, h1, h2, h3, h4, g1, g2, g3, g4, g5, g6]
def isCode : Jvm.Cond → Bool
  | .code _ _ _ _ => true
  | _ => false
theorem all_split {L : List Jvm.Cond} {P : Jvm.Cond → Bool} (h1 : L.all (fun c => isCode c || P c) = true) (h2 : ∀ c ∈ L.filter isCode, P c = true) : L.all P = true := by
  refine List.all_eq_true.mpr fun c hc => ?_
  have h := List.all_eq_true.mp h1 c hc
  rcases Bool.eq_false_or_eq_true (isCode c) with hi | hi
  · exact h2 c (List.mem_filter.mpr ⟨hc, hi⟩)
  · simpa [hi] using h
set_option maxRecDepth 65536 in
theorem w_c0 : (Jvm.Cond.code x code maxLocals ret).before args0 about1 = true := code_word (m := ⟨1, 1⟩) (meth := k1m1) (c := k1c1) (by decide +kernel) rfl rfl rfl (by decide +kernel)
set_option maxRecDepth 65536 in
theorem w_c1 : (Jvm.Cond.code ({ cls := "com/example/flycatcher/flycatcher/xml/XmlChars", name := "isOrdinary", desc := "(I)Z" } : Jvm.MethodName) prog_174_method_5_code (3 : Nat) (Option.some Jvm.ClassFile.FieldType.boolean)).before args0 about1 = true := code_word (m := ⟨2, 1⟩) (meth := k2m1) (c := k2c1) (by decide +kernel) rfl rfl rfl (by decide +kernel)
set_option maxRecDepth 65536 in
theorem w_c2 : (Jvm.Cond.code ({ cls := "com/example/flycatcher/flycatcher/xml/XmlCharsIsOrdinaryPinLaw", name := "expected", desc := "(I)Z" } : Jvm.MethodName) method_3_code (1 : Nat) (Option.some Jvm.ClassFile.FieldType.boolean)).before args0 about1 = true := code_word (m := ⟨1, 2⟩) (meth := k1m2) (c := k1c2) (by decide +kernel) rfl rfl rfl (by decide +kernel)
def codes1 : List Jvm.Cond := [Jvm.Cond.code x code maxLocals ret, Jvm.Cond.code ({ cls := "com/example/flycatcher/flycatcher/xml/XmlChars", name := "isOrdinary", desc := "(I)Z" } : Jvm.MethodName) prog_174_method_5_code (3 : Nat) (Option.some Jvm.ClassFile.FieldType.boolean), Jvm.Cond.code ({ cls := "com/example/flycatcher/flycatcher/xml/XmlCharsIsOrdinaryPinLaw", name := "expected", desc := "(I)Z" } : Jvm.MethodName) method_3_code (1 : Nat) (Option.some Jvm.ClassFile.FieldType.boolean)]
set_option maxRecDepth 65536 in
theorem codes_eq : words1.filter isCode = codes1 := rfl
theorem w_codes : ∀ c ∈ words1.filter isCode, c.before args0 about1 = true := by
  rw [codes_eq]
  intro c hc
  simp only [codes1, List.mem_cons, List.not_mem_nil, or_false] at hc
  rcases hc with rfl | rfl | rfl
  · exact w_c0
  · exact w_c1
  · exact w_c2
set_option maxRecDepth 65536 in
theorem w_t1 : (words1.take 24).all (fun c => isCode c || c.before args0 about1) = true := by decide +kernel
set_option maxRecDepth 65536 in
theorem w_t2 : (words1.drop 24).all (fun c => isCode c || c.before args0 about1) = true := by decide +kernel
theorem w_tables : (allAtoms (Jvm.Cond.code x code maxLocals ret :: tables_1)).before args0 about1 = true := by
  rw [allAtoms_all]
  show words1.all (fun c => c.before args0 about1) = true
  refine all_split ?_ w_codes
  rw [← List.take_append_drop 24 words1, List.all_append, w_t1, w_t2]
  rfl
set_option maxRecDepth 65536 in
theorem w_case : (Jvm.Cond.and given_1 narrow_1).before args0 about1 = true := by decide +kernel
theorem w_applies : (headSpec (Jvm.Cond.code x code maxLocals ret :: tables_1) room_1).applies x e0.platform about1 = true :=
  (Spec.applies_iff w_frames).mpr ⟨w_running, w_runnable, w_alone, w_named, w_hears, w_ripe, w_room, w_tables⟩
theorem atStart : AtStart classFile x code maxLocals ret World_1 tables_1 room_1 Calls_1 rest_1 Pre_1 launch0 p0 e0 about1 theMethod args0 below0 :=
  ⟨lists_1, trivial, launch0.admits_env _ _ _, launch0.least_env, fairChoices_fair.cas, fairChoices_fair.clock, w_frames, w_args, w_heap, w_applies, trivial, trivial, w_case⟩
end start1
theorem witness_1 : WitnessClaimed_1 := ⟨start1.p0, start1.e0, start1.about1, start1.theMethod, start1.args0, start1.below0, start1.atStart⟩
end Jvm.Pilot.@@N@@
