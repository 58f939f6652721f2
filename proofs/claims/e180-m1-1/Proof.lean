import JvmDerived
import JvmDerived.Pilot.@@N@@Statement
import JvmDerived.Pilot.@@N@@Code
set_option linter.unusedVariables false
set_option linter.unusedSimpArgs false
@@BLOCK:NumsL.lean.txt@@
namespace Jvm.Pilot.@@N@@
open Jvm Jvm.ClassFile Sem Op Lib Jvm.Free Jvm.Stand Jvm.LawKit Jvm.RoadKit Bundle Jvm.Pilot.@@N@@.Jvm.D
section Own
variable {p : Program} {l : Launch} {e : Env} {R : Room} {s : State} {m : MethodId} {args : Array Value} {below : List Frame} {meth : Method} {c : Code} {T T' : State} {locs : List Loc} {cells slots kc ks : Nat} {g g' : JFrame} {Q : Option Value → Heap → List Loc → Prop}
/-- from here the run goes on to its return, with Q of what it returns, the heap and the places written -/
def own_Go (p : Program) (e : Env) (below : List Frame) (s T : State) (g : JFrame) (Q : Option Value → Heap → List Loc → Prop) (kc ks : Nat) : Prop :=
  ∃ s₂ o, Steps p.tables e below (T.setTop g) s₂ ∧ s₂.status = .running ∧ Ended s₂ below o ∧ ∃ v L, o = .returned v ∧ Q v s₂.heap L ∧ FrameEnd s o s₂ L kc ks
theorem own_st (st : ∀ t, Steps p.tables e below (T'.setTop g') t → Steps p.tables e below (T.setTop g) t) (k : own_Go p e below s T' g' Q kc ks) : own_Go p e below s T g Q kc ks := by
  obtain ⟨s₂, o, h1, h2⟩ := k
  exact ⟨s₂, o, st _ h1, h2⟩
theorem own_stt (st : Steps p.tables e below (T.setTop g) (T'.setTop g')) (k : own_Go p e below s T' g' Q kc ks) : own_Go p e below s T g Q kc ks := own_st (fun _ k => st.trans k) k
theorem own_cast (q : g = g') (k : own_Go p e below s T g' Q kc ks) : own_Go p e below s T g Q kc ks := q ▸ k
theorem own_retN (X : Stand p l e R s m args below meth c T locs cells slots) (hx : p.tables.exec = Jvm.exec) (hlk : meth.locks = false) {t : FieldType} (ht : t = .boolean ∨ t = .byte ∨ t = .char ∨ t = .short) (hret : meth.sig.returnType = some t)
    {pc : Nat} {Ls : Array Slot} {z : Int32} {rest : List Value} (hd : decode c.code pc = .ok (.ireturn, 1)) (hc : cells ≤ kc) (hs : slots ≤ ks) (hq : Q (some (.int (nar t z))) T.heap locs) :
    own_Go p e below s T (mkF m pc Ls (.int z :: rest)) Q kc ks := by
  obtain ⟨fs, hr, hrun, hended, hW, hsame⟩ := X.leave (v := some (.int (nar t z))) (fun h => by rw [hret] at h; cases h) hlk
  exact ⟨_, _, retN X hx hret ht hd hr, hrun, hended, _, _, rfl, hq, ⟨_, rfl⟩, hW, hsame.mono hc hs⟩
theorem own_retI (X : Stand p l e R s m args below meth c T locs cells slots) (hx : p.tables.exec = Jvm.exec) (hlk : meth.locks = false) (hret : meth.sig.returnType = some .int)
    {pc : Nat} {Ls : Array Slot} {z : Int32} {rest : List Value} (hd : decode c.code pc = .ok (.ireturn, 1)) (hc : cells ≤ kc) (hs : slots ≤ ks) (hq : Q (some (.int z)) T.heap locs) :
    own_Go p e below s T (mkF m pc Ls (.int z :: rest)) Q kc ks := by
  obtain ⟨fs, hr, hrun, hended, hW, hsame⟩ := X.leave (v := some (.int z)) (fun h => by rw [hret] at h; cases h) hlk
  exact ⟨_, _, retOut X hx hret rfl (Or.inl ⟨rfl, Or.inl rfl, _, rfl⟩) hd hr, hrun, hended, _, _, rfl, hq, ⟨_, rfl⟩, hW, hsame.mono hc hs⟩
theorem own_retJ (X : Stand p l e R s m args below meth c T locs cells slots) (hx : p.tables.exec = Jvm.exec) (hlk : meth.locks = false) (hret : meth.sig.returnType = some .long)
    {pc : Nat} {Ls : Array Slot} {z : Int64} {rest : List Value} (hd : decode c.code pc = .ok (.lreturn, 1)) (hc : cells ≤ kc) (hs : slots ≤ ks) (hq : Q (some (.long z)) T.heap locs) :
    own_Go p e below s T (mkF m pc Ls (.long z :: rest)) Q kc ks := by
  obtain ⟨fs, hr, hrun, hended, hW, hsame⟩ := X.leave (v := some (.long z)) (fun h => by rw [hret] at h; cases h) hlk
  exact ⟨_, _, retOut X hx hret rfl (Or.inr (Or.inl ⟨rfl, rfl, _, rfl⟩)) hd hr, hrun, hended, _, _, rfl, hq, ⟨_, rfl⟩, hW, hsame.mono hc hs⟩
theorem own_retV (X : Stand p l e R s m args below meth c T locs cells slots) (hx : p.tables.exec = Jvm.exec) (hlk : meth.locks = false) (hret : meth.sig.returnType = none)
    {pc : Nat} {Ls : Array Slot} (hd : decode c.code pc = .ok (.return_, 1)) (hc : cells ≤ kc) (hs : slots ≤ ks) (hq : Q none T.heap locs) :
    own_Go p e below s T (mkF m pc Ls []) Q kc ks := by
  obtain ⟨fs, hr, hrun, hended, hW, hsame⟩ := X.leave (v := none) (fun _ => rfl) hlk
  exact ⟨_, _, X.returnOut hx hret hd hr, hrun, hended, _, _, rfl, hq, ⟨_, rfl⟩, hW, hsame.mono hc hs⟩
end Own
/-- what a body that writes nothing leaves: its value, nothing old written, the heap as it was -/
def own_QP (w : Value) (h0 : Heap) (n0 : Nat) (v : Option Value) (h : Heap) (L : List Loc) : Prop := v = some w ∧ Fr n0 L ∧ h = h0
def own_Q0 (n0 : Nat) (v : Option Value) (h : Heap) (L : List Loc) : Prop := v = some (.int 1) ∧ Fr n0 L
/-- the table of the ASCII letters, as the case's words say it -/
def own_tabn (i : Nat) : Int32 := if i < 9 then 0 else if i < 10 then 4 else if i < 11 then 4 else if i < 32 then 0 else if i < 45 then 4 else if i < 46 then 6 else if i < 47 then 6 else if i < 48 then 4 else if i < 58 then 6 else if i < 59 then 7 else if i < 65 then 4 else if i < 91 then 7 else if i < 95 then 4 else if i < 96 then 7 else if i < 97 then 4 else if i < 123 then 7 else if i < 127 then 4 else 0
def own_tab (j : Int32) : Int32 := own_tabn j.toNatClampNeg
theorem own_clamp {j : Int32} (h1 : ¬ j < 0) : (j.toNatClampNeg : Int) = j.toInt := (nat_of h1).symm
theorem own_inb {c : Cell} {j : Int32} (L : c.slots.size = 128) (h1 : ¬ j < 0) (h2 : j < 128) : ¬ (j < 0 ∨ c.slots.size ≤ j.toNatClampNeg) := by
  rintro (h | h)
  · exact h1 h
  · have := own_clamp h1
    rw [Int32.lt_iff_toInt_lt] at h2
    have : (128 : Int32).toInt = 128 := rfl
    omega
section OwnTab
variable {Z : State} {args : Array Value} {t : Term} {a : Addr} {cl : Cell}
theorem own_or {G Y : Jvm.Cond} {idx : List Nat} (h : (Jvm.Cond.or G Y).value args Z none Z idx = some true) (hG : G.value args Z none Z idx = some false) : Y.value args Z none Z idx = some true := by
  simpa [Cond.value, hG] using h
theorem own_lenv {n : Int32} (ht : t.eval args Z none [] Z = some (.ref a)) (ha : Z.arrayAt? a = some cl) (h : (Jvm.Cond.eq (.length t) (.int n)).value args Z none Z [] = some true) : cl.slots.size.toInt32 = n ∧ cl.slots.size < 2 ^ 31 := by
  by_cases hl : cl.slots.size < 2 ^ 31
  · exact ⟨gotT (Cond.eq_ints (len_f ht ha hl) (Term.int_eval n)) h, hl⟩
  · have e : (Term.length t).eval args Z none [] Z = none := by simp [Term.eval, ht, ha, hl]
    simp [Cond.value, e] at h
theorem own_i32 {i : Nat} (h : i < 128) : i.toInt32.toInt = i := Int32.toInt_ofNat_small (by omega)
theorem own_el (hf : Fit Z) (A : Arr Z Z.heap a cl .byte) (L : cl.slots.size = 128) {i : Nat} (hi : i < 128) : ∃ x, cl.slots[i]? = some (.int x) := by
  have hj : ¬ (i.toInt32 < 0 ∨ cl.slots.size ≤ i.toInt32.toNatClampNeg) := idx_in (by omega) (by omega)
  obtain ⟨v, h1, h2⟩ := elem_fit hf A hj
  obtain ⟨x, rfl⟩ := fit_I h2 (by simp)
  have hn : ¬ i.toInt32 < 0 := fun q => hj (Or.inl q)
  have e : i.toInt32.toNatClampNeg = i := by have := own_clamp hn; rw [own_i32 hi] at this; omega
  rw [e] at h1
  exact ⟨x, h1⟩
theorem own_elem (et : ∀ idx, t.eval args Z none idx Z = some (.ref a)) (A : Arr Z Z.heap a cl .byte) (L : cl.slots.size = 128) {u : Term} {idx : List Nat} {i : Nat} (hi : i < 128) (hu : u.eval args Z none idx Z = some (.int i.toInt32)) : (Term.elem t u).eval args Z none idx Z = cl.slots[i]? := by
  have hj : ¬ (i.toInt32 < 0 ∨ cl.slots.size ≤ i.toInt32.toNatClampNeg) := idx_in (by omega) (by omega)
  have hn : ¬ i.toInt32 < 0 := fun q => hj (Or.inl q)
  have e : i.toInt32.toNatClampNeg = i := by have := own_clamp hn; rw [own_i32 hi] at this; omega
  have := elem_f (et idx) hu (A.fin (Vm.Alike.refl _)) hn
  rw [e] at this
  exact this
theorem own_eqv (hf : Fit Z) (et : ∀ idx, t.eval args Z none idx Z = some (.ref a)) (A : Arr Z Z.heap a cl .byte) (L : cl.slots.size = 128) {u : Term} {idx : List Nat} {i : Nat} (hi : i < 128) (hu : u.eval args Z none idx Z = some (.int i.toInt32)) {v : Int32} (h : (Jvm.Cond.eq (.elem t u) (.int v)).value args Z none Z idx = some true) : cl.slots[i]? = some (.int v) := by
  obtain ⟨x, hx⟩ := own_el hf A L hi
  have := gotT (Cond.eq_ints ((own_elem et A L hi hu).trans hx) (Term.int_eval v)) h
  rw [hx, this]
theorem own_pt (hf : Fit Z) (et : ∀ idx, t.eval args Z none idx Z = some (.ref a)) (A : Arr Z Z.heap a cl .byte) (L : cl.slots.size = 128) {v : Int32} (k : Nat) (hk : k < 128) (h : (Jvm.Cond.eq (.elem t (.int k.toInt32)) (.int v)).value args Z none Z [] = some true) (i : Nat) (h1 : k ≤ i) (h2 : i < k + 1) : cl.slots[i]? = some (.int v) := by
  obtain rfl : i = k := by omega
  exact own_eqv hf et A L hk (Term.int_eval _) h
theorem own_r1 (hf : Fit Z) (et : ∀ idx, t.eval args Z none idx Z = some (.ref a)) (A : Arr Z Z.heap a cl .byte) (L : cl.slots.size = 128) {v : Int32} (b : Nat) (hb : b ≤ 128) (h : (Jvm.Cond.all t (.or (.le (.int b.toInt32) (.index 0)) (.eq (.elem t (.index 0)) (.int v)))).value args Z none Z [] = some true) (i : Nat) (h2 : i < b) : cl.slots[i]? = some (.int v) := by
  have q := Cond.all_elim (et []) (A.fin (Vm.Alike.refl _)) h i (by omega)
  refine own_eqv hf et A L (by omega) (Term.index_eval i) (own_or q ?_)
  refine nay (Cond.le_ints (Term.int_eval _) (Term.index_eval i)) ?_
  rw [Int32.le_iff_toInt_le, own_i32 (i := i) (by omega)]
  have : b.toInt32.toInt = b := Int32.toInt_ofNat_small (by omega)
  omega
theorem own_r2 (hf : Fit Z) (et : ∀ idx, t.eval args Z none idx Z = some (.ref a)) (A : Arr Z Z.heap a cl .byte) (L : cl.slots.size = 128) {v : Int32} (k b : Nat) (hb : b ≤ 128) (h : (Jvm.Cond.all t (.or (.lt (.index 0) (.int k.toInt32)) (.or (.le (.int b.toInt32) (.index 0)) (.eq (.elem t (.index 0)) (.int v))))).value args Z none Z [] = some true) (i : Nat) (h1 : k ≤ i) (h2 : i < b) : cl.slots[i]? = some (.int v) := by
  have q := Cond.all_elim (et []) (A.fin (Vm.Alike.refl _)) h i (by omega)
  have bi : b.toInt32.toInt = b := Int32.toInt_ofNat_small (by omega)
  have ki : k.toInt32.toInt = k := Int32.toInt_ofNat_small (by omega)
  refine own_eqv hf et A L (by omega) (Term.index_eval i) (own_or (own_or q ?_) ?_)
  · refine nay (Cond.lt_ints (Term.index_eval i) (Term.int_eval _)) ?_
    rw [Int32.lt_iff_toInt_lt, own_i32 (i := i) (by omega)]
    omega
  · refine nay (Cond.le_ints (Term.int_eval _) (Term.index_eval i)) ?_
    rw [Int32.le_iff_toInt_le, own_i32 (i := i) (by omega)]
    omega
end OwnTab
set_option maxRecDepth 65536 in
set_option maxHeartbeats 4000000 in
theorem own_table {Z : State} {args : Array Value} (hf : Fit Z) (hi : (Jvm.Cond.initialized "com/example/flycatcher/flycatcher/xml/XmlChars").before args Z = true) (hl : (Jvm.Cond.laysStatic "com/example/flycatcher/flycatcher/xml/XmlChars" "ASCII" "[B").before args Z = true) (hn : narrow_1.value args Z none Z [] = some true) :
    ∃ tA cA, Sta Z Z.heap "com/example/flycatcher/flycatcher/xml/XmlChars" "ASCII" "[B" (.ref tA) ∧ Arr Z Z.heap tA cA .byte ∧ cA.slots.size = 128 ∧ ∀ j : Int32, ¬ j < 0 → j < 128 → cA.slots[j.toNatClampNeg]? = some (.int (own_tab j)) := by
  unfold narrow_1 at hn
  obtain ⟨n1, hn⟩ := and_e hn
  obtain ⟨n2, hn⟩ := and_e hn
  obtain ⟨n3, hn⟩ := and_e hn
  obtain ⟨n4, hn⟩ := and_e hn
  obtain ⟨n5, hn⟩ := and_e hn
  obtain ⟨n6, hn⟩ := and_e hn
  obtain ⟨n7, hn⟩ := and_e hn
  obtain ⟨n8, hn⟩ := and_e hn
  obtain ⟨n9, hn⟩ := and_e hn
  obtain ⟨n10, hn⟩ := and_e hn
  obtain ⟨n11, hn⟩ := and_e hn
  obtain ⟨n12, hn⟩ := and_e hn
  obtain ⟨n13, hn⟩ := and_e hn
  obtain ⟨n14, hn⟩ := and_e hn
  obtain ⟨n15, hn⟩ := and_e hn
  obtain ⟨n16, hn⟩ := and_e hn
  obtain ⟨n17, hn⟩ := and_e hn
  obtain ⟨n18, hn⟩ := and_e hn
  obtain ⟨n19, n20⟩ := and_e hn
  obtain ⟨tA, ev⟩ := arr_v n1
  obtain ⟨cA, A⟩ := Arr.start ev n1
  have et : ∀ idx, (Term.static "com/example/flycatcher/flycatcher/xml/XmlChars" "ASCII" "[B").eval args Z none idx Z = some (.ref tA) := fun idx => ev
  have L : cA.slots.size = 128 := by
    obtain ⟨q1, q2⟩ := own_lenv ev (A.fin (Vm.Alike.refl Z.vm)) n2
    have q := congrArg Int32.toInt q1
    rw [len_toInt q2] at q
    have : (128 : Int32).toInt = 128 := rfl
    omega
  refine ⟨tA, cA, Sta.start ev (Or.inr ⟨hi, hl⟩), A, L, fun j h1 h2 => ?_⟩
  have hj : j.toNatClampNeg < 128 := Nat.lt_of_not_le fun q => own_inb L h1 h2 (Or.inr (by omega))
  show cA.slots[j.toNatClampNeg]? = some (.int (own_tabn j.toNatClampNeg))
  generalize j.toNatClampNeg = i at hj ⊢
  unfold own_tabn
  by_cases c0 : i < 9
  · rw [if_pos c0]; exact own_r1 hf et A L 9 (by decide) n3 i (by omega)
  rw [if_neg c0]
  by_cases c1 : i < 10
  · rw [if_pos c1]; exact own_pt hf et A L 9 (by decide) n4 i (by omega) (by omega)
  rw [if_neg c1]
  by_cases c2 : i < 11
  · rw [if_pos c2]; exact own_pt hf et A L 10 (by decide) n5 i (by omega) (by omega)
  rw [if_neg c2]
  by_cases c3 : i < 32
  · rw [if_pos c3]; exact own_r2 hf et A L 11 32 (by decide) n6 i (by omega) (by omega)
  rw [if_neg c3]
  by_cases c4 : i < 45
  · rw [if_pos c4]; exact own_r2 hf et A L 32 45 (by decide) n7 i (by omega) (by omega)
  rw [if_neg c4]
  by_cases c5 : i < 46
  · rw [if_pos c5]; exact own_pt hf et A L 45 (by decide) n8 i (by omega) (by omega)
  rw [if_neg c5]
  by_cases c6 : i < 47
  · rw [if_pos c6]; exact own_pt hf et A L 46 (by decide) n9 i (by omega) (by omega)
  rw [if_neg c6]
  by_cases c7 : i < 48
  · rw [if_pos c7]; exact own_pt hf et A L 47 (by decide) n10 i (by omega) (by omega)
  rw [if_neg c7]
  by_cases c8 : i < 58
  · rw [if_pos c8]; exact own_r2 hf et A L 48 58 (by decide) n11 i (by omega) (by omega)
  rw [if_neg c8]
  by_cases c9 : i < 59
  · rw [if_pos c9]; exact own_pt hf et A L 58 (by decide) n12 i (by omega) (by omega)
  rw [if_neg c9]
  by_cases c10 : i < 65
  · rw [if_pos c10]; exact own_r2 hf et A L 59 65 (by decide) n13 i (by omega) (by omega)
  rw [if_neg c10]
  by_cases c11 : i < 91
  · rw [if_pos c11]; exact own_r2 hf et A L 65 91 (by decide) n14 i (by omega) (by omega)
  rw [if_neg c11]
  by_cases c12 : i < 95
  · rw [if_pos c12]; exact own_r2 hf et A L 91 95 (by decide) n15 i (by omega) (by omega)
  rw [if_neg c12]
  by_cases c13 : i < 96
  · rw [if_pos c13]; exact own_pt hf et A L 95 (by decide) n16 i (by omega) (by omega)
  rw [if_neg c13]
  by_cases c14 : i < 97
  · rw [if_pos c14]; exact own_pt hf et A L 96 (by decide) n17 i (by omega) (by omega)
  rw [if_neg c14]
  by_cases c15 : i < 123
  · rw [if_pos c15]; exact own_r2 hf et A L 97 123 (by decide) n18 i (by omega) (by omega)
  rw [if_neg c15]
  by_cases c16 : i < 127
  · rw [if_pos c16]; exact own_r2 hf et A L 123 127 (by decide) n19 i (by omega) (by omega)
  rw [if_neg c16]
  exact own_pt hf et A L 127 (by decide) n20 i (by omega) (by omega)
theorem own_d3_0 : decode method_3_code 0 = .ok (.iload_n 0, 1) := by decide +kernel
theorem own_d3_1 : decode method_3_code 1 = .ok (.iload_n 1, 1) := by decide +kernel
theorem own_d3_2 : decode method_3_code 2 = .ok (.if_icmp .lt 12, 3) := by decide +kernel
theorem own_d3_5 : decode method_3_code 5 = .ok (.iload_n 0, 1) := by decide +kernel
theorem own_d3_6 : decode method_3_code 6 = .ok (.iload_n 2, 1) := by decide +kernel
theorem own_d3_7 : decode method_3_code 7 = .ok (.if_icmp .gt 7, 3) := by decide +kernel
theorem own_d3_10 : decode method_3_code 10 = .ok (.iconst 1, 1) := by decide +kernel
theorem own_d3_11 : decode method_3_code 11 = .ok (.goto 4, 3) := by decide +kernel
theorem own_d3_14 : decode method_3_code 14 = .ok (.iconst 0, 1) := by decide +kernel
theorem own_d3_15 : decode method_3_code 15 = .ok (.ireturn, 1) := by decide +kernel
theorem own_pn0 : plainName "com/example/flycatcher/flycatcher/xml/XmlCharsIsNameStartCharPinLaw" = true := by first | (simp [plainName, overriddenIn]; done) | decide +kernel
def own_f3_0 (x0 : Int32) (x1 : Int32) (x2 : Int32) : Int32 := (if x0 < x1 then (0 : Int32) else (if x2 < x0 then (0 : Int32) else (1 : Int32)))
set_option maxRecDepth 65536 in
set_option maxHeartbeats 4000000 in
theorem own_b3_0 {p : Program} {l : Launch} {e : Env} {s : State} {m : MethodId} {args : Array Value} {below : List Frame} {meth : Method} {c : Code} {T : State} {locs : List Loc} {cells slots : Nat} {Z : State} {a0 : Array Value} {h0 : Heap} {n0 : Nat} (X0 : Stand p l e ({ frames := 0, cells := 0, slots := 0, locals := 0 } : Room) s m args below meth c T locs cells slots) (hx : p.tables.exec = Jvm.exec) (hlk : meth.locks = false) (hby : c.code = method_3_code) (hml : c.maxLocals = 3) (hret : meth.sig.returnType = some .boolean) (hown : s.vm.findClass "com/example/flycatcher/flycatcher/xml/XmlCharsIsNameStartCharPinLaw" = some m.cls) (hZ : Z.Warmed39 s.vm) (hw : ∀ d ∈ tables_1, d.before a0 Z = true) (e0 : T.heap = h0) (N0 : Fr n0 locs) (hcs : cells ≤ 0) (hss : slots ≤ 0) (x0 : Int32) (x1 : Int32) (x2 : Int32) :
    own_Go p e below s T (mkF m 0 #[.val (.int x0), .val (.int x1), .val (.int x2)] []) (own_QP (.int (nar .boolean (own_f3_0 x0 x1 x2))) h0 n0) 0 0 := by
  unfold own_f3_0
  refine own_st (g' := (mkF m 1 #[.val (.int x0), .val (.int x1), .val (.int x2)] [(.int x0)])) (fun tt_ kk_ => XS.iloadN X0.here hx rfl (hb hby own_d3_0) rfl kk_) ?_
  refine own_st (g' := (mkF m 2 #[.val (.int x0), .val (.int x1), .val (.int x2)] [(.int x1), (.int x0)])) (fun tt_ kk_ => XS.iloadN X0.here hx rfl (hb hby own_d3_1) rfl kk_) ?_
  by_cases hc2 : x0 < x1
  · rw [if_pos hc2]
    refine own_st (g' := (mkF m 14 #[.val (.int x0), .val (.int x1), .val (.int x2)] [])) (fun tt_ kk_ => XS.icmpYes X0.here hx rfl (pc0 := 2) (pc' := 14) rfl (hb hby own_d3_2) rfl (tlt hc2).1 (by decide) (by decide) kk_) ?_
    refine own_st (g' := (mkF m 15 #[.val (.int x0), .val (.int x1), .val (.int x2)] [(.int (0 : Int32))])) (fun tt_ kk_ => XS.iconst X0.here hx rfl (hb hby own_d3_14) kk_) ?_
    exact own_retN X0 hx hlk (t := .boolean) (Or.inl rfl) hret (hb hby own_d3_15) hcs hss ⟨rfl, N0, e0⟩
  rw [if_neg hc2]
  refine own_st (g' := (mkF m 5 #[.val (.int x0), .val (.int x1), .val (.int x2)] [])) (fun tt_ kk_ => XS.icmpNo X0.here hx rfl (hb hby own_d3_2) rfl (flt hc2).1 kk_) ?_
  refine own_st (g' := (mkF m 6 #[.val (.int x0), .val (.int x1), .val (.int x2)] [(.int x0)])) (fun tt_ kk_ => XS.iloadN X0.here hx rfl (hb hby own_d3_5) rfl kk_) ?_
  refine own_st (g' := (mkF m 7 #[.val (.int x0), .val (.int x1), .val (.int x2)] [(.int x2), (.int x0)])) (fun tt_ kk_ => XS.iloadN X0.here hx rfl (hb hby own_d3_6) rfl kk_) ?_
  by_cases hc7 : x2 < x0
  · rw [if_pos hc7]
    refine own_st (g' := (mkF m 14 #[.val (.int x0), .val (.int x1), .val (.int x2)] [])) (fun tt_ kk_ => XS.icmpYes X0.here hx rfl (pc0 := 7) (pc' := 14) rfl (hb hby own_d3_7) rfl (tlt hc7).2.2.1 (by decide) (by decide) kk_) ?_
    refine own_st (g' := (mkF m 15 #[.val (.int x0), .val (.int x1), .val (.int x2)] [(.int (0 : Int32))])) (fun tt_ kk_ => XS.iconst X0.here hx rfl (hb hby own_d3_14) kk_) ?_
    exact own_retN X0 hx hlk (t := .boolean) (Or.inl rfl) hret (hb hby own_d3_15) hcs hss ⟨rfl, N0, e0⟩
  rw [if_neg hc7]
  refine own_st (g' := (mkF m 10 #[.val (.int x0), .val (.int x1), .val (.int x2)] [])) (fun tt_ kk_ => XS.icmpNo X0.here hx rfl (hb hby own_d3_7) rfl (flt hc7).2.2.1 kk_) ?_
  refine own_st (g' := (mkF m 11 #[.val (.int x0), .val (.int x1), .val (.int x2)] [(.int (1 : Int32))])) (fun tt_ kk_ => XS.iconst X0.here hx rfl (hb hby own_d3_10) kk_) ?_
  refine own_st (g' := (mkF m 15 #[.val (.int x0), .val (.int x1), .val (.int x2)] [(.int (1 : Int32))])) (fun tt_ kk_ => XS.goto X0.here hx rfl (pc0 := 11) (pc' := 15) rfl (hb hby own_d3_11) (by decide) (by decide) kk_) ?_
  exact own_retN X0 hx hlk (t := .boolean) (Or.inl rfl) hret (hb hby own_d3_15) hcs hss ⟨rfl, N0, e0⟩
theorem own_ef3 (m : MethodId) (x0 : Int32) (x1 : Int32) (x2 : Int32) : entryFrame m #[(.int x0), (.int x1), (.int x2)] 3 = mkF m 0 #[.val (.int x0), .val (.int x1), .val (.int x2)] [] := by first | (simp [entryFrame, mkF, argsToLocals, Value.category]; done) | rfl
set_option maxRecDepth 65536 in
set_option maxHeartbeats 4000000 in
theorem own_rm3 (l : Launch) (Z : State) (a0 : Array Value) (hw : ∀ d ∈ tables_1, d.before a0 Z = true) (ws : List Jvm.Cond) (x0 : Int32) (x1 : Int32) (x2 : Int32) (h0 : Heap) (n0 : Nat) :
    MetFree l (⟨"com/example/flycatcher/flycatcher/xml/XmlCharsIsNameStartCharPinLaw", "between", "(III)Z"⟩ : MethodName) (head1 (Jvm.Cond.code (⟨"com/example/flycatcher/flycatcher/xml/XmlCharsIsNameStartCharPinLaw", "between", "(III)Z"⟩ : MethodName) method_3_code 3 (some .boolean) :: ws) ({ frames := 0, cells := 0, slots := 0, locals := 0 } : Room)) (fun aa UU => aa = #[(.int x0), (.int x1), (.int x2)] ∧ Z.Warmed39 UU.vm ∧ UU.heap = h0) (fun _ _ _ _ _ => True) (fun _ U o U' => ∃ v L, o = .returned v ∧ own_QP (.int (nar .boolean (own_f3_0 x0 x1 x2))) h0 n0 v U'.heap L ∧ FrameEnd U o U' L ({ frames := 0, cells := 0, slots := 0, locals := 0 } : Room).cells ({ frames := 0, cells := 0, slots := 0, locals := 0 } : Room).slots) := by
  refine MetFree.of_bodySF (plainFor_of_name own_pn0) hisR ?_
  intro p e s m args below meth c s₁ Bd hml0 hP hK
  obtain ⟨rfl, hZ, hh⟩ := hP
  have X0 : Stand p l e ({ frames := 0, cells := 0, slots := 0, locals := 0 } : Room) s m #[(.int x0), (.int x1), (.int x2)] below meth c s₁ [] 0 0 := Stand.of_body Bd
  have e0 : s₁.heap = h0 := by rw [← hh, Bd.state]; rfl
  refine own_cast (own_ef3 m x0 x1 x2) ?_
  exact own_b3_0 X0 Bd.exec Bd.notSynchronized Bd.bytes hml0 Bd.returns (findClass_of_methodNamed Bd.named) hZ hw e0 (Fr.nil n0) (by decide) (by decide) x0 x1 x2
theorem own_d1_0 : decode prog_174_method_10_code 0 = .ok (.iload_n 0, 1) := by decide +kernel
theorem own_d1_1 : decode prog_174_method_10_code 1 = .ok (.sipush 128, 3) := by decide +kernel
theorem own_d1_4 : decode prog_174_method_10_code 4 = .ok (.if_icmp .ge 23, 3) := by decide +kernel
theorem own_d1_7 : decode prog_174_method_10_code 7 = .ok (.iload_n 0, 1) := by decide +kernel
theorem own_d1_8 : decode prog_174_method_10_code 8 = .ok (.ifCond .lt 17, 3) := by decide +kernel
theorem own_d1_11 : decode prog_174_method_10_code 11 = .ok (.getstatic 24, 3) := by decide +kernel
theorem own_d1_14 : decode prog_174_method_10_code 14 = .ok (.iload_n 0, 1) := by decide +kernel
theorem own_d1_15 : decode prog_174_method_10_code 15 = .ok (.baload, 1) := by decide +kernel
theorem own_d1_16 : decode prog_174_method_10_code 16 = .ok (.iconst 1, 1) := by decide +kernel
theorem own_d1_17 : decode prog_174_method_10_code 17 = .ok (.iand, 1) := by decide +kernel
theorem own_d1_18 : decode prog_174_method_10_code 18 = .ok (.ifCond .eq 7, 3) := by decide +kernel
theorem own_d1_21 : decode prog_174_method_10_code 21 = .ok (.iconst 1, 1) := by decide +kernel
theorem own_d1_22 : decode prog_174_method_10_code 22 = .ok (.goto 4, 3) := by decide +kernel
theorem own_d1_25 : decode prog_174_method_10_code 25 = .ok (.iconst 0, 1) := by decide +kernel
theorem own_d1_26 : decode prog_174_method_10_code 26 = .ok (.ireturn, 1) := by decide +kernel
theorem own_d1_27 : decode prog_174_method_10_code 27 = .ok (.iload_n 0, 1) := by decide +kernel
theorem own_d1_28 : decode prog_174_method_10_code 28 = .ok (.sipush 192, 3) := by decide +kernel
theorem own_d1_31 : decode prog_174_method_10_code 31 = .ok (.if_icmp .lt 10, 3) := by decide +kernel
theorem own_d1_34 : decode prog_174_method_10_code 34 = .ok (.iload_n 0, 1) := by decide +kernel
theorem own_d1_35 : decode prog_174_method_10_code 35 = .ok (.sipush 214, 3) := by decide +kernel
theorem own_d1_38 : decode prog_174_method_10_code 38 = .ok (.if_icmp .le 150, 3) := by decide +kernel
theorem own_d1_41 : decode prog_174_method_10_code 41 = .ok (.iload_n 0, 1) := by decide +kernel
theorem own_d1_42 : decode prog_174_method_10_code 42 = .ok (.sipush 216, 3) := by decide +kernel
theorem own_d1_45 : decode prog_174_method_10_code 45 = .ok (.if_icmp .lt 10, 3) := by decide +kernel
theorem own_d1_48 : decode prog_174_method_10_code 48 = .ok (.iload_n 0, 1) := by decide +kernel
theorem own_d1_49 : decode prog_174_method_10_code 49 = .ok (.sipush 246, 3) := by decide +kernel
theorem own_d1_52 : decode prog_174_method_10_code 52 = .ok (.if_icmp .le 136, 3) := by decide +kernel
theorem own_d1_55 : decode prog_174_method_10_code 55 = .ok (.iload_n 0, 1) := by decide +kernel
theorem own_d1_56 : decode prog_174_method_10_code 56 = .ok (.sipush 248, 3) := by decide +kernel
theorem own_d1_59 : decode prog_174_method_10_code 59 = .ok (.if_icmp .lt 10, 3) := by decide +kernel
theorem own_d1_62 : decode prog_174_method_10_code 62 = .ok (.iload_n 0, 1) := by decide +kernel
theorem own_d1_63 : decode prog_174_method_10_code 63 = .ok (.sipush 767, 3) := by decide +kernel
theorem own_d1_66 : decode prog_174_method_10_code 66 = .ok (.if_icmp .le 122, 3) := by decide +kernel
theorem own_d1_69 : decode prog_174_method_10_code 69 = .ok (.iload_n 0, 1) := by decide +kernel
theorem own_d1_70 : decode prog_174_method_10_code 70 = .ok (.sipush 880, 3) := by decide +kernel
theorem own_d1_73 : decode prog_174_method_10_code 73 = .ok (.if_icmp .lt 10, 3) := by decide +kernel
theorem own_d1_76 : decode prog_174_method_10_code 76 = .ok (.iload_n 0, 1) := by decide +kernel
theorem own_d1_77 : decode prog_174_method_10_code 77 = .ok (.sipush 893, 3) := by decide +kernel
theorem own_d1_80 : decode prog_174_method_10_code 80 = .ok (.if_icmp .le 108, 3) := by decide +kernel
theorem own_d1_83 : decode prog_174_method_10_code 83 = .ok (.iload_n 0, 1) := by decide +kernel
theorem own_d1_84 : decode prog_174_method_10_code 84 = .ok (.sipush 895, 3) := by decide +kernel
theorem own_d1_87 : decode prog_174_method_10_code 87 = .ok (.if_icmp .lt 10, 3) := by decide +kernel
theorem own_d1_90 : decode prog_174_method_10_code 90 = .ok (.iload_n 0, 1) := by decide +kernel
theorem own_d1_91 : decode prog_174_method_10_code 91 = .ok (.sipush 8191, 3) := by decide +kernel
theorem own_d1_94 : decode prog_174_method_10_code 94 = .ok (.if_icmp .le 94, 3) := by decide +kernel
theorem own_d1_97 : decode prog_174_method_10_code 97 = .ok (.iload_n 0, 1) := by decide +kernel
theorem own_d1_98 : decode prog_174_method_10_code 98 = .ok (.sipush 8204, 3) := by decide +kernel
theorem own_d1_101 : decode prog_174_method_10_code 101 = .ok (.if_icmp .lt 10, 3) := by decide +kernel
theorem own_d1_104 : decode prog_174_method_10_code 104 = .ok (.iload_n 0, 1) := by decide +kernel
theorem own_d1_105 : decode prog_174_method_10_code 105 = .ok (.sipush 8205, 3) := by decide +kernel
theorem own_d1_108 : decode prog_174_method_10_code 108 = .ok (.if_icmp .le 80, 3) := by decide +kernel
theorem own_d1_111 : decode prog_174_method_10_code 111 = .ok (.iload_n 0, 1) := by decide +kernel
theorem own_d1_112 : decode prog_174_method_10_code 112 = .ok (.sipush 8304, 3) := by decide +kernel
theorem own_d1_115 : decode prog_174_method_10_code 115 = .ok (.if_icmp .lt 10, 3) := by decide +kernel
theorem own_d1_118 : decode prog_174_method_10_code 118 = .ok (.iload_n 0, 1) := by decide +kernel
theorem own_d1_119 : decode prog_174_method_10_code 119 = .ok (.sipush 8591, 3) := by decide +kernel
theorem own_d1_122 : decode prog_174_method_10_code 122 = .ok (.if_icmp .le 66, 3) := by decide +kernel
theorem own_d1_125 : decode prog_174_method_10_code 125 = .ok (.iload_n 0, 1) := by decide +kernel
theorem own_d1_126 : decode prog_174_method_10_code 126 = .ok (.sipush 11264, 3) := by decide +kernel
theorem own_d1_129 : decode prog_174_method_10_code 129 = .ok (.if_icmp .lt 10, 3) := by decide +kernel
theorem own_d1_132 : decode prog_174_method_10_code 132 = .ok (.iload_n 0, 1) := by decide +kernel
theorem own_d1_133 : decode prog_174_method_10_code 133 = .ok (.sipush 12271, 3) := by decide +kernel
theorem own_d1_136 : decode prog_174_method_10_code 136 = .ok (.if_icmp .le 52, 3) := by decide +kernel
theorem own_d1_139 : decode prog_174_method_10_code 139 = .ok (.iload_n 0, 1) := by decide +kernel
theorem own_d1_140 : decode prog_174_method_10_code 140 = .ok (.sipush 12289, 3) := by decide +kernel
theorem own_d1_143 : decode prog_174_method_10_code 143 = .ok (.if_icmp .lt 9, 3) := by decide +kernel
theorem own_d1_146 : decode prog_174_method_10_code 146 = .ok (.iload_n 0, 1) := by decide +kernel
theorem own_d1_147 : decode prog_174_method_10_code 147 = .ok (.ldc 7, 2) := by decide +kernel
theorem own_d1_149 : decode prog_174_method_10_code 149 = .ok (.if_icmp .le 39, 3) := by decide +kernel
theorem own_d1_152 : decode prog_174_method_10_code 152 = .ok (.iload_n 0, 1) := by decide +kernel
theorem own_d1_153 : decode prog_174_method_10_code 153 = .ok (.ldc 56, 2) := by decide +kernel
theorem own_d1_155 : decode prog_174_method_10_code 155 = .ok (.if_icmp .lt 9, 3) := by decide +kernel
theorem own_d1_158 : decode prog_174_method_10_code 158 = .ok (.iload_n 0, 1) := by decide +kernel
theorem own_d1_159 : decode prog_174_method_10_code 159 = .ok (.ldc 57, 2) := by decide +kernel
theorem own_d1_161 : decode prog_174_method_10_code 161 = .ok (.if_icmp .le 27, 3) := by decide +kernel
theorem own_d1_164 : decode prog_174_method_10_code 164 = .ok (.iload_n 0, 1) := by decide +kernel
theorem own_d1_165 : decode prog_174_method_10_code 165 = .ok (.ldc 58, 2) := by decide +kernel
theorem own_d1_167 : decode prog_174_method_10_code 167 = .ok (.if_icmp .lt 9, 3) := by decide +kernel
theorem own_d1_170 : decode prog_174_method_10_code 170 = .ok (.iload_n 0, 1) := by decide +kernel
theorem own_d1_171 : decode prog_174_method_10_code 171 = .ok (.ldc 9, 2) := by decide +kernel
theorem own_d1_173 : decode prog_174_method_10_code 173 = .ok (.if_icmp .le 15, 3) := by decide +kernel
theorem own_d1_176 : decode prog_174_method_10_code 176 = .ok (.iload_n 0, 1) := by decide +kernel
theorem own_d1_177 : decode prog_174_method_10_code 177 = .ok (.ldc 10, 2) := by decide +kernel
theorem own_d1_179 : decode prog_174_method_10_code 179 = .ok (.if_icmp .lt 13, 3) := by decide +kernel
theorem own_d1_182 : decode prog_174_method_10_code 182 = .ok (.iload_n 0, 1) := by decide +kernel
theorem own_d1_183 : decode prog_174_method_10_code 183 = .ok (.ldc 59, 2) := by decide +kernel
theorem own_d1_185 : decode prog_174_method_10_code 185 = .ok (.if_icmp .gt 7, 3) := by decide +kernel
theorem own_d1_188 : decode prog_174_method_10_code 188 = .ok (.iconst 1, 1) := by decide +kernel
theorem own_d1_189 : decode prog_174_method_10_code 189 = .ok (.goto 4, 3) := by decide +kernel
theorem own_d1_192 : decode prog_174_method_10_code 192 = .ok (.iconst 0, 1) := by decide +kernel
theorem own_d1_193 : decode prog_174_method_10_code 193 = .ok (.ireturn, 1) := by decide +kernel
theorem own_pn1 : plainName "com/example/flycatcher/flycatcher/xml/XmlChars" = true := by first | (simp [plainName, overriddenIn]; done) | decide +kernel
def own_f1_176 (x0 : Int32) : Int32 := (if x0 < (65536 : Int32) then (0 : Int32) else (if (983039 : Int32) < x0 then (0 : Int32) else (1 : Int32)))
set_option maxRecDepth 65536 in
set_option maxHeartbeats 4000000 in
theorem own_b1_176 {p : Program} {l : Launch} {e : Env} {s : State} {m : MethodId} {args : Array Value} {below : List Frame} {meth : Method} {c : Code} {T : State} {locs : List Loc} {cells slots : Nat} {Z : State} {a0 : Array Value} {h0 : Heap} {n0 : Nat} (X0 : Stand p l e ({ frames := 0, cells := 0, slots := 0, locals := 0 } : Room) s m args below meth c T locs cells slots) (hx : p.tables.exec = Jvm.exec) (hlk : meth.locks = false) (hby : c.code = prog_174_method_10_code) (hml : c.maxLocals = 1) (hret : meth.sig.returnType = some .boolean) (hown : s.vm.findClass "com/example/flycatcher/flycatcher/xml/XmlChars" = some m.cls) (hZ : Z.Warmed39 s.vm) (hw : ∀ d ∈ tables_1, d.before a0 Z = true) (e0 : T.heap = h0) (N0 : Fr n0 locs) (hcs : cells ≤ 0) (hss : slots ≤ 0) (tA : Addr) (cA : Cell) (SA : Sta Z h0 "com/example/flycatcher/flycatcher/xml/XmlChars" "ASCII" "[B" (.ref tA)) (AA : Arr Z h0 tA cA .byte) (LA : cA.slots.size = 128) (HA : ∀ j : Int32, ¬ j < 0 → j < 128 → cA.slots[j.toNatClampNeg]? = some (.int (own_tab j))) (x0 : Int32) :
    own_Go p e below s T (mkF m 176 #[.val (.int x0)] []) (own_QP (.int (nar .boolean (own_f1_176 x0))) h0 n0) 0 0 := by
  unfold own_f1_176
  refine own_st (g' := (mkF m 177 #[.val (.int x0)] [(.int x0)])) (fun tt_ kk_ => XS.iloadN X0.here hx rfl (hb hby own_d1_176) rfl kk_) ?_
  refine own_st (g' := (mkF m 179 #[.val (.int x0)] [(.int (65536 : Int32)), (.int x0)])) (fun tt_ kk_ => X0.ldcInt hx hown (mvT hZ (hw _ (List.mem_of_getElem? (i := 32) rfl))) (g := (mkF m 177 #[.val (.int x0)] [(.int x0)])) rfl (hb hby own_d1_177) _ kk_) ?_
  by_cases hc179 : x0 < (65536 : Int32)
  · rw [if_pos hc179]
    refine own_st (g' := (mkF m 192 #[.val (.int x0)] [])) (fun tt_ kk_ => XS.icmpYes X0.here hx rfl (pc0 := 179) (pc' := 192) rfl (hb hby own_d1_179) rfl (tlt hc179).1 (by decide) (by decide) kk_) ?_
    refine own_st (g' := (mkF m 193 #[.val (.int x0)] [(.int (0 : Int32))])) (fun tt_ kk_ => XS.iconst X0.here hx rfl (hb hby own_d1_192) kk_) ?_
    exact own_retN X0 hx hlk (t := .boolean) (Or.inl rfl) hret (hb hby own_d1_193) hcs hss ⟨rfl, N0, e0⟩
  rw [if_neg hc179]
  refine own_st (g' := (mkF m 182 #[.val (.int x0)] [])) (fun tt_ kk_ => XS.icmpNo X0.here hx rfl (hb hby own_d1_179) rfl (flt hc179).1 kk_) ?_
  refine own_st (g' := (mkF m 183 #[.val (.int x0)] [(.int x0)])) (fun tt_ kk_ => XS.iloadN X0.here hx rfl (hb hby own_d1_182) rfl kk_) ?_
  refine own_st (g' := (mkF m 185 #[.val (.int x0)] [(.int (983039 : Int32)), (.int x0)])) (fun tt_ kk_ => X0.ldcInt hx hown (mvT hZ (hw _ (List.mem_of_getElem? (i := 36) rfl))) (g := (mkF m 183 #[.val (.int x0)] [(.int x0)])) rfl (hb hby own_d1_183) _ kk_) ?_
  by_cases hc185 : (983039 : Int32) < x0
  · rw [if_pos hc185]
    refine own_st (g' := (mkF m 192 #[.val (.int x0)] [])) (fun tt_ kk_ => XS.icmpYes X0.here hx rfl (pc0 := 185) (pc' := 192) rfl (hb hby own_d1_185) rfl (tlt hc185).2.2.1 (by decide) (by decide) kk_) ?_
    refine own_st (g' := (mkF m 193 #[.val (.int x0)] [(.int (0 : Int32))])) (fun tt_ kk_ => XS.iconst X0.here hx rfl (hb hby own_d1_192) kk_) ?_
    exact own_retN X0 hx hlk (t := .boolean) (Or.inl rfl) hret (hb hby own_d1_193) hcs hss ⟨rfl, N0, e0⟩
  rw [if_neg hc185]
  refine own_st (g' := (mkF m 188 #[.val (.int x0)] [])) (fun tt_ kk_ => XS.icmpNo X0.here hx rfl (hb hby own_d1_185) rfl (flt hc185).2.2.1 kk_) ?_
  refine own_st (g' := (mkF m 189 #[.val (.int x0)] [(.int (1 : Int32))])) (fun tt_ kk_ => XS.iconst X0.here hx rfl (hb hby own_d1_188) kk_) ?_
  refine own_st (g' := (mkF m 193 #[.val (.int x0)] [(.int (1 : Int32))])) (fun tt_ kk_ => XS.goto X0.here hx rfl (pc0 := 189) (pc' := 193) rfl (hb hby own_d1_189) (by decide) (by decide) kk_) ?_
  exact own_retN X0 hx hlk (t := .boolean) (Or.inl rfl) hret (hb hby own_d1_193) hcs hss ⟨rfl, N0, e0⟩
def own_f1_164 (x0 : Int32) : Int32 := (if x0 < (65008 : Int32) then (own_f1_176 x0) else (if (65533 : Int32) < x0 then (own_f1_176 x0) else (1 : Int32)))
set_option maxRecDepth 65536 in
set_option maxHeartbeats 4000000 in
theorem own_b1_164 {p : Program} {l : Launch} {e : Env} {s : State} {m : MethodId} {args : Array Value} {below : List Frame} {meth : Method} {c : Code} {T : State} {locs : List Loc} {cells slots : Nat} {Z : State} {a0 : Array Value} {h0 : Heap} {n0 : Nat} (X0 : Stand p l e ({ frames := 0, cells := 0, slots := 0, locals := 0 } : Room) s m args below meth c T locs cells slots) (hx : p.tables.exec = Jvm.exec) (hlk : meth.locks = false) (hby : c.code = prog_174_method_10_code) (hml : c.maxLocals = 1) (hret : meth.sig.returnType = some .boolean) (hown : s.vm.findClass "com/example/flycatcher/flycatcher/xml/XmlChars" = some m.cls) (hZ : Z.Warmed39 s.vm) (hw : ∀ d ∈ tables_1, d.before a0 Z = true) (e0 : T.heap = h0) (N0 : Fr n0 locs) (hcs : cells ≤ 0) (hss : slots ≤ 0) (tA : Addr) (cA : Cell) (SA : Sta Z h0 "com/example/flycatcher/flycatcher/xml/XmlChars" "ASCII" "[B" (.ref tA)) (AA : Arr Z h0 tA cA .byte) (LA : cA.slots.size = 128) (HA : ∀ j : Int32, ¬ j < 0 → j < 128 → cA.slots[j.toNatClampNeg]? = some (.int (own_tab j))) (x0 : Int32) :
    own_Go p e below s T (mkF m 164 #[.val (.int x0)] []) (own_QP (.int (nar .boolean (own_f1_164 x0))) h0 n0) 0 0 := by
  unfold own_f1_164
  refine own_st (g' := (mkF m 165 #[.val (.int x0)] [(.int x0)])) (fun tt_ kk_ => XS.iloadN X0.here hx rfl (hb hby own_d1_164) rfl kk_) ?_
  refine own_st (g' := (mkF m 167 #[.val (.int x0)] [(.int (65008 : Int32)), (.int x0)])) (fun tt_ kk_ => X0.ldcInt hx hown (mvT hZ (hw _ (List.mem_of_getElem? (i := 31) rfl))) (g := (mkF m 165 #[.val (.int x0)] [(.int x0)])) rfl (hb hby own_d1_165) _ kk_) ?_
  by_cases hc167 : x0 < (65008 : Int32)
  · rw [if_pos hc167]
    refine own_st (g' := (mkF m 176 #[.val (.int x0)] [])) (fun tt_ kk_ => XS.icmpYes X0.here hx rfl (pc0 := 167) (pc' := 176) rfl (hb hby own_d1_167) rfl (tlt hc167).1 (by decide) (by decide) kk_) ?_
    exact own_b1_176 X0 hx hlk hby hml hret hown hZ hw e0 N0 hcs hss tA cA SA AA LA HA x0
  rw [if_neg hc167]
  refine own_st (g' := (mkF m 170 #[.val (.int x0)] [])) (fun tt_ kk_ => XS.icmpNo X0.here hx rfl (hb hby own_d1_167) rfl (flt hc167).1 kk_) ?_
  refine own_st (g' := (mkF m 171 #[.val (.int x0)] [(.int x0)])) (fun tt_ kk_ => XS.iloadN X0.here hx rfl (hb hby own_d1_170) rfl kk_) ?_
  refine own_st (g' := (mkF m 173 #[.val (.int x0)] [(.int (65533 : Int32)), (.int x0)])) (fun tt_ kk_ => X0.ldcInt hx hown (mvT hZ (hw _ (List.mem_of_getElem? (i := 35) rfl))) (g := (mkF m 171 #[.val (.int x0)] [(.int x0)])) rfl (hb hby own_d1_171) _ kk_) ?_
  by_cases hc173 : (65533 : Int32) < x0
  · rw [if_pos hc173]
    refine own_st (g' := (mkF m 176 #[.val (.int x0)] [])) (fun tt_ kk_ => XS.icmpNo X0.here hx rfl (hb hby own_d1_173) rfl (tlt hc173).2.2.2 kk_) ?_
    exact own_b1_176 X0 hx hlk hby hml hret hown hZ hw e0 N0 hcs hss tA cA SA AA LA HA x0
  rw [if_neg hc173]
  refine own_st (g' := (mkF m 188 #[.val (.int x0)] [])) (fun tt_ kk_ => XS.icmpYes X0.here hx rfl (pc0 := 173) (pc' := 188) rfl (hb hby own_d1_173) rfl (flt hc173).2.2.2 (by decide) (by decide) kk_) ?_
  refine own_st (g' := (mkF m 189 #[.val (.int x0)] [(.int (1 : Int32))])) (fun tt_ kk_ => XS.iconst X0.here hx rfl (hb hby own_d1_188) kk_) ?_
  refine own_st (g' := (mkF m 193 #[.val (.int x0)] [(.int (1 : Int32))])) (fun tt_ kk_ => XS.goto X0.here hx rfl (pc0 := 189) (pc' := 193) rfl (hb hby own_d1_189) (by decide) (by decide) kk_) ?_
  exact own_retN X0 hx hlk (t := .boolean) (Or.inl rfl) hret (hb hby own_d1_193) hcs hss ⟨rfl, N0, e0⟩
def own_f1_152 (x0 : Int32) : Int32 := (if x0 < (63744 : Int32) then (own_f1_164 x0) else (if (64975 : Int32) < x0 then (own_f1_164 x0) else (1 : Int32)))
set_option maxRecDepth 65536 in
set_option maxHeartbeats 4000000 in
theorem own_b1_152 {p : Program} {l : Launch} {e : Env} {s : State} {m : MethodId} {args : Array Value} {below : List Frame} {meth : Method} {c : Code} {T : State} {locs : List Loc} {cells slots : Nat} {Z : State} {a0 : Array Value} {h0 : Heap} {n0 : Nat} (X0 : Stand p l e ({ frames := 0, cells := 0, slots := 0, locals := 0 } : Room) s m args below meth c T locs cells slots) (hx : p.tables.exec = Jvm.exec) (hlk : meth.locks = false) (hby : c.code = prog_174_method_10_code) (hml : c.maxLocals = 1) (hret : meth.sig.returnType = some .boolean) (hown : s.vm.findClass "com/example/flycatcher/flycatcher/xml/XmlChars" = some m.cls) (hZ : Z.Warmed39 s.vm) (hw : ∀ d ∈ tables_1, d.before a0 Z = true) (e0 : T.heap = h0) (N0 : Fr n0 locs) (hcs : cells ≤ 0) (hss : slots ≤ 0) (tA : Addr) (cA : Cell) (SA : Sta Z h0 "com/example/flycatcher/flycatcher/xml/XmlChars" "ASCII" "[B" (.ref tA)) (AA : Arr Z h0 tA cA .byte) (LA : cA.slots.size = 128) (HA : ∀ j : Int32, ¬ j < 0 → j < 128 → cA.slots[j.toNatClampNeg]? = some (.int (own_tab j))) (x0 : Int32) :
    own_Go p e below s T (mkF m 152 #[.val (.int x0)] []) (own_QP (.int (nar .boolean (own_f1_152 x0))) h0 n0) 0 0 := by
  unfold own_f1_152
  refine own_st (g' := (mkF m 153 #[.val (.int x0)] [(.int x0)])) (fun tt_ kk_ => XS.iloadN X0.here hx rfl (hb hby own_d1_152) rfl kk_) ?_
  refine own_st (g' := (mkF m 155 #[.val (.int x0)] [(.int (63744 : Int32)), (.int x0)])) (fun tt_ kk_ => X0.ldcInt hx hown (mvT hZ (hw _ (List.mem_of_getElem? (i := 30) rfl))) (g := (mkF m 153 #[.val (.int x0)] [(.int x0)])) rfl (hb hby own_d1_153) _ kk_) ?_
  by_cases hc155 : x0 < (63744 : Int32)
  · rw [if_pos hc155]
    refine own_st (g' := (mkF m 164 #[.val (.int x0)] [])) (fun tt_ kk_ => XS.icmpYes X0.here hx rfl (pc0 := 155) (pc' := 164) rfl (hb hby own_d1_155) rfl (tlt hc155).1 (by decide) (by decide) kk_) ?_
    exact own_b1_164 X0 hx hlk hby hml hret hown hZ hw e0 N0 hcs hss tA cA SA AA LA HA x0
  rw [if_neg hc155]
  refine own_st (g' := (mkF m 158 #[.val (.int x0)] [])) (fun tt_ kk_ => XS.icmpNo X0.here hx rfl (hb hby own_d1_155) rfl (flt hc155).1 kk_) ?_
  refine own_st (g' := (mkF m 159 #[.val (.int x0)] [(.int x0)])) (fun tt_ kk_ => XS.iloadN X0.here hx rfl (hb hby own_d1_158) rfl kk_) ?_
  refine own_st (g' := (mkF m 161 #[.val (.int x0)] [(.int (64975 : Int32)), (.int x0)])) (fun tt_ kk_ => X0.ldcInt hx hown (mvT hZ (hw _ (List.mem_of_getElem? (i := 34) rfl))) (g := (mkF m 159 #[.val (.int x0)] [(.int x0)])) rfl (hb hby own_d1_159) _ kk_) ?_
  by_cases hc161 : (64975 : Int32) < x0
  · rw [if_pos hc161]
    refine own_st (g' := (mkF m 164 #[.val (.int x0)] [])) (fun tt_ kk_ => XS.icmpNo X0.here hx rfl (hb hby own_d1_161) rfl (tlt hc161).2.2.2 kk_) ?_
    exact own_b1_164 X0 hx hlk hby hml hret hown hZ hw e0 N0 hcs hss tA cA SA AA LA HA x0
  rw [if_neg hc161]
  refine own_st (g' := (mkF m 188 #[.val (.int x0)] [])) (fun tt_ kk_ => XS.icmpYes X0.here hx rfl (pc0 := 161) (pc' := 188) rfl (hb hby own_d1_161) rfl (flt hc161).2.2.2 (by decide) (by decide) kk_) ?_
  refine own_st (g' := (mkF m 189 #[.val (.int x0)] [(.int (1 : Int32))])) (fun tt_ kk_ => XS.iconst X0.here hx rfl (hb hby own_d1_188) kk_) ?_
  refine own_st (g' := (mkF m 193 #[.val (.int x0)] [(.int (1 : Int32))])) (fun tt_ kk_ => XS.goto X0.here hx rfl (pc0 := 189) (pc' := 193) rfl (hb hby own_d1_189) (by decide) (by decide) kk_) ?_
  exact own_retN X0 hx hlk (t := .boolean) (Or.inl rfl) hret (hb hby own_d1_193) hcs hss ⟨rfl, N0, e0⟩
def own_f1_139 (x0 : Int32) : Int32 := (if x0 < (12289 : Int32) then (own_f1_152 x0) else (if (55295 : Int32) < x0 then (own_f1_152 x0) else (1 : Int32)))
set_option maxRecDepth 65536 in
set_option maxHeartbeats 4000000 in
theorem own_b1_139 {p : Program} {l : Launch} {e : Env} {s : State} {m : MethodId} {args : Array Value} {below : List Frame} {meth : Method} {c : Code} {T : State} {locs : List Loc} {cells slots : Nat} {Z : State} {a0 : Array Value} {h0 : Heap} {n0 : Nat} (X0 : Stand p l e ({ frames := 0, cells := 0, slots := 0, locals := 0 } : Room) s m args below meth c T locs cells slots) (hx : p.tables.exec = Jvm.exec) (hlk : meth.locks = false) (hby : c.code = prog_174_method_10_code) (hml : c.maxLocals = 1) (hret : meth.sig.returnType = some .boolean) (hown : s.vm.findClass "com/example/flycatcher/flycatcher/xml/XmlChars" = some m.cls) (hZ : Z.Warmed39 s.vm) (hw : ∀ d ∈ tables_1, d.before a0 Z = true) (e0 : T.heap = h0) (N0 : Fr n0 locs) (hcs : cells ≤ 0) (hss : slots ≤ 0) (tA : Addr) (cA : Cell) (SA : Sta Z h0 "com/example/flycatcher/flycatcher/xml/XmlChars" "ASCII" "[B" (.ref tA)) (AA : Arr Z h0 tA cA .byte) (LA : cA.slots.size = 128) (HA : ∀ j : Int32, ¬ j < 0 → j < 128 → cA.slots[j.toNatClampNeg]? = some (.int (own_tab j))) (x0 : Int32) :
    own_Go p e below s T (mkF m 139 #[.val (.int x0)] []) (own_QP (.int (nar .boolean (own_f1_139 x0))) h0 n0) 0 0 := by
  unfold own_f1_139
  refine own_st (g' := (mkF m 140 #[.val (.int x0)] [(.int x0)])) (fun tt_ kk_ => XS.iloadN X0.here hx rfl (hb hby own_d1_139) rfl kk_) ?_
  refine own_st (g' := (mkF m 143 #[.val (.int x0)] [(.int (12289 : Int32)), (.int x0)])) (fun tt_ kk_ => XS.sipush X0.here hx rfl (hb hby own_d1_140) kk_) ?_
  by_cases hc143 : x0 < (12289 : Int32)
  · rw [if_pos hc143]
    refine own_st (g' := (mkF m 152 #[.val (.int x0)] [])) (fun tt_ kk_ => XS.icmpYes X0.here hx rfl (pc0 := 143) (pc' := 152) rfl (hb hby own_d1_143) rfl (tlt hc143).1 (by decide) (by decide) kk_) ?_
    exact own_b1_152 X0 hx hlk hby hml hret hown hZ hw e0 N0 hcs hss tA cA SA AA LA HA x0
  rw [if_neg hc143]
  refine own_st (g' := (mkF m 146 #[.val (.int x0)] [])) (fun tt_ kk_ => XS.icmpNo X0.here hx rfl (hb hby own_d1_143) rfl (flt hc143).1 kk_) ?_
  refine own_st (g' := (mkF m 147 #[.val (.int x0)] [(.int x0)])) (fun tt_ kk_ => XS.iloadN X0.here hx rfl (hb hby own_d1_146) rfl kk_) ?_
  refine own_st (g' := (mkF m 149 #[.val (.int x0)] [(.int (55295 : Int32)), (.int x0)])) (fun tt_ kk_ => X0.ldcInt hx hown (mvT hZ (hw _ (List.mem_of_getElem? (i := 33) rfl))) (g := (mkF m 147 #[.val (.int x0)] [(.int x0)])) rfl (hb hby own_d1_147) _ kk_) ?_
  by_cases hc149 : (55295 : Int32) < x0
  · rw [if_pos hc149]
    refine own_st (g' := (mkF m 152 #[.val (.int x0)] [])) (fun tt_ kk_ => XS.icmpNo X0.here hx rfl (hb hby own_d1_149) rfl (tlt hc149).2.2.2 kk_) ?_
    exact own_b1_152 X0 hx hlk hby hml hret hown hZ hw e0 N0 hcs hss tA cA SA AA LA HA x0
  rw [if_neg hc149]
  refine own_st (g' := (mkF m 188 #[.val (.int x0)] [])) (fun tt_ kk_ => XS.icmpYes X0.here hx rfl (pc0 := 149) (pc' := 188) rfl (hb hby own_d1_149) rfl (flt hc149).2.2.2 (by decide) (by decide) kk_) ?_
  refine own_st (g' := (mkF m 189 #[.val (.int x0)] [(.int (1 : Int32))])) (fun tt_ kk_ => XS.iconst X0.here hx rfl (hb hby own_d1_188) kk_) ?_
  refine own_st (g' := (mkF m 193 #[.val (.int x0)] [(.int (1 : Int32))])) (fun tt_ kk_ => XS.goto X0.here hx rfl (pc0 := 189) (pc' := 193) rfl (hb hby own_d1_189) (by decide) (by decide) kk_) ?_
  exact own_retN X0 hx hlk (t := .boolean) (Or.inl rfl) hret (hb hby own_d1_193) hcs hss ⟨rfl, N0, e0⟩
def own_f1_125 (x0 : Int32) : Int32 := (if x0 < (11264 : Int32) then (own_f1_139 x0) else (if (12271 : Int32) < x0 then (own_f1_139 x0) else (1 : Int32)))
set_option maxRecDepth 65536 in
set_option maxHeartbeats 4000000 in
theorem own_b1_125 {p : Program} {l : Launch} {e : Env} {s : State} {m : MethodId} {args : Array Value} {below : List Frame} {meth : Method} {c : Code} {T : State} {locs : List Loc} {cells slots : Nat} {Z : State} {a0 : Array Value} {h0 : Heap} {n0 : Nat} (X0 : Stand p l e ({ frames := 0, cells := 0, slots := 0, locals := 0 } : Room) s m args below meth c T locs cells slots) (hx : p.tables.exec = Jvm.exec) (hlk : meth.locks = false) (hby : c.code = prog_174_method_10_code) (hml : c.maxLocals = 1) (hret : meth.sig.returnType = some .boolean) (hown : s.vm.findClass "com/example/flycatcher/flycatcher/xml/XmlChars" = some m.cls) (hZ : Z.Warmed39 s.vm) (hw : ∀ d ∈ tables_1, d.before a0 Z = true) (e0 : T.heap = h0) (N0 : Fr n0 locs) (hcs : cells ≤ 0) (hss : slots ≤ 0) (tA : Addr) (cA : Cell) (SA : Sta Z h0 "com/example/flycatcher/flycatcher/xml/XmlChars" "ASCII" "[B" (.ref tA)) (AA : Arr Z h0 tA cA .byte) (LA : cA.slots.size = 128) (HA : ∀ j : Int32, ¬ j < 0 → j < 128 → cA.slots[j.toNatClampNeg]? = some (.int (own_tab j))) (x0 : Int32) :
    own_Go p e below s T (mkF m 125 #[.val (.int x0)] []) (own_QP (.int (nar .boolean (own_f1_125 x0))) h0 n0) 0 0 := by
  unfold own_f1_125
  refine own_st (g' := (mkF m 126 #[.val (.int x0)] [(.int x0)])) (fun tt_ kk_ => XS.iloadN X0.here hx rfl (hb hby own_d1_125) rfl kk_) ?_
  refine own_st (g' := (mkF m 129 #[.val (.int x0)] [(.int (11264 : Int32)), (.int x0)])) (fun tt_ kk_ => XS.sipush X0.here hx rfl (hb hby own_d1_126) kk_) ?_
  by_cases hc129 : x0 < (11264 : Int32)
  · rw [if_pos hc129]
    refine own_st (g' := (mkF m 139 #[.val (.int x0)] [])) (fun tt_ kk_ => XS.icmpYes X0.here hx rfl (pc0 := 129) (pc' := 139) rfl (hb hby own_d1_129) rfl (tlt hc129).1 (by decide) (by decide) kk_) ?_
    exact own_b1_139 X0 hx hlk hby hml hret hown hZ hw e0 N0 hcs hss tA cA SA AA LA HA x0
  rw [if_neg hc129]
  refine own_st (g' := (mkF m 132 #[.val (.int x0)] [])) (fun tt_ kk_ => XS.icmpNo X0.here hx rfl (hb hby own_d1_129) rfl (flt hc129).1 kk_) ?_
  refine own_st (g' := (mkF m 133 #[.val (.int x0)] [(.int x0)])) (fun tt_ kk_ => XS.iloadN X0.here hx rfl (hb hby own_d1_132) rfl kk_) ?_
  refine own_st (g' := (mkF m 136 #[.val (.int x0)] [(.int (12271 : Int32)), (.int x0)])) (fun tt_ kk_ => XS.sipush X0.here hx rfl (hb hby own_d1_133) kk_) ?_
  by_cases hc136 : (12271 : Int32) < x0
  · rw [if_pos hc136]
    refine own_st (g' := (mkF m 139 #[.val (.int x0)] [])) (fun tt_ kk_ => XS.icmpNo X0.here hx rfl (hb hby own_d1_136) rfl (tlt hc136).2.2.2 kk_) ?_
    exact own_b1_139 X0 hx hlk hby hml hret hown hZ hw e0 N0 hcs hss tA cA SA AA LA HA x0
  rw [if_neg hc136]
  refine own_st (g' := (mkF m 188 #[.val (.int x0)] [])) (fun tt_ kk_ => XS.icmpYes X0.here hx rfl (pc0 := 136) (pc' := 188) rfl (hb hby own_d1_136) rfl (flt hc136).2.2.2 (by decide) (by decide) kk_) ?_
  refine own_st (g' := (mkF m 189 #[.val (.int x0)] [(.int (1 : Int32))])) (fun tt_ kk_ => XS.iconst X0.here hx rfl (hb hby own_d1_188) kk_) ?_
  refine own_st (g' := (mkF m 193 #[.val (.int x0)] [(.int (1 : Int32))])) (fun tt_ kk_ => XS.goto X0.here hx rfl (pc0 := 189) (pc' := 193) rfl (hb hby own_d1_189) (by decide) (by decide) kk_) ?_
  exact own_retN X0 hx hlk (t := .boolean) (Or.inl rfl) hret (hb hby own_d1_193) hcs hss ⟨rfl, N0, e0⟩
def own_f1_111 (x0 : Int32) : Int32 := (if x0 < (8304 : Int32) then (own_f1_125 x0) else (if (8591 : Int32) < x0 then (own_f1_125 x0) else (1 : Int32)))
set_option maxRecDepth 65536 in
set_option maxHeartbeats 4000000 in
theorem own_b1_111 {p : Program} {l : Launch} {e : Env} {s : State} {m : MethodId} {args : Array Value} {below : List Frame} {meth : Method} {c : Code} {T : State} {locs : List Loc} {cells slots : Nat} {Z : State} {a0 : Array Value} {h0 : Heap} {n0 : Nat} (X0 : Stand p l e ({ frames := 0, cells := 0, slots := 0, locals := 0 } : Room) s m args below meth c T locs cells slots) (hx : p.tables.exec = Jvm.exec) (hlk : meth.locks = false) (hby : c.code = prog_174_method_10_code) (hml : c.maxLocals = 1) (hret : meth.sig.returnType = some .boolean) (hown : s.vm.findClass "com/example/flycatcher/flycatcher/xml/XmlChars" = some m.cls) (hZ : Z.Warmed39 s.vm) (hw : ∀ d ∈ tables_1, d.before a0 Z = true) (e0 : T.heap = h0) (N0 : Fr n0 locs) (hcs : cells ≤ 0) (hss : slots ≤ 0) (tA : Addr) (cA : Cell) (SA : Sta Z h0 "com/example/flycatcher/flycatcher/xml/XmlChars" "ASCII" "[B" (.ref tA)) (AA : Arr Z h0 tA cA .byte) (LA : cA.slots.size = 128) (HA : ∀ j : Int32, ¬ j < 0 → j < 128 → cA.slots[j.toNatClampNeg]? = some (.int (own_tab j))) (x0 : Int32) :
    own_Go p e below s T (mkF m 111 #[.val (.int x0)] []) (own_QP (.int (nar .boolean (own_f1_111 x0))) h0 n0) 0 0 := by
  unfold own_f1_111
  refine own_st (g' := (mkF m 112 #[.val (.int x0)] [(.int x0)])) (fun tt_ kk_ => XS.iloadN X0.here hx rfl (hb hby own_d1_111) rfl kk_) ?_
  refine own_st (g' := (mkF m 115 #[.val (.int x0)] [(.int (8304 : Int32)), (.int x0)])) (fun tt_ kk_ => XS.sipush X0.here hx rfl (hb hby own_d1_112) kk_) ?_
  by_cases hc115 : x0 < (8304 : Int32)
  · rw [if_pos hc115]
    refine own_st (g' := (mkF m 125 #[.val (.int x0)] [])) (fun tt_ kk_ => XS.icmpYes X0.here hx rfl (pc0 := 115) (pc' := 125) rfl (hb hby own_d1_115) rfl (tlt hc115).1 (by decide) (by decide) kk_) ?_
    exact own_b1_125 X0 hx hlk hby hml hret hown hZ hw e0 N0 hcs hss tA cA SA AA LA HA x0
  rw [if_neg hc115]
  refine own_st (g' := (mkF m 118 #[.val (.int x0)] [])) (fun tt_ kk_ => XS.icmpNo X0.here hx rfl (hb hby own_d1_115) rfl (flt hc115).1 kk_) ?_
  refine own_st (g' := (mkF m 119 #[.val (.int x0)] [(.int x0)])) (fun tt_ kk_ => XS.iloadN X0.here hx rfl (hb hby own_d1_118) rfl kk_) ?_
  refine own_st (g' := (mkF m 122 #[.val (.int x0)] [(.int (8591 : Int32)), (.int x0)])) (fun tt_ kk_ => XS.sipush X0.here hx rfl (hb hby own_d1_119) kk_) ?_
  by_cases hc122 : (8591 : Int32) < x0
  · rw [if_pos hc122]
    refine own_st (g' := (mkF m 125 #[.val (.int x0)] [])) (fun tt_ kk_ => XS.icmpNo X0.here hx rfl (hb hby own_d1_122) rfl (tlt hc122).2.2.2 kk_) ?_
    exact own_b1_125 X0 hx hlk hby hml hret hown hZ hw e0 N0 hcs hss tA cA SA AA LA HA x0
  rw [if_neg hc122]
  refine own_st (g' := (mkF m 188 #[.val (.int x0)] [])) (fun tt_ kk_ => XS.icmpYes X0.here hx rfl (pc0 := 122) (pc' := 188) rfl (hb hby own_d1_122) rfl (flt hc122).2.2.2 (by decide) (by decide) kk_) ?_
  refine own_st (g' := (mkF m 189 #[.val (.int x0)] [(.int (1 : Int32))])) (fun tt_ kk_ => XS.iconst X0.here hx rfl (hb hby own_d1_188) kk_) ?_
  refine own_st (g' := (mkF m 193 #[.val (.int x0)] [(.int (1 : Int32))])) (fun tt_ kk_ => XS.goto X0.here hx rfl (pc0 := 189) (pc' := 193) rfl (hb hby own_d1_189) (by decide) (by decide) kk_) ?_
  exact own_retN X0 hx hlk (t := .boolean) (Or.inl rfl) hret (hb hby own_d1_193) hcs hss ⟨rfl, N0, e0⟩
def own_f1_97 (x0 : Int32) : Int32 := (if x0 < (8204 : Int32) then (own_f1_111 x0) else (if (8205 : Int32) < x0 then (own_f1_111 x0) else (1 : Int32)))
set_option maxRecDepth 65536 in
set_option maxHeartbeats 4000000 in
theorem own_b1_97 {p : Program} {l : Launch} {e : Env} {s : State} {m : MethodId} {args : Array Value} {below : List Frame} {meth : Method} {c : Code} {T : State} {locs : List Loc} {cells slots : Nat} {Z : State} {a0 : Array Value} {h0 : Heap} {n0 : Nat} (X0 : Stand p l e ({ frames := 0, cells := 0, slots := 0, locals := 0 } : Room) s m args below meth c T locs cells slots) (hx : p.tables.exec = Jvm.exec) (hlk : meth.locks = false) (hby : c.code = prog_174_method_10_code) (hml : c.maxLocals = 1) (hret : meth.sig.returnType = some .boolean) (hown : s.vm.findClass "com/example/flycatcher/flycatcher/xml/XmlChars" = some m.cls) (hZ : Z.Warmed39 s.vm) (hw : ∀ d ∈ tables_1, d.before a0 Z = true) (e0 : T.heap = h0) (N0 : Fr n0 locs) (hcs : cells ≤ 0) (hss : slots ≤ 0) (tA : Addr) (cA : Cell) (SA : Sta Z h0 "com/example/flycatcher/flycatcher/xml/XmlChars" "ASCII" "[B" (.ref tA)) (AA : Arr Z h0 tA cA .byte) (LA : cA.slots.size = 128) (HA : ∀ j : Int32, ¬ j < 0 → j < 128 → cA.slots[j.toNatClampNeg]? = some (.int (own_tab j))) (x0 : Int32) :
    own_Go p e below s T (mkF m 97 #[.val (.int x0)] []) (own_QP (.int (nar .boolean (own_f1_97 x0))) h0 n0) 0 0 := by
  unfold own_f1_97
  refine own_st (g' := (mkF m 98 #[.val (.int x0)] [(.int x0)])) (fun tt_ kk_ => XS.iloadN X0.here hx rfl (hb hby own_d1_97) rfl kk_) ?_
  refine own_st (g' := (mkF m 101 #[.val (.int x0)] [(.int (8204 : Int32)), (.int x0)])) (fun tt_ kk_ => XS.sipush X0.here hx rfl (hb hby own_d1_98) kk_) ?_
  by_cases hc101 : x0 < (8204 : Int32)
  · rw [if_pos hc101]
    refine own_st (g' := (mkF m 111 #[.val (.int x0)] [])) (fun tt_ kk_ => XS.icmpYes X0.here hx rfl (pc0 := 101) (pc' := 111) rfl (hb hby own_d1_101) rfl (tlt hc101).1 (by decide) (by decide) kk_) ?_
    exact own_b1_111 X0 hx hlk hby hml hret hown hZ hw e0 N0 hcs hss tA cA SA AA LA HA x0
  rw [if_neg hc101]
  refine own_st (g' := (mkF m 104 #[.val (.int x0)] [])) (fun tt_ kk_ => XS.icmpNo X0.here hx rfl (hb hby own_d1_101) rfl (flt hc101).1 kk_) ?_
  refine own_st (g' := (mkF m 105 #[.val (.int x0)] [(.int x0)])) (fun tt_ kk_ => XS.iloadN X0.here hx rfl (hb hby own_d1_104) rfl kk_) ?_
  refine own_st (g' := (mkF m 108 #[.val (.int x0)] [(.int (8205 : Int32)), (.int x0)])) (fun tt_ kk_ => XS.sipush X0.here hx rfl (hb hby own_d1_105) kk_) ?_
  by_cases hc108 : (8205 : Int32) < x0
  · rw [if_pos hc108]
    refine own_st (g' := (mkF m 111 #[.val (.int x0)] [])) (fun tt_ kk_ => XS.icmpNo X0.here hx rfl (hb hby own_d1_108) rfl (tlt hc108).2.2.2 kk_) ?_
    exact own_b1_111 X0 hx hlk hby hml hret hown hZ hw e0 N0 hcs hss tA cA SA AA LA HA x0
  rw [if_neg hc108]
  refine own_st (g' := (mkF m 188 #[.val (.int x0)] [])) (fun tt_ kk_ => XS.icmpYes X0.here hx rfl (pc0 := 108) (pc' := 188) rfl (hb hby own_d1_108) rfl (flt hc108).2.2.2 (by decide) (by decide) kk_) ?_
  refine own_st (g' := (mkF m 189 #[.val (.int x0)] [(.int (1 : Int32))])) (fun tt_ kk_ => XS.iconst X0.here hx rfl (hb hby own_d1_188) kk_) ?_
  refine own_st (g' := (mkF m 193 #[.val (.int x0)] [(.int (1 : Int32))])) (fun tt_ kk_ => XS.goto X0.here hx rfl (pc0 := 189) (pc' := 193) rfl (hb hby own_d1_189) (by decide) (by decide) kk_) ?_
  exact own_retN X0 hx hlk (t := .boolean) (Or.inl rfl) hret (hb hby own_d1_193) hcs hss ⟨rfl, N0, e0⟩
def own_f1_83 (x0 : Int32) : Int32 := (if x0 < (895 : Int32) then (own_f1_97 x0) else (if (8191 : Int32) < x0 then (own_f1_97 x0) else (1 : Int32)))
set_option maxRecDepth 65536 in
set_option maxHeartbeats 4000000 in
theorem own_b1_83 {p : Program} {l : Launch} {e : Env} {s : State} {m : MethodId} {args : Array Value} {below : List Frame} {meth : Method} {c : Code} {T : State} {locs : List Loc} {cells slots : Nat} {Z : State} {a0 : Array Value} {h0 : Heap} {n0 : Nat} (X0 : Stand p l e ({ frames := 0, cells := 0, slots := 0, locals := 0 } : Room) s m args below meth c T locs cells slots) (hx : p.tables.exec = Jvm.exec) (hlk : meth.locks = false) (hby : c.code = prog_174_method_10_code) (hml : c.maxLocals = 1) (hret : meth.sig.returnType = some .boolean) (hown : s.vm.findClass "com/example/flycatcher/flycatcher/xml/XmlChars" = some m.cls) (hZ : Z.Warmed39 s.vm) (hw : ∀ d ∈ tables_1, d.before a0 Z = true) (e0 : T.heap = h0) (N0 : Fr n0 locs) (hcs : cells ≤ 0) (hss : slots ≤ 0) (tA : Addr) (cA : Cell) (SA : Sta Z h0 "com/example/flycatcher/flycatcher/xml/XmlChars" "ASCII" "[B" (.ref tA)) (AA : Arr Z h0 tA cA .byte) (LA : cA.slots.size = 128) (HA : ∀ j : Int32, ¬ j < 0 → j < 128 → cA.slots[j.toNatClampNeg]? = some (.int (own_tab j))) (x0 : Int32) :
    own_Go p e below s T (mkF m 83 #[.val (.int x0)] []) (own_QP (.int (nar .boolean (own_f1_83 x0))) h0 n0) 0 0 := by
  unfold own_f1_83
  refine own_st (g' := (mkF m 84 #[.val (.int x0)] [(.int x0)])) (fun tt_ kk_ => XS.iloadN X0.here hx rfl (hb hby own_d1_83) rfl kk_) ?_
  refine own_st (g' := (mkF m 87 #[.val (.int x0)] [(.int (895 : Int32)), (.int x0)])) (fun tt_ kk_ => XS.sipush X0.here hx rfl (hb hby own_d1_84) kk_) ?_
  by_cases hc87 : x0 < (895 : Int32)
  · rw [if_pos hc87]
    refine own_st (g' := (mkF m 97 #[.val (.int x0)] [])) (fun tt_ kk_ => XS.icmpYes X0.here hx rfl (pc0 := 87) (pc' := 97) rfl (hb hby own_d1_87) rfl (tlt hc87).1 (by decide) (by decide) kk_) ?_
    exact own_b1_97 X0 hx hlk hby hml hret hown hZ hw e0 N0 hcs hss tA cA SA AA LA HA x0
  rw [if_neg hc87]
  refine own_st (g' := (mkF m 90 #[.val (.int x0)] [])) (fun tt_ kk_ => XS.icmpNo X0.here hx rfl (hb hby own_d1_87) rfl (flt hc87).1 kk_) ?_
  refine own_st (g' := (mkF m 91 #[.val (.int x0)] [(.int x0)])) (fun tt_ kk_ => XS.iloadN X0.here hx rfl (hb hby own_d1_90) rfl kk_) ?_
  refine own_st (g' := (mkF m 94 #[.val (.int x0)] [(.int (8191 : Int32)), (.int x0)])) (fun tt_ kk_ => XS.sipush X0.here hx rfl (hb hby own_d1_91) kk_) ?_
  by_cases hc94 : (8191 : Int32) < x0
  · rw [if_pos hc94]
    refine own_st (g' := (mkF m 97 #[.val (.int x0)] [])) (fun tt_ kk_ => XS.icmpNo X0.here hx rfl (hb hby own_d1_94) rfl (tlt hc94).2.2.2 kk_) ?_
    exact own_b1_97 X0 hx hlk hby hml hret hown hZ hw e0 N0 hcs hss tA cA SA AA LA HA x0
  rw [if_neg hc94]
  refine own_st (g' := (mkF m 188 #[.val (.int x0)] [])) (fun tt_ kk_ => XS.icmpYes X0.here hx rfl (pc0 := 94) (pc' := 188) rfl (hb hby own_d1_94) rfl (flt hc94).2.2.2 (by decide) (by decide) kk_) ?_
  refine own_st (g' := (mkF m 189 #[.val (.int x0)] [(.int (1 : Int32))])) (fun tt_ kk_ => XS.iconst X0.here hx rfl (hb hby own_d1_188) kk_) ?_
  refine own_st (g' := (mkF m 193 #[.val (.int x0)] [(.int (1 : Int32))])) (fun tt_ kk_ => XS.goto X0.here hx rfl (pc0 := 189) (pc' := 193) rfl (hb hby own_d1_189) (by decide) (by decide) kk_) ?_
  exact own_retN X0 hx hlk (t := .boolean) (Or.inl rfl) hret (hb hby own_d1_193) hcs hss ⟨rfl, N0, e0⟩
def own_f1_69 (x0 : Int32) : Int32 := (if x0 < (880 : Int32) then (own_f1_83 x0) else (if (893 : Int32) < x0 then (own_f1_83 x0) else (1 : Int32)))
set_option maxRecDepth 65536 in
set_option maxHeartbeats 4000000 in
theorem own_b1_69 {p : Program} {l : Launch} {e : Env} {s : State} {m : MethodId} {args : Array Value} {below : List Frame} {meth : Method} {c : Code} {T : State} {locs : List Loc} {cells slots : Nat} {Z : State} {a0 : Array Value} {h0 : Heap} {n0 : Nat} (X0 : Stand p l e ({ frames := 0, cells := 0, slots := 0, locals := 0 } : Room) s m args below meth c T locs cells slots) (hx : p.tables.exec = Jvm.exec) (hlk : meth.locks = false) (hby : c.code = prog_174_method_10_code) (hml : c.maxLocals = 1) (hret : meth.sig.returnType = some .boolean) (hown : s.vm.findClass "com/example/flycatcher/flycatcher/xml/XmlChars" = some m.cls) (hZ : Z.Warmed39 s.vm) (hw : ∀ d ∈ tables_1, d.before a0 Z = true) (e0 : T.heap = h0) (N0 : Fr n0 locs) (hcs : cells ≤ 0) (hss : slots ≤ 0) (tA : Addr) (cA : Cell) (SA : Sta Z h0 "com/example/flycatcher/flycatcher/xml/XmlChars" "ASCII" "[B" (.ref tA)) (AA : Arr Z h0 tA cA .byte) (LA : cA.slots.size = 128) (HA : ∀ j : Int32, ¬ j < 0 → j < 128 → cA.slots[j.toNatClampNeg]? = some (.int (own_tab j))) (x0 : Int32) :
    own_Go p e below s T (mkF m 69 #[.val (.int x0)] []) (own_QP (.int (nar .boolean (own_f1_69 x0))) h0 n0) 0 0 := by
  unfold own_f1_69
  refine own_st (g' := (mkF m 70 #[.val (.int x0)] [(.int x0)])) (fun tt_ kk_ => XS.iloadN X0.here hx rfl (hb hby own_d1_69) rfl kk_) ?_
  refine own_st (g' := (mkF m 73 #[.val (.int x0)] [(.int (880 : Int32)), (.int x0)])) (fun tt_ kk_ => XS.sipush X0.here hx rfl (hb hby own_d1_70) kk_) ?_
  by_cases hc73 : x0 < (880 : Int32)
  · rw [if_pos hc73]
    refine own_st (g' := (mkF m 83 #[.val (.int x0)] [])) (fun tt_ kk_ => XS.icmpYes X0.here hx rfl (pc0 := 73) (pc' := 83) rfl (hb hby own_d1_73) rfl (tlt hc73).1 (by decide) (by decide) kk_) ?_
    exact own_b1_83 X0 hx hlk hby hml hret hown hZ hw e0 N0 hcs hss tA cA SA AA LA HA x0
  rw [if_neg hc73]
  refine own_st (g' := (mkF m 76 #[.val (.int x0)] [])) (fun tt_ kk_ => XS.icmpNo X0.here hx rfl (hb hby own_d1_73) rfl (flt hc73).1 kk_) ?_
  refine own_st (g' := (mkF m 77 #[.val (.int x0)] [(.int x0)])) (fun tt_ kk_ => XS.iloadN X0.here hx rfl (hb hby own_d1_76) rfl kk_) ?_
  refine own_st (g' := (mkF m 80 #[.val (.int x0)] [(.int (893 : Int32)), (.int x0)])) (fun tt_ kk_ => XS.sipush X0.here hx rfl (hb hby own_d1_77) kk_) ?_
  by_cases hc80 : (893 : Int32) < x0
  · rw [if_pos hc80]
    refine own_st (g' := (mkF m 83 #[.val (.int x0)] [])) (fun tt_ kk_ => XS.icmpNo X0.here hx rfl (hb hby own_d1_80) rfl (tlt hc80).2.2.2 kk_) ?_
    exact own_b1_83 X0 hx hlk hby hml hret hown hZ hw e0 N0 hcs hss tA cA SA AA LA HA x0
  rw [if_neg hc80]
  refine own_st (g' := (mkF m 188 #[.val (.int x0)] [])) (fun tt_ kk_ => XS.icmpYes X0.here hx rfl (pc0 := 80) (pc' := 188) rfl (hb hby own_d1_80) rfl (flt hc80).2.2.2 (by decide) (by decide) kk_) ?_
  refine own_st (g' := (mkF m 189 #[.val (.int x0)] [(.int (1 : Int32))])) (fun tt_ kk_ => XS.iconst X0.here hx rfl (hb hby own_d1_188) kk_) ?_
  refine own_st (g' := (mkF m 193 #[.val (.int x0)] [(.int (1 : Int32))])) (fun tt_ kk_ => XS.goto X0.here hx rfl (pc0 := 189) (pc' := 193) rfl (hb hby own_d1_189) (by decide) (by decide) kk_) ?_
  exact own_retN X0 hx hlk (t := .boolean) (Or.inl rfl) hret (hb hby own_d1_193) hcs hss ⟨rfl, N0, e0⟩
def own_f1_55 (x0 : Int32) : Int32 := (if x0 < (248 : Int32) then (own_f1_69 x0) else (if (767 : Int32) < x0 then (own_f1_69 x0) else (1 : Int32)))
set_option maxRecDepth 65536 in
set_option maxHeartbeats 4000000 in
theorem own_b1_55 {p : Program} {l : Launch} {e : Env} {s : State} {m : MethodId} {args : Array Value} {below : List Frame} {meth : Method} {c : Code} {T : State} {locs : List Loc} {cells slots : Nat} {Z : State} {a0 : Array Value} {h0 : Heap} {n0 : Nat} (X0 : Stand p l e ({ frames := 0, cells := 0, slots := 0, locals := 0 } : Room) s m args below meth c T locs cells slots) (hx : p.tables.exec = Jvm.exec) (hlk : meth.locks = false) (hby : c.code = prog_174_method_10_code) (hml : c.maxLocals = 1) (hret : meth.sig.returnType = some .boolean) (hown : s.vm.findClass "com/example/flycatcher/flycatcher/xml/XmlChars" = some m.cls) (hZ : Z.Warmed39 s.vm) (hw : ∀ d ∈ tables_1, d.before a0 Z = true) (e0 : T.heap = h0) (N0 : Fr n0 locs) (hcs : cells ≤ 0) (hss : slots ≤ 0) (tA : Addr) (cA : Cell) (SA : Sta Z h0 "com/example/flycatcher/flycatcher/xml/XmlChars" "ASCII" "[B" (.ref tA)) (AA : Arr Z h0 tA cA .byte) (LA : cA.slots.size = 128) (HA : ∀ j : Int32, ¬ j < 0 → j < 128 → cA.slots[j.toNatClampNeg]? = some (.int (own_tab j))) (x0 : Int32) :
    own_Go p e below s T (mkF m 55 #[.val (.int x0)] []) (own_QP (.int (nar .boolean (own_f1_55 x0))) h0 n0) 0 0 := by
  unfold own_f1_55
  refine own_st (g' := (mkF m 56 #[.val (.int x0)] [(.int x0)])) (fun tt_ kk_ => XS.iloadN X0.here hx rfl (hb hby own_d1_55) rfl kk_) ?_
  refine own_st (g' := (mkF m 59 #[.val (.int x0)] [(.int (248 : Int32)), (.int x0)])) (fun tt_ kk_ => XS.sipush X0.here hx rfl (hb hby own_d1_56) kk_) ?_
  by_cases hc59 : x0 < (248 : Int32)
  · rw [if_pos hc59]
    refine own_st (g' := (mkF m 69 #[.val (.int x0)] [])) (fun tt_ kk_ => XS.icmpYes X0.here hx rfl (pc0 := 59) (pc' := 69) rfl (hb hby own_d1_59) rfl (tlt hc59).1 (by decide) (by decide) kk_) ?_
    exact own_b1_69 X0 hx hlk hby hml hret hown hZ hw e0 N0 hcs hss tA cA SA AA LA HA x0
  rw [if_neg hc59]
  refine own_st (g' := (mkF m 62 #[.val (.int x0)] [])) (fun tt_ kk_ => XS.icmpNo X0.here hx rfl (hb hby own_d1_59) rfl (flt hc59).1 kk_) ?_
  refine own_st (g' := (mkF m 63 #[.val (.int x0)] [(.int x0)])) (fun tt_ kk_ => XS.iloadN X0.here hx rfl (hb hby own_d1_62) rfl kk_) ?_
  refine own_st (g' := (mkF m 66 #[.val (.int x0)] [(.int (767 : Int32)), (.int x0)])) (fun tt_ kk_ => XS.sipush X0.here hx rfl (hb hby own_d1_63) kk_) ?_
  by_cases hc66 : (767 : Int32) < x0
  · rw [if_pos hc66]
    refine own_st (g' := (mkF m 69 #[.val (.int x0)] [])) (fun tt_ kk_ => XS.icmpNo X0.here hx rfl (hb hby own_d1_66) rfl (tlt hc66).2.2.2 kk_) ?_
    exact own_b1_69 X0 hx hlk hby hml hret hown hZ hw e0 N0 hcs hss tA cA SA AA LA HA x0
  rw [if_neg hc66]
  refine own_st (g' := (mkF m 188 #[.val (.int x0)] [])) (fun tt_ kk_ => XS.icmpYes X0.here hx rfl (pc0 := 66) (pc' := 188) rfl (hb hby own_d1_66) rfl (flt hc66).2.2.2 (by decide) (by decide) kk_) ?_
  refine own_st (g' := (mkF m 189 #[.val (.int x0)] [(.int (1 : Int32))])) (fun tt_ kk_ => XS.iconst X0.here hx rfl (hb hby own_d1_188) kk_) ?_
  refine own_st (g' := (mkF m 193 #[.val (.int x0)] [(.int (1 : Int32))])) (fun tt_ kk_ => XS.goto X0.here hx rfl (pc0 := 189) (pc' := 193) rfl (hb hby own_d1_189) (by decide) (by decide) kk_) ?_
  exact own_retN X0 hx hlk (t := .boolean) (Or.inl rfl) hret (hb hby own_d1_193) hcs hss ⟨rfl, N0, e0⟩
def own_f1_41 (x0 : Int32) : Int32 := (if x0 < (216 : Int32) then (own_f1_55 x0) else (if (246 : Int32) < x0 then (own_f1_55 x0) else (1 : Int32)))
set_option maxRecDepth 65536 in
set_option maxHeartbeats 4000000 in
theorem own_b1_41 {p : Program} {l : Launch} {e : Env} {s : State} {m : MethodId} {args : Array Value} {below : List Frame} {meth : Method} {c : Code} {T : State} {locs : List Loc} {cells slots : Nat} {Z : State} {a0 : Array Value} {h0 : Heap} {n0 : Nat} (X0 : Stand p l e ({ frames := 0, cells := 0, slots := 0, locals := 0 } : Room) s m args below meth c T locs cells slots) (hx : p.tables.exec = Jvm.exec) (hlk : meth.locks = false) (hby : c.code = prog_174_method_10_code) (hml : c.maxLocals = 1) (hret : meth.sig.returnType = some .boolean) (hown : s.vm.findClass "com/example/flycatcher/flycatcher/xml/XmlChars" = some m.cls) (hZ : Z.Warmed39 s.vm) (hw : ∀ d ∈ tables_1, d.before a0 Z = true) (e0 : T.heap = h0) (N0 : Fr n0 locs) (hcs : cells ≤ 0) (hss : slots ≤ 0) (tA : Addr) (cA : Cell) (SA : Sta Z h0 "com/example/flycatcher/flycatcher/xml/XmlChars" "ASCII" "[B" (.ref tA)) (AA : Arr Z h0 tA cA .byte) (LA : cA.slots.size = 128) (HA : ∀ j : Int32, ¬ j < 0 → j < 128 → cA.slots[j.toNatClampNeg]? = some (.int (own_tab j))) (x0 : Int32) :
    own_Go p e below s T (mkF m 41 #[.val (.int x0)] []) (own_QP (.int (nar .boolean (own_f1_41 x0))) h0 n0) 0 0 := by
  unfold own_f1_41
  refine own_st (g' := (mkF m 42 #[.val (.int x0)] [(.int x0)])) (fun tt_ kk_ => XS.iloadN X0.here hx rfl (hb hby own_d1_41) rfl kk_) ?_
  refine own_st (g' := (mkF m 45 #[.val (.int x0)] [(.int (216 : Int32)), (.int x0)])) (fun tt_ kk_ => XS.sipush X0.here hx rfl (hb hby own_d1_42) kk_) ?_
  by_cases hc45 : x0 < (216 : Int32)
  · rw [if_pos hc45]
    refine own_st (g' := (mkF m 55 #[.val (.int x0)] [])) (fun tt_ kk_ => XS.icmpYes X0.here hx rfl (pc0 := 45) (pc' := 55) rfl (hb hby own_d1_45) rfl (tlt hc45).1 (by decide) (by decide) kk_) ?_
    exact own_b1_55 X0 hx hlk hby hml hret hown hZ hw e0 N0 hcs hss tA cA SA AA LA HA x0
  rw [if_neg hc45]
  refine own_st (g' := (mkF m 48 #[.val (.int x0)] [])) (fun tt_ kk_ => XS.icmpNo X0.here hx rfl (hb hby own_d1_45) rfl (flt hc45).1 kk_) ?_
  refine own_st (g' := (mkF m 49 #[.val (.int x0)] [(.int x0)])) (fun tt_ kk_ => XS.iloadN X0.here hx rfl (hb hby own_d1_48) rfl kk_) ?_
  refine own_st (g' := (mkF m 52 #[.val (.int x0)] [(.int (246 : Int32)), (.int x0)])) (fun tt_ kk_ => XS.sipush X0.here hx rfl (hb hby own_d1_49) kk_) ?_
  by_cases hc52 : (246 : Int32) < x0
  · rw [if_pos hc52]
    refine own_st (g' := (mkF m 55 #[.val (.int x0)] [])) (fun tt_ kk_ => XS.icmpNo X0.here hx rfl (hb hby own_d1_52) rfl (tlt hc52).2.2.2 kk_) ?_
    exact own_b1_55 X0 hx hlk hby hml hret hown hZ hw e0 N0 hcs hss tA cA SA AA LA HA x0
  rw [if_neg hc52]
  refine own_st (g' := (mkF m 188 #[.val (.int x0)] [])) (fun tt_ kk_ => XS.icmpYes X0.here hx rfl (pc0 := 52) (pc' := 188) rfl (hb hby own_d1_52) rfl (flt hc52).2.2.2 (by decide) (by decide) kk_) ?_
  refine own_st (g' := (mkF m 189 #[.val (.int x0)] [(.int (1 : Int32))])) (fun tt_ kk_ => XS.iconst X0.here hx rfl (hb hby own_d1_188) kk_) ?_
  refine own_st (g' := (mkF m 193 #[.val (.int x0)] [(.int (1 : Int32))])) (fun tt_ kk_ => XS.goto X0.here hx rfl (pc0 := 189) (pc' := 193) rfl (hb hby own_d1_189) (by decide) (by decide) kk_) ?_
  exact own_retN X0 hx hlk (t := .boolean) (Or.inl rfl) hret (hb hby own_d1_193) hcs hss ⟨rfl, N0, e0⟩
def own_f1_0 (x0 : Int32) : Int32 := (if x0 < (128 : Int32) then (if x0 < (0 : Int32) then (0 : Int32) else (if ((own_tab x0) &&& (1 : Int32)) = (0 : Int32) then (0 : Int32) else (1 : Int32))) else (if x0 < (192 : Int32) then (own_f1_41 x0) else (if (214 : Int32) < x0 then (own_f1_41 x0) else (1 : Int32))))
set_option maxRecDepth 65536 in
set_option maxHeartbeats 4000000 in
theorem own_b1_0 {p : Program} {l : Launch} {e : Env} {s : State} {m : MethodId} {args : Array Value} {below : List Frame} {meth : Method} {c : Code} {T : State} {locs : List Loc} {cells slots : Nat} {Z : State} {a0 : Array Value} {h0 : Heap} {n0 : Nat} (X0 : Stand p l e ({ frames := 0, cells := 0, slots := 0, locals := 0 } : Room) s m args below meth c T locs cells slots) (hx : p.tables.exec = Jvm.exec) (hlk : meth.locks = false) (hby : c.code = prog_174_method_10_code) (hml : c.maxLocals = 1) (hret : meth.sig.returnType = some .boolean) (hown : s.vm.findClass "com/example/flycatcher/flycatcher/xml/XmlChars" = some m.cls) (hZ : Z.Warmed39 s.vm) (hw : ∀ d ∈ tables_1, d.before a0 Z = true) (e0 : T.heap = h0) (N0 : Fr n0 locs) (hcs : cells ≤ 0) (hss : slots ≤ 0) (tA : Addr) (cA : Cell) (SA : Sta Z h0 "com/example/flycatcher/flycatcher/xml/XmlChars" "ASCII" "[B" (.ref tA)) (AA : Arr Z h0 tA cA .byte) (LA : cA.slots.size = 128) (HA : ∀ j : Int32, ¬ j < 0 → j < 128 → cA.slots[j.toNatClampNeg]? = some (.int (own_tab j))) (x0 : Int32) :
    own_Go p e below s T (mkF m 0 #[.val (.int x0)] []) (own_QP (.int (nar .boolean (own_f1_0 x0))) h0 n0) 0 0 := by
  unfold own_f1_0
  refine own_st (g' := (mkF m 1 #[.val (.int x0)] [(.int x0)])) (fun tt_ kk_ => XS.iloadN X0.here hx rfl (hb hby own_d1_0) rfl kk_) ?_
  refine own_st (g' := (mkF m 4 #[.val (.int x0)] [(.int (128 : Int32)), (.int x0)])) (fun tt_ kk_ => XS.sipush X0.here hx rfl (hb hby own_d1_1) kk_) ?_
  by_cases hc4 : x0 < (128 : Int32)
  · rw [if_pos hc4]
    refine own_st (g' := (mkF m 7 #[.val (.int x0)] [])) (fun tt_ kk_ => XS.icmpNo X0.here hx rfl (hb hby own_d1_4) rfl (tlt hc4).2.1 kk_) ?_
    refine own_st (g' := (mkF m 8 #[.val (.int x0)] [(.int x0)])) (fun tt_ kk_ => XS.iloadN X0.here hx rfl (hb hby own_d1_7) rfl kk_) ?_
    by_cases hc8 : x0 < (0 : Int32)
    · rw [if_pos hc8]
      refine own_st (g' := (mkF m 25 #[.val (.int x0)] [])) (fun tt_ kk_ => XS.ifYes X0.here hx rfl (pc0 := 8) (pc' := 25) rfl (hb hby own_d1_8) rfl ((if0 _ _).trans (tlt hc8).1) (by decide) (by decide) kk_) ?_
      refine own_st (g' := (mkF m 26 #[.val (.int x0)] [(.int (0 : Int32))])) (fun tt_ kk_ => XS.iconst X0.here hx rfl (hb hby own_d1_25) kk_) ?_
      exact own_retN X0 hx hlk (t := .boolean) (Or.inl rfl) hret (hb hby own_d1_26) hcs hss ⟨rfl, N0, e0⟩
    rw [if_neg hc8]
    refine own_st (g' := (mkF m 11 #[.val (.int x0)] [])) (fun tt_ kk_ => XS.ifNo X0.here hx rfl (hb hby own_d1_8) rfl ((if0 _ _).trans (flt hc8).1) kk_) ?_
    obtain ⟨T1, X1, e1, st1⟩ := getS2 X0 hx hZ hown (host := "") (Or.inl (hw _ (List.mem_of_getElem? (i := 15) rfl))) Via.refl e0 SA (g := (mkF m 11 #[.val (.int x0)] [])) rfl (hb hby own_d1_11)
    refine own_st (g' := (mkF m 14 #[.val (.int x0)] [(.ref tA)])) st1 ?_
    refine own_st (g' := (mkF m 15 #[.val (.int x0)] [(.int x0), (.ref tA)])) (fun tt_ kk_ => XS.iloadN X1.here hx rfl (hb hby own_d1_14) rfl kk_) ?_
    refine own_st (g' := (mkF m 16 #[.val (.int x0)] [(.int (own_tab x0))])) (fun tt_ kk_ => X1.baloadBytes hx (j := x0) (v := (.int (own_tab x0))) (by rw [e1]; exact AA.1) (State.isArrayOf_alike hZ.alike AA.2.1) AA.2.2 (own_inb LA hc8 hc4) (HA x0 hc8 hc4) (g := (mkF m 15 #[.val (.int x0)] [(.int x0), (.ref tA)])) rfl rfl (hb hby own_d1_15) _ kk_) ?_
    refine own_st (g' := (mkF m 17 #[.val (.int x0)] [(.int (1 : Int32)), (.int (own_tab x0))])) (fun tt_ kk_ => XS.iconst X1.here hx rfl (hb hby own_d1_16) kk_) ?_
    refine own_st (g' := (mkF m 18 #[.val (.int x0)] [(.int ((own_tab x0) &&& (1 : Int32)))])) (fun tt_ kk_ => XS.iand X1.here hx rfl (hb hby own_d1_17) rfl kk_) ?_
    by_cases hc18 : ((own_tab x0) &&& (1 : Int32)) = (0 : Int32)
    · rw [if_pos hc18]
      refine own_st (g' := (mkF m 25 #[.val (.int x0)] [])) (fun tt_ kk_ => XS.ifYes X1.here hx rfl (pc0 := 18) (pc' := 25) rfl (hb hby own_d1_18) rfl ((if0 _ _).trans (teq hc18).1) (by decide) (by decide) kk_) ?_
      refine own_st (g' := (mkF m 26 #[.val (.int x0)] [(.int (0 : Int32))])) (fun tt_ kk_ => XS.iconst X1.here hx rfl (hb hby own_d1_25) kk_) ?_
      exact own_retN X1 hx hlk (t := .boolean) (Or.inl rfl) hret (hb hby own_d1_26) hcs hss ⟨rfl, N0, e1⟩
    rw [if_neg hc18]
    refine own_st (g' := (mkF m 21 #[.val (.int x0)] [])) (fun tt_ kk_ => XS.ifNo X1.here hx rfl (hb hby own_d1_18) rfl ((if0 _ _).trans (feq hc18).1) kk_) ?_
    refine own_st (g' := (mkF m 22 #[.val (.int x0)] [(.int (1 : Int32))])) (fun tt_ kk_ => XS.iconst X1.here hx rfl (hb hby own_d1_21) kk_) ?_
    refine own_st (g' := (mkF m 26 #[.val (.int x0)] [(.int (1 : Int32))])) (fun tt_ kk_ => XS.goto X1.here hx rfl (pc0 := 22) (pc' := 26) rfl (hb hby own_d1_22) (by decide) (by decide) kk_) ?_
    exact own_retN X1 hx hlk (t := .boolean) (Or.inl rfl) hret (hb hby own_d1_26) hcs hss ⟨rfl, N0, e1⟩
  rw [if_neg hc4]
  refine own_st (g' := (mkF m 27 #[.val (.int x0)] [])) (fun tt_ kk_ => XS.icmpYes X0.here hx rfl (pc0 := 4) (pc' := 27) rfl (hb hby own_d1_4) rfl (flt hc4).2.1 (by decide) (by decide) kk_) ?_
  refine own_st (g' := (mkF m 28 #[.val (.int x0)] [(.int x0)])) (fun tt_ kk_ => XS.iloadN X0.here hx rfl (hb hby own_d1_27) rfl kk_) ?_
  refine own_st (g' := (mkF m 31 #[.val (.int x0)] [(.int (192 : Int32)), (.int x0)])) (fun tt_ kk_ => XS.sipush X0.here hx rfl (hb hby own_d1_28) kk_) ?_
  by_cases hc31 : x0 < (192 : Int32)
  · rw [if_pos hc31]
    refine own_st (g' := (mkF m 41 #[.val (.int x0)] [])) (fun tt_ kk_ => XS.icmpYes X0.here hx rfl (pc0 := 31) (pc' := 41) rfl (hb hby own_d1_31) rfl (tlt hc31).1 (by decide) (by decide) kk_) ?_
    exact own_b1_41 X0 hx hlk hby hml hret hown hZ hw e0 N0 hcs hss tA cA SA AA LA HA x0
  rw [if_neg hc31]
  refine own_st (g' := (mkF m 34 #[.val (.int x0)] [])) (fun tt_ kk_ => XS.icmpNo X0.here hx rfl (hb hby own_d1_31) rfl (flt hc31).1 kk_) ?_
  refine own_st (g' := (mkF m 35 #[.val (.int x0)] [(.int x0)])) (fun tt_ kk_ => XS.iloadN X0.here hx rfl (hb hby own_d1_34) rfl kk_) ?_
  refine own_st (g' := (mkF m 38 #[.val (.int x0)] [(.int (214 : Int32)), (.int x0)])) (fun tt_ kk_ => XS.sipush X0.here hx rfl (hb hby own_d1_35) kk_) ?_
  by_cases hc38 : (214 : Int32) < x0
  · rw [if_pos hc38]
    refine own_st (g' := (mkF m 41 #[.val (.int x0)] [])) (fun tt_ kk_ => XS.icmpNo X0.here hx rfl (hb hby own_d1_38) rfl (tlt hc38).2.2.2 kk_) ?_
    exact own_b1_41 X0 hx hlk hby hml hret hown hZ hw e0 N0 hcs hss tA cA SA AA LA HA x0
  rw [if_neg hc38]
  refine own_st (g' := (mkF m 188 #[.val (.int x0)] [])) (fun tt_ kk_ => XS.icmpYes X0.here hx rfl (pc0 := 38) (pc' := 188) rfl (hb hby own_d1_38) rfl (flt hc38).2.2.2 (by decide) (by decide) kk_) ?_
  refine own_st (g' := (mkF m 189 #[.val (.int x0)] [(.int (1 : Int32))])) (fun tt_ kk_ => XS.iconst X0.here hx rfl (hb hby own_d1_188) kk_) ?_
  refine own_st (g' := (mkF m 193 #[.val (.int x0)] [(.int (1 : Int32))])) (fun tt_ kk_ => XS.goto X0.here hx rfl (pc0 := 189) (pc' := 193) rfl (hb hby own_d1_189) (by decide) (by decide) kk_) ?_
  exact own_retN X0 hx hlk (t := .boolean) (Or.inl rfl) hret (hb hby own_d1_193) hcs hss ⟨rfl, N0, e0⟩
theorem own_ef1 (m : MethodId) (x0 : Int32) : entryFrame m #[(.int x0)] 1 = mkF m 0 #[.val (.int x0)] [] := by first | (simp [entryFrame, mkF, argsToLocals, Value.category]; done) | rfl
set_option maxRecDepth 65536 in
set_option maxHeartbeats 4000000 in
theorem own_rm1 (l : Launch) (Z : State) (a0 : Array Value) (hw : ∀ d ∈ tables_1, d.before a0 Z = true) (ws : List Jvm.Cond) (x0 : Int32) (h0 : Heap) (n0 : Nat) (tA : Addr) (cA : Cell) (SA : Sta Z h0 "com/example/flycatcher/flycatcher/xml/XmlChars" "ASCII" "[B" (.ref tA)) (AA : Arr Z h0 tA cA .byte) (LA : cA.slots.size = 128) (HA : ∀ j : Int32, ¬ j < 0 → j < 128 → cA.slots[j.toNatClampNeg]? = some (.int (own_tab j))) :
    MetFree l (⟨"com/example/flycatcher/flycatcher/xml/XmlChars", "isNameStartChar", "(I)Z"⟩ : MethodName) (head1 (Jvm.Cond.code (⟨"com/example/flycatcher/flycatcher/xml/XmlChars", "isNameStartChar", "(I)Z"⟩ : MethodName) prog_174_method_10_code 1 (some .boolean) :: ws) ({ frames := 0, cells := 0, slots := 0, locals := 0 } : Room)) (fun aa UU => aa = #[(.int x0)] ∧ Z.Warmed39 UU.vm ∧ UU.heap = h0) (fun _ _ _ _ _ => True) (fun _ U o U' => ∃ v L, o = .returned v ∧ own_QP (.int (nar .boolean (own_f1_0 x0))) h0 n0 v U'.heap L ∧ FrameEnd U o U' L ({ frames := 0, cells := 0, slots := 0, locals := 0 } : Room).cells ({ frames := 0, cells := 0, slots := 0, locals := 0 } : Room).slots) := by
  refine MetFree.of_bodySF (plainFor_of_name own_pn1) hisR ?_
  intro p e s m args below meth c s₁ Bd hml0 hP hK
  obtain ⟨rfl, hZ, hh⟩ := hP
  have X0 : Stand p l e ({ frames := 0, cells := 0, slots := 0, locals := 0 } : Room) s m #[(.int x0)] below meth c s₁ [] 0 0 := Stand.of_body Bd
  have e0 : s₁.heap = h0 := by rw [← hh, Bd.state]; rfl
  refine own_cast (own_ef1 m x0) ?_
  exact own_b1_0 X0 Bd.exec Bd.notSynchronized Bd.bytes hml0 Bd.returns (findClass_of_methodNamed Bd.named) hZ hw e0 (Fr.nil n0) (by decide) (by decide) tA cA SA AA LA HA x0
theorem own_d2_0 : decode method_4_code 0 = .ok (.iload_n 0, 1) := by decide +kernel
theorem own_d2_1 : decode method_4_code 1 = .ok (.ifCond .lt 9, 3) := by decide +kernel
theorem own_d2_4 : decode method_4_code 4 = .ok (.iload_n 0, 1) := by decide +kernel
theorem own_d2_5 : decode method_4_code 5 = .ok (.ldc 13, 2) := by decide +kernel
theorem own_d2_7 : decode method_4_code 7 = .ok (.if_icmp .le 5, 3) := by decide +kernel
theorem own_d2_10 : decode method_4_code 10 = .ok (.iconst 0, 1) := by decide +kernel
theorem own_d2_11 : decode method_4_code 11 = .ok (.ireturn, 1) := by decide +kernel
theorem own_d2_12 : decode method_4_code 12 = .ok (.iload_n 0, 1) := by decide +kernel
theorem own_d2_13 : decode method_4_code 13 = .ok (.iconst 0, 1) := by decide +kernel
theorem own_d2_14 : decode method_4_code 14 = .ok (.bipush 57, 2) := by decide +kernel
theorem own_d2_16 : decode method_4_code 16 = .ok (.invokestatic 30, 3) := by decide +kernel
theorem own_d2_19 : decode method_4_code 19 = .ok (.ifCond .ne 57, 3) := by decide +kernel
theorem own_d2_22 : decode method_4_code 22 = .ok (.iload_n 0, 1) := by decide +kernel
theorem own_d2_23 : decode method_4_code 23 = .ok (.bipush 59, 2) := by decide +kernel
theorem own_d2_25 : decode method_4_code 25 = .ok (.bipush 64, 2) := by decide +kernel
theorem own_d2_27 : decode method_4_code 27 = .ok (.invokestatic 30, 3) := by decide +kernel
theorem own_d2_30 : decode method_4_code 30 = .ok (.ifCond .ne 46, 3) := by decide +kernel
theorem own_d2_33 : decode method_4_code 33 = .ok (.iload_n 0, 1) := by decide +kernel
theorem own_d2_34 : decode method_4_code 34 = .ok (.bipush 91, 2) := by decide +kernel
theorem own_d2_36 : decode method_4_code 36 = .ok (.bipush 94, 2) := by decide +kernel
theorem own_d2_38 : decode method_4_code 38 = .ok (.invokestatic 30, 3) := by decide +kernel
theorem own_d2_41 : decode method_4_code 41 = .ok (.ifCond .ne 35, 3) := by decide +kernel
theorem own_d2_44 : decode method_4_code 44 = .ok (.iload_n 0, 1) := by decide +kernel
theorem own_d2_45 : decode method_4_code 45 = .ok (.bipush 96, 2) := by decide +kernel
theorem own_d2_47 : decode method_4_code 47 = .ok (.if_icmp .eq 29, 3) := by decide +kernel
theorem own_d2_50 : decode method_4_code 50 = .ok (.iload_n 0, 1) := by decide +kernel
theorem own_d2_51 : decode method_4_code 51 = .ok (.bipush 123, 2) := by decide +kernel
theorem own_d2_53 : decode method_4_code 53 = .ok (.sipush 191, 3) := by decide +kernel
theorem own_d2_56 : decode method_4_code 56 = .ok (.invokestatic 30, 3) := by decide +kernel
theorem own_d2_59 : decode method_4_code 59 = .ok (.ifCond .ne 17, 3) := by decide +kernel
theorem own_d2_62 : decode method_4_code 62 = .ok (.iload_n 0, 1) := by decide +kernel
theorem own_d2_63 : decode method_4_code 63 = .ok (.sipush 215, 3) := by decide +kernel
theorem own_d2_66 : decode method_4_code 66 = .ok (.if_icmp .eq 10, 3) := by decide +kernel
theorem own_d2_69 : decode method_4_code 69 = .ok (.iload_n 0, 1) := by decide +kernel
theorem own_d2_70 : decode method_4_code 70 = .ok (.sipush 247, 3) := by decide +kernel
theorem own_d2_73 : decode method_4_code 73 = .ok (.if_icmp .ne 5, 3) := by decide +kernel
theorem own_d2_76 : decode method_4_code 76 = .ok (.iconst 0, 1) := by decide +kernel
theorem own_d2_77 : decode method_4_code 77 = .ok (.ireturn, 1) := by decide +kernel
theorem own_d2_78 : decode method_4_code 78 = .ok (.iload_n 0, 1) := by decide +kernel
theorem own_d2_79 : decode method_4_code 79 = .ok (.sipush 768, 3) := by decide +kernel
theorem own_d2_82 : decode method_4_code 82 = .ok (.sipush 879, 3) := by decide +kernel
theorem own_d2_85 : decode method_4_code 85 = .ok (.invokestatic 30, 3) := by decide +kernel
theorem own_d2_88 : decode method_4_code 88 = .ok (.ifCond .ne 62, 3) := by decide +kernel
theorem own_d2_91 : decode method_4_code 91 = .ok (.iload_n 0, 1) := by decide +kernel
theorem own_d2_92 : decode method_4_code 92 = .ok (.sipush 894, 3) := by decide +kernel
theorem own_d2_95 : decode method_4_code 95 = .ok (.if_icmp .eq 55, 3) := by decide +kernel
theorem own_d2_98 : decode method_4_code 98 = .ok (.iload_n 0, 1) := by decide +kernel
theorem own_d2_99 : decode method_4_code 99 = .ok (.sipush 8192, 3) := by decide +kernel
theorem own_d2_102 : decode method_4_code 102 = .ok (.sipush 8203, 3) := by decide +kernel
theorem own_d2_105 : decode method_4_code 105 = .ok (.invokestatic 30, 3) := by decide +kernel
theorem own_d2_108 : decode method_4_code 108 = .ok (.ifCond .ne 42, 3) := by decide +kernel
theorem own_d2_111 : decode method_4_code 111 = .ok (.iload_n 0, 1) := by decide +kernel
theorem own_d2_112 : decode method_4_code 112 = .ok (.sipush 8206, 3) := by decide +kernel
theorem own_d2_115 : decode method_4_code 115 = .ok (.sipush 8303, 3) := by decide +kernel
theorem own_d2_118 : decode method_4_code 118 = .ok (.invokestatic 30, 3) := by decide +kernel
theorem own_d2_121 : decode method_4_code 121 = .ok (.ifCond .ne 29, 3) := by decide +kernel
theorem own_d2_124 : decode method_4_code 124 = .ok (.iload_n 0, 1) := by decide +kernel
theorem own_d2_125 : decode method_4_code 125 = .ok (.sipush 8592, 3) := by decide +kernel
theorem own_d2_128 : decode method_4_code 128 = .ok (.sipush 11263, 3) := by decide +kernel
theorem own_d2_131 : decode method_4_code 131 = .ok (.invokestatic 30, 3) := by decide +kernel
theorem own_d2_134 : decode method_4_code 134 = .ok (.ifCond .ne 16, 3) := by decide +kernel
theorem own_d2_137 : decode method_4_code 137 = .ok (.iload_n 0, 1) := by decide +kernel
theorem own_d2_138 : decode method_4_code 138 = .ok (.sipush 12272, 3) := by decide +kernel
theorem own_d2_141 : decode method_4_code 141 = .ok (.sipush 12288, 3) := by decide +kernel
theorem own_d2_144 : decode method_4_code 144 = .ok (.invokestatic 30, 3) := by decide +kernel
theorem own_d2_147 : decode method_4_code 147 = .ok (.ifCond .eq 5, 3) := by decide +kernel
theorem own_d2_150 : decode method_4_code 150 = .ok (.iconst 0, 1) := by decide +kernel
theorem own_d2_151 : decode method_4_code 151 = .ok (.ireturn, 1) := by decide +kernel
theorem own_d2_152 : decode method_4_code 152 = .ok (.iload_n 0, 1) := by decide +kernel
theorem own_d2_153 : decode method_4_code 153 = .ok (.ldc 34, 2) := by decide +kernel
theorem own_d2_155 : decode method_4_code 155 = .ok (.ldc 35, 2) := by decide +kernel
theorem own_d2_157 : decode method_4_code 157 = .ok (.invokestatic 30, 3) := by decide +kernel
theorem own_d2_160 : decode method_4_code 160 = .ok (.ifCond .ne 25, 3) := by decide +kernel
theorem own_d2_163 : decode method_4_code 163 = .ok (.iload_n 0, 1) := by decide +kernel
theorem own_d2_164 : decode method_4_code 164 = .ok (.ldc 36, 2) := by decide +kernel
theorem own_d2_166 : decode method_4_code 166 = .ok (.ldc 37, 2) := by decide +kernel
theorem own_d2_168 : decode method_4_code 168 = .ok (.invokestatic 30, 3) := by decide +kernel
theorem own_d2_171 : decode method_4_code 171 = .ok (.ifCond .ne 14, 3) := by decide +kernel
theorem own_d2_174 : decode method_4_code 174 = .ok (.iload_n 0, 1) := by decide +kernel
theorem own_d2_175 : decode method_4_code 175 = .ok (.ldc 38, 2) := by decide +kernel
theorem own_d2_177 : decode method_4_code 177 = .ok (.ldc 39, 2) := by decide +kernel
theorem own_d2_179 : decode method_4_code 179 = .ok (.invokestatic 30, 3) := by decide +kernel
theorem own_d2_182 : decode method_4_code 182 = .ok (.ifCond .eq 5, 3) := by decide +kernel
theorem own_d2_185 : decode method_4_code 185 = .ok (.iconst 0, 1) := by decide +kernel
theorem own_d2_186 : decode method_4_code 186 = .ok (.ireturn, 1) := by decide +kernel
theorem own_d2_187 : decode method_4_code 187 = .ok (.iconst 1, 1) := by decide +kernel
theorem own_d2_188 : decode method_4_code 188 = .ok (.ireturn, 1) := by decide +kernel
theorem own_pd0 : parseMethodDescriptor "(III)Z" = some ⟨[.int, .int, .int], some .boolean⟩ := by decide +kernel
def own_f2_0 (x0 : Int32) : Int32 := (if x0 < (0 : Int32) then (0 : Int32) else (if (983039 : Int32) < x0 then (0 : Int32) else (if (nar .boolean (own_f3_0 x0 (0 : Int32) (57 : Int32))) = (0 : Int32) then (if (nar .boolean (own_f3_0 x0 (59 : Int32) (64 : Int32))) = (0 : Int32) then (if (nar .boolean (own_f3_0 x0 (91 : Int32) (94 : Int32))) = (0 : Int32) then (if x0 = (96 : Int32) then (0 : Int32) else (if (nar .boolean (own_f3_0 x0 (123 : Int32) (191 : Int32))) = (0 : Int32) then (if x0 = (215 : Int32) then (0 : Int32) else (if x0 = (247 : Int32) then (0 : Int32) else (if (nar .boolean (own_f3_0 x0 (768 : Int32) (879 : Int32))) = (0 : Int32) then (if x0 = (894 : Int32) then (0 : Int32) else (if (nar .boolean (own_f3_0 x0 (8192 : Int32) (8203 : Int32))) = (0 : Int32) then (if (nar .boolean (own_f3_0 x0 (8206 : Int32) (8303 : Int32))) = (0 : Int32) then (if (nar .boolean (own_f3_0 x0 (8592 : Int32) (11263 : Int32))) = (0 : Int32) then (if (nar .boolean (own_f3_0 x0 (12272 : Int32) (12288 : Int32))) = (0 : Int32) then (if (nar .boolean (own_f3_0 x0 (55296 : Int32) (63743 : Int32))) = (0 : Int32) then (if (nar .boolean (own_f3_0 x0 (64976 : Int32) (65007 : Int32))) = (0 : Int32) then (if (nar .boolean (own_f3_0 x0 (65534 : Int32) (65535 : Int32))) = (0 : Int32) then (1 : Int32) else (0 : Int32)) else (0 : Int32)) else (0 : Int32)) else (0 : Int32)) else (0 : Int32)) else (0 : Int32)) else (0 : Int32))) else (0 : Int32)))) else (0 : Int32))) else (0 : Int32)) else (0 : Int32)) else (0 : Int32))))
set_option maxRecDepth 65536 in
set_option maxHeartbeats 4000000 in
theorem own_b2_0 {p : Program} {l : Launch} {e : Env} {s : State} {m : MethodId} {args : Array Value} {below : List Frame} {meth : Method} {c : Code} {T : State} {locs : List Loc} {cells slots : Nat} {Z : State} {a0 : Array Value} {h0 : Heap} {n0 : Nat} (X0 : Stand p l e ({ frames := 1, cells := 0, slots := 0, locals := 14 } : Room) s m args below meth c T locs cells slots) (hx : p.tables.exec = Jvm.exec) (hlk : meth.locks = false) (hby : c.code = method_4_code) (hml : c.maxLocals = 1) (hret : meth.sig.returnType = some .boolean) (hown : s.vm.findClass "com/example/flycatcher/flycatcher/xml/XmlCharsIsNameStartCharPinLaw" = some m.cls) (hZ : Z.Warmed39 s.vm) (hw : ∀ d ∈ tables_1, d.before a0 Z = true) (e0 : T.heap = h0) (N0 : Fr n0 locs) (hcs : cells ≤ 0) (hss : slots ≤ 0) (x0 : Int32) :
    own_Go p e below s T (mkF m 0 #[.val (.int x0)] []) (own_QP (.int (nar .boolean (own_f2_0 x0))) h0 n0) 0 0 := by
  unfold own_f2_0
  refine own_st (g' := (mkF m 1 #[.val (.int x0)] [(.int x0)])) (fun tt_ kk_ => XS.iloadN X0.here hx rfl (hb hby own_d2_0) rfl kk_) ?_
  by_cases hc1 : x0 < (0 : Int32)
  · rw [if_pos hc1]
    refine own_st (g' := (mkF m 10 #[.val (.int x0)] [])) (fun tt_ kk_ => XS.ifYes X0.here hx rfl (pc0 := 1) (pc' := 10) rfl (hb hby own_d2_1) rfl ((if0 _ _).trans (tlt hc1).1) (by decide) (by decide) kk_) ?_
    refine own_st (g' := (mkF m 11 #[.val (.int x0)] [(.int (0 : Int32))])) (fun tt_ kk_ => XS.iconst X0.here hx rfl (hb hby own_d2_10) kk_) ?_
    exact own_retN X0 hx hlk (t := .boolean) (Or.inl rfl) hret (hb hby own_d2_11) hcs hss ⟨rfl, N0, e0⟩
  rw [if_neg hc1]
  refine own_st (g' := (mkF m 4 #[.val (.int x0)] [])) (fun tt_ kk_ => XS.ifNo X0.here hx rfl (hb hby own_d2_1) rfl ((if0 _ _).trans (flt hc1).1) kk_) ?_
  refine own_st (g' := (mkF m 5 #[.val (.int x0)] [(.int x0)])) (fun tt_ kk_ => XS.iloadN X0.here hx rfl (hb hby own_d2_4) rfl kk_) ?_
  refine own_st (g' := (mkF m 7 #[.val (.int x0)] [(.int (983039 : Int32)), (.int x0)])) (fun tt_ kk_ => X0.ldcInt hx hown (mvT hZ (hw _ (List.mem_of_getElem? (i := 7) rfl))) (g := (mkF m 5 #[.val (.int x0)] [(.int x0)])) rfl (hb hby own_d2_5) _ kk_) ?_
  by_cases hc7 : (983039 : Int32) < x0
  · rw [if_pos hc7]
    refine own_st (g' := (mkF m 10 #[.val (.int x0)] [])) (fun tt_ kk_ => XS.icmpNo X0.here hx rfl (hb hby own_d2_7) rfl (tlt hc7).2.2.2 kk_) ?_
    refine own_st (g' := (mkF m 11 #[.val (.int x0)] [(.int (0 : Int32))])) (fun tt_ kk_ => XS.iconst X0.here hx rfl (hb hby own_d2_10) kk_) ?_
    exact own_retN X0 hx hlk (t := .boolean) (Or.inl rfl) hret (hb hby own_d2_11) hcs hss ⟨rfl, N0, e0⟩
  rw [if_neg hc7]
  refine own_st (g' := (mkF m 12 #[.val (.int x0)] [])) (fun tt_ kk_ => XS.icmpYes X0.here hx rfl (pc0 := 7) (pc' := 12) rfl (hb hby own_d2_7) rfl (flt hc7).2.2.2 (by decide) (by decide) kk_) ?_
  refine own_st (g' := (mkF m 13 #[.val (.int x0)] [(.int x0)])) (fun tt_ kk_ => XS.iloadN X0.here hx rfl (hb hby own_d2_12) rfl kk_) ?_
  refine own_st (g' := (mkF m 14 #[.val (.int x0)] [(.int (0 : Int32)), (.int x0)])) (fun tt_ kk_ => XS.iconst X0.here hx rfl (hb hby own_d2_13) kk_) ?_
  refine own_st (g' := (mkF m 16 #[.val (.int x0)] [(.int (57 : Int32)), (.int (0 : Int32)), (.int x0)])) (fun tt_ kk_ => XS.bipush X0.here hx rfl (hb hby own_d2_14) kk_) ?_
  obtain ⟨_, _, ⟨T3, L3, k3, n3⟩, -, X3, ⟨Lc3, hQ3, l3, y3, z3⟩, st3⟩ := Jvm.LawKit.callS X0 hx (y := (⟨"com/example/flycatcher/flycatcher/xml/XmlCharsIsNameStartCharPinLaw", "between", "(III)Z"⟩ : MethodName)) hown (mvT hZ (hw _ (List.mem_of_getElem? (i := 21) rfl))) (mvT hZ (hw _ (List.mem_of_getElem? (i := 22) rfl))) (mvT hZ (hw _ (List.mem_of_getElem? (i := 19) rfl))) (mvT hZ (hw _ (List.mem_of_getElem? (i := 23) rfl))) (by decide) (backOf (W := 0) (own_rm3 l Z a0 hw [] x0 (0 : Int32) (57 : Int32) h0 n0) hZ (hw _ (List.mem_of_getElem? (i := 23) rfl)) (hw _ (List.mem_of_getElem? (i := 19) rfl)) (by decide) (by decide)) (g := (mkF m 16 #[.val (.int x0)] [(.int (57 : Int32)), (.int (0 : Int32)), (.int x0)])) rfl (by rw [hml]; rfl) (argsL := [(.int x0), (.int (0 : Int32)), (.int (57 : Int32))]) (rest := []) (lenOf own_pd0 rfl) rfl (by show 2 * 0 + _ ≤ _; exact Nat.le_of_eq rfl) (hb hby own_d2_16) (fun _ _ => ⟨rfl, e0, (show cells + 0 ≤ 0 by omega), (show slots + 0 ≤ 0 by omega)⟩)
  dsimp only [Pt.U, Pt.locs, Pt.cells, Pt.slots] at X3 l3 y3 z3 st3 hQ3
  rw [l3, y3, z3] at X3
  obtain ⟨rfl, N3q, e3⟩ := hQ3
  have N3 := Fr.app N0 N3q
  refine own_st (g' := (mkF m 19 #[.val (.int x0)] [(.int (nar .boolean (own_f3_0 x0 (0 : Int32) (57 : Int32))))])) st3 ?_
  by_cases hc19 : (nar .boolean (own_f3_0 x0 (0 : Int32) (57 : Int32))) = (0 : Int32)
  · rw [if_pos hc19]
    refine own_st (g' := (mkF m 22 #[.val (.int x0)] [])) (fun tt_ kk_ => XS.ifNo X3.here hx rfl (hb hby own_d2_19) rfl ((if0 _ _).trans (teq hc19).2) kk_) ?_
    refine own_st (g' := (mkF m 23 #[.val (.int x0)] [(.int x0)])) (fun tt_ kk_ => XS.iloadN X3.here hx rfl (hb hby own_d2_22) rfl kk_) ?_
    refine own_st (g' := (mkF m 25 #[.val (.int x0)] [(.int (59 : Int32)), (.int x0)])) (fun tt_ kk_ => XS.bipush X3.here hx rfl (hb hby own_d2_23) kk_) ?_
    refine own_st (g' := (mkF m 27 #[.val (.int x0)] [(.int (64 : Int32)), (.int (59 : Int32)), (.int x0)])) (fun tt_ kk_ => XS.bipush X3.here hx rfl (hb hby own_d2_25) kk_) ?_
    obtain ⟨_, _, ⟨T4, L4, k4, n4⟩, -, X4, ⟨Lc4, hQ4, l4, y4, z4⟩, st4⟩ := Jvm.LawKit.callS X3 hx (y := (⟨"com/example/flycatcher/flycatcher/xml/XmlCharsIsNameStartCharPinLaw", "between", "(III)Z"⟩ : MethodName)) hown (mvT hZ (hw _ (List.mem_of_getElem? (i := 21) rfl))) (mvT hZ (hw _ (List.mem_of_getElem? (i := 22) rfl))) (mvT hZ (hw _ (List.mem_of_getElem? (i := 19) rfl))) (mvT hZ (hw _ (List.mem_of_getElem? (i := 23) rfl))) (by decide) (backOf (W := 0) (own_rm3 l Z a0 hw [] x0 (59 : Int32) (64 : Int32) h0 n0) hZ (hw _ (List.mem_of_getElem? (i := 23) rfl)) (hw _ (List.mem_of_getElem? (i := 19) rfl)) (by decide) (by decide)) (g := (mkF m 27 #[.val (.int x0)] [(.int (64 : Int32)), (.int (59 : Int32)), (.int x0)])) rfl (by rw [hml]; rfl) (argsL := [(.int x0), (.int (59 : Int32)), (.int (64 : Int32))]) (rest := []) (lenOf own_pd0 rfl) rfl (by show 2 * 0 + _ ≤ _; exact Nat.le_of_eq rfl) (hb hby own_d2_27) (fun _ _ => ⟨rfl, e3, (show cells + 0 ≤ 0 by omega), (show slots + 0 ≤ 0 by omega)⟩)
    dsimp only [Pt.U, Pt.locs, Pt.cells, Pt.slots] at X4 l4 y4 z4 st4 hQ4
    rw [l4, y4, z4] at X4
    obtain ⟨rfl, N4q, e4⟩ := hQ4
    have N4 := Fr.app N3 N4q
    refine own_st (g' := (mkF m 30 #[.val (.int x0)] [(.int (nar .boolean (own_f3_0 x0 (59 : Int32) (64 : Int32))))])) st4 ?_
    by_cases hc30 : (nar .boolean (own_f3_0 x0 (59 : Int32) (64 : Int32))) = (0 : Int32)
    · rw [if_pos hc30]
      refine own_st (g' := (mkF m 33 #[.val (.int x0)] [])) (fun tt_ kk_ => XS.ifNo X4.here hx rfl (hb hby own_d2_30) rfl ((if0 _ _).trans (teq hc30).2) kk_) ?_
      refine own_st (g' := (mkF m 34 #[.val (.int x0)] [(.int x0)])) (fun tt_ kk_ => XS.iloadN X4.here hx rfl (hb hby own_d2_33) rfl kk_) ?_
      refine own_st (g' := (mkF m 36 #[.val (.int x0)] [(.int (91 : Int32)), (.int x0)])) (fun tt_ kk_ => XS.bipush X4.here hx rfl (hb hby own_d2_34) kk_) ?_
      refine own_st (g' := (mkF m 38 #[.val (.int x0)] [(.int (94 : Int32)), (.int (91 : Int32)), (.int x0)])) (fun tt_ kk_ => XS.bipush X4.here hx rfl (hb hby own_d2_36) kk_) ?_
      obtain ⟨_, _, ⟨T5, L5, k5, n5⟩, -, X5, ⟨Lc5, hQ5, l5, y5, z5⟩, st5⟩ := Jvm.LawKit.callS X4 hx (y := (⟨"com/example/flycatcher/flycatcher/xml/XmlCharsIsNameStartCharPinLaw", "between", "(III)Z"⟩ : MethodName)) hown (mvT hZ (hw _ (List.mem_of_getElem? (i := 21) rfl))) (mvT hZ (hw _ (List.mem_of_getElem? (i := 22) rfl))) (mvT hZ (hw _ (List.mem_of_getElem? (i := 19) rfl))) (mvT hZ (hw _ (List.mem_of_getElem? (i := 23) rfl))) (by decide) (backOf (W := 0) (own_rm3 l Z a0 hw [] x0 (91 : Int32) (94 : Int32) h0 n0) hZ (hw _ (List.mem_of_getElem? (i := 23) rfl)) (hw _ (List.mem_of_getElem? (i := 19) rfl)) (by decide) (by decide)) (g := (mkF m 38 #[.val (.int x0)] [(.int (94 : Int32)), (.int (91 : Int32)), (.int x0)])) rfl (by rw [hml]; rfl) (argsL := [(.int x0), (.int (91 : Int32)), (.int (94 : Int32))]) (rest := []) (lenOf own_pd0 rfl) rfl (by show 2 * 0 + _ ≤ _; exact Nat.le_of_eq rfl) (hb hby own_d2_38) (fun _ _ => ⟨rfl, e4, (show cells + 0 ≤ 0 by omega), (show slots + 0 ≤ 0 by omega)⟩)
      dsimp only [Pt.U, Pt.locs, Pt.cells, Pt.slots] at X5 l5 y5 z5 st5 hQ5
      rw [l5, y5, z5] at X5
      obtain ⟨rfl, N5q, e5⟩ := hQ5
      have N5 := Fr.app N4 N5q
      refine own_st (g' := (mkF m 41 #[.val (.int x0)] [(.int (nar .boolean (own_f3_0 x0 (91 : Int32) (94 : Int32))))])) st5 ?_
      by_cases hc41 : (nar .boolean (own_f3_0 x0 (91 : Int32) (94 : Int32))) = (0 : Int32)
      · rw [if_pos hc41]
        refine own_st (g' := (mkF m 44 #[.val (.int x0)] [])) (fun tt_ kk_ => XS.ifNo X5.here hx rfl (hb hby own_d2_41) rfl ((if0 _ _).trans (teq hc41).2) kk_) ?_
        refine own_st (g' := (mkF m 45 #[.val (.int x0)] [(.int x0)])) (fun tt_ kk_ => XS.iloadN X5.here hx rfl (hb hby own_d2_44) rfl kk_) ?_
        refine own_st (g' := (mkF m 47 #[.val (.int x0)] [(.int (96 : Int32)), (.int x0)])) (fun tt_ kk_ => XS.bipush X5.here hx rfl (hb hby own_d2_45) kk_) ?_
        by_cases hc47 : x0 = (96 : Int32)
        · rw [if_pos hc47]
          refine own_st (g' := (mkF m 76 #[.val (.int x0)] [])) (fun tt_ kk_ => XS.icmpYes X5.here hx rfl (pc0 := 47) (pc' := 76) rfl (hb hby own_d2_47) rfl (teq hc47).1 (by decide) (by decide) kk_) ?_
          refine own_st (g' := (mkF m 77 #[.val (.int x0)] [(.int (0 : Int32))])) (fun tt_ kk_ => XS.iconst X5.here hx rfl (hb hby own_d2_76) kk_) ?_
          exact own_retN X5 hx hlk (t := .boolean) (Or.inl rfl) hret (hb hby own_d2_77) hcs hss ⟨rfl, N5, e5⟩
        rw [if_neg hc47]
        refine own_st (g' := (mkF m 50 #[.val (.int x0)] [])) (fun tt_ kk_ => XS.icmpNo X5.here hx rfl (hb hby own_d2_47) rfl (feq hc47).1 kk_) ?_
        refine own_st (g' := (mkF m 51 #[.val (.int x0)] [(.int x0)])) (fun tt_ kk_ => XS.iloadN X5.here hx rfl (hb hby own_d2_50) rfl kk_) ?_
        refine own_st (g' := (mkF m 53 #[.val (.int x0)] [(.int (123 : Int32)), (.int x0)])) (fun tt_ kk_ => XS.bipush X5.here hx rfl (hb hby own_d2_51) kk_) ?_
        refine own_st (g' := (mkF m 56 #[.val (.int x0)] [(.int (191 : Int32)), (.int (123 : Int32)), (.int x0)])) (fun tt_ kk_ => XS.sipush X5.here hx rfl (hb hby own_d2_53) kk_) ?_
        obtain ⟨_, _, ⟨T6, L6, k6, n6⟩, -, X6, ⟨Lc6, hQ6, l6, y6, z6⟩, st6⟩ := Jvm.LawKit.callS X5 hx (y := (⟨"com/example/flycatcher/flycatcher/xml/XmlCharsIsNameStartCharPinLaw", "between", "(III)Z"⟩ : MethodName)) hown (mvT hZ (hw _ (List.mem_of_getElem? (i := 21) rfl))) (mvT hZ (hw _ (List.mem_of_getElem? (i := 22) rfl))) (mvT hZ (hw _ (List.mem_of_getElem? (i := 19) rfl))) (mvT hZ (hw _ (List.mem_of_getElem? (i := 23) rfl))) (by decide) (backOf (W := 0) (own_rm3 l Z a0 hw [] x0 (123 : Int32) (191 : Int32) h0 n0) hZ (hw _ (List.mem_of_getElem? (i := 23) rfl)) (hw _ (List.mem_of_getElem? (i := 19) rfl)) (by decide) (by decide)) (g := (mkF m 56 #[.val (.int x0)] [(.int (191 : Int32)), (.int (123 : Int32)), (.int x0)])) rfl (by rw [hml]; rfl) (argsL := [(.int x0), (.int (123 : Int32)), (.int (191 : Int32))]) (rest := []) (lenOf own_pd0 rfl) rfl (by show 2 * 0 + _ ≤ _; exact Nat.le_of_eq rfl) (hb hby own_d2_56) (fun _ _ => ⟨rfl, e5, (show cells + 0 ≤ 0 by omega), (show slots + 0 ≤ 0 by omega)⟩)
        dsimp only [Pt.U, Pt.locs, Pt.cells, Pt.slots] at X6 l6 y6 z6 st6 hQ6
        rw [l6, y6, z6] at X6
        obtain ⟨rfl, N6q, e6⟩ := hQ6
        have N6 := Fr.app N5 N6q
        refine own_st (g' := (mkF m 59 #[.val (.int x0)] [(.int (nar .boolean (own_f3_0 x0 (123 : Int32) (191 : Int32))))])) st6 ?_
        by_cases hc59 : (nar .boolean (own_f3_0 x0 (123 : Int32) (191 : Int32))) = (0 : Int32)
        · rw [if_pos hc59]
          refine own_st (g' := (mkF m 62 #[.val (.int x0)] [])) (fun tt_ kk_ => XS.ifNo X6.here hx rfl (hb hby own_d2_59) rfl ((if0 _ _).trans (teq hc59).2) kk_) ?_
          refine own_st (g' := (mkF m 63 #[.val (.int x0)] [(.int x0)])) (fun tt_ kk_ => XS.iloadN X6.here hx rfl (hb hby own_d2_62) rfl kk_) ?_
          refine own_st (g' := (mkF m 66 #[.val (.int x0)] [(.int (215 : Int32)), (.int x0)])) (fun tt_ kk_ => XS.sipush X6.here hx rfl (hb hby own_d2_63) kk_) ?_
          by_cases hc66 : x0 = (215 : Int32)
          · rw [if_pos hc66]
            refine own_st (g' := (mkF m 76 #[.val (.int x0)] [])) (fun tt_ kk_ => XS.icmpYes X6.here hx rfl (pc0 := 66) (pc' := 76) rfl (hb hby own_d2_66) rfl (teq hc66).1 (by decide) (by decide) kk_) ?_
            refine own_st (g' := (mkF m 77 #[.val (.int x0)] [(.int (0 : Int32))])) (fun tt_ kk_ => XS.iconst X6.here hx rfl (hb hby own_d2_76) kk_) ?_
            exact own_retN X6 hx hlk (t := .boolean) (Or.inl rfl) hret (hb hby own_d2_77) hcs hss ⟨rfl, N6, e6⟩
          rw [if_neg hc66]
          refine own_st (g' := (mkF m 69 #[.val (.int x0)] [])) (fun tt_ kk_ => XS.icmpNo X6.here hx rfl (hb hby own_d2_66) rfl (feq hc66).1 kk_) ?_
          refine own_st (g' := (mkF m 70 #[.val (.int x0)] [(.int x0)])) (fun tt_ kk_ => XS.iloadN X6.here hx rfl (hb hby own_d2_69) rfl kk_) ?_
          refine own_st (g' := (mkF m 73 #[.val (.int x0)] [(.int (247 : Int32)), (.int x0)])) (fun tt_ kk_ => XS.sipush X6.here hx rfl (hb hby own_d2_70) kk_) ?_
          by_cases hc73 : x0 = (247 : Int32)
          · rw [if_pos hc73]
            refine own_st (g' := (mkF m 76 #[.val (.int x0)] [])) (fun tt_ kk_ => XS.icmpNo X6.here hx rfl (hb hby own_d2_73) rfl (teq hc73).2 kk_) ?_
            refine own_st (g' := (mkF m 77 #[.val (.int x0)] [(.int (0 : Int32))])) (fun tt_ kk_ => XS.iconst X6.here hx rfl (hb hby own_d2_76) kk_) ?_
            exact own_retN X6 hx hlk (t := .boolean) (Or.inl rfl) hret (hb hby own_d2_77) hcs hss ⟨rfl, N6, e6⟩
          rw [if_neg hc73]
          refine own_st (g' := (mkF m 78 #[.val (.int x0)] [])) (fun tt_ kk_ => XS.icmpYes X6.here hx rfl (pc0 := 73) (pc' := 78) rfl (hb hby own_d2_73) rfl (feq hc73).2 (by decide) (by decide) kk_) ?_
          refine own_st (g' := (mkF m 79 #[.val (.int x0)] [(.int x0)])) (fun tt_ kk_ => XS.iloadN X6.here hx rfl (hb hby own_d2_78) rfl kk_) ?_
          refine own_st (g' := (mkF m 82 #[.val (.int x0)] [(.int (768 : Int32)), (.int x0)])) (fun tt_ kk_ => XS.sipush X6.here hx rfl (hb hby own_d2_79) kk_) ?_
          refine own_st (g' := (mkF m 85 #[.val (.int x0)] [(.int (879 : Int32)), (.int (768 : Int32)), (.int x0)])) (fun tt_ kk_ => XS.sipush X6.here hx rfl (hb hby own_d2_82) kk_) ?_
          obtain ⟨_, _, ⟨T7, L7, k7, n7⟩, -, X7, ⟨Lc7, hQ7, l7, y7, z7⟩, st7⟩ := Jvm.LawKit.callS X6 hx (y := (⟨"com/example/flycatcher/flycatcher/xml/XmlCharsIsNameStartCharPinLaw", "between", "(III)Z"⟩ : MethodName)) hown (mvT hZ (hw _ (List.mem_of_getElem? (i := 21) rfl))) (mvT hZ (hw _ (List.mem_of_getElem? (i := 22) rfl))) (mvT hZ (hw _ (List.mem_of_getElem? (i := 19) rfl))) (mvT hZ (hw _ (List.mem_of_getElem? (i := 23) rfl))) (by decide) (backOf (W := 0) (own_rm3 l Z a0 hw [] x0 (768 : Int32) (879 : Int32) h0 n0) hZ (hw _ (List.mem_of_getElem? (i := 23) rfl)) (hw _ (List.mem_of_getElem? (i := 19) rfl)) (by decide) (by decide)) (g := (mkF m 85 #[.val (.int x0)] [(.int (879 : Int32)), (.int (768 : Int32)), (.int x0)])) rfl (by rw [hml]; rfl) (argsL := [(.int x0), (.int (768 : Int32)), (.int (879 : Int32))]) (rest := []) (lenOf own_pd0 rfl) rfl (by show 2 * 0 + _ ≤ _; exact Nat.le_of_eq rfl) (hb hby own_d2_85) (fun _ _ => ⟨rfl, e6, (show cells + 0 ≤ 0 by omega), (show slots + 0 ≤ 0 by omega)⟩)
          dsimp only [Pt.U, Pt.locs, Pt.cells, Pt.slots] at X7 l7 y7 z7 st7 hQ7
          rw [l7, y7, z7] at X7
          obtain ⟨rfl, N7q, e7⟩ := hQ7
          have N7 := Fr.app N6 N7q
          refine own_st (g' := (mkF m 88 #[.val (.int x0)] [(.int (nar .boolean (own_f3_0 x0 (768 : Int32) (879 : Int32))))])) st7 ?_
          by_cases hc88 : (nar .boolean (own_f3_0 x0 (768 : Int32) (879 : Int32))) = (0 : Int32)
          · rw [if_pos hc88]
            refine own_st (g' := (mkF m 91 #[.val (.int x0)] [])) (fun tt_ kk_ => XS.ifNo X7.here hx rfl (hb hby own_d2_88) rfl ((if0 _ _).trans (teq hc88).2) kk_) ?_
            refine own_st (g' := (mkF m 92 #[.val (.int x0)] [(.int x0)])) (fun tt_ kk_ => XS.iloadN X7.here hx rfl (hb hby own_d2_91) rfl kk_) ?_
            refine own_st (g' := (mkF m 95 #[.val (.int x0)] [(.int (894 : Int32)), (.int x0)])) (fun tt_ kk_ => XS.sipush X7.here hx rfl (hb hby own_d2_92) kk_) ?_
            by_cases hc95 : x0 = (894 : Int32)
            · rw [if_pos hc95]
              refine own_st (g' := (mkF m 150 #[.val (.int x0)] [])) (fun tt_ kk_ => XS.icmpYes X7.here hx rfl (pc0 := 95) (pc' := 150) rfl (hb hby own_d2_95) rfl (teq hc95).1 (by decide) (by decide) kk_) ?_
              refine own_st (g' := (mkF m 151 #[.val (.int x0)] [(.int (0 : Int32))])) (fun tt_ kk_ => XS.iconst X7.here hx rfl (hb hby own_d2_150) kk_) ?_
              exact own_retN X7 hx hlk (t := .boolean) (Or.inl rfl) hret (hb hby own_d2_151) hcs hss ⟨rfl, N7, e7⟩
            rw [if_neg hc95]
            refine own_st (g' := (mkF m 98 #[.val (.int x0)] [])) (fun tt_ kk_ => XS.icmpNo X7.here hx rfl (hb hby own_d2_95) rfl (feq hc95).1 kk_) ?_
            refine own_st (g' := (mkF m 99 #[.val (.int x0)] [(.int x0)])) (fun tt_ kk_ => XS.iloadN X7.here hx rfl (hb hby own_d2_98) rfl kk_) ?_
            refine own_st (g' := (mkF m 102 #[.val (.int x0)] [(.int (8192 : Int32)), (.int x0)])) (fun tt_ kk_ => XS.sipush X7.here hx rfl (hb hby own_d2_99) kk_) ?_
            refine own_st (g' := (mkF m 105 #[.val (.int x0)] [(.int (8203 : Int32)), (.int (8192 : Int32)), (.int x0)])) (fun tt_ kk_ => XS.sipush X7.here hx rfl (hb hby own_d2_102) kk_) ?_
            obtain ⟨_, _, ⟨T8, L8, k8, n8⟩, -, X8, ⟨Lc8, hQ8, l8, y8, z8⟩, st8⟩ := Jvm.LawKit.callS X7 hx (y := (⟨"com/example/flycatcher/flycatcher/xml/XmlCharsIsNameStartCharPinLaw", "between", "(III)Z"⟩ : MethodName)) hown (mvT hZ (hw _ (List.mem_of_getElem? (i := 21) rfl))) (mvT hZ (hw _ (List.mem_of_getElem? (i := 22) rfl))) (mvT hZ (hw _ (List.mem_of_getElem? (i := 19) rfl))) (mvT hZ (hw _ (List.mem_of_getElem? (i := 23) rfl))) (by decide) (backOf (W := 0) (own_rm3 l Z a0 hw [] x0 (8192 : Int32) (8203 : Int32) h0 n0) hZ (hw _ (List.mem_of_getElem? (i := 23) rfl)) (hw _ (List.mem_of_getElem? (i := 19) rfl)) (by decide) (by decide)) (g := (mkF m 105 #[.val (.int x0)] [(.int (8203 : Int32)), (.int (8192 : Int32)), (.int x0)])) rfl (by rw [hml]; rfl) (argsL := [(.int x0), (.int (8192 : Int32)), (.int (8203 : Int32))]) (rest := []) (lenOf own_pd0 rfl) rfl (by show 2 * 0 + _ ≤ _; exact Nat.le_of_eq rfl) (hb hby own_d2_105) (fun _ _ => ⟨rfl, e7, (show cells + 0 ≤ 0 by omega), (show slots + 0 ≤ 0 by omega)⟩)
            dsimp only [Pt.U, Pt.locs, Pt.cells, Pt.slots] at X8 l8 y8 z8 st8 hQ8
            rw [l8, y8, z8] at X8
            obtain ⟨rfl, N8q, e8⟩ := hQ8
            have N8 := Fr.app N7 N8q
            refine own_st (g' := (mkF m 108 #[.val (.int x0)] [(.int (nar .boolean (own_f3_0 x0 (8192 : Int32) (8203 : Int32))))])) st8 ?_
            by_cases hc108 : (nar .boolean (own_f3_0 x0 (8192 : Int32) (8203 : Int32))) = (0 : Int32)
            · rw [if_pos hc108]
              refine own_st (g' := (mkF m 111 #[.val (.int x0)] [])) (fun tt_ kk_ => XS.ifNo X8.here hx rfl (hb hby own_d2_108) rfl ((if0 _ _).trans (teq hc108).2) kk_) ?_
              refine own_st (g' := (mkF m 112 #[.val (.int x0)] [(.int x0)])) (fun tt_ kk_ => XS.iloadN X8.here hx rfl (hb hby own_d2_111) rfl kk_) ?_
              refine own_st (g' := (mkF m 115 #[.val (.int x0)] [(.int (8206 : Int32)), (.int x0)])) (fun tt_ kk_ => XS.sipush X8.here hx rfl (hb hby own_d2_112) kk_) ?_
              refine own_st (g' := (mkF m 118 #[.val (.int x0)] [(.int (8303 : Int32)), (.int (8206 : Int32)), (.int x0)])) (fun tt_ kk_ => XS.sipush X8.here hx rfl (hb hby own_d2_115) kk_) ?_
              obtain ⟨_, _, ⟨T9, L9, k9, n9⟩, -, X9, ⟨Lc9, hQ9, l9, y9, z9⟩, st9⟩ := Jvm.LawKit.callS X8 hx (y := (⟨"com/example/flycatcher/flycatcher/xml/XmlCharsIsNameStartCharPinLaw", "between", "(III)Z"⟩ : MethodName)) hown (mvT hZ (hw _ (List.mem_of_getElem? (i := 21) rfl))) (mvT hZ (hw _ (List.mem_of_getElem? (i := 22) rfl))) (mvT hZ (hw _ (List.mem_of_getElem? (i := 19) rfl))) (mvT hZ (hw _ (List.mem_of_getElem? (i := 23) rfl))) (by decide) (backOf (W := 0) (own_rm3 l Z a0 hw [] x0 (8206 : Int32) (8303 : Int32) h0 n0) hZ (hw _ (List.mem_of_getElem? (i := 23) rfl)) (hw _ (List.mem_of_getElem? (i := 19) rfl)) (by decide) (by decide)) (g := (mkF m 118 #[.val (.int x0)] [(.int (8303 : Int32)), (.int (8206 : Int32)), (.int x0)])) rfl (by rw [hml]; rfl) (argsL := [(.int x0), (.int (8206 : Int32)), (.int (8303 : Int32))]) (rest := []) (lenOf own_pd0 rfl) rfl (by show 2 * 0 + _ ≤ _; exact Nat.le_of_eq rfl) (hb hby own_d2_118) (fun _ _ => ⟨rfl, e8, (show cells + 0 ≤ 0 by omega), (show slots + 0 ≤ 0 by omega)⟩)
              dsimp only [Pt.U, Pt.locs, Pt.cells, Pt.slots] at X9 l9 y9 z9 st9 hQ9
              rw [l9, y9, z9] at X9
              obtain ⟨rfl, N9q, e9⟩ := hQ9
              have N9 := Fr.app N8 N9q
              refine own_st (g' := (mkF m 121 #[.val (.int x0)] [(.int (nar .boolean (own_f3_0 x0 (8206 : Int32) (8303 : Int32))))])) st9 ?_
              by_cases hc121 : (nar .boolean (own_f3_0 x0 (8206 : Int32) (8303 : Int32))) = (0 : Int32)
              · rw [if_pos hc121]
                refine own_st (g' := (mkF m 124 #[.val (.int x0)] [])) (fun tt_ kk_ => XS.ifNo X9.here hx rfl (hb hby own_d2_121) rfl ((if0 _ _).trans (teq hc121).2) kk_) ?_
                refine own_st (g' := (mkF m 125 #[.val (.int x0)] [(.int x0)])) (fun tt_ kk_ => XS.iloadN X9.here hx rfl (hb hby own_d2_124) rfl kk_) ?_
                refine own_st (g' := (mkF m 128 #[.val (.int x0)] [(.int (8592 : Int32)), (.int x0)])) (fun tt_ kk_ => XS.sipush X9.here hx rfl (hb hby own_d2_125) kk_) ?_
                refine own_st (g' := (mkF m 131 #[.val (.int x0)] [(.int (11263 : Int32)), (.int (8592 : Int32)), (.int x0)])) (fun tt_ kk_ => XS.sipush X9.here hx rfl (hb hby own_d2_128) kk_) ?_
                obtain ⟨_, _, ⟨T10, L10, k10, n10⟩, -, X10, ⟨Lc10, hQ10, l10, y10, z10⟩, st10⟩ := Jvm.LawKit.callS X9 hx (y := (⟨"com/example/flycatcher/flycatcher/xml/XmlCharsIsNameStartCharPinLaw", "between", "(III)Z"⟩ : MethodName)) hown (mvT hZ (hw _ (List.mem_of_getElem? (i := 21) rfl))) (mvT hZ (hw _ (List.mem_of_getElem? (i := 22) rfl))) (mvT hZ (hw _ (List.mem_of_getElem? (i := 19) rfl))) (mvT hZ (hw _ (List.mem_of_getElem? (i := 23) rfl))) (by decide) (backOf (W := 0) (own_rm3 l Z a0 hw [] x0 (8592 : Int32) (11263 : Int32) h0 n0) hZ (hw _ (List.mem_of_getElem? (i := 23) rfl)) (hw _ (List.mem_of_getElem? (i := 19) rfl)) (by decide) (by decide)) (g := (mkF m 131 #[.val (.int x0)] [(.int (11263 : Int32)), (.int (8592 : Int32)), (.int x0)])) rfl (by rw [hml]; rfl) (argsL := [(.int x0), (.int (8592 : Int32)), (.int (11263 : Int32))]) (rest := []) (lenOf own_pd0 rfl) rfl (by show 2 * 0 + _ ≤ _; exact Nat.le_of_eq rfl) (hb hby own_d2_131) (fun _ _ => ⟨rfl, e9, (show cells + 0 ≤ 0 by omega), (show slots + 0 ≤ 0 by omega)⟩)
                dsimp only [Pt.U, Pt.locs, Pt.cells, Pt.slots] at X10 l10 y10 z10 st10 hQ10
                rw [l10, y10, z10] at X10
                obtain ⟨rfl, N10q, e10⟩ := hQ10
                have N10 := Fr.app N9 N10q
                refine own_st (g' := (mkF m 134 #[.val (.int x0)] [(.int (nar .boolean (own_f3_0 x0 (8592 : Int32) (11263 : Int32))))])) st10 ?_
                by_cases hc134 : (nar .boolean (own_f3_0 x0 (8592 : Int32) (11263 : Int32))) = (0 : Int32)
                · rw [if_pos hc134]
                  refine own_st (g' := (mkF m 137 #[.val (.int x0)] [])) (fun tt_ kk_ => XS.ifNo X10.here hx rfl (hb hby own_d2_134) rfl ((if0 _ _).trans (teq hc134).2) kk_) ?_
                  refine own_st (g' := (mkF m 138 #[.val (.int x0)] [(.int x0)])) (fun tt_ kk_ => XS.iloadN X10.here hx rfl (hb hby own_d2_137) rfl kk_) ?_
                  refine own_st (g' := (mkF m 141 #[.val (.int x0)] [(.int (12272 : Int32)), (.int x0)])) (fun tt_ kk_ => XS.sipush X10.here hx rfl (hb hby own_d2_138) kk_) ?_
                  refine own_st (g' := (mkF m 144 #[.val (.int x0)] [(.int (12288 : Int32)), (.int (12272 : Int32)), (.int x0)])) (fun tt_ kk_ => XS.sipush X10.here hx rfl (hb hby own_d2_141) kk_) ?_
                  obtain ⟨_, _, ⟨T11, L11, k11, n11⟩, -, X11, ⟨Lc11, hQ11, l11, y11, z11⟩, st11⟩ := Jvm.LawKit.callS X10 hx (y := (⟨"com/example/flycatcher/flycatcher/xml/XmlCharsIsNameStartCharPinLaw", "between", "(III)Z"⟩ : MethodName)) hown (mvT hZ (hw _ (List.mem_of_getElem? (i := 21) rfl))) (mvT hZ (hw _ (List.mem_of_getElem? (i := 22) rfl))) (mvT hZ (hw _ (List.mem_of_getElem? (i := 19) rfl))) (mvT hZ (hw _ (List.mem_of_getElem? (i := 23) rfl))) (by decide) (backOf (W := 0) (own_rm3 l Z a0 hw [] x0 (12272 : Int32) (12288 : Int32) h0 n0) hZ (hw _ (List.mem_of_getElem? (i := 23) rfl)) (hw _ (List.mem_of_getElem? (i := 19) rfl)) (by decide) (by decide)) (g := (mkF m 144 #[.val (.int x0)] [(.int (12288 : Int32)), (.int (12272 : Int32)), (.int x0)])) rfl (by rw [hml]; rfl) (argsL := [(.int x0), (.int (12272 : Int32)), (.int (12288 : Int32))]) (rest := []) (lenOf own_pd0 rfl) rfl (by show 2 * 0 + _ ≤ _; exact Nat.le_of_eq rfl) (hb hby own_d2_144) (fun _ _ => ⟨rfl, e10, (show cells + 0 ≤ 0 by omega), (show slots + 0 ≤ 0 by omega)⟩)
                  dsimp only [Pt.U, Pt.locs, Pt.cells, Pt.slots] at X11 l11 y11 z11 st11 hQ11
                  rw [l11, y11, z11] at X11
                  obtain ⟨rfl, N11q, e11⟩ := hQ11
                  have N11 := Fr.app N10 N11q
                  refine own_st (g' := (mkF m 147 #[.val (.int x0)] [(.int (nar .boolean (own_f3_0 x0 (12272 : Int32) (12288 : Int32))))])) st11 ?_
                  by_cases hc147 : (nar .boolean (own_f3_0 x0 (12272 : Int32) (12288 : Int32))) = (0 : Int32)
                  · rw [if_pos hc147]
                    refine own_st (g' := (mkF m 152 #[.val (.int x0)] [])) (fun tt_ kk_ => XS.ifYes X11.here hx rfl (pc0 := 147) (pc' := 152) rfl (hb hby own_d2_147) rfl ((if0 _ _).trans (teq hc147).1) (by decide) (by decide) kk_) ?_
                    refine own_st (g' := (mkF m 153 #[.val (.int x0)] [(.int x0)])) (fun tt_ kk_ => XS.iloadN X11.here hx rfl (hb hby own_d2_152) rfl kk_) ?_
                    refine own_st (g' := (mkF m 155 #[.val (.int x0)] [(.int (55296 : Int32)), (.int x0)])) (fun tt_ kk_ => X11.ldcInt hx hown (mvT hZ (hw _ (List.mem_of_getElem? (i := 24) rfl))) (g := (mkF m 153 #[.val (.int x0)] [(.int x0)])) rfl (hb hby own_d2_153) _ kk_) ?_
                    refine own_st (g' := (mkF m 157 #[.val (.int x0)] [(.int (63743 : Int32)), (.int (55296 : Int32)), (.int x0)])) (fun tt_ kk_ => X11.ldcInt hx hown (mvT hZ (hw _ (List.mem_of_getElem? (i := 25) rfl))) (g := (mkF m 155 #[.val (.int x0)] [(.int (55296 : Int32)), (.int x0)])) rfl (hb hby own_d2_155) _ kk_) ?_
                    obtain ⟨_, _, ⟨T12, L12, k12, n12⟩, -, X12, ⟨Lc12, hQ12, l12, y12, z12⟩, st12⟩ := Jvm.LawKit.callS X11 hx (y := (⟨"com/example/flycatcher/flycatcher/xml/XmlCharsIsNameStartCharPinLaw", "between", "(III)Z"⟩ : MethodName)) hown (mvT hZ (hw _ (List.mem_of_getElem? (i := 21) rfl))) (mvT hZ (hw _ (List.mem_of_getElem? (i := 22) rfl))) (mvT hZ (hw _ (List.mem_of_getElem? (i := 19) rfl))) (mvT hZ (hw _ (List.mem_of_getElem? (i := 23) rfl))) (by decide) (backOf (W := 0) (own_rm3 l Z a0 hw [] x0 (55296 : Int32) (63743 : Int32) h0 n0) hZ (hw _ (List.mem_of_getElem? (i := 23) rfl)) (hw _ (List.mem_of_getElem? (i := 19) rfl)) (by decide) (by decide)) (g := (mkF m 157 #[.val (.int x0)] [(.int (63743 : Int32)), (.int (55296 : Int32)), (.int x0)])) rfl (by rw [hml]; rfl) (argsL := [(.int x0), (.int (55296 : Int32)), (.int (63743 : Int32))]) (rest := []) (lenOf own_pd0 rfl) rfl (by show 2 * 0 + _ ≤ _; exact Nat.le_of_eq rfl) (hb hby own_d2_157) (fun _ _ => ⟨rfl, e11, (show cells + 0 ≤ 0 by omega), (show slots + 0 ≤ 0 by omega)⟩)
                    dsimp only [Pt.U, Pt.locs, Pt.cells, Pt.slots] at X12 l12 y12 z12 st12 hQ12
                    rw [l12, y12, z12] at X12
                    obtain ⟨rfl, N12q, e12⟩ := hQ12
                    have N12 := Fr.app N11 N12q
                    refine own_st (g' := (mkF m 160 #[.val (.int x0)] [(.int (nar .boolean (own_f3_0 x0 (55296 : Int32) (63743 : Int32))))])) st12 ?_
                    by_cases hc160 : (nar .boolean (own_f3_0 x0 (55296 : Int32) (63743 : Int32))) = (0 : Int32)
                    · rw [if_pos hc160]
                      refine own_st (g' := (mkF m 163 #[.val (.int x0)] [])) (fun tt_ kk_ => XS.ifNo X12.here hx rfl (hb hby own_d2_160) rfl ((if0 _ _).trans (teq hc160).2) kk_) ?_
                      refine own_st (g' := (mkF m 164 #[.val (.int x0)] [(.int x0)])) (fun tt_ kk_ => XS.iloadN X12.here hx rfl (hb hby own_d2_163) rfl kk_) ?_
                      refine own_st (g' := (mkF m 166 #[.val (.int x0)] [(.int (64976 : Int32)), (.int x0)])) (fun tt_ kk_ => X12.ldcInt hx hown (mvT hZ (hw _ (List.mem_of_getElem? (i := 26) rfl))) (g := (mkF m 164 #[.val (.int x0)] [(.int x0)])) rfl (hb hby own_d2_164) _ kk_) ?_
                      refine own_st (g' := (mkF m 168 #[.val (.int x0)] [(.int (65007 : Int32)), (.int (64976 : Int32)), (.int x0)])) (fun tt_ kk_ => X12.ldcInt hx hown (mvT hZ (hw _ (List.mem_of_getElem? (i := 27) rfl))) (g := (mkF m 166 #[.val (.int x0)] [(.int (64976 : Int32)), (.int x0)])) rfl (hb hby own_d2_166) _ kk_) ?_
                      obtain ⟨_, _, ⟨T13, L13, k13, n13⟩, -, X13, ⟨Lc13, hQ13, l13, y13, z13⟩, st13⟩ := Jvm.LawKit.callS X12 hx (y := (⟨"com/example/flycatcher/flycatcher/xml/XmlCharsIsNameStartCharPinLaw", "between", "(III)Z"⟩ : MethodName)) hown (mvT hZ (hw _ (List.mem_of_getElem? (i := 21) rfl))) (mvT hZ (hw _ (List.mem_of_getElem? (i := 22) rfl))) (mvT hZ (hw _ (List.mem_of_getElem? (i := 19) rfl))) (mvT hZ (hw _ (List.mem_of_getElem? (i := 23) rfl))) (by decide) (backOf (W := 0) (own_rm3 l Z a0 hw [] x0 (64976 : Int32) (65007 : Int32) h0 n0) hZ (hw _ (List.mem_of_getElem? (i := 23) rfl)) (hw _ (List.mem_of_getElem? (i := 19) rfl)) (by decide) (by decide)) (g := (mkF m 168 #[.val (.int x0)] [(.int (65007 : Int32)), (.int (64976 : Int32)), (.int x0)])) rfl (by rw [hml]; rfl) (argsL := [(.int x0), (.int (64976 : Int32)), (.int (65007 : Int32))]) (rest := []) (lenOf own_pd0 rfl) rfl (by show 2 * 0 + _ ≤ _; exact Nat.le_of_eq rfl) (hb hby own_d2_168) (fun _ _ => ⟨rfl, e12, (show cells + 0 ≤ 0 by omega), (show slots + 0 ≤ 0 by omega)⟩)
                      dsimp only [Pt.U, Pt.locs, Pt.cells, Pt.slots] at X13 l13 y13 z13 st13 hQ13
                      rw [l13, y13, z13] at X13
                      obtain ⟨rfl, N13q, e13⟩ := hQ13
                      have N13 := Fr.app N12 N13q
                      refine own_st (g' := (mkF m 171 #[.val (.int x0)] [(.int (nar .boolean (own_f3_0 x0 (64976 : Int32) (65007 : Int32))))])) st13 ?_
                      by_cases hc171 : (nar .boolean (own_f3_0 x0 (64976 : Int32) (65007 : Int32))) = (0 : Int32)
                      · rw [if_pos hc171]
                        refine own_st (g' := (mkF m 174 #[.val (.int x0)] [])) (fun tt_ kk_ => XS.ifNo X13.here hx rfl (hb hby own_d2_171) rfl ((if0 _ _).trans (teq hc171).2) kk_) ?_
                        refine own_st (g' := (mkF m 175 #[.val (.int x0)] [(.int x0)])) (fun tt_ kk_ => XS.iloadN X13.here hx rfl (hb hby own_d2_174) rfl kk_) ?_
                        refine own_st (g' := (mkF m 177 #[.val (.int x0)] [(.int (65534 : Int32)), (.int x0)])) (fun tt_ kk_ => X13.ldcInt hx hown (mvT hZ (hw _ (List.mem_of_getElem? (i := 28) rfl))) (g := (mkF m 175 #[.val (.int x0)] [(.int x0)])) rfl (hb hby own_d2_175) _ kk_) ?_
                        refine own_st (g' := (mkF m 179 #[.val (.int x0)] [(.int (65535 : Int32)), (.int (65534 : Int32)), (.int x0)])) (fun tt_ kk_ => X13.ldcInt hx hown (mvT hZ (hw _ (List.mem_of_getElem? (i := 29) rfl))) (g := (mkF m 177 #[.val (.int x0)] [(.int (65534 : Int32)), (.int x0)])) rfl (hb hby own_d2_177) _ kk_) ?_
                        obtain ⟨_, _, ⟨T14, L14, k14, n14⟩, -, X14, ⟨Lc14, hQ14, l14, y14, z14⟩, st14⟩ := Jvm.LawKit.callS X13 hx (y := (⟨"com/example/flycatcher/flycatcher/xml/XmlCharsIsNameStartCharPinLaw", "between", "(III)Z"⟩ : MethodName)) hown (mvT hZ (hw _ (List.mem_of_getElem? (i := 21) rfl))) (mvT hZ (hw _ (List.mem_of_getElem? (i := 22) rfl))) (mvT hZ (hw _ (List.mem_of_getElem? (i := 19) rfl))) (mvT hZ (hw _ (List.mem_of_getElem? (i := 23) rfl))) (by decide) (backOf (W := 0) (own_rm3 l Z a0 hw [] x0 (65534 : Int32) (65535 : Int32) h0 n0) hZ (hw _ (List.mem_of_getElem? (i := 23) rfl)) (hw _ (List.mem_of_getElem? (i := 19) rfl)) (by decide) (by decide)) (g := (mkF m 179 #[.val (.int x0)] [(.int (65535 : Int32)), (.int (65534 : Int32)), (.int x0)])) rfl (by rw [hml]; rfl) (argsL := [(.int x0), (.int (65534 : Int32)), (.int (65535 : Int32))]) (rest := []) (lenOf own_pd0 rfl) rfl (by show 2 * 0 + _ ≤ _; exact Nat.le_of_eq rfl) (hb hby own_d2_179) (fun _ _ => ⟨rfl, e13, (show cells + 0 ≤ 0 by omega), (show slots + 0 ≤ 0 by omega)⟩)
                        dsimp only [Pt.U, Pt.locs, Pt.cells, Pt.slots] at X14 l14 y14 z14 st14 hQ14
                        rw [l14, y14, z14] at X14
                        obtain ⟨rfl, N14q, e14⟩ := hQ14
                        have N14 := Fr.app N13 N14q
                        refine own_st (g' := (mkF m 182 #[.val (.int x0)] [(.int (nar .boolean (own_f3_0 x0 (65534 : Int32) (65535 : Int32))))])) st14 ?_
                        by_cases hc182 : (nar .boolean (own_f3_0 x0 (65534 : Int32) (65535 : Int32))) = (0 : Int32)
                        · rw [if_pos hc182]
                          refine own_st (g' := (mkF m 187 #[.val (.int x0)] [])) (fun tt_ kk_ => XS.ifYes X14.here hx rfl (pc0 := 182) (pc' := 187) rfl (hb hby own_d2_182) rfl ((if0 _ _).trans (teq hc182).1) (by decide) (by decide) kk_) ?_
                          refine own_st (g' := (mkF m 188 #[.val (.int x0)] [(.int (1 : Int32))])) (fun tt_ kk_ => XS.iconst X14.here hx rfl (hb hby own_d2_187) kk_) ?_
                          exact own_retN X14 hx hlk (t := .boolean) (Or.inl rfl) hret (hb hby own_d2_188) hcs hss ⟨rfl, N14, e14⟩
                        rw [if_neg hc182]
                        refine own_st (g' := (mkF m 185 #[.val (.int x0)] [])) (fun tt_ kk_ => XS.ifNo X14.here hx rfl (hb hby own_d2_182) rfl ((if0 _ _).trans (feq hc182).1) kk_) ?_
                        refine own_st (g' := (mkF m 186 #[.val (.int x0)] [(.int (0 : Int32))])) (fun tt_ kk_ => XS.iconst X14.here hx rfl (hb hby own_d2_185) kk_) ?_
                        exact own_retN X14 hx hlk (t := .boolean) (Or.inl rfl) hret (hb hby own_d2_186) hcs hss ⟨rfl, N14, e14⟩
                      rw [if_neg hc171]
                      refine own_st (g' := (mkF m 185 #[.val (.int x0)] [])) (fun tt_ kk_ => XS.ifYes X13.here hx rfl (pc0 := 171) (pc' := 185) rfl (hb hby own_d2_171) rfl ((if0 _ _).trans (feq hc171).2) (by decide) (by decide) kk_) ?_
                      refine own_st (g' := (mkF m 186 #[.val (.int x0)] [(.int (0 : Int32))])) (fun tt_ kk_ => XS.iconst X13.here hx rfl (hb hby own_d2_185) kk_) ?_
                      exact own_retN X13 hx hlk (t := .boolean) (Or.inl rfl) hret (hb hby own_d2_186) hcs hss ⟨rfl, N13, e13⟩
                    rw [if_neg hc160]
                    refine own_st (g' := (mkF m 185 #[.val (.int x0)] [])) (fun tt_ kk_ => XS.ifYes X12.here hx rfl (pc0 := 160) (pc' := 185) rfl (hb hby own_d2_160) rfl ((if0 _ _).trans (feq hc160).2) (by decide) (by decide) kk_) ?_
                    refine own_st (g' := (mkF m 186 #[.val (.int x0)] [(.int (0 : Int32))])) (fun tt_ kk_ => XS.iconst X12.here hx rfl (hb hby own_d2_185) kk_) ?_
                    exact own_retN X12 hx hlk (t := .boolean) (Or.inl rfl) hret (hb hby own_d2_186) hcs hss ⟨rfl, N12, e12⟩
                  rw [if_neg hc147]
                  refine own_st (g' := (mkF m 150 #[.val (.int x0)] [])) (fun tt_ kk_ => XS.ifNo X11.here hx rfl (hb hby own_d2_147) rfl ((if0 _ _).trans (feq hc147).1) kk_) ?_
                  refine own_st (g' := (mkF m 151 #[.val (.int x0)] [(.int (0 : Int32))])) (fun tt_ kk_ => XS.iconst X11.here hx rfl (hb hby own_d2_150) kk_) ?_
                  exact own_retN X11 hx hlk (t := .boolean) (Or.inl rfl) hret (hb hby own_d2_151) hcs hss ⟨rfl, N11, e11⟩
                rw [if_neg hc134]
                refine own_st (g' := (mkF m 150 #[.val (.int x0)] [])) (fun tt_ kk_ => XS.ifYes X10.here hx rfl (pc0 := 134) (pc' := 150) rfl (hb hby own_d2_134) rfl ((if0 _ _).trans (feq hc134).2) (by decide) (by decide) kk_) ?_
                refine own_st (g' := (mkF m 151 #[.val (.int x0)] [(.int (0 : Int32))])) (fun tt_ kk_ => XS.iconst X10.here hx rfl (hb hby own_d2_150) kk_) ?_
                exact own_retN X10 hx hlk (t := .boolean) (Or.inl rfl) hret (hb hby own_d2_151) hcs hss ⟨rfl, N10, e10⟩
              rw [if_neg hc121]
              refine own_st (g' := (mkF m 150 #[.val (.int x0)] [])) (fun tt_ kk_ => XS.ifYes X9.here hx rfl (pc0 := 121) (pc' := 150) rfl (hb hby own_d2_121) rfl ((if0 _ _).trans (feq hc121).2) (by decide) (by decide) kk_) ?_
              refine own_st (g' := (mkF m 151 #[.val (.int x0)] [(.int (0 : Int32))])) (fun tt_ kk_ => XS.iconst X9.here hx rfl (hb hby own_d2_150) kk_) ?_
              exact own_retN X9 hx hlk (t := .boolean) (Or.inl rfl) hret (hb hby own_d2_151) hcs hss ⟨rfl, N9, e9⟩
            rw [if_neg hc108]
            refine own_st (g' := (mkF m 150 #[.val (.int x0)] [])) (fun tt_ kk_ => XS.ifYes X8.here hx rfl (pc0 := 108) (pc' := 150) rfl (hb hby own_d2_108) rfl ((if0 _ _).trans (feq hc108).2) (by decide) (by decide) kk_) ?_
            refine own_st (g' := (mkF m 151 #[.val (.int x0)] [(.int (0 : Int32))])) (fun tt_ kk_ => XS.iconst X8.here hx rfl (hb hby own_d2_150) kk_) ?_
            exact own_retN X8 hx hlk (t := .boolean) (Or.inl rfl) hret (hb hby own_d2_151) hcs hss ⟨rfl, N8, e8⟩
          rw [if_neg hc88]
          refine own_st (g' := (mkF m 150 #[.val (.int x0)] [])) (fun tt_ kk_ => XS.ifYes X7.here hx rfl (pc0 := 88) (pc' := 150) rfl (hb hby own_d2_88) rfl ((if0 _ _).trans (feq hc88).2) (by decide) (by decide) kk_) ?_
          refine own_st (g' := (mkF m 151 #[.val (.int x0)] [(.int (0 : Int32))])) (fun tt_ kk_ => XS.iconst X7.here hx rfl (hb hby own_d2_150) kk_) ?_
          exact own_retN X7 hx hlk (t := .boolean) (Or.inl rfl) hret (hb hby own_d2_151) hcs hss ⟨rfl, N7, e7⟩
        rw [if_neg hc59]
        refine own_st (g' := (mkF m 76 #[.val (.int x0)] [])) (fun tt_ kk_ => XS.ifYes X6.here hx rfl (pc0 := 59) (pc' := 76) rfl (hb hby own_d2_59) rfl ((if0 _ _).trans (feq hc59).2) (by decide) (by decide) kk_) ?_
        refine own_st (g' := (mkF m 77 #[.val (.int x0)] [(.int (0 : Int32))])) (fun tt_ kk_ => XS.iconst X6.here hx rfl (hb hby own_d2_76) kk_) ?_
        exact own_retN X6 hx hlk (t := .boolean) (Or.inl rfl) hret (hb hby own_d2_77) hcs hss ⟨rfl, N6, e6⟩
      rw [if_neg hc41]
      refine own_st (g' := (mkF m 76 #[.val (.int x0)] [])) (fun tt_ kk_ => XS.ifYes X5.here hx rfl (pc0 := 41) (pc' := 76) rfl (hb hby own_d2_41) rfl ((if0 _ _).trans (feq hc41).2) (by decide) (by decide) kk_) ?_
      refine own_st (g' := (mkF m 77 #[.val (.int x0)] [(.int (0 : Int32))])) (fun tt_ kk_ => XS.iconst X5.here hx rfl (hb hby own_d2_76) kk_) ?_
      exact own_retN X5 hx hlk (t := .boolean) (Or.inl rfl) hret (hb hby own_d2_77) hcs hss ⟨rfl, N5, e5⟩
    rw [if_neg hc30]
    refine own_st (g' := (mkF m 76 #[.val (.int x0)] [])) (fun tt_ kk_ => XS.ifYes X4.here hx rfl (pc0 := 30) (pc' := 76) rfl (hb hby own_d2_30) rfl ((if0 _ _).trans (feq hc30).2) (by decide) (by decide) kk_) ?_
    refine own_st (g' := (mkF m 77 #[.val (.int x0)] [(.int (0 : Int32))])) (fun tt_ kk_ => XS.iconst X4.here hx rfl (hb hby own_d2_76) kk_) ?_
    exact own_retN X4 hx hlk (t := .boolean) (Or.inl rfl) hret (hb hby own_d2_77) hcs hss ⟨rfl, N4, e4⟩
  rw [if_neg hc19]
  refine own_st (g' := (mkF m 76 #[.val (.int x0)] [])) (fun tt_ kk_ => XS.ifYes X3.here hx rfl (pc0 := 19) (pc' := 76) rfl (hb hby own_d2_19) rfl ((if0 _ _).trans (feq hc19).2) (by decide) (by decide) kk_) ?_
  refine own_st (g' := (mkF m 77 #[.val (.int x0)] [(.int (0 : Int32))])) (fun tt_ kk_ => XS.iconst X3.here hx rfl (hb hby own_d2_76) kk_) ?_
  exact own_retN X3 hx hlk (t := .boolean) (Or.inl rfl) hret (hb hby own_d2_77) hcs hss ⟨rfl, N3, e3⟩
theorem own_ef2 (m : MethodId) (x0 : Int32) : entryFrame m #[(.int x0)] 1 = mkF m 0 #[.val (.int x0)] [] := by first | (simp [entryFrame, mkF, argsToLocals, Value.category]; done) | rfl
set_option maxRecDepth 65536 in
set_option maxHeartbeats 4000000 in
theorem own_rm2 (l : Launch) (Z : State) (a0 : Array Value) (hw : ∀ d ∈ tables_1, d.before a0 Z = true) (ws : List Jvm.Cond) (x0 : Int32) (h0 : Heap) (n0 : Nat) :
    MetFree l (⟨"com/example/flycatcher/flycatcher/xml/XmlCharsIsNameStartCharPinLaw", "expected", "(I)Z"⟩ : MethodName) (head1 (Jvm.Cond.code (⟨"com/example/flycatcher/flycatcher/xml/XmlCharsIsNameStartCharPinLaw", "expected", "(I)Z"⟩ : MethodName) method_4_code 1 (some .boolean) :: ws) ({ frames := 1, cells := 0, slots := 0, locals := 14 } : Room)) (fun aa UU => aa = #[(.int x0)] ∧ Z.Warmed39 UU.vm ∧ UU.heap = h0) (fun _ _ _ _ _ => True) (fun _ U o U' => ∃ v L, o = .returned v ∧ own_QP (.int (nar .boolean (own_f2_0 x0))) h0 n0 v U'.heap L ∧ FrameEnd U o U' L ({ frames := 1, cells := 0, slots := 0, locals := 14 } : Room).cells ({ frames := 1, cells := 0, slots := 0, locals := 14 } : Room).slots) := by
  refine MetFree.of_bodySF (plainFor_of_name own_pn0) hisR ?_
  intro p e s m args below meth c s₁ Bd hml0 hP hK
  obtain ⟨rfl, hZ, hh⟩ := hP
  have X0 : Stand p l e ({ frames := 1, cells := 0, slots := 0, locals := 14 } : Room) s m #[(.int x0)] below meth c s₁ [] 0 0 := Stand.of_body Bd
  have e0 : s₁.heap = h0 := by rw [← hh, Bd.state]; rfl
  refine own_cast (own_ef2 m x0) ?_
  exact own_b2_0 X0 Bd.exec Bd.notSynchronized Bd.bytes hml0 Bd.returns (findClass_of_methodNamed Bd.named) hZ hw e0 (Fr.nil n0) (by decide) (by decide) x0
theorem own_case (P : Int32 → Prop) (K : Nat) (hK : K < 2 ^ 31) (h1 : ∀ n : Fin K, P (Int32.ofNat n.1)) (h2 : ∀ x : Int32, (x.toInt < 0 ∨ (K : Int) ≤ x.toInt) → P x) (x : Int32) : P x := by
  by_cases h : x.toInt < 0 ∨ (K : Int) ≤ x.toInt
  · exact h2 x h
  · have e : x = Int32.ofNat x.toInt.toNat := by
      apply Int32.toInt_inj.mp
      rw [Int32.toInt_ofNat_of_lt (by omega)]
      omega
    have := h1 ⟨x.toInt.toNat, by omega⟩
    rw [← e] at this
    exact this
theorem own_ix (x : Int32) : ¬ ((x &&& (2147483647 : Int32)) % (34 : Int32)) < 0 ∧ ((x &&& (2147483647 : Int32)) % (34 : Int32)) < (34 : Int32) := by
  have e : (x &&& (2147483647 : Int32)).toInt = x.toInt % 2 ^ 31 := Jvm.Kit.i32_mask x 2147483647 (k := 31) (by decide) (by decide)
  have q : ((x &&& (2147483647 : Int32)) % (34 : Int32)).toInt = (x &&& (2147483647 : Int32)).toInt % (34 : Int32).toInt := Jvm.Kit.i32_rem_nonneg (by omega)
  simp only [Int32.lt_iff_toInt_lt, q, e, Int32.reduceToInt]
  omega
theorem own_getD (L : List Int32) (d : Int32) (i : Nat) : (L.map Value.int).getD i (.int d) = .int (L.getD i d) := by
  simp only [List.getD_eq_getElem?_getD, List.getElem?_map]
  cases L[i]? <;> rfl
def own_edges : List Int32 := [58, 65, 90, 95, 97, 122, 128, 192, 214, 216, 246, 248, 767, 880, 893, 895, 8191, 8204, 8205, 8304, 8591, 11264, 12271, 12289, 55295, 63744, 64975, 65008, 65533, 65536, 983039, 0, -2147483647, 2147483646]
def own_P (i : Int) : Prop := (192 ≤ i ∧ i ≤ 214) ∨ (216 ≤ i ∧ i ≤ 246) ∨ (248 ≤ i ∧ i ≤ 767) ∨ (880 ≤ i ∧ i ≤ 893) ∨ (895 ≤ i ∧ i ≤ 8191) ∨ (8204 ≤ i ∧ i ≤ 8205) ∨ (8304 ≤ i ∧ i ≤ 8591) ∨ (11264 ≤ i ∧ i ≤ 12271) ∨ (12289 ≤ i ∧ i ≤ 55295) ∨ (63744 ≤ i ∧ i ≤ 64975) ∨ (65008 ≤ i ∧ i ≤ 65533) ∨ (65536 ≤ i ∧ i ≤ 983039)
theorem own_btw (x a b : Int32) : (nar .boolean (own_f3_0 x a b) = 0) = (x.toInt < a.toInt ∨ b.toInt < x.toInt) := by
  apply propext
  unfold own_f3_0
  rw [← Int32.lt_iff_toInt_lt, ← Int32.lt_iff_toInt_lt]
  by_cases h1 : x < a
  · rw [if_pos h1]; exact ⟨fun _ => Or.inl h1, fun _ => rfl⟩
  · rw [if_neg h1]
    by_cases h2 : b < x
    · rw [if_pos h2]; exact ⟨fun _ => Or.inr h2, fun _ => rfl⟩
    · rw [if_neg h2]; exact ⟨fun q => absurd q (by decide), fun q => (q.elim h1 h2).elim⟩
set_option maxHeartbeats 8000000 in
theorem own_s176 (x : Int32) : (((65536 ≤ x.toInt ∧ x.toInt ≤ 983039)) ∧ own_f1_176 x = 1) ∨ (¬ ((65536 ≤ x.toInt ∧ x.toInt ≤ 983039)) ∧ own_f1_176 x = 0) := by
  unfold own_f1_176
  simp only [Int32.lt_iff_toInt_lt, Int32.reduceToInt]
  generalize x.toInt = i at *
  repeat' split
  all_goals first | exact Or.inl ⟨by omega, rfl⟩ | exact Or.inr ⟨by omega, rfl⟩ | (exfalso; omega)
set_option maxHeartbeats 8000000 in
theorem own_s164 (x : Int32) : (((65008 ≤ x.toInt ∧ x.toInt ≤ 65533) ∨ (65536 ≤ x.toInt ∧ x.toInt ≤ 983039)) ∧ own_f1_164 x = 1) ∨ (¬ ((65008 ≤ x.toInt ∧ x.toInt ≤ 65533) ∨ (65536 ≤ x.toInt ∧ x.toInt ≤ 983039)) ∧ own_f1_164 x = 0) := by
  unfold own_f1_164
  rcases own_s176 x with ⟨a, b⟩ | ⟨a, b⟩
  all_goals
    rw [b]
    simp only [Int32.lt_iff_toInt_lt, Int32.reduceToInt]
    generalize x.toInt = i at *
    repeat' split
    all_goals first | exact Or.inl ⟨by omega, rfl⟩ | exact Or.inr ⟨by omega, rfl⟩ | (exfalso; omega)
set_option maxHeartbeats 8000000 in
theorem own_s152 (x : Int32) : (((63744 ≤ x.toInt ∧ x.toInt ≤ 64975) ∨ (65008 ≤ x.toInt ∧ x.toInt ≤ 65533) ∨ (65536 ≤ x.toInt ∧ x.toInt ≤ 983039)) ∧ own_f1_152 x = 1) ∨ (¬ ((63744 ≤ x.toInt ∧ x.toInt ≤ 64975) ∨ (65008 ≤ x.toInt ∧ x.toInt ≤ 65533) ∨ (65536 ≤ x.toInt ∧ x.toInt ≤ 983039)) ∧ own_f1_152 x = 0) := by
  unfold own_f1_152
  rcases own_s164 x with ⟨a, b⟩ | ⟨a, b⟩
  all_goals
    rw [b]
    simp only [Int32.lt_iff_toInt_lt, Int32.reduceToInt]
    generalize x.toInt = i at *
    repeat' split
    all_goals first | exact Or.inl ⟨by omega, rfl⟩ | exact Or.inr ⟨by omega, rfl⟩ | (exfalso; omega)
set_option maxHeartbeats 8000000 in
theorem own_s139 (x : Int32) : (((12289 ≤ x.toInt ∧ x.toInt ≤ 55295) ∨ (63744 ≤ x.toInt ∧ x.toInt ≤ 64975) ∨ (65008 ≤ x.toInt ∧ x.toInt ≤ 65533) ∨ (65536 ≤ x.toInt ∧ x.toInt ≤ 983039)) ∧ own_f1_139 x = 1) ∨ (¬ ((12289 ≤ x.toInt ∧ x.toInt ≤ 55295) ∨ (63744 ≤ x.toInt ∧ x.toInt ≤ 64975) ∨ (65008 ≤ x.toInt ∧ x.toInt ≤ 65533) ∨ (65536 ≤ x.toInt ∧ x.toInt ≤ 983039)) ∧ own_f1_139 x = 0) := by
  unfold own_f1_139
  rcases own_s152 x with ⟨a, b⟩ | ⟨a, b⟩
  all_goals
    rw [b]
    simp only [Int32.lt_iff_toInt_lt, Int32.reduceToInt]
    generalize x.toInt = i at *
    repeat' split
    all_goals first | exact Or.inl ⟨by omega, rfl⟩ | exact Or.inr ⟨by omega, rfl⟩ | (exfalso; omega)
set_option maxHeartbeats 8000000 in
theorem own_s125 (x : Int32) : (((11264 ≤ x.toInt ∧ x.toInt ≤ 12271) ∨ (12289 ≤ x.toInt ∧ x.toInt ≤ 55295) ∨ (63744 ≤ x.toInt ∧ x.toInt ≤ 64975) ∨ (65008 ≤ x.toInt ∧ x.toInt ≤ 65533) ∨ (65536 ≤ x.toInt ∧ x.toInt ≤ 983039)) ∧ own_f1_125 x = 1) ∨ (¬ ((11264 ≤ x.toInt ∧ x.toInt ≤ 12271) ∨ (12289 ≤ x.toInt ∧ x.toInt ≤ 55295) ∨ (63744 ≤ x.toInt ∧ x.toInt ≤ 64975) ∨ (65008 ≤ x.toInt ∧ x.toInt ≤ 65533) ∨ (65536 ≤ x.toInt ∧ x.toInt ≤ 983039)) ∧ own_f1_125 x = 0) := by
  unfold own_f1_125
  rcases own_s139 x with ⟨a, b⟩ | ⟨a, b⟩
  all_goals
    rw [b]
    simp only [Int32.lt_iff_toInt_lt, Int32.reduceToInt]
    generalize x.toInt = i at *
    repeat' split
    all_goals first | exact Or.inl ⟨by omega, rfl⟩ | exact Or.inr ⟨by omega, rfl⟩ | (exfalso; omega)
set_option maxHeartbeats 8000000 in
theorem own_s111 (x : Int32) : (((8304 ≤ x.toInt ∧ x.toInt ≤ 8591) ∨ (11264 ≤ x.toInt ∧ x.toInt ≤ 12271) ∨ (12289 ≤ x.toInt ∧ x.toInt ≤ 55295) ∨ (63744 ≤ x.toInt ∧ x.toInt ≤ 64975) ∨ (65008 ≤ x.toInt ∧ x.toInt ≤ 65533) ∨ (65536 ≤ x.toInt ∧ x.toInt ≤ 983039)) ∧ own_f1_111 x = 1) ∨ (¬ ((8304 ≤ x.toInt ∧ x.toInt ≤ 8591) ∨ (11264 ≤ x.toInt ∧ x.toInt ≤ 12271) ∨ (12289 ≤ x.toInt ∧ x.toInt ≤ 55295) ∨ (63744 ≤ x.toInt ∧ x.toInt ≤ 64975) ∨ (65008 ≤ x.toInt ∧ x.toInt ≤ 65533) ∨ (65536 ≤ x.toInt ∧ x.toInt ≤ 983039)) ∧ own_f1_111 x = 0) := by
  unfold own_f1_111
  rcases own_s125 x with ⟨a, b⟩ | ⟨a, b⟩
  all_goals
    rw [b]
    simp only [Int32.lt_iff_toInt_lt, Int32.reduceToInt]
    generalize x.toInt = i at *
    repeat' split
    all_goals first | exact Or.inl ⟨by omega, rfl⟩ | exact Or.inr ⟨by omega, rfl⟩ | (exfalso; omega)
set_option maxHeartbeats 8000000 in
theorem own_s97 (x : Int32) : (((8204 ≤ x.toInt ∧ x.toInt ≤ 8205) ∨ (8304 ≤ x.toInt ∧ x.toInt ≤ 8591) ∨ (11264 ≤ x.toInt ∧ x.toInt ≤ 12271) ∨ (12289 ≤ x.toInt ∧ x.toInt ≤ 55295) ∨ (63744 ≤ x.toInt ∧ x.toInt ≤ 64975) ∨ (65008 ≤ x.toInt ∧ x.toInt ≤ 65533) ∨ (65536 ≤ x.toInt ∧ x.toInt ≤ 983039)) ∧ own_f1_97 x = 1) ∨ (¬ ((8204 ≤ x.toInt ∧ x.toInt ≤ 8205) ∨ (8304 ≤ x.toInt ∧ x.toInt ≤ 8591) ∨ (11264 ≤ x.toInt ∧ x.toInt ≤ 12271) ∨ (12289 ≤ x.toInt ∧ x.toInt ≤ 55295) ∨ (63744 ≤ x.toInt ∧ x.toInt ≤ 64975) ∨ (65008 ≤ x.toInt ∧ x.toInt ≤ 65533) ∨ (65536 ≤ x.toInt ∧ x.toInt ≤ 983039)) ∧ own_f1_97 x = 0) := by
  unfold own_f1_97
  rcases own_s111 x with ⟨a, b⟩ | ⟨a, b⟩
  all_goals
    rw [b]
    simp only [Int32.lt_iff_toInt_lt, Int32.reduceToInt]
    generalize x.toInt = i at *
    repeat' split
    all_goals first | exact Or.inl ⟨by omega, rfl⟩ | exact Or.inr ⟨by omega, rfl⟩ | (exfalso; omega)
set_option maxHeartbeats 8000000 in
theorem own_s83 (x : Int32) : (((895 ≤ x.toInt ∧ x.toInt ≤ 8191) ∨ (8204 ≤ x.toInt ∧ x.toInt ≤ 8205) ∨ (8304 ≤ x.toInt ∧ x.toInt ≤ 8591) ∨ (11264 ≤ x.toInt ∧ x.toInt ≤ 12271) ∨ (12289 ≤ x.toInt ∧ x.toInt ≤ 55295) ∨ (63744 ≤ x.toInt ∧ x.toInt ≤ 64975) ∨ (65008 ≤ x.toInt ∧ x.toInt ≤ 65533) ∨ (65536 ≤ x.toInt ∧ x.toInt ≤ 983039)) ∧ own_f1_83 x = 1) ∨ (¬ ((895 ≤ x.toInt ∧ x.toInt ≤ 8191) ∨ (8204 ≤ x.toInt ∧ x.toInt ≤ 8205) ∨ (8304 ≤ x.toInt ∧ x.toInt ≤ 8591) ∨ (11264 ≤ x.toInt ∧ x.toInt ≤ 12271) ∨ (12289 ≤ x.toInt ∧ x.toInt ≤ 55295) ∨ (63744 ≤ x.toInt ∧ x.toInt ≤ 64975) ∨ (65008 ≤ x.toInt ∧ x.toInt ≤ 65533) ∨ (65536 ≤ x.toInt ∧ x.toInt ≤ 983039)) ∧ own_f1_83 x = 0) := by
  unfold own_f1_83
  rcases own_s97 x with ⟨a, b⟩ | ⟨a, b⟩
  all_goals
    rw [b]
    simp only [Int32.lt_iff_toInt_lt, Int32.reduceToInt]
    generalize x.toInt = i at *
    repeat' split
    all_goals first | exact Or.inl ⟨by omega, rfl⟩ | exact Or.inr ⟨by omega, rfl⟩ | (exfalso; omega)
set_option maxHeartbeats 8000000 in
theorem own_s69 (x : Int32) : (((880 ≤ x.toInt ∧ x.toInt ≤ 893) ∨ (895 ≤ x.toInt ∧ x.toInt ≤ 8191) ∨ (8204 ≤ x.toInt ∧ x.toInt ≤ 8205) ∨ (8304 ≤ x.toInt ∧ x.toInt ≤ 8591) ∨ (11264 ≤ x.toInt ∧ x.toInt ≤ 12271) ∨ (12289 ≤ x.toInt ∧ x.toInt ≤ 55295) ∨ (63744 ≤ x.toInt ∧ x.toInt ≤ 64975) ∨ (65008 ≤ x.toInt ∧ x.toInt ≤ 65533) ∨ (65536 ≤ x.toInt ∧ x.toInt ≤ 983039)) ∧ own_f1_69 x = 1) ∨ (¬ ((880 ≤ x.toInt ∧ x.toInt ≤ 893) ∨ (895 ≤ x.toInt ∧ x.toInt ≤ 8191) ∨ (8204 ≤ x.toInt ∧ x.toInt ≤ 8205) ∨ (8304 ≤ x.toInt ∧ x.toInt ≤ 8591) ∨ (11264 ≤ x.toInt ∧ x.toInt ≤ 12271) ∨ (12289 ≤ x.toInt ∧ x.toInt ≤ 55295) ∨ (63744 ≤ x.toInt ∧ x.toInt ≤ 64975) ∨ (65008 ≤ x.toInt ∧ x.toInt ≤ 65533) ∨ (65536 ≤ x.toInt ∧ x.toInt ≤ 983039)) ∧ own_f1_69 x = 0) := by
  unfold own_f1_69
  rcases own_s83 x with ⟨a, b⟩ | ⟨a, b⟩
  all_goals
    rw [b]
    simp only [Int32.lt_iff_toInt_lt, Int32.reduceToInt]
    generalize x.toInt = i at *
    repeat' split
    all_goals first | exact Or.inl ⟨by omega, rfl⟩ | exact Or.inr ⟨by omega, rfl⟩ | (exfalso; omega)
set_option maxHeartbeats 8000000 in
theorem own_s55 (x : Int32) : (((248 ≤ x.toInt ∧ x.toInt ≤ 767) ∨ (880 ≤ x.toInt ∧ x.toInt ≤ 893) ∨ (895 ≤ x.toInt ∧ x.toInt ≤ 8191) ∨ (8204 ≤ x.toInt ∧ x.toInt ≤ 8205) ∨ (8304 ≤ x.toInt ∧ x.toInt ≤ 8591) ∨ (11264 ≤ x.toInt ∧ x.toInt ≤ 12271) ∨ (12289 ≤ x.toInt ∧ x.toInt ≤ 55295) ∨ (63744 ≤ x.toInt ∧ x.toInt ≤ 64975) ∨ (65008 ≤ x.toInt ∧ x.toInt ≤ 65533) ∨ (65536 ≤ x.toInt ∧ x.toInt ≤ 983039)) ∧ own_f1_55 x = 1) ∨ (¬ ((248 ≤ x.toInt ∧ x.toInt ≤ 767) ∨ (880 ≤ x.toInt ∧ x.toInt ≤ 893) ∨ (895 ≤ x.toInt ∧ x.toInt ≤ 8191) ∨ (8204 ≤ x.toInt ∧ x.toInt ≤ 8205) ∨ (8304 ≤ x.toInt ∧ x.toInt ≤ 8591) ∨ (11264 ≤ x.toInt ∧ x.toInt ≤ 12271) ∨ (12289 ≤ x.toInt ∧ x.toInt ≤ 55295) ∨ (63744 ≤ x.toInt ∧ x.toInt ≤ 64975) ∨ (65008 ≤ x.toInt ∧ x.toInt ≤ 65533) ∨ (65536 ≤ x.toInt ∧ x.toInt ≤ 983039)) ∧ own_f1_55 x = 0) := by
  unfold own_f1_55
  rcases own_s69 x with ⟨a, b⟩ | ⟨a, b⟩
  all_goals
    rw [b]
    simp only [Int32.lt_iff_toInt_lt, Int32.reduceToInt]
    generalize x.toInt = i at *
    repeat' split
    all_goals first | exact Or.inl ⟨by omega, rfl⟩ | exact Or.inr ⟨by omega, rfl⟩ | (exfalso; omega)
set_option maxHeartbeats 8000000 in
theorem own_s41 (x : Int32) : (((216 ≤ x.toInt ∧ x.toInt ≤ 246) ∨ (248 ≤ x.toInt ∧ x.toInt ≤ 767) ∨ (880 ≤ x.toInt ∧ x.toInt ≤ 893) ∨ (895 ≤ x.toInt ∧ x.toInt ≤ 8191) ∨ (8204 ≤ x.toInt ∧ x.toInt ≤ 8205) ∨ (8304 ≤ x.toInt ∧ x.toInt ≤ 8591) ∨ (11264 ≤ x.toInt ∧ x.toInt ≤ 12271) ∨ (12289 ≤ x.toInt ∧ x.toInt ≤ 55295) ∨ (63744 ≤ x.toInt ∧ x.toInt ≤ 64975) ∨ (65008 ≤ x.toInt ∧ x.toInt ≤ 65533) ∨ (65536 ≤ x.toInt ∧ x.toInt ≤ 983039)) ∧ own_f1_41 x = 1) ∨ (¬ ((216 ≤ x.toInt ∧ x.toInt ≤ 246) ∨ (248 ≤ x.toInt ∧ x.toInt ≤ 767) ∨ (880 ≤ x.toInt ∧ x.toInt ≤ 893) ∨ (895 ≤ x.toInt ∧ x.toInt ≤ 8191) ∨ (8204 ≤ x.toInt ∧ x.toInt ≤ 8205) ∨ (8304 ≤ x.toInt ∧ x.toInt ≤ 8591) ∨ (11264 ≤ x.toInt ∧ x.toInt ≤ 12271) ∨ (12289 ≤ x.toInt ∧ x.toInt ≤ 55295) ∨ (63744 ≤ x.toInt ∧ x.toInt ≤ 64975) ∨ (65008 ≤ x.toInt ∧ x.toInt ≤ 65533) ∨ (65536 ≤ x.toInt ∧ x.toInt ≤ 983039)) ∧ own_f1_41 x = 0) := by
  unfold own_f1_41
  rcases own_s55 x with ⟨a, b⟩ | ⟨a, b⟩
  all_goals
    rw [b]
    simp only [Int32.lt_iff_toInt_lt, Int32.reduceToInt]
    generalize x.toInt = i at *
    repeat' split
    all_goals first | exact Or.inl ⟨by omega, rfl⟩ | exact Or.inr ⟨by omega, rfl⟩ | (exfalso; omega)
set_option maxHeartbeats 8000000 in
theorem own_s0 (x : Int32) (h : x.toInt < 0 ∨ (128 : Int) ≤ x.toInt) : (((192 ≤ x.toInt ∧ x.toInt ≤ 214) ∨ (216 ≤ x.toInt ∧ x.toInt ≤ 246) ∨ (248 ≤ x.toInt ∧ x.toInt ≤ 767) ∨ (880 ≤ x.toInt ∧ x.toInt ≤ 893) ∨ (895 ≤ x.toInt ∧ x.toInt ≤ 8191) ∨ (8204 ≤ x.toInt ∧ x.toInt ≤ 8205) ∨ (8304 ≤ x.toInt ∧ x.toInt ≤ 8591) ∨ (11264 ≤ x.toInt ∧ x.toInt ≤ 12271) ∨ (12289 ≤ x.toInt ∧ x.toInt ≤ 55295) ∨ (63744 ≤ x.toInt ∧ x.toInt ≤ 64975) ∨ (65008 ≤ x.toInt ∧ x.toInt ≤ 65533) ∨ (65536 ≤ x.toInt ∧ x.toInt ≤ 983039)) ∧ own_f1_0 x = 1) ∨ (¬ ((192 ≤ x.toInt ∧ x.toInt ≤ 214) ∨ (216 ≤ x.toInt ∧ x.toInt ≤ 246) ∨ (248 ≤ x.toInt ∧ x.toInt ≤ 767) ∨ (880 ≤ x.toInt ∧ x.toInt ≤ 893) ∨ (895 ≤ x.toInt ∧ x.toInt ≤ 8191) ∨ (8204 ≤ x.toInt ∧ x.toInt ≤ 8205) ∨ (8304 ≤ x.toInt ∧ x.toInt ≤ 8591) ∨ (11264 ≤ x.toInt ∧ x.toInt ≤ 12271) ∨ (12289 ≤ x.toInt ∧ x.toInt ≤ 55295) ∨ (63744 ≤ x.toInt ∧ x.toInt ≤ 64975) ∨ (65008 ≤ x.toInt ∧ x.toInt ≤ 65533) ∨ (65536 ≤ x.toInt ∧ x.toInt ≤ 983039)) ∧ own_f1_0 x = 0) := by
  unfold own_f1_0
  rcases own_s41 x with ⟨a, b⟩ | ⟨a, b⟩
  all_goals
    rw [b]
    simp only [Int32.lt_iff_toInt_lt, Int32.reduceToInt]
    generalize x.toInt = i at *
    repeat' split
    all_goals first | exact Or.inl ⟨by omega, rfl⟩ | exact Or.inr ⟨by omega, rfl⟩ | (exfalso; omega)
theorem own_o1 (x : Int32) (h : x.toInt < 0 ∨ (128 : Int) ≤ x.toInt) : (own_P x.toInt ∧ own_f1_0 x = 1) ∨ (¬ own_P x.toInt ∧ own_f1_0 x = 0) := own_s0 x h
set_option maxRecDepth 65536 in
set_option maxHeartbeats 8000000 in
theorem own_o2 (x : Int32) (h : x.toInt < 0 ∨ (128 : Int) ≤ x.toInt) :  (own_P x.toInt ∧ own_f2_0 x = 1) ∨ (¬ own_P x.toInt ∧ own_f2_0 x = 0) := by
  simp +decide only [own_f2_0, if_true, if_false, own_btw]
  simp only [Int32.lt_iff_toInt_lt, ← @Int32.toInt_inj x, Int32.reduceToInt]
  generalize x.toInt = i at h
  by_cases h0 : i < 0
  · rw [if_pos h0]; exact Or.inr ⟨by unfold own_P; omega, rfl⟩
  rw [if_neg h0]
  by_cases h1 : 983039 < i
  · rw [if_pos h1]; exact Or.inr ⟨by unfold own_P; omega, rfl⟩
  rw [if_neg h1]
  by_cases h2 : i < 0 ∨ 57 < i
  case neg => rw [if_neg h2]; exact Or.inr ⟨by unfold own_P; omega, rfl⟩
  rw [if_pos h2]
  by_cases h3 : i < 59 ∨ 64 < i
  case neg => rw [if_neg h3]; exact Or.inr ⟨by unfold own_P; omega, rfl⟩
  rw [if_pos h3]
  by_cases h4 : i < 91 ∨ 94 < i
  case neg => rw [if_neg h4]; exact Or.inr ⟨by unfold own_P; omega, rfl⟩
  rw [if_pos h4]
  by_cases h5 : i = 96
  · rw [if_pos h5]; exact Or.inr ⟨by unfold own_P; omega, rfl⟩
  rw [if_neg h5]
  by_cases h6 : i < 123 ∨ 191 < i
  case neg => rw [if_neg h6]; exact Or.inr ⟨by unfold own_P; omega, rfl⟩
  rw [if_pos h6]
  by_cases h7 : i = 215
  · rw [if_pos h7]; exact Or.inr ⟨by unfold own_P; omega, rfl⟩
  rw [if_neg h7]
  by_cases h8 : i = 247
  · rw [if_pos h8]; exact Or.inr ⟨by unfold own_P; omega, rfl⟩
  rw [if_neg h8]
  by_cases h9 : i < 768 ∨ 879 < i
  case neg => rw [if_neg h9]; exact Or.inr ⟨by unfold own_P; omega, rfl⟩
  rw [if_pos h9]
  by_cases h10 : i = 894
  · rw [if_pos h10]; exact Or.inr ⟨by unfold own_P; omega, rfl⟩
  rw [if_neg h10]
  by_cases h11 : i < 8192 ∨ 8203 < i
  case neg => rw [if_neg h11]; exact Or.inr ⟨by unfold own_P; omega, rfl⟩
  rw [if_pos h11]
  by_cases h12 : i < 8206 ∨ 8303 < i
  case neg => rw [if_neg h12]; exact Or.inr ⟨by unfold own_P; omega, rfl⟩
  rw [if_pos h12]
  by_cases h13 : i < 8592 ∨ 11263 < i
  case neg => rw [if_neg h13]; exact Or.inr ⟨by unfold own_P; omega, rfl⟩
  rw [if_pos h13]
  by_cases h14 : i < 12272 ∨ 12288 < i
  case neg => rw [if_neg h14]; exact Or.inr ⟨by unfold own_P; omega, rfl⟩
  rw [if_pos h14]
  by_cases h15 : i < 55296 ∨ 63743 < i
  case neg => rw [if_neg h15]; exact Or.inr ⟨by unfold own_P; omega, rfl⟩
  rw [if_pos h15]
  by_cases h16 : i < 64976 ∨ 65007 < i
  case neg => rw [if_neg h16]; exact Or.inr ⟨by unfold own_P; omega, rfl⟩
  rw [if_pos h16]
  by_cases h17 : i < 65534 ∨ 65535 < i
  case neg => rw [if_neg h17]; exact Or.inr ⟨by unfold own_P; omega, rfl⟩
  rw [if_pos h17]
  exact Or.inl ⟨by unfold own_P; omega, rfl⟩
set_option maxRecDepth 65536 in
theorem own_law (x : Int32) : nar .boolean (own_f1_0 x) = nar .boolean (own_f2_0 x) := by
  revert x
  refine own_case _ 128 (by decide) (by decide +kernel) ?_
  intro x h
  rcases own_o1 x h with ⟨a, b⟩ | ⟨a, b⟩ <;> rcases own_o2 x h with ⟨a', b'⟩ | ⟨a', b'⟩
  · rw [b, b']
  · exact absurd a a'
  · exact absurd a' a
  · rw [b, b']
theorem own_pd1 : parseMethodDescriptor "(I)Z" = some ⟨[.int], some .boolean⟩ := by decide +kernel
set_option maxRecDepth 65536 in
set_option maxHeartbeats 8000000 in
theorem own_t0 {p : Program} {l : Launch} {e : Env} {s : State} {m : MethodId} {args : Array Value} {below : List Frame} {meth : Method} {c : Code} {T : State} {locs : List Loc} {cells slots : Nat} {Z : State} {a0 : Array Value} {h0 : Heap} {n0 : Nat} (X0 : Stand p l e room_1 s m args below meth c T locs cells slots) (hx : p.tables.exec = Jvm.exec) (hlk : meth.locks = false) (hby : c.code = code) (hml : c.maxLocals = 7) (hret : meth.sig.returnType = some .boolean) (hown : s.vm.findClass "com/example/flycatcher/flycatcher/xml/XmlCharsIsNameStartCharPinLaw" = some m.cls) (hZ : Z.Warmed39 s.vm) (hw : ∀ d ∈ tables_1, d.before a0 Z = true) (e0 : T.heap = h0) (N0 : Fr n0 locs) (Z0 : n0 ≤ h0.size) (hcc : cells ≤ 0) (hss : slots ≤ 0) (tA : Addr) (cA : Cell) (SA : Sta Z h0 "com/example/flycatcher/flycatcher/xml/XmlChars" "ASCII" "[B" (.ref tA)) (AA : Arr Z h0 tA cA .byte) (LA : cA.slots.size = 128) (HA : ∀ j : Int32, ¬ j < 0 → j < 128 → cA.slots[j.toNatClampNeg]? = some (.int (own_tab j))) (x0 : Int32) (x1 : Int32) (x2 : Int32) :
    own_Go p e below s T (mkF m 0 #[.val (.int x0), .val (.int x1), .val (.int x2), .unset, .unset, .unset, .unset] []) (own_Q0 n0) 16 192 := by
  refine own_st (g' := (mkF m 2 #[.val (.int x0), .val (.int x1), .val (.int x2), .unset, .unset, .unset, .unset] [(.int (34 : Int32))])) (fun tt_ kk_ => XS.bipush X0.here hx rfl (hb hby at_0) kk_) ?_
  obtain ⟨T15, h15, k15, X15, e15, E15, A15, st15⟩ := newP X0 hx hZ (hw _ (List.mem_of_getElem? (i := 0) rfl)) e0 (g := (mkF m 2 #[.val (.int x0), .val (.int x1), .val (.int x2), .unset, .unset, .unset, .unset] [(.int (34 : Int32))])) rfl (hb hby at_2) rfl (by decide) (cap := 34) (by decide) (by decide) (show cells + 1 ≤ 16 by omega) (show slots + 34 ≤ 192 by omega)
  obtain ⟨b15, g15⟩ : ∃ z, z = h0.size := ⟨_, rfl⟩
  rw [← g15] at A15 st15
  have ne16 : tA ≠ b15 := Nat.ne_of_lt (Nat.lt_of_lt_of_le AA.lt (Nat.le_of_eq g15.symm))
  have gz15 : n0 ≤ b15 := Nat.le_trans Z0 (Nat.le_of_eq g15.symm)
  have Z15 : n0 ≤ h15.size := Nat.le_trans Z0 E15.1
  have V15 : Arv Z h15 b15 k15 .int (34 : Int32) [(.int (0 : Int32)), (.int (0 : Int32)), (.int (0 : Int32)), (.int (0 : Int32)), (.int (0 : Int32)), (.int (0 : Int32)), (.int (0 : Int32)), (.int (0 : Int32)), (.int (0 : Int32)), (.int (0 : Int32)), (.int (0 : Int32)), (.int (0 : Int32)), (.int (0 : Int32)), (.int (0 : Int32)), (.int (0 : Int32)), (.int (0 : Int32)), (.int (0 : Int32)), (.int (0 : Int32)), (.int (0 : Int32)), (.int (0 : Int32)), (.int (0 : Int32)), (.int (0 : Int32)), (.int (0 : Int32)), (.int (0 : Int32)), (.int (0 : Int32)), (.int (0 : Int32)), (.int (0 : Int32)), (.int (0 : Int32)), (.int (0 : Int32)), (.int (0 : Int32)), (.int (0 : Int32)), (.int (0 : Int32)), (.int (0 : Int32)), (.int (0 : Int32))] (.int (0 : Int32)) := (Arv.new A15 (by decide)).pad (pad_rep [] (.int (0 : Int32)) 34)
  refine own_st (g' := (mkF m 4 #[.val (.int x0), .val (.int x1), .val (.int x2), .unset, .unset, .unset, .unset] [(.ref b15)])) st15 ?_
  refine own_st (g' := (mkF m 5 #[.val (.int x0), .val (.int x1), .val (.int x2), .unset, .unset, .unset, .unset] [(.ref b15), (.ref b15)])) (fun tt_ kk_ => XS.dup X15.here hx rfl (hb hby at_4) rfl rfl kk_) ?_
  refine own_st (g' := (mkF m 6 #[.val (.int x0), .val (.int x1), .val (.int x2), .unset, .unset, .unset, .unset] [(.int (0 : Int32)), (.ref b15), (.ref b15)])) (fun tt_ kk_ => XS.iconst X15.here hx rfl (hb hby at_5) kk_) ?_
  refine own_st (g' := (mkF m 8 #[.val (.int x0), .val (.int x1), .val (.int x2), .unset, .unset, .unset, .unset] [(.int (58 : Int32)), (.int (0 : Int32)), (.ref b15), (.ref b15)])) (fun tt_ kk_ => XS.bipush X15.here hx rfl (hb hby at_6) kk_) ?_
  obtain ⟨c17, A17, q17, S17, M17, H17, G17⟩ := id V15
  have i17 : ¬ ((0 : Int32) < 0 ∨ c17.slots.size ≤ ((0 : Int32)).toNatClampNeg) := inb_of S17 ⟨by decide, by decide⟩
  obtain ⟨T17, h17, X17, e17, W17, st17⟩ := stI X15 hx hZ e15 A17 (j := (0 : Int32)) i17 (g := (mkF m 8 #[.val (.int x0), .val (.int x1), .val (.int x2), .unset, .unset, .unset, .unset] [(.int (58 : Int32)), (.int (0 : Int32)), (.ref b15), (.ref b15)])) rfl rfl (hb hby at_8)
  have N17 := Fr.snoc X17 N0 gz15
  have Z17 : n0 ≤ h17.size := Nat.le_trans Z15 (Keep.of_wr W17).1
  have V17 : Arv Z h17 b15 k15 .int (34 : Int32) [(.int (58 : Int32)), (.int (0 : Int32)), (.int (0 : Int32)), (.int (0 : Int32)), (.int (0 : Int32)), (.int (0 : Int32)), (.int (0 : Int32)), (.int (0 : Int32)), (.int (0 : Int32)), (.int (0 : Int32)), (.int (0 : Int32)), (.int (0 : Int32)), (.int (0 : Int32)), (.int (0 : Int32)), (.int (0 : Int32)), (.int (0 : Int32)), (.int (0 : Int32)), (.int (0 : Int32)), (.int (0 : Int32)), (.int (0 : Int32)), (.int (0 : Int32)), (.int (0 : Int32)), (.int (0 : Int32)), (.int (0 : Int32)), (.int (0 : Int32)), (.int (0 : Int32)), (.int (0 : Int32)), (.int (0 : Int32)), (.int (0 : Int32)), (.int (0 : Int32)), (.int (0 : Int32)), (.int (0 : Int32)), (.int (0 : Int32)), (.int (0 : Int32))] (.int (0 : Int32)) := Arv.set A17 q17 S17 M17 H17 G17 rfl W17 0 rfl (Nat.le_of_ble_eq_true rfl)
  refine own_st (g' := (mkF m 9 #[.val (.int x0), .val (.int x1), .val (.int x2), .unset, .unset, .unset, .unset] [(.ref b15)])) st17 ?_
  refine own_st (g' := (mkF m 10 #[.val (.int x0), .val (.int x1), .val (.int x2), .unset, .unset, .unset, .unset] [(.ref b15), (.ref b15)])) (fun tt_ kk_ => XS.dup X17.here hx rfl (hb hby at_9) rfl rfl kk_) ?_
  refine own_st (g' := (mkF m 11 #[.val (.int x0), .val (.int x1), .val (.int x2), .unset, .unset, .unset, .unset] [(.int (1 : Int32)), (.ref b15), (.ref b15)])) (fun tt_ kk_ => XS.iconst X17.here hx rfl (hb hby at_10) kk_) ?_
  refine own_st (g' := (mkF m 13 #[.val (.int x0), .val (.int x1), .val (.int x2), .unset, .unset, .unset, .unset] [(.int (65 : Int32)), (.int (1 : Int32)), (.ref b15), (.ref b15)])) (fun tt_ kk_ => XS.bipush X17.here hx rfl (hb hby at_11) kk_) ?_
  obtain ⟨c18, A18, q18, S18, M18, H18, G18⟩ := id V17
  have i18 : ¬ ((1 : Int32) < 0 ∨ c18.slots.size ≤ ((1 : Int32)).toNatClampNeg) := inb_of S18 ⟨by decide, by decide⟩
  obtain ⟨T18, h18, X18, e18, W18, st18⟩ := stI X17 hx hZ e17 A18 (j := (1 : Int32)) i18 (g := (mkF m 13 #[.val (.int x0), .val (.int x1), .val (.int x2), .unset, .unset, .unset, .unset] [(.int (65 : Int32)), (.int (1 : Int32)), (.ref b15), (.ref b15)])) rfl rfl (hb hby at_13)
  have N18 := Fr.snoc X18 N17 gz15
  have Z18 : n0 ≤ h18.size := Nat.le_trans Z17 (Keep.of_wr W18).1
  have V18 : Arv Z h18 b15 k15 .int (34 : Int32) [(.int (58 : Int32)), (.int (65 : Int32)), (.int (0 : Int32)), (.int (0 : Int32)), (.int (0 : Int32)), (.int (0 : Int32)), (.int (0 : Int32)), (.int (0 : Int32)), (.int (0 : Int32)), (.int (0 : Int32)), (.int (0 : Int32)), (.int (0 : Int32)), (.int (0 : Int32)), (.int (0 : Int32)), (.int (0 : Int32)), (.int (0 : Int32)), (.int (0 : Int32)), (.int (0 : Int32)), (.int (0 : Int32)), (.int (0 : Int32)), (.int (0 : Int32)), (.int (0 : Int32)), (.int (0 : Int32)), (.int (0 : Int32)), (.int (0 : Int32)), (.int (0 : Int32)), (.int (0 : Int32)), (.int (0 : Int32)), (.int (0 : Int32)), (.int (0 : Int32)), (.int (0 : Int32)), (.int (0 : Int32)), (.int (0 : Int32)), (.int (0 : Int32))] (.int (0 : Int32)) := Arv.set A18 q18 S18 M18 H18 G18 rfl W18 1 rfl (Nat.le_of_ble_eq_true rfl)
  refine own_st (g' := (mkF m 14 #[.val (.int x0), .val (.int x1), .val (.int x2), .unset, .unset, .unset, .unset] [(.ref b15)])) st18 ?_
  refine own_st (g' := (mkF m 15 #[.val (.int x0), .val (.int x1), .val (.int x2), .unset, .unset, .unset, .unset] [(.ref b15), (.ref b15)])) (fun tt_ kk_ => XS.dup X18.here hx rfl (hb hby at_14) rfl rfl kk_) ?_
  refine own_st (g' := (mkF m 16 #[.val (.int x0), .val (.int x1), .val (.int x2), .unset, .unset, .unset, .unset] [(.int (2 : Int32)), (.ref b15), (.ref b15)])) (fun tt_ kk_ => XS.iconst X18.here hx rfl (hb hby at_15) kk_) ?_
  refine own_st (g' := (mkF m 18 #[.val (.int x0), .val (.int x1), .val (.int x2), .unset, .unset, .unset, .unset] [(.int (90 : Int32)), (.int (2 : Int32)), (.ref b15), (.ref b15)])) (fun tt_ kk_ => XS.bipush X18.here hx rfl (hb hby at_16) kk_) ?_
  obtain ⟨c19, A19, q19, S19, M19, H19, G19⟩ := id V18
  have i19 : ¬ ((2 : Int32) < 0 ∨ c19.slots.size ≤ ((2 : Int32)).toNatClampNeg) := inb_of S19 ⟨by decide, by decide⟩
  obtain ⟨T19, h19, X19, e19, W19, st19⟩ := stI X18 hx hZ e18 A19 (j := (2 : Int32)) i19 (g := (mkF m 18 #[.val (.int x0), .val (.int x1), .val (.int x2), .unset, .unset, .unset, .unset] [(.int (90 : Int32)), (.int (2 : Int32)), (.ref b15), (.ref b15)])) rfl rfl (hb hby at_18)
  have N19 := Fr.snoc X19 N18 gz15
  have Z19 : n0 ≤ h19.size := Nat.le_trans Z18 (Keep.of_wr W19).1
  have V19 : Arv Z h19 b15 k15 .int (34 : Int32) [(.int (58 : Int32)), (.int (65 : Int32)), (.int (90 : Int32)), (.int (0 : Int32)), (.int (0 : Int32)), (.int (0 : Int32)), (.int (0 : Int32)), (.int (0 : Int32)), (.int (0 : Int32)), (.int (0 : Int32)), (.int (0 : Int32)), (.int (0 : Int32)), (.int (0 : Int32)), (.int (0 : Int32)), (.int (0 : Int32)), (.int (0 : Int32)), (.int (0 : Int32)), (.int (0 : Int32)), (.int (0 : Int32)), (.int (0 : Int32)), (.int (0 : Int32)), (.int (0 : Int32)), (.int (0 : Int32)), (.int (0 : Int32)), (.int (0 : Int32)), (.int (0 : Int32)), (.int (0 : Int32)), (.int (0 : Int32)), (.int (0 : Int32)), (.int (0 : Int32)), (.int (0 : Int32)), (.int (0 : Int32)), (.int (0 : Int32)), (.int (0 : Int32))] (.int (0 : Int32)) := Arv.set A19 q19 S19 M19 H19 G19 rfl W19 2 rfl (Nat.le_of_ble_eq_true rfl)
  refine own_st (g' := (mkF m 19 #[.val (.int x0), .val (.int x1), .val (.int x2), .unset, .unset, .unset, .unset] [(.ref b15)])) st19 ?_
  refine own_st (g' := (mkF m 20 #[.val (.int x0), .val (.int x1), .val (.int x2), .unset, .unset, .unset, .unset] [(.ref b15), (.ref b15)])) (fun tt_ kk_ => XS.dup X19.here hx rfl (hb hby at_19) rfl rfl kk_) ?_
  refine own_st (g' := (mkF m 21 #[.val (.int x0), .val (.int x1), .val (.int x2), .unset, .unset, .unset, .unset] [(.int (3 : Int32)), (.ref b15), (.ref b15)])) (fun tt_ kk_ => XS.iconst X19.here hx rfl (hb hby at_20) kk_) ?_
  refine own_st (g' := (mkF m 23 #[.val (.int x0), .val (.int x1), .val (.int x2), .unset, .unset, .unset, .unset] [(.int (95 : Int32)), (.int (3 : Int32)), (.ref b15), (.ref b15)])) (fun tt_ kk_ => XS.bipush X19.here hx rfl (hb hby at_21) kk_) ?_
  obtain ⟨c20, A20, q20, S20, M20, H20, G20⟩ := id V19
  have i20 : ¬ ((3 : Int32) < 0 ∨ c20.slots.size ≤ ((3 : Int32)).toNatClampNeg) := inb_of S20 ⟨by decide, by decide⟩
  obtain ⟨T20, h20, X20, e20, W20, st20⟩ := stI X19 hx hZ e19 A20 (j := (3 : Int32)) i20 (g := (mkF m 23 #[.val (.int x0), .val (.int x1), .val (.int x2), .unset, .unset, .unset, .unset] [(.int (95 : Int32)), (.int (3 : Int32)), (.ref b15), (.ref b15)])) rfl rfl (hb hby at_23)
  have N20 := Fr.snoc X20 N19 gz15
  have Z20 : n0 ≤ h20.size := Nat.le_trans Z19 (Keep.of_wr W20).1
  have V20 : Arv Z h20 b15 k15 .int (34 : Int32) [(.int (58 : Int32)), (.int (65 : Int32)), (.int (90 : Int32)), (.int (95 : Int32)), (.int (0 : Int32)), (.int (0 : Int32)), (.int (0 : Int32)), (.int (0 : Int32)), (.int (0 : Int32)), (.int (0 : Int32)), (.int (0 : Int32)), (.int (0 : Int32)), (.int (0 : Int32)), (.int (0 : Int32)), (.int (0 : Int32)), (.int (0 : Int32)), (.int (0 : Int32)), (.int (0 : Int32)), (.int (0 : Int32)), (.int (0 : Int32)), (.int (0 : Int32)), (.int (0 : Int32)), (.int (0 : Int32)), (.int (0 : Int32)), (.int (0 : Int32)), (.int (0 : Int32)), (.int (0 : Int32)), (.int (0 : Int32)), (.int (0 : Int32)), (.int (0 : Int32)), (.int (0 : Int32)), (.int (0 : Int32)), (.int (0 : Int32)), (.int (0 : Int32))] (.int (0 : Int32)) := Arv.set A20 q20 S20 M20 H20 G20 rfl W20 3 rfl (Nat.le_of_ble_eq_true rfl)
  refine own_st (g' := (mkF m 24 #[.val (.int x0), .val (.int x1), .val (.int x2), .unset, .unset, .unset, .unset] [(.ref b15)])) st20 ?_
  refine own_st (g' := (mkF m 25 #[.val (.int x0), .val (.int x1), .val (.int x2), .unset, .unset, .unset, .unset] [(.ref b15), (.ref b15)])) (fun tt_ kk_ => XS.dup X20.here hx rfl (hb hby at_24) rfl rfl kk_) ?_
  refine own_st (g' := (mkF m 26 #[.val (.int x0), .val (.int x1), .val (.int x2), .unset, .unset, .unset, .unset] [(.int (4 : Int32)), (.ref b15), (.ref b15)])) (fun tt_ kk_ => XS.iconst X20.here hx rfl (hb hby at_25) kk_) ?_
  refine own_st (g' := (mkF m 28 #[.val (.int x0), .val (.int x1), .val (.int x2), .unset, .unset, .unset, .unset] [(.int (97 : Int32)), (.int (4 : Int32)), (.ref b15), (.ref b15)])) (fun tt_ kk_ => XS.bipush X20.here hx rfl (hb hby at_26) kk_) ?_
  obtain ⟨c21, A21, q21, S21, M21, H21, G21⟩ := id V20
  have i21 : ¬ ((4 : Int32) < 0 ∨ c21.slots.size ≤ ((4 : Int32)).toNatClampNeg) := inb_of S21 ⟨by decide, by decide⟩
  obtain ⟨T21, h21, X21, e21, W21, st21⟩ := stI X20 hx hZ e20 A21 (j := (4 : Int32)) i21 (g := (mkF m 28 #[.val (.int x0), .val (.int x1), .val (.int x2), .unset, .unset, .unset, .unset] [(.int (97 : Int32)), (.int (4 : Int32)), (.ref b15), (.ref b15)])) rfl rfl (hb hby at_28)
  have N21 := Fr.snoc X21 N20 gz15
  have Z21 : n0 ≤ h21.size := Nat.le_trans Z20 (Keep.of_wr W21).1
  have V21 : Arv Z h21 b15 k15 .int (34 : Int32) [(.int (58 : Int32)), (.int (65 : Int32)), (.int (90 : Int32)), (.int (95 : Int32)), (.int (97 : Int32)), (.int (0 : Int32)), (.int (0 : Int32)), (.int (0 : Int32)), (.int (0 : Int32)), (.int (0 : Int32)), (.int (0 : Int32)), (.int (0 : Int32)), (.int (0 : Int32)), (.int (0 : Int32)), (.int (0 : Int32)), (.int (0 : Int32)), (.int (0 : Int32)), (.int (0 : Int32)), (.int (0 : Int32)), (.int (0 : Int32)), (.int (0 : Int32)), (.int (0 : Int32)), (.int (0 : Int32)), (.int (0 : Int32)), (.int (0 : Int32)), (.int (0 : Int32)), (.int (0 : Int32)), (.int (0 : Int32)), (.int (0 : Int32)), (.int (0 : Int32)), (.int (0 : Int32)), (.int (0 : Int32)), (.int (0 : Int32)), (.int (0 : Int32))] (.int (0 : Int32)) := Arv.set A21 q21 S21 M21 H21 G21 rfl W21 4 rfl (Nat.le_of_ble_eq_true rfl)
  refine own_st (g' := (mkF m 29 #[.val (.int x0), .val (.int x1), .val (.int x2), .unset, .unset, .unset, .unset] [(.ref b15)])) st21 ?_
  refine own_st (g' := (mkF m 30 #[.val (.int x0), .val (.int x1), .val (.int x2), .unset, .unset, .unset, .unset] [(.ref b15), (.ref b15)])) (fun tt_ kk_ => XS.dup X21.here hx rfl (hb hby at_29) rfl rfl kk_) ?_
  refine own_st (g' := (mkF m 31 #[.val (.int x0), .val (.int x1), .val (.int x2), .unset, .unset, .unset, .unset] [(.int (5 : Int32)), (.ref b15), (.ref b15)])) (fun tt_ kk_ => XS.iconst X21.here hx rfl (hb hby at_30) kk_) ?_
  refine own_st (g' := (mkF m 33 #[.val (.int x0), .val (.int x1), .val (.int x2), .unset, .unset, .unset, .unset] [(.int (122 : Int32)), (.int (5 : Int32)), (.ref b15), (.ref b15)])) (fun tt_ kk_ => XS.bipush X21.here hx rfl (hb hby at_31) kk_) ?_
  obtain ⟨c22, A22, q22, S22, M22, H22, G22⟩ := id V21
  have i22 : ¬ ((5 : Int32) < 0 ∨ c22.slots.size ≤ ((5 : Int32)).toNatClampNeg) := inb_of S22 ⟨by decide, by decide⟩
  obtain ⟨T22, h22, X22, e22, W22, st22⟩ := stI X21 hx hZ e21 A22 (j := (5 : Int32)) i22 (g := (mkF m 33 #[.val (.int x0), .val (.int x1), .val (.int x2), .unset, .unset, .unset, .unset] [(.int (122 : Int32)), (.int (5 : Int32)), (.ref b15), (.ref b15)])) rfl rfl (hb hby at_33)
  have N22 := Fr.snoc X22 N21 gz15
  have Z22 : n0 ≤ h22.size := Nat.le_trans Z21 (Keep.of_wr W22).1
  have V22 : Arv Z h22 b15 k15 .int (34 : Int32) [(.int (58 : Int32)), (.int (65 : Int32)), (.int (90 : Int32)), (.int (95 : Int32)), (.int (97 : Int32)), (.int (122 : Int32)), (.int (0 : Int32)), (.int (0 : Int32)), (.int (0 : Int32)), (.int (0 : Int32)), (.int (0 : Int32)), (.int (0 : Int32)), (.int (0 : Int32)), (.int (0 : Int32)), (.int (0 : Int32)), (.int (0 : Int32)), (.int (0 : Int32)), (.int (0 : Int32)), (.int (0 : Int32)), (.int (0 : Int32)), (.int (0 : Int32)), (.int (0 : Int32)), (.int (0 : Int32)), (.int (0 : Int32)), (.int (0 : Int32)), (.int (0 : Int32)), (.int (0 : Int32)), (.int (0 : Int32)), (.int (0 : Int32)), (.int (0 : Int32)), (.int (0 : Int32)), (.int (0 : Int32)), (.int (0 : Int32)), (.int (0 : Int32))] (.int (0 : Int32)) := Arv.set A22 q22 S22 M22 H22 G22 rfl W22 5 rfl (Nat.le_of_ble_eq_true rfl)
  refine own_st (g' := (mkF m 34 #[.val (.int x0), .val (.int x1), .val (.int x2), .unset, .unset, .unset, .unset] [(.ref b15)])) st22 ?_
  refine own_st (g' := (mkF m 35 #[.val (.int x0), .val (.int x1), .val (.int x2), .unset, .unset, .unset, .unset] [(.ref b15), (.ref b15)])) (fun tt_ kk_ => XS.dup X22.here hx rfl (hb hby at_34) rfl rfl kk_) ?_
  refine own_st (g' := (mkF m 37 #[.val (.int x0), .val (.int x1), .val (.int x2), .unset, .unset, .unset, .unset] [(.int (6 : Int32)), (.ref b15), (.ref b15)])) (fun tt_ kk_ => XS.bipush X22.here hx rfl (hb hby at_35) kk_) ?_
  refine own_st (g' := (mkF m 40 #[.val (.int x0), .val (.int x1), .val (.int x2), .unset, .unset, .unset, .unset] [(.int (128 : Int32)), (.int (6 : Int32)), (.ref b15), (.ref b15)])) (fun tt_ kk_ => XS.sipush X22.here hx rfl (hb hby at_37) kk_) ?_
  obtain ⟨c23, A23, q23, S23, M23, H23, G23⟩ := id V22
  have i23 : ¬ ((6 : Int32) < 0 ∨ c23.slots.size ≤ ((6 : Int32)).toNatClampNeg) := inb_of S23 ⟨by decide, by decide⟩
  obtain ⟨T23, h23, X23, e23, W23, st23⟩ := stI X22 hx hZ e22 A23 (j := (6 : Int32)) i23 (g := (mkF m 40 #[.val (.int x0), .val (.int x1), .val (.int x2), .unset, .unset, .unset, .unset] [(.int (128 : Int32)), (.int (6 : Int32)), (.ref b15), (.ref b15)])) rfl rfl (hb hby at_40)
  have N23 := Fr.snoc X23 N22 gz15
  have Z23 : n0 ≤ h23.size := Nat.le_trans Z22 (Keep.of_wr W23).1
  have V23 : Arv Z h23 b15 k15 .int (34 : Int32) [(.int (58 : Int32)), (.int (65 : Int32)), (.int (90 : Int32)), (.int (95 : Int32)), (.int (97 : Int32)), (.int (122 : Int32)), (.int (128 : Int32)), (.int (0 : Int32)), (.int (0 : Int32)), (.int (0 : Int32)), (.int (0 : Int32)), (.int (0 : Int32)), (.int (0 : Int32)), (.int (0 : Int32)), (.int (0 : Int32)), (.int (0 : Int32)), (.int (0 : Int32)), (.int (0 : Int32)), (.int (0 : Int32)), (.int (0 : Int32)), (.int (0 : Int32)), (.int (0 : Int32)), (.int (0 : Int32)), (.int (0 : Int32)), (.int (0 : Int32)), (.int (0 : Int32)), (.int (0 : Int32)), (.int (0 : Int32)), (.int (0 : Int32)), (.int (0 : Int32)), (.int (0 : Int32)), (.int (0 : Int32)), (.int (0 : Int32)), (.int (0 : Int32))] (.int (0 : Int32)) := Arv.set A23 q23 S23 M23 H23 G23 rfl W23 6 rfl (Nat.le_of_ble_eq_true rfl)
  refine own_st (g' := (mkF m 41 #[.val (.int x0), .val (.int x1), .val (.int x2), .unset, .unset, .unset, .unset] [(.ref b15)])) st23 ?_
  refine own_st (g' := (mkF m 42 #[.val (.int x0), .val (.int x1), .val (.int x2), .unset, .unset, .unset, .unset] [(.ref b15), (.ref b15)])) (fun tt_ kk_ => XS.dup X23.here hx rfl (hb hby at_41) rfl rfl kk_) ?_
  refine own_st (g' := (mkF m 44 #[.val (.int x0), .val (.int x1), .val (.int x2), .unset, .unset, .unset, .unset] [(.int (7 : Int32)), (.ref b15), (.ref b15)])) (fun tt_ kk_ => XS.bipush X23.here hx rfl (hb hby at_42) kk_) ?_
  refine own_st (g' := (mkF m 47 #[.val (.int x0), .val (.int x1), .val (.int x2), .unset, .unset, .unset, .unset] [(.int (192 : Int32)), (.int (7 : Int32)), (.ref b15), (.ref b15)])) (fun tt_ kk_ => XS.sipush X23.here hx rfl (hb hby at_44) kk_) ?_
  obtain ⟨c24, A24, q24, S24, M24, H24, G24⟩ := id V23
  have i24 : ¬ ((7 : Int32) < 0 ∨ c24.slots.size ≤ ((7 : Int32)).toNatClampNeg) := inb_of S24 ⟨by decide, by decide⟩
  obtain ⟨T24, h24, X24, e24, W24, st24⟩ := stI X23 hx hZ e23 A24 (j := (7 : Int32)) i24 (g := (mkF m 47 #[.val (.int x0), .val (.int x1), .val (.int x2), .unset, .unset, .unset, .unset] [(.int (192 : Int32)), (.int (7 : Int32)), (.ref b15), (.ref b15)])) rfl rfl (hb hby at_47)
  have N24 := Fr.snoc X24 N23 gz15
  have Z24 : n0 ≤ h24.size := Nat.le_trans Z23 (Keep.of_wr W24).1
  have V24 : Arv Z h24 b15 k15 .int (34 : Int32) [(.int (58 : Int32)), (.int (65 : Int32)), (.int (90 : Int32)), (.int (95 : Int32)), (.int (97 : Int32)), (.int (122 : Int32)), (.int (128 : Int32)), (.int (192 : Int32)), (.int (0 : Int32)), (.int (0 : Int32)), (.int (0 : Int32)), (.int (0 : Int32)), (.int (0 : Int32)), (.int (0 : Int32)), (.int (0 : Int32)), (.int (0 : Int32)), (.int (0 : Int32)), (.int (0 : Int32)), (.int (0 : Int32)), (.int (0 : Int32)), (.int (0 : Int32)), (.int (0 : Int32)), (.int (0 : Int32)), (.int (0 : Int32)), (.int (0 : Int32)), (.int (0 : Int32)), (.int (0 : Int32)), (.int (0 : Int32)), (.int (0 : Int32)), (.int (0 : Int32)), (.int (0 : Int32)), (.int (0 : Int32)), (.int (0 : Int32)), (.int (0 : Int32))] (.int (0 : Int32)) := Arv.set A24 q24 S24 M24 H24 G24 rfl W24 7 rfl (Nat.le_of_ble_eq_true rfl)
  refine own_st (g' := (mkF m 48 #[.val (.int x0), .val (.int x1), .val (.int x2), .unset, .unset, .unset, .unset] [(.ref b15)])) st24 ?_
  refine own_st (g' := (mkF m 49 #[.val (.int x0), .val (.int x1), .val (.int x2), .unset, .unset, .unset, .unset] [(.ref b15), (.ref b15)])) (fun tt_ kk_ => XS.dup X24.here hx rfl (hb hby at_48) rfl rfl kk_) ?_
  refine own_st (g' := (mkF m 51 #[.val (.int x0), .val (.int x1), .val (.int x2), .unset, .unset, .unset, .unset] [(.int (8 : Int32)), (.ref b15), (.ref b15)])) (fun tt_ kk_ => XS.bipush X24.here hx rfl (hb hby at_49) kk_) ?_
  refine own_st (g' := (mkF m 54 #[.val (.int x0), .val (.int x1), .val (.int x2), .unset, .unset, .unset, .unset] [(.int (214 : Int32)), (.int (8 : Int32)), (.ref b15), (.ref b15)])) (fun tt_ kk_ => XS.sipush X24.here hx rfl (hb hby at_51) kk_) ?_
  obtain ⟨c25, A25, q25, S25, M25, H25, G25⟩ := id V24
  have i25 : ¬ ((8 : Int32) < 0 ∨ c25.slots.size ≤ ((8 : Int32)).toNatClampNeg) := inb_of S25 ⟨by decide, by decide⟩
  obtain ⟨T25, h25, X25, e25, W25, st25⟩ := stI X24 hx hZ e24 A25 (j := (8 : Int32)) i25 (g := (mkF m 54 #[.val (.int x0), .val (.int x1), .val (.int x2), .unset, .unset, .unset, .unset] [(.int (214 : Int32)), (.int (8 : Int32)), (.ref b15), (.ref b15)])) rfl rfl (hb hby at_54)
  have N25 := Fr.snoc X25 N24 gz15
  have Z25 : n0 ≤ h25.size := Nat.le_trans Z24 (Keep.of_wr W25).1
  have V25 : Arv Z h25 b15 k15 .int (34 : Int32) [(.int (58 : Int32)), (.int (65 : Int32)), (.int (90 : Int32)), (.int (95 : Int32)), (.int (97 : Int32)), (.int (122 : Int32)), (.int (128 : Int32)), (.int (192 : Int32)), (.int (214 : Int32)), (.int (0 : Int32)), (.int (0 : Int32)), (.int (0 : Int32)), (.int (0 : Int32)), (.int (0 : Int32)), (.int (0 : Int32)), (.int (0 : Int32)), (.int (0 : Int32)), (.int (0 : Int32)), (.int (0 : Int32)), (.int (0 : Int32)), (.int (0 : Int32)), (.int (0 : Int32)), (.int (0 : Int32)), (.int (0 : Int32)), (.int (0 : Int32)), (.int (0 : Int32)), (.int (0 : Int32)), (.int (0 : Int32)), (.int (0 : Int32)), (.int (0 : Int32)), (.int (0 : Int32)), (.int (0 : Int32)), (.int (0 : Int32)), (.int (0 : Int32))] (.int (0 : Int32)) := Arv.set A25 q25 S25 M25 H25 G25 rfl W25 8 rfl (Nat.le_of_ble_eq_true rfl)
  refine own_st (g' := (mkF m 55 #[.val (.int x0), .val (.int x1), .val (.int x2), .unset, .unset, .unset, .unset] [(.ref b15)])) st25 ?_
  refine own_st (g' := (mkF m 56 #[.val (.int x0), .val (.int x1), .val (.int x2), .unset, .unset, .unset, .unset] [(.ref b15), (.ref b15)])) (fun tt_ kk_ => XS.dup X25.here hx rfl (hb hby at_55) rfl rfl kk_) ?_
  refine own_st (g' := (mkF m 58 #[.val (.int x0), .val (.int x1), .val (.int x2), .unset, .unset, .unset, .unset] [(.int (9 : Int32)), (.ref b15), (.ref b15)])) (fun tt_ kk_ => XS.bipush X25.here hx rfl (hb hby at_56) kk_) ?_
  refine own_st (g' := (mkF m 61 #[.val (.int x0), .val (.int x1), .val (.int x2), .unset, .unset, .unset, .unset] [(.int (216 : Int32)), (.int (9 : Int32)), (.ref b15), (.ref b15)])) (fun tt_ kk_ => XS.sipush X25.here hx rfl (hb hby at_58) kk_) ?_
  obtain ⟨c26, A26, q26, S26, M26, H26, G26⟩ := id V25
  have i26 : ¬ ((9 : Int32) < 0 ∨ c26.slots.size ≤ ((9 : Int32)).toNatClampNeg) := inb_of S26 ⟨by decide, by decide⟩
  obtain ⟨T26, h26, X26, e26, W26, st26⟩ := stI X25 hx hZ e25 A26 (j := (9 : Int32)) i26 (g := (mkF m 61 #[.val (.int x0), .val (.int x1), .val (.int x2), .unset, .unset, .unset, .unset] [(.int (216 : Int32)), (.int (9 : Int32)), (.ref b15), (.ref b15)])) rfl rfl (hb hby at_61)
  have N26 := Fr.snoc X26 N25 gz15
  have Z26 : n0 ≤ h26.size := Nat.le_trans Z25 (Keep.of_wr W26).1
  have V26 : Arv Z h26 b15 k15 .int (34 : Int32) [(.int (58 : Int32)), (.int (65 : Int32)), (.int (90 : Int32)), (.int (95 : Int32)), (.int (97 : Int32)), (.int (122 : Int32)), (.int (128 : Int32)), (.int (192 : Int32)), (.int (214 : Int32)), (.int (216 : Int32)), (.int (0 : Int32)), (.int (0 : Int32)), (.int (0 : Int32)), (.int (0 : Int32)), (.int (0 : Int32)), (.int (0 : Int32)), (.int (0 : Int32)), (.int (0 : Int32)), (.int (0 : Int32)), (.int (0 : Int32)), (.int (0 : Int32)), (.int (0 : Int32)), (.int (0 : Int32)), (.int (0 : Int32)), (.int (0 : Int32)), (.int (0 : Int32)), (.int (0 : Int32)), (.int (0 : Int32)), (.int (0 : Int32)), (.int (0 : Int32)), (.int (0 : Int32)), (.int (0 : Int32)), (.int (0 : Int32)), (.int (0 : Int32))] (.int (0 : Int32)) := Arv.set A26 q26 S26 M26 H26 G26 rfl W26 9 rfl (Nat.le_of_ble_eq_true rfl)
  refine own_st (g' := (mkF m 62 #[.val (.int x0), .val (.int x1), .val (.int x2), .unset, .unset, .unset, .unset] [(.ref b15)])) st26 ?_
  refine own_st (g' := (mkF m 63 #[.val (.int x0), .val (.int x1), .val (.int x2), .unset, .unset, .unset, .unset] [(.ref b15), (.ref b15)])) (fun tt_ kk_ => XS.dup X26.here hx rfl (hb hby at_62) rfl rfl kk_) ?_
  refine own_st (g' := (mkF m 65 #[.val (.int x0), .val (.int x1), .val (.int x2), .unset, .unset, .unset, .unset] [(.int (10 : Int32)), (.ref b15), (.ref b15)])) (fun tt_ kk_ => XS.bipush X26.here hx rfl (hb hby at_63) kk_) ?_
  refine own_st (g' := (mkF m 68 #[.val (.int x0), .val (.int x1), .val (.int x2), .unset, .unset, .unset, .unset] [(.int (246 : Int32)), (.int (10 : Int32)), (.ref b15), (.ref b15)])) (fun tt_ kk_ => XS.sipush X26.here hx rfl (hb hby at_65) kk_) ?_
  obtain ⟨c27, A27, q27, S27, M27, H27, G27⟩ := id V26
  have i27 : ¬ ((10 : Int32) < 0 ∨ c27.slots.size ≤ ((10 : Int32)).toNatClampNeg) := inb_of S27 ⟨by decide, by decide⟩
  obtain ⟨T27, h27, X27, e27, W27, st27⟩ := stI X26 hx hZ e26 A27 (j := (10 : Int32)) i27 (g := (mkF m 68 #[.val (.int x0), .val (.int x1), .val (.int x2), .unset, .unset, .unset, .unset] [(.int (246 : Int32)), (.int (10 : Int32)), (.ref b15), (.ref b15)])) rfl rfl (hb hby at_68)
  have N27 := Fr.snoc X27 N26 gz15
  have Z27 : n0 ≤ h27.size := Nat.le_trans Z26 (Keep.of_wr W27).1
  have V27 : Arv Z h27 b15 k15 .int (34 : Int32) [(.int (58 : Int32)), (.int (65 : Int32)), (.int (90 : Int32)), (.int (95 : Int32)), (.int (97 : Int32)), (.int (122 : Int32)), (.int (128 : Int32)), (.int (192 : Int32)), (.int (214 : Int32)), (.int (216 : Int32)), (.int (246 : Int32)), (.int (0 : Int32)), (.int (0 : Int32)), (.int (0 : Int32)), (.int (0 : Int32)), (.int (0 : Int32)), (.int (0 : Int32)), (.int (0 : Int32)), (.int (0 : Int32)), (.int (0 : Int32)), (.int (0 : Int32)), (.int (0 : Int32)), (.int (0 : Int32)), (.int (0 : Int32)), (.int (0 : Int32)), (.int (0 : Int32)), (.int (0 : Int32)), (.int (0 : Int32)), (.int (0 : Int32)), (.int (0 : Int32)), (.int (0 : Int32)), (.int (0 : Int32)), (.int (0 : Int32)), (.int (0 : Int32))] (.int (0 : Int32)) := Arv.set A27 q27 S27 M27 H27 G27 rfl W27 10 rfl (Nat.le_of_ble_eq_true rfl)
  refine own_st (g' := (mkF m 69 #[.val (.int x0), .val (.int x1), .val (.int x2), .unset, .unset, .unset, .unset] [(.ref b15)])) st27 ?_
  refine own_st (g' := (mkF m 70 #[.val (.int x0), .val (.int x1), .val (.int x2), .unset, .unset, .unset, .unset] [(.ref b15), (.ref b15)])) (fun tt_ kk_ => XS.dup X27.here hx rfl (hb hby at_69) rfl rfl kk_) ?_
  refine own_st (g' := (mkF m 72 #[.val (.int x0), .val (.int x1), .val (.int x2), .unset, .unset, .unset, .unset] [(.int (11 : Int32)), (.ref b15), (.ref b15)])) (fun tt_ kk_ => XS.bipush X27.here hx rfl (hb hby at_70) kk_) ?_
  refine own_st (g' := (mkF m 75 #[.val (.int x0), .val (.int x1), .val (.int x2), .unset, .unset, .unset, .unset] [(.int (248 : Int32)), (.int (11 : Int32)), (.ref b15), (.ref b15)])) (fun tt_ kk_ => XS.sipush X27.here hx rfl (hb hby at_72) kk_) ?_
  obtain ⟨c28, A28, q28, S28, M28, H28, G28⟩ := id V27
  have i28 : ¬ ((11 : Int32) < 0 ∨ c28.slots.size ≤ ((11 : Int32)).toNatClampNeg) := inb_of S28 ⟨by decide, by decide⟩
  obtain ⟨T28, h28, X28, e28, W28, st28⟩ := stI X27 hx hZ e27 A28 (j := (11 : Int32)) i28 (g := (mkF m 75 #[.val (.int x0), .val (.int x1), .val (.int x2), .unset, .unset, .unset, .unset] [(.int (248 : Int32)), (.int (11 : Int32)), (.ref b15), (.ref b15)])) rfl rfl (hb hby at_75)
  have N28 := Fr.snoc X28 N27 gz15
  have Z28 : n0 ≤ h28.size := Nat.le_trans Z27 (Keep.of_wr W28).1
  have V28 : Arv Z h28 b15 k15 .int (34 : Int32) [(.int (58 : Int32)), (.int (65 : Int32)), (.int (90 : Int32)), (.int (95 : Int32)), (.int (97 : Int32)), (.int (122 : Int32)), (.int (128 : Int32)), (.int (192 : Int32)), (.int (214 : Int32)), (.int (216 : Int32)), (.int (246 : Int32)), (.int (248 : Int32)), (.int (0 : Int32)), (.int (0 : Int32)), (.int (0 : Int32)), (.int (0 : Int32)), (.int (0 : Int32)), (.int (0 : Int32)), (.int (0 : Int32)), (.int (0 : Int32)), (.int (0 : Int32)), (.int (0 : Int32)), (.int (0 : Int32)), (.int (0 : Int32)), (.int (0 : Int32)), (.int (0 : Int32)), (.int (0 : Int32)), (.int (0 : Int32)), (.int (0 : Int32)), (.int (0 : Int32)), (.int (0 : Int32)), (.int (0 : Int32)), (.int (0 : Int32)), (.int (0 : Int32))] (.int (0 : Int32)) := Arv.set A28 q28 S28 M28 H28 G28 rfl W28 11 rfl (Nat.le_of_ble_eq_true rfl)
  refine own_st (g' := (mkF m 76 #[.val (.int x0), .val (.int x1), .val (.int x2), .unset, .unset, .unset, .unset] [(.ref b15)])) st28 ?_
  refine own_st (g' := (mkF m 77 #[.val (.int x0), .val (.int x1), .val (.int x2), .unset, .unset, .unset, .unset] [(.ref b15), (.ref b15)])) (fun tt_ kk_ => XS.dup X28.here hx rfl (hb hby at_76) rfl rfl kk_) ?_
  refine own_st (g' := (mkF m 79 #[.val (.int x0), .val (.int x1), .val (.int x2), .unset, .unset, .unset, .unset] [(.int (12 : Int32)), (.ref b15), (.ref b15)])) (fun tt_ kk_ => XS.bipush X28.here hx rfl (hb hby at_77) kk_) ?_
  refine own_st (g' := (mkF m 82 #[.val (.int x0), .val (.int x1), .val (.int x2), .unset, .unset, .unset, .unset] [(.int (767 : Int32)), (.int (12 : Int32)), (.ref b15), (.ref b15)])) (fun tt_ kk_ => XS.sipush X28.here hx rfl (hb hby at_79) kk_) ?_
  obtain ⟨c29, A29, q29, S29, M29, H29, G29⟩ := id V28
  have i29 : ¬ ((12 : Int32) < 0 ∨ c29.slots.size ≤ ((12 : Int32)).toNatClampNeg) := inb_of S29 ⟨by decide, by decide⟩
  obtain ⟨T29, h29, X29, e29, W29, st29⟩ := stI X28 hx hZ e28 A29 (j := (12 : Int32)) i29 (g := (mkF m 82 #[.val (.int x0), .val (.int x1), .val (.int x2), .unset, .unset, .unset, .unset] [(.int (767 : Int32)), (.int (12 : Int32)), (.ref b15), (.ref b15)])) rfl rfl (hb hby at_82)
  have N29 := Fr.snoc X29 N28 gz15
  have Z29 : n0 ≤ h29.size := Nat.le_trans Z28 (Keep.of_wr W29).1
  have V29 : Arv Z h29 b15 k15 .int (34 : Int32) [(.int (58 : Int32)), (.int (65 : Int32)), (.int (90 : Int32)), (.int (95 : Int32)), (.int (97 : Int32)), (.int (122 : Int32)), (.int (128 : Int32)), (.int (192 : Int32)), (.int (214 : Int32)), (.int (216 : Int32)), (.int (246 : Int32)), (.int (248 : Int32)), (.int (767 : Int32)), (.int (0 : Int32)), (.int (0 : Int32)), (.int (0 : Int32)), (.int (0 : Int32)), (.int (0 : Int32)), (.int (0 : Int32)), (.int (0 : Int32)), (.int (0 : Int32)), (.int (0 : Int32)), (.int (0 : Int32)), (.int (0 : Int32)), (.int (0 : Int32)), (.int (0 : Int32)), (.int (0 : Int32)), (.int (0 : Int32)), (.int (0 : Int32)), (.int (0 : Int32)), (.int (0 : Int32)), (.int (0 : Int32)), (.int (0 : Int32)), (.int (0 : Int32))] (.int (0 : Int32)) := Arv.set A29 q29 S29 M29 H29 G29 rfl W29 12 rfl (Nat.le_of_ble_eq_true rfl)
  refine own_st (g' := (mkF m 83 #[.val (.int x0), .val (.int x1), .val (.int x2), .unset, .unset, .unset, .unset] [(.ref b15)])) st29 ?_
  refine own_st (g' := (mkF m 84 #[.val (.int x0), .val (.int x1), .val (.int x2), .unset, .unset, .unset, .unset] [(.ref b15), (.ref b15)])) (fun tt_ kk_ => XS.dup X29.here hx rfl (hb hby at_83) rfl rfl kk_) ?_
  refine own_st (g' := (mkF m 86 #[.val (.int x0), .val (.int x1), .val (.int x2), .unset, .unset, .unset, .unset] [(.int (13 : Int32)), (.ref b15), (.ref b15)])) (fun tt_ kk_ => XS.bipush X29.here hx rfl (hb hby at_84) kk_) ?_
  refine own_st (g' := (mkF m 89 #[.val (.int x0), .val (.int x1), .val (.int x2), .unset, .unset, .unset, .unset] [(.int (880 : Int32)), (.int (13 : Int32)), (.ref b15), (.ref b15)])) (fun tt_ kk_ => XS.sipush X29.here hx rfl (hb hby at_86) kk_) ?_
  obtain ⟨c30, A30, q30, S30, M30, H30, G30⟩ := id V29
  have i30 : ¬ ((13 : Int32) < 0 ∨ c30.slots.size ≤ ((13 : Int32)).toNatClampNeg) := inb_of S30 ⟨by decide, by decide⟩
  obtain ⟨T30, h30, X30, e30, W30, st30⟩ := stI X29 hx hZ e29 A30 (j := (13 : Int32)) i30 (g := (mkF m 89 #[.val (.int x0), .val (.int x1), .val (.int x2), .unset, .unset, .unset, .unset] [(.int (880 : Int32)), (.int (13 : Int32)), (.ref b15), (.ref b15)])) rfl rfl (hb hby at_89)
  have N30 := Fr.snoc X30 N29 gz15
  have Z30 : n0 ≤ h30.size := Nat.le_trans Z29 (Keep.of_wr W30).1
  have V30 : Arv Z h30 b15 k15 .int (34 : Int32) [(.int (58 : Int32)), (.int (65 : Int32)), (.int (90 : Int32)), (.int (95 : Int32)), (.int (97 : Int32)), (.int (122 : Int32)), (.int (128 : Int32)), (.int (192 : Int32)), (.int (214 : Int32)), (.int (216 : Int32)), (.int (246 : Int32)), (.int (248 : Int32)), (.int (767 : Int32)), (.int (880 : Int32)), (.int (0 : Int32)), (.int (0 : Int32)), (.int (0 : Int32)), (.int (0 : Int32)), (.int (0 : Int32)), (.int (0 : Int32)), (.int (0 : Int32)), (.int (0 : Int32)), (.int (0 : Int32)), (.int (0 : Int32)), (.int (0 : Int32)), (.int (0 : Int32)), (.int (0 : Int32)), (.int (0 : Int32)), (.int (0 : Int32)), (.int (0 : Int32)), (.int (0 : Int32)), (.int (0 : Int32)), (.int (0 : Int32)), (.int (0 : Int32))] (.int (0 : Int32)) := Arv.set A30 q30 S30 M30 H30 G30 rfl W30 13 rfl (Nat.le_of_ble_eq_true rfl)
  refine own_st (g' := (mkF m 90 #[.val (.int x0), .val (.int x1), .val (.int x2), .unset, .unset, .unset, .unset] [(.ref b15)])) st30 ?_
  refine own_st (g' := (mkF m 91 #[.val (.int x0), .val (.int x1), .val (.int x2), .unset, .unset, .unset, .unset] [(.ref b15), (.ref b15)])) (fun tt_ kk_ => XS.dup X30.here hx rfl (hb hby at_90) rfl rfl kk_) ?_
  refine own_st (g' := (mkF m 93 #[.val (.int x0), .val (.int x1), .val (.int x2), .unset, .unset, .unset, .unset] [(.int (14 : Int32)), (.ref b15), (.ref b15)])) (fun tt_ kk_ => XS.bipush X30.here hx rfl (hb hby at_91) kk_) ?_
  refine own_st (g' := (mkF m 96 #[.val (.int x0), .val (.int x1), .val (.int x2), .unset, .unset, .unset, .unset] [(.int (893 : Int32)), (.int (14 : Int32)), (.ref b15), (.ref b15)])) (fun tt_ kk_ => XS.sipush X30.here hx rfl (hb hby at_93) kk_) ?_
  obtain ⟨c31, A31, q31, S31, M31, H31, G31⟩ := id V30
  have i31 : ¬ ((14 : Int32) < 0 ∨ c31.slots.size ≤ ((14 : Int32)).toNatClampNeg) := inb_of S31 ⟨by decide, by decide⟩
  obtain ⟨T31, h31, X31, e31, W31, st31⟩ := stI X30 hx hZ e30 A31 (j := (14 : Int32)) i31 (g := (mkF m 96 #[.val (.int x0), .val (.int x1), .val (.int x2), .unset, .unset, .unset, .unset] [(.int (893 : Int32)), (.int (14 : Int32)), (.ref b15), (.ref b15)])) rfl rfl (hb hby at_96)
  have N31 := Fr.snoc X31 N30 gz15
  have Z31 : n0 ≤ h31.size := Nat.le_trans Z30 (Keep.of_wr W31).1
  have V31 : Arv Z h31 b15 k15 .int (34 : Int32) [(.int (58 : Int32)), (.int (65 : Int32)), (.int (90 : Int32)), (.int (95 : Int32)), (.int (97 : Int32)), (.int (122 : Int32)), (.int (128 : Int32)), (.int (192 : Int32)), (.int (214 : Int32)), (.int (216 : Int32)), (.int (246 : Int32)), (.int (248 : Int32)), (.int (767 : Int32)), (.int (880 : Int32)), (.int (893 : Int32)), (.int (0 : Int32)), (.int (0 : Int32)), (.int (0 : Int32)), (.int (0 : Int32)), (.int (0 : Int32)), (.int (0 : Int32)), (.int (0 : Int32)), (.int (0 : Int32)), (.int (0 : Int32)), (.int (0 : Int32)), (.int (0 : Int32)), (.int (0 : Int32)), (.int (0 : Int32)), (.int (0 : Int32)), (.int (0 : Int32)), (.int (0 : Int32)), (.int (0 : Int32)), (.int (0 : Int32)), (.int (0 : Int32))] (.int (0 : Int32)) := Arv.set A31 q31 S31 M31 H31 G31 rfl W31 14 rfl (Nat.le_of_ble_eq_true rfl)
  refine own_st (g' := (mkF m 97 #[.val (.int x0), .val (.int x1), .val (.int x2), .unset, .unset, .unset, .unset] [(.ref b15)])) st31 ?_
  refine own_st (g' := (mkF m 98 #[.val (.int x0), .val (.int x1), .val (.int x2), .unset, .unset, .unset, .unset] [(.ref b15), (.ref b15)])) (fun tt_ kk_ => XS.dup X31.here hx rfl (hb hby at_97) rfl rfl kk_) ?_
  refine own_st (g' := (mkF m 100 #[.val (.int x0), .val (.int x1), .val (.int x2), .unset, .unset, .unset, .unset] [(.int (15 : Int32)), (.ref b15), (.ref b15)])) (fun tt_ kk_ => XS.bipush X31.here hx rfl (hb hby at_98) kk_) ?_
  refine own_st (g' := (mkF m 103 #[.val (.int x0), .val (.int x1), .val (.int x2), .unset, .unset, .unset, .unset] [(.int (895 : Int32)), (.int (15 : Int32)), (.ref b15), (.ref b15)])) (fun tt_ kk_ => XS.sipush X31.here hx rfl (hb hby at_100) kk_) ?_
  obtain ⟨c32, A32, q32, S32, M32, H32, G32⟩ := id V31
  have i32 : ¬ ((15 : Int32) < 0 ∨ c32.slots.size ≤ ((15 : Int32)).toNatClampNeg) := inb_of S32 ⟨by decide, by decide⟩
  obtain ⟨T32, h32, X32, e32, W32, st32⟩ := stI X31 hx hZ e31 A32 (j := (15 : Int32)) i32 (g := (mkF m 103 #[.val (.int x0), .val (.int x1), .val (.int x2), .unset, .unset, .unset, .unset] [(.int (895 : Int32)), (.int (15 : Int32)), (.ref b15), (.ref b15)])) rfl rfl (hb hby at_103)
  have N32 := Fr.snoc X32 N31 gz15
  have Z32 : n0 ≤ h32.size := Nat.le_trans Z31 (Keep.of_wr W32).1
  have V32 : Arv Z h32 b15 k15 .int (34 : Int32) [(.int (58 : Int32)), (.int (65 : Int32)), (.int (90 : Int32)), (.int (95 : Int32)), (.int (97 : Int32)), (.int (122 : Int32)), (.int (128 : Int32)), (.int (192 : Int32)), (.int (214 : Int32)), (.int (216 : Int32)), (.int (246 : Int32)), (.int (248 : Int32)), (.int (767 : Int32)), (.int (880 : Int32)), (.int (893 : Int32)), (.int (895 : Int32)), (.int (0 : Int32)), (.int (0 : Int32)), (.int (0 : Int32)), (.int (0 : Int32)), (.int (0 : Int32)), (.int (0 : Int32)), (.int (0 : Int32)), (.int (0 : Int32)), (.int (0 : Int32)), (.int (0 : Int32)), (.int (0 : Int32)), (.int (0 : Int32)), (.int (0 : Int32)), (.int (0 : Int32)), (.int (0 : Int32)), (.int (0 : Int32)), (.int (0 : Int32)), (.int (0 : Int32))] (.int (0 : Int32)) := Arv.set A32 q32 S32 M32 H32 G32 rfl W32 15 rfl (Nat.le_of_ble_eq_true rfl)
  refine own_st (g' := (mkF m 104 #[.val (.int x0), .val (.int x1), .val (.int x2), .unset, .unset, .unset, .unset] [(.ref b15)])) st32 ?_
  refine own_st (g' := (mkF m 105 #[.val (.int x0), .val (.int x1), .val (.int x2), .unset, .unset, .unset, .unset] [(.ref b15), (.ref b15)])) (fun tt_ kk_ => XS.dup X32.here hx rfl (hb hby at_104) rfl rfl kk_) ?_
  refine own_st (g' := (mkF m 107 #[.val (.int x0), .val (.int x1), .val (.int x2), .unset, .unset, .unset, .unset] [(.int (16 : Int32)), (.ref b15), (.ref b15)])) (fun tt_ kk_ => XS.bipush X32.here hx rfl (hb hby at_105) kk_) ?_
  refine own_st (g' := (mkF m 110 #[.val (.int x0), .val (.int x1), .val (.int x2), .unset, .unset, .unset, .unset] [(.int (8191 : Int32)), (.int (16 : Int32)), (.ref b15), (.ref b15)])) (fun tt_ kk_ => XS.sipush X32.here hx rfl (hb hby at_107) kk_) ?_
  obtain ⟨c33, A33, q33, S33, M33, H33, G33⟩ := id V32
  have i33 : ¬ ((16 : Int32) < 0 ∨ c33.slots.size ≤ ((16 : Int32)).toNatClampNeg) := inb_of S33 ⟨by decide, by decide⟩
  obtain ⟨T33, h33, X33, e33, W33, st33⟩ := stI X32 hx hZ e32 A33 (j := (16 : Int32)) i33 (g := (mkF m 110 #[.val (.int x0), .val (.int x1), .val (.int x2), .unset, .unset, .unset, .unset] [(.int (8191 : Int32)), (.int (16 : Int32)), (.ref b15), (.ref b15)])) rfl rfl (hb hby at_110)
  have N33 := Fr.snoc X33 N32 gz15
  have Z33 : n0 ≤ h33.size := Nat.le_trans Z32 (Keep.of_wr W33).1
  have V33 : Arv Z h33 b15 k15 .int (34 : Int32) [(.int (58 : Int32)), (.int (65 : Int32)), (.int (90 : Int32)), (.int (95 : Int32)), (.int (97 : Int32)), (.int (122 : Int32)), (.int (128 : Int32)), (.int (192 : Int32)), (.int (214 : Int32)), (.int (216 : Int32)), (.int (246 : Int32)), (.int (248 : Int32)), (.int (767 : Int32)), (.int (880 : Int32)), (.int (893 : Int32)), (.int (895 : Int32)), (.int (8191 : Int32)), (.int (0 : Int32)), (.int (0 : Int32)), (.int (0 : Int32)), (.int (0 : Int32)), (.int (0 : Int32)), (.int (0 : Int32)), (.int (0 : Int32)), (.int (0 : Int32)), (.int (0 : Int32)), (.int (0 : Int32)), (.int (0 : Int32)), (.int (0 : Int32)), (.int (0 : Int32)), (.int (0 : Int32)), (.int (0 : Int32)), (.int (0 : Int32)), (.int (0 : Int32))] (.int (0 : Int32)) := Arv.set A33 q33 S33 M33 H33 G33 rfl W33 16 rfl (Nat.le_of_ble_eq_true rfl)
  refine own_st (g' := (mkF m 111 #[.val (.int x0), .val (.int x1), .val (.int x2), .unset, .unset, .unset, .unset] [(.ref b15)])) st33 ?_
  refine own_st (g' := (mkF m 112 #[.val (.int x0), .val (.int x1), .val (.int x2), .unset, .unset, .unset, .unset] [(.ref b15), (.ref b15)])) (fun tt_ kk_ => XS.dup X33.here hx rfl (hb hby at_111) rfl rfl kk_) ?_
  refine own_st (g' := (mkF m 114 #[.val (.int x0), .val (.int x1), .val (.int x2), .unset, .unset, .unset, .unset] [(.int (17 : Int32)), (.ref b15), (.ref b15)])) (fun tt_ kk_ => XS.bipush X33.here hx rfl (hb hby at_112) kk_) ?_
  refine own_st (g' := (mkF m 117 #[.val (.int x0), .val (.int x1), .val (.int x2), .unset, .unset, .unset, .unset] [(.int (8204 : Int32)), (.int (17 : Int32)), (.ref b15), (.ref b15)])) (fun tt_ kk_ => XS.sipush X33.here hx rfl (hb hby at_114) kk_) ?_
  obtain ⟨c34, A34, q34, S34, M34, H34, G34⟩ := id V33
  have i34 : ¬ ((17 : Int32) < 0 ∨ c34.slots.size ≤ ((17 : Int32)).toNatClampNeg) := inb_of S34 ⟨by decide, by decide⟩
  obtain ⟨T34, h34, X34, e34, W34, st34⟩ := stI X33 hx hZ e33 A34 (j := (17 : Int32)) i34 (g := (mkF m 117 #[.val (.int x0), .val (.int x1), .val (.int x2), .unset, .unset, .unset, .unset] [(.int (8204 : Int32)), (.int (17 : Int32)), (.ref b15), (.ref b15)])) rfl rfl (hb hby at_117)
  have N34 := Fr.snoc X34 N33 gz15
  have Z34 : n0 ≤ h34.size := Nat.le_trans Z33 (Keep.of_wr W34).1
  have V34 : Arv Z h34 b15 k15 .int (34 : Int32) [(.int (58 : Int32)), (.int (65 : Int32)), (.int (90 : Int32)), (.int (95 : Int32)), (.int (97 : Int32)), (.int (122 : Int32)), (.int (128 : Int32)), (.int (192 : Int32)), (.int (214 : Int32)), (.int (216 : Int32)), (.int (246 : Int32)), (.int (248 : Int32)), (.int (767 : Int32)), (.int (880 : Int32)), (.int (893 : Int32)), (.int (895 : Int32)), (.int (8191 : Int32)), (.int (8204 : Int32)), (.int (0 : Int32)), (.int (0 : Int32)), (.int (0 : Int32)), (.int (0 : Int32)), (.int (0 : Int32)), (.int (0 : Int32)), (.int (0 : Int32)), (.int (0 : Int32)), (.int (0 : Int32)), (.int (0 : Int32)), (.int (0 : Int32)), (.int (0 : Int32)), (.int (0 : Int32)), (.int (0 : Int32)), (.int (0 : Int32)), (.int (0 : Int32))] (.int (0 : Int32)) := Arv.set A34 q34 S34 M34 H34 G34 rfl W34 17 rfl (Nat.le_of_ble_eq_true rfl)
  refine own_st (g' := (mkF m 118 #[.val (.int x0), .val (.int x1), .val (.int x2), .unset, .unset, .unset, .unset] [(.ref b15)])) st34 ?_
  refine own_st (g' := (mkF m 119 #[.val (.int x0), .val (.int x1), .val (.int x2), .unset, .unset, .unset, .unset] [(.ref b15), (.ref b15)])) (fun tt_ kk_ => XS.dup X34.here hx rfl (hb hby at_118) rfl rfl kk_) ?_
  refine own_st (g' := (mkF m 121 #[.val (.int x0), .val (.int x1), .val (.int x2), .unset, .unset, .unset, .unset] [(.int (18 : Int32)), (.ref b15), (.ref b15)])) (fun tt_ kk_ => XS.bipush X34.here hx rfl (hb hby at_119) kk_) ?_
  refine own_st (g' := (mkF m 124 #[.val (.int x0), .val (.int x1), .val (.int x2), .unset, .unset, .unset, .unset] [(.int (8205 : Int32)), (.int (18 : Int32)), (.ref b15), (.ref b15)])) (fun tt_ kk_ => XS.sipush X34.here hx rfl (hb hby at_121) kk_) ?_
  obtain ⟨c35, A35, q35, S35, M35, H35, G35⟩ := id V34
  have i35 : ¬ ((18 : Int32) < 0 ∨ c35.slots.size ≤ ((18 : Int32)).toNatClampNeg) := inb_of S35 ⟨by decide, by decide⟩
  obtain ⟨T35, h35, X35, e35, W35, st35⟩ := stI X34 hx hZ e34 A35 (j := (18 : Int32)) i35 (g := (mkF m 124 #[.val (.int x0), .val (.int x1), .val (.int x2), .unset, .unset, .unset, .unset] [(.int (8205 : Int32)), (.int (18 : Int32)), (.ref b15), (.ref b15)])) rfl rfl (hb hby at_124)
  have N35 := Fr.snoc X35 N34 gz15
  have Z35 : n0 ≤ h35.size := Nat.le_trans Z34 (Keep.of_wr W35).1
  have V35 : Arv Z h35 b15 k15 .int (34 : Int32) [(.int (58 : Int32)), (.int (65 : Int32)), (.int (90 : Int32)), (.int (95 : Int32)), (.int (97 : Int32)), (.int (122 : Int32)), (.int (128 : Int32)), (.int (192 : Int32)), (.int (214 : Int32)), (.int (216 : Int32)), (.int (246 : Int32)), (.int (248 : Int32)), (.int (767 : Int32)), (.int (880 : Int32)), (.int (893 : Int32)), (.int (895 : Int32)), (.int (8191 : Int32)), (.int (8204 : Int32)), (.int (8205 : Int32)), (.int (0 : Int32)), (.int (0 : Int32)), (.int (0 : Int32)), (.int (0 : Int32)), (.int (0 : Int32)), (.int (0 : Int32)), (.int (0 : Int32)), (.int (0 : Int32)), (.int (0 : Int32)), (.int (0 : Int32)), (.int (0 : Int32)), (.int (0 : Int32)), (.int (0 : Int32)), (.int (0 : Int32)), (.int (0 : Int32))] (.int (0 : Int32)) := Arv.set A35 q35 S35 M35 H35 G35 rfl W35 18 rfl (Nat.le_of_ble_eq_true rfl)
  refine own_st (g' := (mkF m 125 #[.val (.int x0), .val (.int x1), .val (.int x2), .unset, .unset, .unset, .unset] [(.ref b15)])) st35 ?_
  refine own_st (g' := (mkF m 126 #[.val (.int x0), .val (.int x1), .val (.int x2), .unset, .unset, .unset, .unset] [(.ref b15), (.ref b15)])) (fun tt_ kk_ => XS.dup X35.here hx rfl (hb hby at_125) rfl rfl kk_) ?_
  refine own_st (g' := (mkF m 128 #[.val (.int x0), .val (.int x1), .val (.int x2), .unset, .unset, .unset, .unset] [(.int (19 : Int32)), (.ref b15), (.ref b15)])) (fun tt_ kk_ => XS.bipush X35.here hx rfl (hb hby at_126) kk_) ?_
  refine own_st (g' := (mkF m 131 #[.val (.int x0), .val (.int x1), .val (.int x2), .unset, .unset, .unset, .unset] [(.int (8304 : Int32)), (.int (19 : Int32)), (.ref b15), (.ref b15)])) (fun tt_ kk_ => XS.sipush X35.here hx rfl (hb hby at_128) kk_) ?_
  obtain ⟨c36, A36, q36, S36, M36, H36, G36⟩ := id V35
  have i36 : ¬ ((19 : Int32) < 0 ∨ c36.slots.size ≤ ((19 : Int32)).toNatClampNeg) := inb_of S36 ⟨by decide, by decide⟩
  obtain ⟨T36, h36, X36, e36, W36, st36⟩ := stI X35 hx hZ e35 A36 (j := (19 : Int32)) i36 (g := (mkF m 131 #[.val (.int x0), .val (.int x1), .val (.int x2), .unset, .unset, .unset, .unset] [(.int (8304 : Int32)), (.int (19 : Int32)), (.ref b15), (.ref b15)])) rfl rfl (hb hby at_131)
  have N36 := Fr.snoc X36 N35 gz15
  have Z36 : n0 ≤ h36.size := Nat.le_trans Z35 (Keep.of_wr W36).1
  have V36 : Arv Z h36 b15 k15 .int (34 : Int32) [(.int (58 : Int32)), (.int (65 : Int32)), (.int (90 : Int32)), (.int (95 : Int32)), (.int (97 : Int32)), (.int (122 : Int32)), (.int (128 : Int32)), (.int (192 : Int32)), (.int (214 : Int32)), (.int (216 : Int32)), (.int (246 : Int32)), (.int (248 : Int32)), (.int (767 : Int32)), (.int (880 : Int32)), (.int (893 : Int32)), (.int (895 : Int32)), (.int (8191 : Int32)), (.int (8204 : Int32)), (.int (8205 : Int32)), (.int (8304 : Int32)), (.int (0 : Int32)), (.int (0 : Int32)), (.int (0 : Int32)), (.int (0 : Int32)), (.int (0 : Int32)), (.int (0 : Int32)), (.int (0 : Int32)), (.int (0 : Int32)), (.int (0 : Int32)), (.int (0 : Int32)), (.int (0 : Int32)), (.int (0 : Int32)), (.int (0 : Int32)), (.int (0 : Int32))] (.int (0 : Int32)) := Arv.set A36 q36 S36 M36 H36 G36 rfl W36 19 rfl (Nat.le_of_ble_eq_true rfl)
  refine own_st (g' := (mkF m 132 #[.val (.int x0), .val (.int x1), .val (.int x2), .unset, .unset, .unset, .unset] [(.ref b15)])) st36 ?_
  refine own_st (g' := (mkF m 133 #[.val (.int x0), .val (.int x1), .val (.int x2), .unset, .unset, .unset, .unset] [(.ref b15), (.ref b15)])) (fun tt_ kk_ => XS.dup X36.here hx rfl (hb hby at_132) rfl rfl kk_) ?_
  refine own_st (g' := (mkF m 135 #[.val (.int x0), .val (.int x1), .val (.int x2), .unset, .unset, .unset, .unset] [(.int (20 : Int32)), (.ref b15), (.ref b15)])) (fun tt_ kk_ => XS.bipush X36.here hx rfl (hb hby at_133) kk_) ?_
  refine own_st (g' := (mkF m 138 #[.val (.int x0), .val (.int x1), .val (.int x2), .unset, .unset, .unset, .unset] [(.int (8591 : Int32)), (.int (20 : Int32)), (.ref b15), (.ref b15)])) (fun tt_ kk_ => XS.sipush X36.here hx rfl (hb hby at_135) kk_) ?_
  obtain ⟨c37, A37, q37, S37, M37, H37, G37⟩ := id V36
  have i37 : ¬ ((20 : Int32) < 0 ∨ c37.slots.size ≤ ((20 : Int32)).toNatClampNeg) := inb_of S37 ⟨by decide, by decide⟩
  obtain ⟨T37, h37, X37, e37, W37, st37⟩ := stI X36 hx hZ e36 A37 (j := (20 : Int32)) i37 (g := (mkF m 138 #[.val (.int x0), .val (.int x1), .val (.int x2), .unset, .unset, .unset, .unset] [(.int (8591 : Int32)), (.int (20 : Int32)), (.ref b15), (.ref b15)])) rfl rfl (hb hby at_138)
  have N37 := Fr.snoc X37 N36 gz15
  have Z37 : n0 ≤ h37.size := Nat.le_trans Z36 (Keep.of_wr W37).1
  have V37 : Arv Z h37 b15 k15 .int (34 : Int32) [(.int (58 : Int32)), (.int (65 : Int32)), (.int (90 : Int32)), (.int (95 : Int32)), (.int (97 : Int32)), (.int (122 : Int32)), (.int (128 : Int32)), (.int (192 : Int32)), (.int (214 : Int32)), (.int (216 : Int32)), (.int (246 : Int32)), (.int (248 : Int32)), (.int (767 : Int32)), (.int (880 : Int32)), (.int (893 : Int32)), (.int (895 : Int32)), (.int (8191 : Int32)), (.int (8204 : Int32)), (.int (8205 : Int32)), (.int (8304 : Int32)), (.int (8591 : Int32)), (.int (0 : Int32)), (.int (0 : Int32)), (.int (0 : Int32)), (.int (0 : Int32)), (.int (0 : Int32)), (.int (0 : Int32)), (.int (0 : Int32)), (.int (0 : Int32)), (.int (0 : Int32)), (.int (0 : Int32)), (.int (0 : Int32)), (.int (0 : Int32)), (.int (0 : Int32))] (.int (0 : Int32)) := Arv.set A37 q37 S37 M37 H37 G37 rfl W37 20 rfl (Nat.le_of_ble_eq_true rfl)
  refine own_st (g' := (mkF m 139 #[.val (.int x0), .val (.int x1), .val (.int x2), .unset, .unset, .unset, .unset] [(.ref b15)])) st37 ?_
  refine own_st (g' := (mkF m 140 #[.val (.int x0), .val (.int x1), .val (.int x2), .unset, .unset, .unset, .unset] [(.ref b15), (.ref b15)])) (fun tt_ kk_ => XS.dup X37.here hx rfl (hb hby at_139) rfl rfl kk_) ?_
  refine own_st (g' := (mkF m 142 #[.val (.int x0), .val (.int x1), .val (.int x2), .unset, .unset, .unset, .unset] [(.int (21 : Int32)), (.ref b15), (.ref b15)])) (fun tt_ kk_ => XS.bipush X37.here hx rfl (hb hby at_140) kk_) ?_
  refine own_st (g' := (mkF m 145 #[.val (.int x0), .val (.int x1), .val (.int x2), .unset, .unset, .unset, .unset] [(.int (11264 : Int32)), (.int (21 : Int32)), (.ref b15), (.ref b15)])) (fun tt_ kk_ => XS.sipush X37.here hx rfl (hb hby at_142) kk_) ?_
  obtain ⟨c38, A38, q38, S38, M38, H38, G38⟩ := id V37
  have i38 : ¬ ((21 : Int32) < 0 ∨ c38.slots.size ≤ ((21 : Int32)).toNatClampNeg) := inb_of S38 ⟨by decide, by decide⟩
  obtain ⟨T38, h38, X38, e38, W38, st38⟩ := stI X37 hx hZ e37 A38 (j := (21 : Int32)) i38 (g := (mkF m 145 #[.val (.int x0), .val (.int x1), .val (.int x2), .unset, .unset, .unset, .unset] [(.int (11264 : Int32)), (.int (21 : Int32)), (.ref b15), (.ref b15)])) rfl rfl (hb hby at_145)
  have N38 := Fr.snoc X38 N37 gz15
  have Z38 : n0 ≤ h38.size := Nat.le_trans Z37 (Keep.of_wr W38).1
  have V38 : Arv Z h38 b15 k15 .int (34 : Int32) [(.int (58 : Int32)), (.int (65 : Int32)), (.int (90 : Int32)), (.int (95 : Int32)), (.int (97 : Int32)), (.int (122 : Int32)), (.int (128 : Int32)), (.int (192 : Int32)), (.int (214 : Int32)), (.int (216 : Int32)), (.int (246 : Int32)), (.int (248 : Int32)), (.int (767 : Int32)), (.int (880 : Int32)), (.int (893 : Int32)), (.int (895 : Int32)), (.int (8191 : Int32)), (.int (8204 : Int32)), (.int (8205 : Int32)), (.int (8304 : Int32)), (.int (8591 : Int32)), (.int (11264 : Int32)), (.int (0 : Int32)), (.int (0 : Int32)), (.int (0 : Int32)), (.int (0 : Int32)), (.int (0 : Int32)), (.int (0 : Int32)), (.int (0 : Int32)), (.int (0 : Int32)), (.int (0 : Int32)), (.int (0 : Int32)), (.int (0 : Int32)), (.int (0 : Int32))] (.int (0 : Int32)) := Arv.set A38 q38 S38 M38 H38 G38 rfl W38 21 rfl (Nat.le_of_ble_eq_true rfl)
  refine own_st (g' := (mkF m 146 #[.val (.int x0), .val (.int x1), .val (.int x2), .unset, .unset, .unset, .unset] [(.ref b15)])) st38 ?_
  refine own_st (g' := (mkF m 147 #[.val (.int x0), .val (.int x1), .val (.int x2), .unset, .unset, .unset, .unset] [(.ref b15), (.ref b15)])) (fun tt_ kk_ => XS.dup X38.here hx rfl (hb hby at_146) rfl rfl kk_) ?_
  refine own_st (g' := (mkF m 149 #[.val (.int x0), .val (.int x1), .val (.int x2), .unset, .unset, .unset, .unset] [(.int (22 : Int32)), (.ref b15), (.ref b15)])) (fun tt_ kk_ => XS.bipush X38.here hx rfl (hb hby at_147) kk_) ?_
  refine own_st (g' := (mkF m 152 #[.val (.int x0), .val (.int x1), .val (.int x2), .unset, .unset, .unset, .unset] [(.int (12271 : Int32)), (.int (22 : Int32)), (.ref b15), (.ref b15)])) (fun tt_ kk_ => XS.sipush X38.here hx rfl (hb hby at_149) kk_) ?_
  obtain ⟨c39, A39, q39, S39, M39, H39, G39⟩ := id V38
  have i39 : ¬ ((22 : Int32) < 0 ∨ c39.slots.size ≤ ((22 : Int32)).toNatClampNeg) := inb_of S39 ⟨by decide, by decide⟩
  obtain ⟨T39, h39, X39, e39, W39, st39⟩ := stI X38 hx hZ e38 A39 (j := (22 : Int32)) i39 (g := (mkF m 152 #[.val (.int x0), .val (.int x1), .val (.int x2), .unset, .unset, .unset, .unset] [(.int (12271 : Int32)), (.int (22 : Int32)), (.ref b15), (.ref b15)])) rfl rfl (hb hby at_152)
  have N39 := Fr.snoc X39 N38 gz15
  have Z39 : n0 ≤ h39.size := Nat.le_trans Z38 (Keep.of_wr W39).1
  have V39 : Arv Z h39 b15 k15 .int (34 : Int32) [(.int (58 : Int32)), (.int (65 : Int32)), (.int (90 : Int32)), (.int (95 : Int32)), (.int (97 : Int32)), (.int (122 : Int32)), (.int (128 : Int32)), (.int (192 : Int32)), (.int (214 : Int32)), (.int (216 : Int32)), (.int (246 : Int32)), (.int (248 : Int32)), (.int (767 : Int32)), (.int (880 : Int32)), (.int (893 : Int32)), (.int (895 : Int32)), (.int (8191 : Int32)), (.int (8204 : Int32)), (.int (8205 : Int32)), (.int (8304 : Int32)), (.int (8591 : Int32)), (.int (11264 : Int32)), (.int (12271 : Int32)), (.int (0 : Int32)), (.int (0 : Int32)), (.int (0 : Int32)), (.int (0 : Int32)), (.int (0 : Int32)), (.int (0 : Int32)), (.int (0 : Int32)), (.int (0 : Int32)), (.int (0 : Int32)), (.int (0 : Int32)), (.int (0 : Int32))] (.int (0 : Int32)) := Arv.set A39 q39 S39 M39 H39 G39 rfl W39 22 rfl (Nat.le_of_ble_eq_true rfl)
  refine own_st (g' := (mkF m 153 #[.val (.int x0), .val (.int x1), .val (.int x2), .unset, .unset, .unset, .unset] [(.ref b15)])) st39 ?_
  refine own_st (g' := (mkF m 154 #[.val (.int x0), .val (.int x1), .val (.int x2), .unset, .unset, .unset, .unset] [(.ref b15), (.ref b15)])) (fun tt_ kk_ => XS.dup X39.here hx rfl (hb hby at_153) rfl rfl kk_) ?_
  refine own_st (g' := (mkF m 156 #[.val (.int x0), .val (.int x1), .val (.int x2), .unset, .unset, .unset, .unset] [(.int (23 : Int32)), (.ref b15), (.ref b15)])) (fun tt_ kk_ => XS.bipush X39.here hx rfl (hb hby at_154) kk_) ?_
  refine own_st (g' := (mkF m 159 #[.val (.int x0), .val (.int x1), .val (.int x2), .unset, .unset, .unset, .unset] [(.int (12289 : Int32)), (.int (23 : Int32)), (.ref b15), (.ref b15)])) (fun tt_ kk_ => XS.sipush X39.here hx rfl (hb hby at_156) kk_) ?_
  obtain ⟨c40, A40, q40, S40, M40, H40, G40⟩ := id V39
  have i40 : ¬ ((23 : Int32) < 0 ∨ c40.slots.size ≤ ((23 : Int32)).toNatClampNeg) := inb_of S40 ⟨by decide, by decide⟩
  obtain ⟨T40, h40, X40, e40, W40, st40⟩ := stI X39 hx hZ e39 A40 (j := (23 : Int32)) i40 (g := (mkF m 159 #[.val (.int x0), .val (.int x1), .val (.int x2), .unset, .unset, .unset, .unset] [(.int (12289 : Int32)), (.int (23 : Int32)), (.ref b15), (.ref b15)])) rfl rfl (hb hby at_159)
  have N40 := Fr.snoc X40 N39 gz15
  have Z40 : n0 ≤ h40.size := Nat.le_trans Z39 (Keep.of_wr W40).1
  have V40 : Arv Z h40 b15 k15 .int (34 : Int32) [(.int (58 : Int32)), (.int (65 : Int32)), (.int (90 : Int32)), (.int (95 : Int32)), (.int (97 : Int32)), (.int (122 : Int32)), (.int (128 : Int32)), (.int (192 : Int32)), (.int (214 : Int32)), (.int (216 : Int32)), (.int (246 : Int32)), (.int (248 : Int32)), (.int (767 : Int32)), (.int (880 : Int32)), (.int (893 : Int32)), (.int (895 : Int32)), (.int (8191 : Int32)), (.int (8204 : Int32)), (.int (8205 : Int32)), (.int (8304 : Int32)), (.int (8591 : Int32)), (.int (11264 : Int32)), (.int (12271 : Int32)), (.int (12289 : Int32)), (.int (0 : Int32)), (.int (0 : Int32)), (.int (0 : Int32)), (.int (0 : Int32)), (.int (0 : Int32)), (.int (0 : Int32)), (.int (0 : Int32)), (.int (0 : Int32)), (.int (0 : Int32)), (.int (0 : Int32))] (.int (0 : Int32)) := Arv.set A40 q40 S40 M40 H40 G40 rfl W40 23 rfl (Nat.le_of_ble_eq_true rfl)
  refine own_st (g' := (mkF m 160 #[.val (.int x0), .val (.int x1), .val (.int x2), .unset, .unset, .unset, .unset] [(.ref b15)])) st40 ?_
  refine own_st (g' := (mkF m 161 #[.val (.int x0), .val (.int x1), .val (.int x2), .unset, .unset, .unset, .unset] [(.ref b15), (.ref b15)])) (fun tt_ kk_ => XS.dup X40.here hx rfl (hb hby at_160) rfl rfl kk_) ?_
  refine own_st (g' := (mkF m 163 #[.val (.int x0), .val (.int x1), .val (.int x2), .unset, .unset, .unset, .unset] [(.int (24 : Int32)), (.ref b15), (.ref b15)])) (fun tt_ kk_ => XS.bipush X40.here hx rfl (hb hby at_161) kk_) ?_
  refine own_st (g' := (mkF m 165 #[.val (.int x0), .val (.int x1), .val (.int x2), .unset, .unset, .unset, .unset] [(.int (55295 : Int32)), (.int (24 : Int32)), (.ref b15), (.ref b15)])) (fun tt_ kk_ => X40.ldcInt hx hown (mvT hZ (hw _ (List.mem_of_getElem? (i := 1) rfl))) (g := (mkF m 163 #[.val (.int x0), .val (.int x1), .val (.int x2), .unset, .unset, .unset, .unset] [(.int (24 : Int32)), (.ref b15), (.ref b15)])) rfl (hb hby at_163) _ kk_) ?_
  obtain ⟨c41, A41, q41, S41, M41, H41, G41⟩ := id V40
  have i41 : ¬ ((24 : Int32) < 0 ∨ c41.slots.size ≤ ((24 : Int32)).toNatClampNeg) := inb_of S41 ⟨by decide, by decide⟩
  obtain ⟨T41, h41, X41, e41, W41, st41⟩ := stI X40 hx hZ e40 A41 (j := (24 : Int32)) i41 (g := (mkF m 165 #[.val (.int x0), .val (.int x1), .val (.int x2), .unset, .unset, .unset, .unset] [(.int (55295 : Int32)), (.int (24 : Int32)), (.ref b15), (.ref b15)])) rfl rfl (hb hby at_165)
  have N41 := Fr.snoc X41 N40 gz15
  have Z41 : n0 ≤ h41.size := Nat.le_trans Z40 (Keep.of_wr W41).1
  have V41 : Arv Z h41 b15 k15 .int (34 : Int32) [(.int (58 : Int32)), (.int (65 : Int32)), (.int (90 : Int32)), (.int (95 : Int32)), (.int (97 : Int32)), (.int (122 : Int32)), (.int (128 : Int32)), (.int (192 : Int32)), (.int (214 : Int32)), (.int (216 : Int32)), (.int (246 : Int32)), (.int (248 : Int32)), (.int (767 : Int32)), (.int (880 : Int32)), (.int (893 : Int32)), (.int (895 : Int32)), (.int (8191 : Int32)), (.int (8204 : Int32)), (.int (8205 : Int32)), (.int (8304 : Int32)), (.int (8591 : Int32)), (.int (11264 : Int32)), (.int (12271 : Int32)), (.int (12289 : Int32)), (.int (55295 : Int32)), (.int (0 : Int32)), (.int (0 : Int32)), (.int (0 : Int32)), (.int (0 : Int32)), (.int (0 : Int32)), (.int (0 : Int32)), (.int (0 : Int32)), (.int (0 : Int32)), (.int (0 : Int32))] (.int (0 : Int32)) := Arv.set A41 q41 S41 M41 H41 G41 rfl W41 24 rfl (Nat.le_of_ble_eq_true rfl)
  refine own_st (g' := (mkF m 166 #[.val (.int x0), .val (.int x1), .val (.int x2), .unset, .unset, .unset, .unset] [(.ref b15)])) st41 ?_
  refine own_st (g' := (mkF m 167 #[.val (.int x0), .val (.int x1), .val (.int x2), .unset, .unset, .unset, .unset] [(.ref b15), (.ref b15)])) (fun tt_ kk_ => XS.dup X41.here hx rfl (hb hby at_166) rfl rfl kk_) ?_
  refine own_st (g' := (mkF m 169 #[.val (.int x0), .val (.int x1), .val (.int x2), .unset, .unset, .unset, .unset] [(.int (25 : Int32)), (.ref b15), (.ref b15)])) (fun tt_ kk_ => XS.bipush X41.here hx rfl (hb hby at_167) kk_) ?_
  refine own_st (g' := (mkF m 171 #[.val (.int x0), .val (.int x1), .val (.int x2), .unset, .unset, .unset, .unset] [(.int (63744 : Int32)), (.int (25 : Int32)), (.ref b15), (.ref b15)])) (fun tt_ kk_ => X41.ldcInt hx hown (mvT hZ (hw _ (List.mem_of_getElem? (i := 2) rfl))) (g := (mkF m 169 #[.val (.int x0), .val (.int x1), .val (.int x2), .unset, .unset, .unset, .unset] [(.int (25 : Int32)), (.ref b15), (.ref b15)])) rfl (hb hby at_169) _ kk_) ?_
  obtain ⟨c42, A42, q42, S42, M42, H42, G42⟩ := id V41
  have i42 : ¬ ((25 : Int32) < 0 ∨ c42.slots.size ≤ ((25 : Int32)).toNatClampNeg) := inb_of S42 ⟨by decide, by decide⟩
  obtain ⟨T42, h42, X42, e42, W42, st42⟩ := stI X41 hx hZ e41 A42 (j := (25 : Int32)) i42 (g := (mkF m 171 #[.val (.int x0), .val (.int x1), .val (.int x2), .unset, .unset, .unset, .unset] [(.int (63744 : Int32)), (.int (25 : Int32)), (.ref b15), (.ref b15)])) rfl rfl (hb hby at_171)
  have N42 := Fr.snoc X42 N41 gz15
  have Z42 : n0 ≤ h42.size := Nat.le_trans Z41 (Keep.of_wr W42).1
  have V42 : Arv Z h42 b15 k15 .int (34 : Int32) [(.int (58 : Int32)), (.int (65 : Int32)), (.int (90 : Int32)), (.int (95 : Int32)), (.int (97 : Int32)), (.int (122 : Int32)), (.int (128 : Int32)), (.int (192 : Int32)), (.int (214 : Int32)), (.int (216 : Int32)), (.int (246 : Int32)), (.int (248 : Int32)), (.int (767 : Int32)), (.int (880 : Int32)), (.int (893 : Int32)), (.int (895 : Int32)), (.int (8191 : Int32)), (.int (8204 : Int32)), (.int (8205 : Int32)), (.int (8304 : Int32)), (.int (8591 : Int32)), (.int (11264 : Int32)), (.int (12271 : Int32)), (.int (12289 : Int32)), (.int (55295 : Int32)), (.int (63744 : Int32)), (.int (0 : Int32)), (.int (0 : Int32)), (.int (0 : Int32)), (.int (0 : Int32)), (.int (0 : Int32)), (.int (0 : Int32)), (.int (0 : Int32)), (.int (0 : Int32))] (.int (0 : Int32)) := Arv.set A42 q42 S42 M42 H42 G42 rfl W42 25 rfl (Nat.le_of_ble_eq_true rfl)
  refine own_st (g' := (mkF m 172 #[.val (.int x0), .val (.int x1), .val (.int x2), .unset, .unset, .unset, .unset] [(.ref b15)])) st42 ?_
  refine own_st (g' := (mkF m 173 #[.val (.int x0), .val (.int x1), .val (.int x2), .unset, .unset, .unset, .unset] [(.ref b15), (.ref b15)])) (fun tt_ kk_ => XS.dup X42.here hx rfl (hb hby at_172) rfl rfl kk_) ?_
  refine own_st (g' := (mkF m 175 #[.val (.int x0), .val (.int x1), .val (.int x2), .unset, .unset, .unset, .unset] [(.int (26 : Int32)), (.ref b15), (.ref b15)])) (fun tt_ kk_ => XS.bipush X42.here hx rfl (hb hby at_173) kk_) ?_
  refine own_st (g' := (mkF m 177 #[.val (.int x0), .val (.int x1), .val (.int x2), .unset, .unset, .unset, .unset] [(.int (64975 : Int32)), (.int (26 : Int32)), (.ref b15), (.ref b15)])) (fun tt_ kk_ => X42.ldcInt hx hown (mvT hZ (hw _ (List.mem_of_getElem? (i := 3) rfl))) (g := (mkF m 175 #[.val (.int x0), .val (.int x1), .val (.int x2), .unset, .unset, .unset, .unset] [(.int (26 : Int32)), (.ref b15), (.ref b15)])) rfl (hb hby at_175) _ kk_) ?_
  obtain ⟨c43, A43, q43, S43, M43, H43, G43⟩ := id V42
  have i43 : ¬ ((26 : Int32) < 0 ∨ c43.slots.size ≤ ((26 : Int32)).toNatClampNeg) := inb_of S43 ⟨by decide, by decide⟩
  obtain ⟨T43, h43, X43, e43, W43, st43⟩ := stI X42 hx hZ e42 A43 (j := (26 : Int32)) i43 (g := (mkF m 177 #[.val (.int x0), .val (.int x1), .val (.int x2), .unset, .unset, .unset, .unset] [(.int (64975 : Int32)), (.int (26 : Int32)), (.ref b15), (.ref b15)])) rfl rfl (hb hby at_177)
  have N43 := Fr.snoc X43 N42 gz15
  have Z43 : n0 ≤ h43.size := Nat.le_trans Z42 (Keep.of_wr W43).1
  have V43 : Arv Z h43 b15 k15 .int (34 : Int32) [(.int (58 : Int32)), (.int (65 : Int32)), (.int (90 : Int32)), (.int (95 : Int32)), (.int (97 : Int32)), (.int (122 : Int32)), (.int (128 : Int32)), (.int (192 : Int32)), (.int (214 : Int32)), (.int (216 : Int32)), (.int (246 : Int32)), (.int (248 : Int32)), (.int (767 : Int32)), (.int (880 : Int32)), (.int (893 : Int32)), (.int (895 : Int32)), (.int (8191 : Int32)), (.int (8204 : Int32)), (.int (8205 : Int32)), (.int (8304 : Int32)), (.int (8591 : Int32)), (.int (11264 : Int32)), (.int (12271 : Int32)), (.int (12289 : Int32)), (.int (55295 : Int32)), (.int (63744 : Int32)), (.int (64975 : Int32)), (.int (0 : Int32)), (.int (0 : Int32)), (.int (0 : Int32)), (.int (0 : Int32)), (.int (0 : Int32)), (.int (0 : Int32)), (.int (0 : Int32))] (.int (0 : Int32)) := Arv.set A43 q43 S43 M43 H43 G43 rfl W43 26 rfl (Nat.le_of_ble_eq_true rfl)
  refine own_st (g' := (mkF m 178 #[.val (.int x0), .val (.int x1), .val (.int x2), .unset, .unset, .unset, .unset] [(.ref b15)])) st43 ?_
  refine own_st (g' := (mkF m 179 #[.val (.int x0), .val (.int x1), .val (.int x2), .unset, .unset, .unset, .unset] [(.ref b15), (.ref b15)])) (fun tt_ kk_ => XS.dup X43.here hx rfl (hb hby at_178) rfl rfl kk_) ?_
  refine own_st (g' := (mkF m 181 #[.val (.int x0), .val (.int x1), .val (.int x2), .unset, .unset, .unset, .unset] [(.int (27 : Int32)), (.ref b15), (.ref b15)])) (fun tt_ kk_ => XS.bipush X43.here hx rfl (hb hby at_179) kk_) ?_
  refine own_st (g' := (mkF m 183 #[.val (.int x0), .val (.int x1), .val (.int x2), .unset, .unset, .unset, .unset] [(.int (65008 : Int32)), (.int (27 : Int32)), (.ref b15), (.ref b15)])) (fun tt_ kk_ => X43.ldcInt hx hown (mvT hZ (hw _ (List.mem_of_getElem? (i := 4) rfl))) (g := (mkF m 181 #[.val (.int x0), .val (.int x1), .val (.int x2), .unset, .unset, .unset, .unset] [(.int (27 : Int32)), (.ref b15), (.ref b15)])) rfl (hb hby at_181) _ kk_) ?_
  obtain ⟨c44, A44, q44, S44, M44, H44, G44⟩ := id V43
  have i44 : ¬ ((27 : Int32) < 0 ∨ c44.slots.size ≤ ((27 : Int32)).toNatClampNeg) := inb_of S44 ⟨by decide, by decide⟩
  obtain ⟨T44, h44, X44, e44, W44, st44⟩ := stI X43 hx hZ e43 A44 (j := (27 : Int32)) i44 (g := (mkF m 183 #[.val (.int x0), .val (.int x1), .val (.int x2), .unset, .unset, .unset, .unset] [(.int (65008 : Int32)), (.int (27 : Int32)), (.ref b15), (.ref b15)])) rfl rfl (hb hby at_183)
  have N44 := Fr.snoc X44 N43 gz15
  have Z44 : n0 ≤ h44.size := Nat.le_trans Z43 (Keep.of_wr W44).1
  have V44 : Arv Z h44 b15 k15 .int (34 : Int32) [(.int (58 : Int32)), (.int (65 : Int32)), (.int (90 : Int32)), (.int (95 : Int32)), (.int (97 : Int32)), (.int (122 : Int32)), (.int (128 : Int32)), (.int (192 : Int32)), (.int (214 : Int32)), (.int (216 : Int32)), (.int (246 : Int32)), (.int (248 : Int32)), (.int (767 : Int32)), (.int (880 : Int32)), (.int (893 : Int32)), (.int (895 : Int32)), (.int (8191 : Int32)), (.int (8204 : Int32)), (.int (8205 : Int32)), (.int (8304 : Int32)), (.int (8591 : Int32)), (.int (11264 : Int32)), (.int (12271 : Int32)), (.int (12289 : Int32)), (.int (55295 : Int32)), (.int (63744 : Int32)), (.int (64975 : Int32)), (.int (65008 : Int32)), (.int (0 : Int32)), (.int (0 : Int32)), (.int (0 : Int32)), (.int (0 : Int32)), (.int (0 : Int32)), (.int (0 : Int32))] (.int (0 : Int32)) := Arv.set A44 q44 S44 M44 H44 G44 rfl W44 27 rfl (Nat.le_of_ble_eq_true rfl)
  refine own_st (g' := (mkF m 184 #[.val (.int x0), .val (.int x1), .val (.int x2), .unset, .unset, .unset, .unset] [(.ref b15)])) st44 ?_
  refine own_st (g' := (mkF m 185 #[.val (.int x0), .val (.int x1), .val (.int x2), .unset, .unset, .unset, .unset] [(.ref b15), (.ref b15)])) (fun tt_ kk_ => XS.dup X44.here hx rfl (hb hby at_184) rfl rfl kk_) ?_
  refine own_st (g' := (mkF m 187 #[.val (.int x0), .val (.int x1), .val (.int x2), .unset, .unset, .unset, .unset] [(.int (28 : Int32)), (.ref b15), (.ref b15)])) (fun tt_ kk_ => XS.bipush X44.here hx rfl (hb hby at_185) kk_) ?_
  refine own_st (g' := (mkF m 189 #[.val (.int x0), .val (.int x1), .val (.int x2), .unset, .unset, .unset, .unset] [(.int (65533 : Int32)), (.int (28 : Int32)), (.ref b15), (.ref b15)])) (fun tt_ kk_ => X44.ldcInt hx hown (mvT hZ (hw _ (List.mem_of_getElem? (i := 5) rfl))) (g := (mkF m 187 #[.val (.int x0), .val (.int x1), .val (.int x2), .unset, .unset, .unset, .unset] [(.int (28 : Int32)), (.ref b15), (.ref b15)])) rfl (hb hby at_187) _ kk_) ?_
  obtain ⟨c45, A45, q45, S45, M45, H45, G45⟩ := id V44
  have i45 : ¬ ((28 : Int32) < 0 ∨ c45.slots.size ≤ ((28 : Int32)).toNatClampNeg) := inb_of S45 ⟨by decide, by decide⟩
  obtain ⟨T45, h45, X45, e45, W45, st45⟩ := stI X44 hx hZ e44 A45 (j := (28 : Int32)) i45 (g := (mkF m 189 #[.val (.int x0), .val (.int x1), .val (.int x2), .unset, .unset, .unset, .unset] [(.int (65533 : Int32)), (.int (28 : Int32)), (.ref b15), (.ref b15)])) rfl rfl (hb hby at_189)
  have N45 := Fr.snoc X45 N44 gz15
  have Z45 : n0 ≤ h45.size := Nat.le_trans Z44 (Keep.of_wr W45).1
  have V45 : Arv Z h45 b15 k15 .int (34 : Int32) [(.int (58 : Int32)), (.int (65 : Int32)), (.int (90 : Int32)), (.int (95 : Int32)), (.int (97 : Int32)), (.int (122 : Int32)), (.int (128 : Int32)), (.int (192 : Int32)), (.int (214 : Int32)), (.int (216 : Int32)), (.int (246 : Int32)), (.int (248 : Int32)), (.int (767 : Int32)), (.int (880 : Int32)), (.int (893 : Int32)), (.int (895 : Int32)), (.int (8191 : Int32)), (.int (8204 : Int32)), (.int (8205 : Int32)), (.int (8304 : Int32)), (.int (8591 : Int32)), (.int (11264 : Int32)), (.int (12271 : Int32)), (.int (12289 : Int32)), (.int (55295 : Int32)), (.int (63744 : Int32)), (.int (64975 : Int32)), (.int (65008 : Int32)), (.int (65533 : Int32)), (.int (0 : Int32)), (.int (0 : Int32)), (.int (0 : Int32)), (.int (0 : Int32)), (.int (0 : Int32))] (.int (0 : Int32)) := Arv.set A45 q45 S45 M45 H45 G45 rfl W45 28 rfl (Nat.le_of_ble_eq_true rfl)
  refine own_st (g' := (mkF m 190 #[.val (.int x0), .val (.int x1), .val (.int x2), .unset, .unset, .unset, .unset] [(.ref b15)])) st45 ?_
  refine own_st (g' := (mkF m 191 #[.val (.int x0), .val (.int x1), .val (.int x2), .unset, .unset, .unset, .unset] [(.ref b15), (.ref b15)])) (fun tt_ kk_ => XS.dup X45.here hx rfl (hb hby at_190) rfl rfl kk_) ?_
  refine own_st (g' := (mkF m 193 #[.val (.int x0), .val (.int x1), .val (.int x2), .unset, .unset, .unset, .unset] [(.int (29 : Int32)), (.ref b15), (.ref b15)])) (fun tt_ kk_ => XS.bipush X45.here hx rfl (hb hby at_191) kk_) ?_
  refine own_st (g' := (mkF m 195 #[.val (.int x0), .val (.int x1), .val (.int x2), .unset, .unset, .unset, .unset] [(.int (65536 : Int32)), (.int (29 : Int32)), (.ref b15), (.ref b15)])) (fun tt_ kk_ => X45.ldcInt hx hown (mvT hZ (hw _ (List.mem_of_getElem? (i := 6) rfl))) (g := (mkF m 193 #[.val (.int x0), .val (.int x1), .val (.int x2), .unset, .unset, .unset, .unset] [(.int (29 : Int32)), (.ref b15), (.ref b15)])) rfl (hb hby at_193) _ kk_) ?_
  obtain ⟨c46, A46, q46, S46, M46, H46, G46⟩ := id V45
  have i46 : ¬ ((29 : Int32) < 0 ∨ c46.slots.size ≤ ((29 : Int32)).toNatClampNeg) := inb_of S46 ⟨by decide, by decide⟩
  obtain ⟨T46, h46, X46, e46, W46, st46⟩ := stI X45 hx hZ e45 A46 (j := (29 : Int32)) i46 (g := (mkF m 195 #[.val (.int x0), .val (.int x1), .val (.int x2), .unset, .unset, .unset, .unset] [(.int (65536 : Int32)), (.int (29 : Int32)), (.ref b15), (.ref b15)])) rfl rfl (hb hby at_195)
  have N46 := Fr.snoc X46 N45 gz15
  have Z46 : n0 ≤ h46.size := Nat.le_trans Z45 (Keep.of_wr W46).1
  have V46 : Arv Z h46 b15 k15 .int (34 : Int32) [(.int (58 : Int32)), (.int (65 : Int32)), (.int (90 : Int32)), (.int (95 : Int32)), (.int (97 : Int32)), (.int (122 : Int32)), (.int (128 : Int32)), (.int (192 : Int32)), (.int (214 : Int32)), (.int (216 : Int32)), (.int (246 : Int32)), (.int (248 : Int32)), (.int (767 : Int32)), (.int (880 : Int32)), (.int (893 : Int32)), (.int (895 : Int32)), (.int (8191 : Int32)), (.int (8204 : Int32)), (.int (8205 : Int32)), (.int (8304 : Int32)), (.int (8591 : Int32)), (.int (11264 : Int32)), (.int (12271 : Int32)), (.int (12289 : Int32)), (.int (55295 : Int32)), (.int (63744 : Int32)), (.int (64975 : Int32)), (.int (65008 : Int32)), (.int (65533 : Int32)), (.int (65536 : Int32)), (.int (0 : Int32)), (.int (0 : Int32)), (.int (0 : Int32)), (.int (0 : Int32))] (.int (0 : Int32)) := Arv.set A46 q46 S46 M46 H46 G46 rfl W46 29 rfl (Nat.le_of_ble_eq_true rfl)
  refine own_st (g' := (mkF m 196 #[.val (.int x0), .val (.int x1), .val (.int x2), .unset, .unset, .unset, .unset] [(.ref b15)])) st46 ?_
  refine own_st (g' := (mkF m 197 #[.val (.int x0), .val (.int x1), .val (.int x2), .unset, .unset, .unset, .unset] [(.ref b15), (.ref b15)])) (fun tt_ kk_ => XS.dup X46.here hx rfl (hb hby at_196) rfl rfl kk_) ?_
  refine own_st (g' := (mkF m 199 #[.val (.int x0), .val (.int x1), .val (.int x2), .unset, .unset, .unset, .unset] [(.int (30 : Int32)), (.ref b15), (.ref b15)])) (fun tt_ kk_ => XS.bipush X46.here hx rfl (hb hby at_197) kk_) ?_
  refine own_st (g' := (mkF m 201 #[.val (.int x0), .val (.int x1), .val (.int x2), .unset, .unset, .unset, .unset] [(.int (983039 : Int32)), (.int (30 : Int32)), (.ref b15), (.ref b15)])) (fun tt_ kk_ => X46.ldcInt hx hown (mvT hZ (hw _ (List.mem_of_getElem? (i := 7) rfl))) (g := (mkF m 199 #[.val (.int x0), .val (.int x1), .val (.int x2), .unset, .unset, .unset, .unset] [(.int (30 : Int32)), (.ref b15), (.ref b15)])) rfl (hb hby at_199) _ kk_) ?_
  obtain ⟨c47, A47, q47, S47, M47, H47, G47⟩ := id V46
  have i47 : ¬ ((30 : Int32) < 0 ∨ c47.slots.size ≤ ((30 : Int32)).toNatClampNeg) := inb_of S47 ⟨by decide, by decide⟩
  obtain ⟨T47, h47, X47, e47, W47, st47⟩ := stI X46 hx hZ e46 A47 (j := (30 : Int32)) i47 (g := (mkF m 201 #[.val (.int x0), .val (.int x1), .val (.int x2), .unset, .unset, .unset, .unset] [(.int (983039 : Int32)), (.int (30 : Int32)), (.ref b15), (.ref b15)])) rfl rfl (hb hby at_201)
  have N47 := Fr.snoc X47 N46 gz15
  have Z47 : n0 ≤ h47.size := Nat.le_trans Z46 (Keep.of_wr W47).1
  have V47 : Arv Z h47 b15 k15 .int (34 : Int32) [(.int (58 : Int32)), (.int (65 : Int32)), (.int (90 : Int32)), (.int (95 : Int32)), (.int (97 : Int32)), (.int (122 : Int32)), (.int (128 : Int32)), (.int (192 : Int32)), (.int (214 : Int32)), (.int (216 : Int32)), (.int (246 : Int32)), (.int (248 : Int32)), (.int (767 : Int32)), (.int (880 : Int32)), (.int (893 : Int32)), (.int (895 : Int32)), (.int (8191 : Int32)), (.int (8204 : Int32)), (.int (8205 : Int32)), (.int (8304 : Int32)), (.int (8591 : Int32)), (.int (11264 : Int32)), (.int (12271 : Int32)), (.int (12289 : Int32)), (.int (55295 : Int32)), (.int (63744 : Int32)), (.int (64975 : Int32)), (.int (65008 : Int32)), (.int (65533 : Int32)), (.int (65536 : Int32)), (.int (983039 : Int32)), (.int (0 : Int32)), (.int (0 : Int32)), (.int (0 : Int32))] (.int (0 : Int32)) := Arv.set A47 q47 S47 M47 H47 G47 rfl W47 30 rfl (Nat.le_of_ble_eq_true rfl)
  refine own_st (g' := (mkF m 202 #[.val (.int x0), .val (.int x1), .val (.int x2), .unset, .unset, .unset, .unset] [(.ref b15)])) st47 ?_
  refine own_st (g' := (mkF m 203 #[.val (.int x0), .val (.int x1), .val (.int x2), .unset, .unset, .unset, .unset] [(.ref b15), (.ref b15)])) (fun tt_ kk_ => XS.dup X47.here hx rfl (hb hby at_202) rfl rfl kk_) ?_
  refine own_st (g' := (mkF m 205 #[.val (.int x0), .val (.int x1), .val (.int x2), .unset, .unset, .unset, .unset] [(.int (31 : Int32)), (.ref b15), (.ref b15)])) (fun tt_ kk_ => XS.bipush X47.here hx rfl (hb hby at_203) kk_) ?_
  refine own_st (g' := (mkF m 206 #[.val (.int x0), .val (.int x1), .val (.int x2), .unset, .unset, .unset, .unset] [(.int (0 : Int32)), (.int (31 : Int32)), (.ref b15), (.ref b15)])) (fun tt_ kk_ => XS.iconst X47.here hx rfl (hb hby at_205) kk_) ?_
  obtain ⟨c48, A48, q48, S48, M48, H48, G48⟩ := id V47
  have i48 : ¬ ((31 : Int32) < 0 ∨ c48.slots.size ≤ ((31 : Int32)).toNatClampNeg) := inb_of S48 ⟨by decide, by decide⟩
  obtain ⟨T48, h48, X48, e48, W48, st48⟩ := stI X47 hx hZ e47 A48 (j := (31 : Int32)) i48 (g := (mkF m 206 #[.val (.int x0), .val (.int x1), .val (.int x2), .unset, .unset, .unset, .unset] [(.int (0 : Int32)), (.int (31 : Int32)), (.ref b15), (.ref b15)])) rfl rfl (hb hby at_206)
  have N48 := Fr.snoc X48 N47 gz15
  have Z48 : n0 ≤ h48.size := Nat.le_trans Z47 (Keep.of_wr W48).1
  have V48 : Arv Z h48 b15 k15 .int (34 : Int32) [(.int (58 : Int32)), (.int (65 : Int32)), (.int (90 : Int32)), (.int (95 : Int32)), (.int (97 : Int32)), (.int (122 : Int32)), (.int (128 : Int32)), (.int (192 : Int32)), (.int (214 : Int32)), (.int (216 : Int32)), (.int (246 : Int32)), (.int (248 : Int32)), (.int (767 : Int32)), (.int (880 : Int32)), (.int (893 : Int32)), (.int (895 : Int32)), (.int (8191 : Int32)), (.int (8204 : Int32)), (.int (8205 : Int32)), (.int (8304 : Int32)), (.int (8591 : Int32)), (.int (11264 : Int32)), (.int (12271 : Int32)), (.int (12289 : Int32)), (.int (55295 : Int32)), (.int (63744 : Int32)), (.int (64975 : Int32)), (.int (65008 : Int32)), (.int (65533 : Int32)), (.int (65536 : Int32)), (.int (983039 : Int32)), (.int (0 : Int32)), (.int (0 : Int32)), (.int (0 : Int32))] (.int (0 : Int32)) := Arv.set A48 q48 S48 M48 H48 G48 rfl W48 31 rfl (Nat.le_of_ble_eq_true rfl)
  refine own_st (g' := (mkF m 207 #[.val (.int x0), .val (.int x1), .val (.int x2), .unset, .unset, .unset, .unset] [(.ref b15)])) st48 ?_
  refine own_st (g' := (mkF m 208 #[.val (.int x0), .val (.int x1), .val (.int x2), .unset, .unset, .unset, .unset] [(.ref b15), (.ref b15)])) (fun tt_ kk_ => XS.dup X48.here hx rfl (hb hby at_207) rfl rfl kk_) ?_
  refine own_st (g' := (mkF m 210 #[.val (.int x0), .val (.int x1), .val (.int x2), .unset, .unset, .unset, .unset] [(.int (32 : Int32)), (.ref b15), (.ref b15)])) (fun tt_ kk_ => XS.bipush X48.here hx rfl (hb hby at_208) kk_) ?_
  refine own_st (g' := (mkF m 212 #[.val (.int x0), .val (.int x1), .val (.int x2), .unset, .unset, .unset, .unset] [(.int (-2147483647 : Int32)), (.int (32 : Int32)), (.ref b15), (.ref b15)])) (fun tt_ kk_ => X48.ldcInt hx hown (mvT hZ (hw _ (List.mem_of_getElem? (i := 8) rfl))) (g := (mkF m 210 #[.val (.int x0), .val (.int x1), .val (.int x2), .unset, .unset, .unset, .unset] [(.int (32 : Int32)), (.ref b15), (.ref b15)])) rfl (hb hby at_210) _ kk_) ?_
  obtain ⟨c49, A49, q49, S49, M49, H49, G49⟩ := id V48
  have i49 : ¬ ((32 : Int32) < 0 ∨ c49.slots.size ≤ ((32 : Int32)).toNatClampNeg) := inb_of S49 ⟨by decide, by decide⟩
  obtain ⟨T49, h49, X49, e49, W49, st49⟩ := stI X48 hx hZ e48 A49 (j := (32 : Int32)) i49 (g := (mkF m 212 #[.val (.int x0), .val (.int x1), .val (.int x2), .unset, .unset, .unset, .unset] [(.int (-2147483647 : Int32)), (.int (32 : Int32)), (.ref b15), (.ref b15)])) rfl rfl (hb hby at_212)
  have N49 := Fr.snoc X49 N48 gz15
  have Z49 : n0 ≤ h49.size := Nat.le_trans Z48 (Keep.of_wr W49).1
  have V49 : Arv Z h49 b15 k15 .int (34 : Int32) [(.int (58 : Int32)), (.int (65 : Int32)), (.int (90 : Int32)), (.int (95 : Int32)), (.int (97 : Int32)), (.int (122 : Int32)), (.int (128 : Int32)), (.int (192 : Int32)), (.int (214 : Int32)), (.int (216 : Int32)), (.int (246 : Int32)), (.int (248 : Int32)), (.int (767 : Int32)), (.int (880 : Int32)), (.int (893 : Int32)), (.int (895 : Int32)), (.int (8191 : Int32)), (.int (8204 : Int32)), (.int (8205 : Int32)), (.int (8304 : Int32)), (.int (8591 : Int32)), (.int (11264 : Int32)), (.int (12271 : Int32)), (.int (12289 : Int32)), (.int (55295 : Int32)), (.int (63744 : Int32)), (.int (64975 : Int32)), (.int (65008 : Int32)), (.int (65533 : Int32)), (.int (65536 : Int32)), (.int (983039 : Int32)), (.int (0 : Int32)), (.int (-2147483647 : Int32)), (.int (0 : Int32))] (.int (0 : Int32)) := Arv.set A49 q49 S49 M49 H49 G49 rfl W49 32 rfl (Nat.le_of_ble_eq_true rfl)
  refine own_st (g' := (mkF m 213 #[.val (.int x0), .val (.int x1), .val (.int x2), .unset, .unset, .unset, .unset] [(.ref b15)])) st49 ?_
  refine own_st (g' := (mkF m 214 #[.val (.int x0), .val (.int x1), .val (.int x2), .unset, .unset, .unset, .unset] [(.ref b15), (.ref b15)])) (fun tt_ kk_ => XS.dup X49.here hx rfl (hb hby at_213) rfl rfl kk_) ?_
  refine own_st (g' := (mkF m 216 #[.val (.int x0), .val (.int x1), .val (.int x2), .unset, .unset, .unset, .unset] [(.int (33 : Int32)), (.ref b15), (.ref b15)])) (fun tt_ kk_ => XS.bipush X49.here hx rfl (hb hby at_214) kk_) ?_
  refine own_st (g' := (mkF m 218 #[.val (.int x0), .val (.int x1), .val (.int x2), .unset, .unset, .unset, .unset] [(.int (2147483646 : Int32)), (.int (33 : Int32)), (.ref b15), (.ref b15)])) (fun tt_ kk_ => X49.ldcInt hx hown (mvT hZ (hw _ (List.mem_of_getElem? (i := 9) rfl))) (g := (mkF m 216 #[.val (.int x0), .val (.int x1), .val (.int x2), .unset, .unset, .unset, .unset] [(.int (33 : Int32)), (.ref b15), (.ref b15)])) rfl (hb hby at_216) _ kk_) ?_
  obtain ⟨c50, A50, q50, S50, M50, H50, G50⟩ := id V49
  have i50 : ¬ ((33 : Int32) < 0 ∨ c50.slots.size ≤ ((33 : Int32)).toNatClampNeg) := inb_of S50 ⟨by decide, by decide⟩
  obtain ⟨T50, h50, X50, e50, W50, st50⟩ := stI X49 hx hZ e49 A50 (j := (33 : Int32)) i50 (g := (mkF m 218 #[.val (.int x0), .val (.int x1), .val (.int x2), .unset, .unset, .unset, .unset] [(.int (2147483646 : Int32)), (.int (33 : Int32)), (.ref b15), (.ref b15)])) rfl rfl (hb hby at_218)
  have N50 := Fr.snoc X50 N49 gz15
  have Z50 : n0 ≤ h50.size := Nat.le_trans Z49 (Keep.of_wr W50).1
  have V50 : Arv Z h50 b15 k15 .int (34 : Int32) [(.int (58 : Int32)), (.int (65 : Int32)), (.int (90 : Int32)), (.int (95 : Int32)), (.int (97 : Int32)), (.int (122 : Int32)), (.int (128 : Int32)), (.int (192 : Int32)), (.int (214 : Int32)), (.int (216 : Int32)), (.int (246 : Int32)), (.int (248 : Int32)), (.int (767 : Int32)), (.int (880 : Int32)), (.int (893 : Int32)), (.int (895 : Int32)), (.int (8191 : Int32)), (.int (8204 : Int32)), (.int (8205 : Int32)), (.int (8304 : Int32)), (.int (8591 : Int32)), (.int (11264 : Int32)), (.int (12271 : Int32)), (.int (12289 : Int32)), (.int (55295 : Int32)), (.int (63744 : Int32)), (.int (64975 : Int32)), (.int (65008 : Int32)), (.int (65533 : Int32)), (.int (65536 : Int32)), (.int (983039 : Int32)), (.int (0 : Int32)), (.int (-2147483647 : Int32)), (.int (2147483646 : Int32))] (.int (0 : Int32)) := Arv.set A50 q50 S50 M50 H50 G50 rfl W50 33 rfl (Nat.le_of_ble_eq_true rfl)
  refine own_st (g' := (mkF m 219 #[.val (.int x0), .val (.int x1), .val (.int x2), .unset, .unset, .unset, .unset] [(.ref b15)])) st50 ?_
  refine own_st (g' := (mkF m 220 #[.val (.int x0), .val (.int x1), .val (.int x2), .val (.ref b15), .unset, .unset, .unset] [])) (fun tt_ kk_ => XS.astoreN X50.here hx rfl (hb hby at_219) rfl rfl (l' := #[.val (.int x0), .val (.int x1), .val (.int x2), .val (.ref b15), .unset, .unset, .unset]) rfl kk_) ?_
  refine own_st (g' := (mkF m 221 #[.val (.int x0), .val (.int x1), .val (.int x2), .val (.ref b15), .unset, .unset, .unset] [(.ref b15)])) (fun tt_ kk_ => XS.aloadN X50.here hx rfl (hb hby at_220) rfl rfl kk_) ?_
  refine own_st (g' := (mkF m 222 #[.val (.int x0), .val (.int x1), .val (.int x2), .val (.ref b15), .unset, .unset, .unset] [(.int x1), (.ref b15)])) (fun tt_ kk_ => XS.iloadN X50.here hx rfl (hb hby at_221) rfl kk_) ?_
  refine own_st (g' := (mkF m 224 #[.val (.int x0), .val (.int x1), .val (.int x2), .val (.ref b15), .unset, .unset, .unset] [(.int (2147483647 : Int32)), (.int x1), (.ref b15)])) (fun tt_ kk_ => X50.ldcInt hx hown (mvT hZ (hw _ (List.mem_of_getElem? (i := 10) rfl))) (g := (mkF m 222 #[.val (.int x0), .val (.int x1), .val (.int x2), .val (.ref b15), .unset, .unset, .unset] [(.int x1), (.ref b15)])) rfl (hb hby at_222) _ kk_) ?_
  refine own_st (g' := (mkF m 225 #[.val (.int x0), .val (.int x1), .val (.int x2), .val (.ref b15), .unset, .unset, .unset] [(.int (x1 &&& (2147483647 : Int32))), (.ref b15)])) (fun tt_ kk_ => XS.iand X50.here hx rfl (hb hby at_224) rfl kk_) ?_
  refine own_st (g' := (mkF m 226 #[.val (.int x0), .val (.int x1), .val (.int x2), .val (.ref b15), .unset, .unset, .unset] [(.ref b15), (.int (x1 &&& (2147483647 : Int32))), (.ref b15)])) (fun tt_ kk_ => XS.aloadN X50.here hx rfl (hb hby at_225) rfl rfl kk_) ?_
  obtain ⟨c51, A51, -, S51, M51, -, -⟩ := id V50
  have l51 := len_of S51 M51
  refine own_st (g' := (mkF m 227 #[.val (.int x0), .val (.int x1), .val (.int x2), .val (.ref b15), .unset, .unset, .unset] [(.int (34 : Int32)), (.int (x1 &&& (2147483647 : Int32))), (.ref b15)])) (fun tt_ kk_ => X50.arraylength hx (by rw [e50]; exact A51.1) (State.isArrayOf_alike hZ.alike A51.2.1) (g := (mkF m 226 #[.val (.int x0), .val (.int x1), .val (.int x2), .val (.ref b15), .unset, .unset, .unset] [(.ref b15), (.int (x1 &&& (2147483647 : Int32))), (.ref b15)])) rfl rfl (hb hby at_226) _ (by rw [l51]; exact kk_)) ?_
  refine own_st (g' := (mkF m 228 #[.val (.int x0), .val (.int x1), .val (.int x2), .val (.ref b15), .unset, .unset, .unset] [(.int ((x1 &&& (2147483647 : Int32)) % (34 : Int32))), (.ref b15)])) (fun tt_ kk_ => iremM X50 hx rfl (hb hby at_227) rfl (by decide) kk_) ?_
  obtain ⟨c52, A52, q52, S52, M52, H52, G52⟩ := id V50
  have i52 : ¬ (((x1 &&& (2147483647 : Int32)) % (34 : Int32)) < 0 ∨ c52.slots.size ≤ (((x1 &&& (2147483647 : Int32)) % (34 : Int32))).toNatClampNeg) := inb_of S52 (own_ix _)
  have a52 : c52.slots[(((x1 &&& (2147483647 : Int32)) % (34 : Int32))).toNatClampNeg]? = some (.int (own_edges.getD (((x1 &&& (2147483647 : Int32)) % (34 : Int32))).toNatClampNeg 0)) := H52.at i52 (own_getD own_edges 0 _)
  refine own_st (g' := (mkF m 229 #[.val (.int x0), .val (.int x1), .val (.int x2), .val (.ref b15), .unset, .unset, .unset] [(.int (own_edges.getD (((x1 &&& (2147483647 : Int32)) % (34 : Int32))).toNatClampNeg 0))])) (fun tt_ kk_ => X50.iaload hx (j := ((x1 &&& (2147483647 : Int32)) % (34 : Int32))) (v := (.int (own_edges.getD (((x1 &&& (2147483647 : Int32)) % (34 : Int32))).toNatClampNeg 0))) (by rw [e50]; exact A52.1) (State.isArrayOf_alike hZ.alike A52.2.1) A52.2.2 i52 a52 (g := (mkF m 228 #[.val (.int x0), .val (.int x1), .val (.int x2), .val (.ref b15), .unset, .unset, .unset] [(.int ((x1 &&& (2147483647 : Int32)) % (34 : Int32))), (.ref b15)])) rfl rfl (hb hby at_228) _ kk_) ?_
  refine own_st (g' := (mkF m 230 #[.val (.int x0), .val (.int x1), .val (.int x2), .val (.ref b15), .unset, .unset, .unset] [(.int x2), (.int (own_edges.getD (((x1 &&& (2147483647 : Int32)) % (34 : Int32))).toNatClampNeg 0))])) (fun tt_ kk_ => XS.iloadN X50.here hx rfl (hb hby at_229) rfl kk_) ?_
  refine own_st (g' := (mkF m 232 #[.val (.int x0), .val (.int x1), .val (.int x2), .val (.ref b15), .unset, .unset, .unset] [(.int (2147483647 : Int32)), (.int x2), (.int (own_edges.getD (((x1 &&& (2147483647 : Int32)) % (34 : Int32))).toNatClampNeg 0))])) (fun tt_ kk_ => X50.ldcInt hx hown (mvT hZ (hw _ (List.mem_of_getElem? (i := 10) rfl))) (g := (mkF m 230 #[.val (.int x0), .val (.int x1), .val (.int x2), .val (.ref b15), .unset, .unset, .unset] [(.int x2), (.int (own_edges.getD (((x1 &&& (2147483647 : Int32)) % (34 : Int32))).toNatClampNeg 0))])) rfl (hb hby at_230) _ kk_) ?_
  refine own_st (g' := (mkF m 233 #[.val (.int x0), .val (.int x1), .val (.int x2), .val (.ref b15), .unset, .unset, .unset] [(.int (x2 &&& (2147483647 : Int32))), (.int (own_edges.getD (((x1 &&& (2147483647 : Int32)) % (34 : Int32))).toNatClampNeg 0))])) (fun tt_ kk_ => XS.iand X50.here hx rfl (hb hby at_232) rfl kk_) ?_
  refine own_st (g' := (mkF m 234 #[.val (.int x0), .val (.int x1), .val (.int x2), .val (.ref b15), .unset, .unset, .unset] [(.int (3 : Int32)), (.int (x2 &&& (2147483647 : Int32))), (.int (own_edges.getD (((x1 &&& (2147483647 : Int32)) % (34 : Int32))).toNatClampNeg 0))])) (fun tt_ kk_ => XS.iconst X50.here hx rfl (hb hby at_233) kk_) ?_
  refine own_st (g' := (mkF m 235 #[.val (.int x0), .val (.int x1), .val (.int x2), .val (.ref b15), .unset, .unset, .unset] [(.int ((x2 &&& (2147483647 : Int32)) % (3 : Int32))), (.int (own_edges.getD (((x1 &&& (2147483647 : Int32)) % (34 : Int32))).toNatClampNeg 0))])) (fun tt_ kk_ => iremM X50 hx rfl (hb hby at_234) rfl (by decide) kk_) ?_
  refine own_st (g' := (mkF m 236 #[.val (.int x0), .val (.int x1), .val (.int x2), .val (.ref b15), .unset, .unset, .unset] [(.int ((own_edges.getD (((x1 &&& (2147483647 : Int32)) % (34 : Int32))).toNatClampNeg 0) + ((x2 &&& (2147483647 : Int32)) % (3 : Int32))))])) (fun tt_ kk_ => XS.iadd X50.here hx rfl (hb hby at_235) rfl kk_) ?_
  refine own_st (g' := (mkF m 237 #[.val (.int x0), .val (.int x1), .val (.int x2), .val (.ref b15), .unset, .unset, .unset] [(.int (1 : Int32)), (.int ((own_edges.getD (((x1 &&& (2147483647 : Int32)) % (34 : Int32))).toNatClampNeg 0) + ((x2 &&& (2147483647 : Int32)) % (3 : Int32))))])) (fun tt_ kk_ => XS.iconst X50.here hx rfl (hb hby at_236) kk_) ?_
  refine own_st (g' := (mkF m 238 #[.val (.int x0), .val (.int x1), .val (.int x2), .val (.ref b15), .unset, .unset, .unset] [(.int (((own_edges.getD (((x1 &&& (2147483647 : Int32)) % (34 : Int32))).toNatClampNeg 0) + ((x2 &&& (2147483647 : Int32)) % (3 : Int32))) - (1 : Int32)))])) (fun tt_ kk_ => XS.isub X50.here hx rfl (hb hby at_237) rfl kk_) ?_
  refine own_st (g' := (mkF m 240 #[.val (.int x0), .val (.int x1), .val (.int x2), .val (.ref b15), .val (.int (((own_edges.getD (((x1 &&& (2147483647 : Int32)) % (34 : Int32))).toNatClampNeg 0) + ((x2 &&& (2147483647 : Int32)) % (3 : Int32))) - (1 : Int32))), .unset, .unset] [])) (fun tt_ kk_ => XS.istore X50.here hx rfl (hb hby at_238) rfl (l' := #[.val (.int x0), .val (.int x1), .val (.int x2), .val (.ref b15), .val (.int (((own_edges.getD (((x1 &&& (2147483647 : Int32)) % (34 : Int32))).toNatClampNeg 0) + ((x2 &&& (2147483647 : Int32)) % (3 : Int32))) - (1 : Int32))), .unset, .unset]) rfl kk_) ?_
  refine own_st (g' := (mkF m 241 #[.val (.int x0), .val (.int x1), .val (.int x2), .val (.ref b15), .val (.int (((own_edges.getD (((x1 &&& (2147483647 : Int32)) % (34 : Int32))).toNatClampNeg 0) + ((x2 &&& (2147483647 : Int32)) % (3 : Int32))) - (1 : Int32))), .unset, .unset] [(.int x0)])) (fun tt_ kk_ => XS.iloadN X50.here hx rfl (hb hby at_240) rfl kk_) ?_
  have F53 := (((((((((((((((((((((((((((((((((((SA.ext E15).wr W17).wr W18).wr W19).wr W20).wr W21).wr W22).wr W23).wr W24).wr W25).wr W26).wr W27).wr W28).wr W29).wr W30).wr W31).wr W32).wr W33).wr W34).wr W35).wr W36).wr W37).wr W38).wr W39).wr W40).wr W41).wr W42).wr W43).wr W44).wr W45).wr W46).wr W47).wr W48).wr W49).wr W50)
  have F54 := (((((((((((((((((((((((((((((((((((AA.ext E15).other W17 ne16).other W18 ne16).other W19 ne16).other W20 ne16).other W21 ne16).other W22 ne16).other W23 ne16).other W24 ne16).other W25 ne16).other W26 ne16).other W27 ne16).other W28 ne16).other W29 ne16).other W30 ne16).other W31 ne16).other W32 ne16).other W33 ne16).other W34 ne16).other W35 ne16).other W36 ne16).other W37 ne16).other W38 ne16).other W39 ne16).other W40 ne16).other W41 ne16).other W42 ne16).other W43 ne16).other W44 ne16).other W45 ne16).other W46 ne16).other W47 ne16).other W48 ne16).other W49 ne16).other W50 ne16)
  obtain ⟨_, _, ⟨T55, L55, k55, n55⟩, -, X55, ⟨Lc55, hQ55, l55, y55, z55⟩, st55⟩ := Jvm.LawKit.callS X50 hx (y := (⟨"com/example/flycatcher/flycatcher/xml/XmlChars", "isNameStartChar", "(I)Z"⟩ : MethodName)) hown (mvT hZ (hw _ (List.mem_of_getElem? (i := 11) rfl))) (mvT hZ (hw _ (List.mem_of_getElem? (i := 12) rfl))) (mvT hZ (hw _ (List.mem_of_getElem? (i := 13) rfl))) (mvT hZ (hw _ (List.mem_of_getElem? (i := 14) rfl))) (by decide) (backOf (W := 0) (own_rm1 l Z a0 hw [] x0 h50 n0 tA cA F53 F54 LA HA) hZ (hw _ (List.mem_of_getElem? (i := 14) rfl)) (hw _ (List.mem_of_getElem? (i := 13) rfl)) (by decide) (by decide)) (g := (mkF m 241 #[.val (.int x0), .val (.int x1), .val (.int x2), .val (.ref b15), .val (.int (((own_edges.getD (((x1 &&& (2147483647 : Int32)) % (34 : Int32))).toNatClampNeg 0) + ((x2 &&& (2147483647 : Int32)) % (3 : Int32))) - (1 : Int32))), .unset, .unset] [(.int x0)])) rfl (by rw [hml]; rfl) (argsL := [(.int x0)]) (rest := []) (lenOf own_pd1 rfl) rfl (by show 2 * 0 + _ ≤ _; exact Nat.le_of_eq rfl) (hb hby at_241) (fun _ _ => ⟨rfl, e50, (show cells + 1 + 0 ≤ 16 by omega), (show slots + 34 + 0 ≤ 192 by omega)⟩)
  dsimp only [Pt.U, Pt.locs, Pt.cells, Pt.slots] at X55 l55 y55 z55 st55 hQ55
  rw [l55, y55, z55] at X55
  obtain ⟨rfl, N55q, e55⟩ := hQ55
  have N55 := Fr.app N50 N55q
  refine own_st (g' := (mkF m 244 #[.val (.int x0), .val (.int x1), .val (.int x2), .val (.ref b15), .val (.int (((own_edges.getD (((x1 &&& (2147483647 : Int32)) % (34 : Int32))).toNatClampNeg 0) + ((x2 &&& (2147483647 : Int32)) % (3 : Int32))) - (1 : Int32))), .unset, .unset] [(.int (nar .boolean (own_f1_0 x0)))])) st55 ?_
  refine own_st (g' := (mkF m 245 #[.val (.int x0), .val (.int x1), .val (.int x2), .val (.ref b15), .val (.int (((own_edges.getD (((x1 &&& (2147483647 : Int32)) % (34 : Int32))).toNatClampNeg 0) + ((x2 &&& (2147483647 : Int32)) % (3 : Int32))) - (1 : Int32))), .unset, .unset] [(.int x0), (.int (nar .boolean (own_f1_0 x0)))])) (fun tt_ kk_ => XS.iloadN X55.here hx rfl (hb hby at_244) rfl kk_) ?_
  obtain ⟨_, _, ⟨T56, L56, k56, n56⟩, -, X56, ⟨Lc56, hQ56, l56, y56, z56⟩, st56⟩ := Jvm.LawKit.callS X55 hx (y := (⟨"com/example/flycatcher/flycatcher/xml/XmlCharsIsNameStartCharPinLaw", "expected", "(I)Z"⟩ : MethodName)) hown (mvT hZ (hw _ (List.mem_of_getElem? (i := 17) rfl))) (mvT hZ (hw _ (List.mem_of_getElem? (i := 18) rfl))) (mvT hZ (hw _ (List.mem_of_getElem? (i := 19) rfl))) (mvT hZ (hw _ (List.mem_of_getElem? (i := 20) rfl))) (by decide) (backOf (W := 1) (own_rm2 l Z a0 hw [] x0 h50 n0) hZ (hw _ (List.mem_of_getElem? (i := 20) rfl)) (hw _ (List.mem_of_getElem? (i := 19) rfl)) (by decide) (by decide)) (g := (mkF m 245 #[.val (.int x0), .val (.int x1), .val (.int x2), .val (.ref b15), .val (.int (((own_edges.getD (((x1 &&& (2147483647 : Int32)) % (34 : Int32))).toNatClampNeg 0) + ((x2 &&& (2147483647 : Int32)) % (3 : Int32))) - (1 : Int32))), .unset, .unset] [(.int x0), (.int (nar .boolean (own_f1_0 x0)))])) rfl (by rw [hml]; rfl) (argsL := [(.int x0)]) (rest := [(.int (nar .boolean (own_f1_0 x0)))]) (lenOf own_pd1 rfl) rfl (by show 2 * 0 + _ ≤ _; exact Nat.le_of_eq rfl) (hb hby at_245) (fun _ _ => ⟨rfl, e55, (show cells + 1 + 0 ≤ 16 by omega), (show slots + 34 + 0 ≤ 192 by omega)⟩)
  dsimp only [Pt.U, Pt.locs, Pt.cells, Pt.slots] at X56 l56 y56 z56 st56 hQ56
  rw [l56, y56, z56] at X56
  obtain ⟨rfl, N56q, e56⟩ := hQ56
  have N56 := Fr.app N55 N56q
  refine own_st (g' := (mkF m 248 #[.val (.int x0), .val (.int x1), .val (.int x2), .val (.ref b15), .val (.int (((own_edges.getD (((x1 &&& (2147483647 : Int32)) % (34 : Int32))).toNatClampNeg 0) + ((x2 &&& (2147483647 : Int32)) % (3 : Int32))) - (1 : Int32))), .unset, .unset] [(.int (nar .boolean (own_f2_0 x0))), (.int (nar .boolean (own_f1_0 x0)))])) st56 ?_
  refine own_st (g' := (mkF m 251 #[.val (.int x0), .val (.int x1), .val (.int x2), .val (.ref b15), .val (.int (((own_edges.getD (((x1 &&& (2147483647 : Int32)) % (34 : Int32))).toNatClampNeg 0) + ((x2 &&& (2147483647 : Int32)) % (3 : Int32))) - (1 : Int32))), .unset, .unset] [])) (fun tt_ kk_ => XS.icmpNo X56.here hx rfl (hb hby at_248) rfl (teq (own_law _)).2 kk_) ?_
  refine own_st (g' := (mkF m 252 #[.val (.int x0), .val (.int x1), .val (.int x2), .val (.ref b15), .val (.int (((own_edges.getD (((x1 &&& (2147483647 : Int32)) % (34 : Int32))).toNatClampNeg 0) + ((x2 &&& (2147483647 : Int32)) % (3 : Int32))) - (1 : Int32))), .unset, .unset] [(.int (1 : Int32))])) (fun tt_ kk_ => XS.iconst X56.here hx rfl (hb hby at_251) kk_) ?_
  refine own_st (g' := (mkF m 256 #[.val (.int x0), .val (.int x1), .val (.int x2), .val (.ref b15), .val (.int (((own_edges.getD (((x1 &&& (2147483647 : Int32)) % (34 : Int32))).toNatClampNeg 0) + ((x2 &&& (2147483647 : Int32)) % (3 : Int32))) - (1 : Int32))), .unset, .unset] [(.int (1 : Int32))])) (fun tt_ kk_ => XS.goto X56.here hx rfl (pc0 := 252) (pc' := 256) rfl (hb hby at_252) (by decide) (by decide) kk_) ?_
  refine own_st (g' := (mkF m 258 #[.val (.int x0), .val (.int x1), .val (.int x2), .val (.ref b15), .val (.int (((own_edges.getD (((x1 &&& (2147483647 : Int32)) % (34 : Int32))).toNatClampNeg 0) + ((x2 &&& (2147483647 : Int32)) % (3 : Int32))) - (1 : Int32))), .val (.int (1 : Int32)), .unset] [])) (fun tt_ kk_ => XS.istore X56.here hx rfl (hb hby at_256) rfl (l' := #[.val (.int x0), .val (.int x1), .val (.int x2), .val (.ref b15), .val (.int (((own_edges.getD (((x1 &&& (2147483647 : Int32)) % (34 : Int32))).toNatClampNeg 0) + ((x2 &&& (2147483647 : Int32)) % (3 : Int32))) - (1 : Int32))), .val (.int (1 : Int32)), .unset]) rfl kk_) ?_
  refine own_st (g' := (mkF m 260 #[.val (.int x0), .val (.int x1), .val (.int x2), .val (.ref b15), .val (.int (((own_edges.getD (((x1 &&& (2147483647 : Int32)) % (34 : Int32))).toNatClampNeg 0) + ((x2 &&& (2147483647 : Int32)) % (3 : Int32))) - (1 : Int32))), .val (.int (1 : Int32)), .unset] [(.int (((own_edges.getD (((x1 &&& (2147483647 : Int32)) % (34 : Int32))).toNatClampNeg 0) + ((x2 &&& (2147483647 : Int32)) % (3 : Int32))) - (1 : Int32)))])) (fun tt_ kk_ => XS.iload X56.here hx rfl (hb hby at_258) rfl kk_) ?_
  obtain ⟨_, _, ⟨T57, L57, k57, n57⟩, -, X57, ⟨Lc57, hQ57, l57, y57, z57⟩, st57⟩ := Jvm.LawKit.callS X56 hx (y := (⟨"com/example/flycatcher/flycatcher/xml/XmlChars", "isNameStartChar", "(I)Z"⟩ : MethodName)) hown (mvT hZ (hw _ (List.mem_of_getElem? (i := 11) rfl))) (mvT hZ (hw _ (List.mem_of_getElem? (i := 12) rfl))) (mvT hZ (hw _ (List.mem_of_getElem? (i := 13) rfl))) (mvT hZ (hw _ (List.mem_of_getElem? (i := 14) rfl))) (by decide) (backOf (W := 0) (own_rm1 l Z a0 hw [] (((own_edges.getD (((x1 &&& (2147483647 : Int32)) % (34 : Int32))).toNatClampNeg 0) + ((x2 &&& (2147483647 : Int32)) % (3 : Int32))) - (1 : Int32)) h50 n0 tA cA F53 F54 LA HA) hZ (hw _ (List.mem_of_getElem? (i := 14) rfl)) (hw _ (List.mem_of_getElem? (i := 13) rfl)) (by decide) (by decide)) (g := (mkF m 260 #[.val (.int x0), .val (.int x1), .val (.int x2), .val (.ref b15), .val (.int (((own_edges.getD (((x1 &&& (2147483647 : Int32)) % (34 : Int32))).toNatClampNeg 0) + ((x2 &&& (2147483647 : Int32)) % (3 : Int32))) - (1 : Int32))), .val (.int (1 : Int32)), .unset] [(.int (((own_edges.getD (((x1 &&& (2147483647 : Int32)) % (34 : Int32))).toNatClampNeg 0) + ((x2 &&& (2147483647 : Int32)) % (3 : Int32))) - (1 : Int32)))])) rfl (by rw [hml]; rfl) (argsL := [(.int (((own_edges.getD (((x1 &&& (2147483647 : Int32)) % (34 : Int32))).toNatClampNeg 0) + ((x2 &&& (2147483647 : Int32)) % (3 : Int32))) - (1 : Int32)))]) (rest := []) (lenOf own_pd1 rfl) rfl (by show 2 * 0 + _ ≤ _; exact Nat.le_of_eq rfl) (hb hby at_260) (fun _ _ => ⟨rfl, e56, (show cells + 1 + 0 ≤ 16 by omega), (show slots + 34 + 0 ≤ 192 by omega)⟩)
  dsimp only [Pt.U, Pt.locs, Pt.cells, Pt.slots] at X57 l57 y57 z57 st57 hQ57
  rw [l57, y57, z57] at X57
  obtain ⟨rfl, N57q, e57⟩ := hQ57
  have N57 := Fr.app N56 N57q
  refine own_st (g' := (mkF m 263 #[.val (.int x0), .val (.int x1), .val (.int x2), .val (.ref b15), .val (.int (((own_edges.getD (((x1 &&& (2147483647 : Int32)) % (34 : Int32))).toNatClampNeg 0) + ((x2 &&& (2147483647 : Int32)) % (3 : Int32))) - (1 : Int32))), .val (.int (1 : Int32)), .unset] [(.int (nar .boolean (own_f1_0 (((own_edges.getD (((x1 &&& (2147483647 : Int32)) % (34 : Int32))).toNatClampNeg 0) + ((x2 &&& (2147483647 : Int32)) % (3 : Int32))) - (1 : Int32)))))])) st57 ?_
  refine own_st (g' := (mkF m 265 #[.val (.int x0), .val (.int x1), .val (.int x2), .val (.ref b15), .val (.int (((own_edges.getD (((x1 &&& (2147483647 : Int32)) % (34 : Int32))).toNatClampNeg 0) + ((x2 &&& (2147483647 : Int32)) % (3 : Int32))) - (1 : Int32))), .val (.int (1 : Int32)), .unset] [(.int (((own_edges.getD (((x1 &&& (2147483647 : Int32)) % (34 : Int32))).toNatClampNeg 0) + ((x2 &&& (2147483647 : Int32)) % (3 : Int32))) - (1 : Int32))), (.int (nar .boolean (own_f1_0 (((own_edges.getD (((x1 &&& (2147483647 : Int32)) % (34 : Int32))).toNatClampNeg 0) + ((x2 &&& (2147483647 : Int32)) % (3 : Int32))) - (1 : Int32)))))])) (fun tt_ kk_ => XS.iload X57.here hx rfl (hb hby at_263) rfl kk_) ?_
  obtain ⟨_, _, ⟨T58, L58, k58, n58⟩, -, X58, ⟨Lc58, hQ58, l58, y58, z58⟩, st58⟩ := Jvm.LawKit.callS X57 hx (y := (⟨"com/example/flycatcher/flycatcher/xml/XmlCharsIsNameStartCharPinLaw", "expected", "(I)Z"⟩ : MethodName)) hown (mvT hZ (hw _ (List.mem_of_getElem? (i := 17) rfl))) (mvT hZ (hw _ (List.mem_of_getElem? (i := 18) rfl))) (mvT hZ (hw _ (List.mem_of_getElem? (i := 19) rfl))) (mvT hZ (hw _ (List.mem_of_getElem? (i := 20) rfl))) (by decide) (backOf (W := 1) (own_rm2 l Z a0 hw [] (((own_edges.getD (((x1 &&& (2147483647 : Int32)) % (34 : Int32))).toNatClampNeg 0) + ((x2 &&& (2147483647 : Int32)) % (3 : Int32))) - (1 : Int32)) h50 n0) hZ (hw _ (List.mem_of_getElem? (i := 20) rfl)) (hw _ (List.mem_of_getElem? (i := 19) rfl)) (by decide) (by decide)) (g := (mkF m 265 #[.val (.int x0), .val (.int x1), .val (.int x2), .val (.ref b15), .val (.int (((own_edges.getD (((x1 &&& (2147483647 : Int32)) % (34 : Int32))).toNatClampNeg 0) + ((x2 &&& (2147483647 : Int32)) % (3 : Int32))) - (1 : Int32))), .val (.int (1 : Int32)), .unset] [(.int (((own_edges.getD (((x1 &&& (2147483647 : Int32)) % (34 : Int32))).toNatClampNeg 0) + ((x2 &&& (2147483647 : Int32)) % (3 : Int32))) - (1 : Int32))), (.int (nar .boolean (own_f1_0 (((own_edges.getD (((x1 &&& (2147483647 : Int32)) % (34 : Int32))).toNatClampNeg 0) + ((x2 &&& (2147483647 : Int32)) % (3 : Int32))) - (1 : Int32)))))])) rfl (by rw [hml]; rfl) (argsL := [(.int (((own_edges.getD (((x1 &&& (2147483647 : Int32)) % (34 : Int32))).toNatClampNeg 0) + ((x2 &&& (2147483647 : Int32)) % (3 : Int32))) - (1 : Int32)))]) (rest := [(.int (nar .boolean (own_f1_0 (((own_edges.getD (((x1 &&& (2147483647 : Int32)) % (34 : Int32))).toNatClampNeg 0) + ((x2 &&& (2147483647 : Int32)) % (3 : Int32))) - (1 : Int32)))))]) (lenOf own_pd1 rfl) rfl (by show 2 * 0 + _ ≤ _; exact Nat.le_of_eq rfl) (hb hby at_265) (fun _ _ => ⟨rfl, e57, (show cells + 1 + 0 ≤ 16 by omega), (show slots + 34 + 0 ≤ 192 by omega)⟩)
  dsimp only [Pt.U, Pt.locs, Pt.cells, Pt.slots] at X58 l58 y58 z58 st58 hQ58
  rw [l58, y58, z58] at X58
  obtain ⟨rfl, N58q, e58⟩ := hQ58
  have N58 := Fr.app N57 N58q
  refine own_st (g' := (mkF m 268 #[.val (.int x0), .val (.int x1), .val (.int x2), .val (.ref b15), .val (.int (((own_edges.getD (((x1 &&& (2147483647 : Int32)) % (34 : Int32))).toNatClampNeg 0) + ((x2 &&& (2147483647 : Int32)) % (3 : Int32))) - (1 : Int32))), .val (.int (1 : Int32)), .unset] [(.int (nar .boolean (own_f2_0 (((own_edges.getD (((x1 &&& (2147483647 : Int32)) % (34 : Int32))).toNatClampNeg 0) + ((x2 &&& (2147483647 : Int32)) % (3 : Int32))) - (1 : Int32))))), (.int (nar .boolean (own_f1_0 (((own_edges.getD (((x1 &&& (2147483647 : Int32)) % (34 : Int32))).toNatClampNeg 0) + ((x2 &&& (2147483647 : Int32)) % (3 : Int32))) - (1 : Int32)))))])) st58 ?_
  refine own_st (g' := (mkF m 271 #[.val (.int x0), .val (.int x1), .val (.int x2), .val (.ref b15), .val (.int (((own_edges.getD (((x1 &&& (2147483647 : Int32)) % (34 : Int32))).toNatClampNeg 0) + ((x2 &&& (2147483647 : Int32)) % (3 : Int32))) - (1 : Int32))), .val (.int (1 : Int32)), .unset] [])) (fun tt_ kk_ => XS.icmpNo X58.here hx rfl (hb hby at_268) rfl (teq (own_law _)).2 kk_) ?_
  refine own_st (g' := (mkF m 272 #[.val (.int x0), .val (.int x1), .val (.int x2), .val (.ref b15), .val (.int (((own_edges.getD (((x1 &&& (2147483647 : Int32)) % (34 : Int32))).toNatClampNeg 0) + ((x2 &&& (2147483647 : Int32)) % (3 : Int32))) - (1 : Int32))), .val (.int (1 : Int32)), .unset] [(.int (1 : Int32))])) (fun tt_ kk_ => XS.iconst X58.here hx rfl (hb hby at_271) kk_) ?_
  refine own_st (g' := (mkF m 276 #[.val (.int x0), .val (.int x1), .val (.int x2), .val (.ref b15), .val (.int (((own_edges.getD (((x1 &&& (2147483647 : Int32)) % (34 : Int32))).toNatClampNeg 0) + ((x2 &&& (2147483647 : Int32)) % (3 : Int32))) - (1 : Int32))), .val (.int (1 : Int32)), .unset] [(.int (1 : Int32))])) (fun tt_ kk_ => XS.goto X58.here hx rfl (pc0 := 272) (pc' := 276) rfl (hb hby at_272) (by decide) (by decide) kk_) ?_
  refine own_st (g' := (mkF m 278 #[.val (.int x0), .val (.int x1), .val (.int x2), .val (.ref b15), .val (.int (((own_edges.getD (((x1 &&& (2147483647 : Int32)) % (34 : Int32))).toNatClampNeg 0) + ((x2 &&& (2147483647 : Int32)) % (3 : Int32))) - (1 : Int32))), .val (.int (1 : Int32)), .val (.int (1 : Int32))] [])) (fun tt_ kk_ => XS.istore X58.here hx rfl (hb hby at_276) rfl (l' := #[.val (.int x0), .val (.int x1), .val (.int x2), .val (.ref b15), .val (.int (((own_edges.getD (((x1 &&& (2147483647 : Int32)) % (34 : Int32))).toNatClampNeg 0) + ((x2 &&& (2147483647 : Int32)) % (3 : Int32))) - (1 : Int32))), .val (.int (1 : Int32)), .val (.int (1 : Int32))]) rfl kk_) ?_
  refine own_st (g' := (mkF m 280 #[.val (.int x0), .val (.int x1), .val (.int x2), .val (.ref b15), .val (.int (((own_edges.getD (((x1 &&& (2147483647 : Int32)) % (34 : Int32))).toNatClampNeg 0) + ((x2 &&& (2147483647 : Int32)) % (3 : Int32))) - (1 : Int32))), .val (.int (1 : Int32)), .val (.int (1 : Int32))] [(.int (1 : Int32))])) (fun tt_ kk_ => XS.iload X58.here hx rfl (hb hby at_278) rfl kk_) ?_
  refine own_st (g' := (mkF m 283 #[.val (.int x0), .val (.int x1), .val (.int x2), .val (.ref b15), .val (.int (((own_edges.getD (((x1 &&& (2147483647 : Int32)) % (34 : Int32))).toNatClampNeg 0) + ((x2 &&& (2147483647 : Int32)) % (3 : Int32))) - (1 : Int32))), .val (.int (1 : Int32)), .val (.int (1 : Int32))] [])) (fun tt_ kk_ => XS.ifNo X58.here hx rfl (hb hby at_280) rfl ((if0 _ _).trans (feq (by decide : ¬ ((1 : Int32) = (0 : Int32)))).1) kk_) ?_
  refine own_st (g' := (mkF m 285 #[.val (.int x0), .val (.int x1), .val (.int x2), .val (.ref b15), .val (.int (((own_edges.getD (((x1 &&& (2147483647 : Int32)) % (34 : Int32))).toNatClampNeg 0) + ((x2 &&& (2147483647 : Int32)) % (3 : Int32))) - (1 : Int32))), .val (.int (1 : Int32)), .val (.int (1 : Int32))] [(.int (1 : Int32))])) (fun tt_ kk_ => XS.iload X58.here hx rfl (hb hby at_283) rfl kk_) ?_
  refine own_st (g' := (mkF m 288 #[.val (.int x0), .val (.int x1), .val (.int x2), .val (.ref b15), .val (.int (((own_edges.getD (((x1 &&& (2147483647 : Int32)) % (34 : Int32))).toNatClampNeg 0) + ((x2 &&& (2147483647 : Int32)) % (3 : Int32))) - (1 : Int32))), .val (.int (1 : Int32)), .val (.int (1 : Int32))] [])) (fun tt_ kk_ => XS.ifNo X58.here hx rfl (hb hby at_285) rfl ((if0 _ _).trans (feq (by decide : ¬ ((1 : Int32) = (0 : Int32)))).1) kk_) ?_
  refine own_st (g' := (mkF m 289 #[.val (.int x0), .val (.int x1), .val (.int x2), .val (.ref b15), .val (.int (((own_edges.getD (((x1 &&& (2147483647 : Int32)) % (34 : Int32))).toNatClampNeg 0) + ((x2 &&& (2147483647 : Int32)) % (3 : Int32))) - (1 : Int32))), .val (.int (1 : Int32)), .val (.int (1 : Int32))] [(.int (1 : Int32))])) (fun tt_ kk_ => XS.iconst X58.here hx rfl (hb hby at_288) kk_) ?_
  refine own_st (g' := (mkF m 293 #[.val (.int x0), .val (.int x1), .val (.int x2), .val (.ref b15), .val (.int (((own_edges.getD (((x1 &&& (2147483647 : Int32)) % (34 : Int32))).toNatClampNeg 0) + ((x2 &&& (2147483647 : Int32)) % (3 : Int32))) - (1 : Int32))), .val (.int (1 : Int32)), .val (.int (1 : Int32))] [(.int (1 : Int32))])) (fun tt_ kk_ => XS.goto X58.here hx rfl (pc0 := 289) (pc' := 293) rfl (hb hby at_289) (by decide) (by decide) kk_) ?_
  exact own_retN X58 hx hlk (t := .boolean) (Or.inl rfl) hret (hb hby at_293) (by omega) (by omega) ⟨rfl, N58⟩
theorem own_ef0 (m : MethodId) (x0 : Int32) (x1 : Int32) (x2 : Int32) : entryFrame m #[(.int x0), (.int x1), (.int x2)] maxLocals = mkF m 0 #[.val (.int x0), .val (.int x1), .val (.int x2), .unset, .unset, .unset, .unset] [] := by first | (simp [entryFrame, mkF, argsToLocals, Value.category, maxLocals]; done) | rfl
set_option maxRecDepth 65536 in
set_option maxHeartbeats 4000000 in
theorem own_rm0 (l : Launch) (Z : State) (a0 : Array Value) (hw : ∀ d ∈ tables_1, d.before a0 Z = true) (ws : List Jvm.Cond) (x0 : Int32) (x1 : Int32) (x2 : Int32) (h0 : Heap) (n0 : Nat) (Z0 : n0 ≤ h0.size) (tA : Addr) (cA : Cell) (SA : Sta Z h0 "com/example/flycatcher/flycatcher/xml/XmlChars" "ASCII" "[B" (.ref tA)) (AA : Arr Z h0 tA cA .byte) (LA : cA.slots.size = 128) (HA : ∀ j : Int32, ¬ j < 0 → j < 128 → cA.slots[j.toNatClampNeg]? = some (.int (own_tab j))) :
    MetFree l x (head1 (Jvm.Cond.code x code maxLocals ret :: ws) room_1) (fun aa UU => aa = #[(.int x0), (.int x1), (.int x2)] ∧ Z.Warmed39 UU.vm ∧ UU.heap = h0) (fun _ _ _ _ _ => True) (fun _ U o U' => ∃ v L, o = .returned v ∧ own_Q0 n0 v U'.heap L ∧ FrameEnd U o U' L 16 192) := by
  refine MetFree.of_bodySF (plainFor_of_name own_pn0) hisR ?_
  intro p e s m args below meth c s₁ Bd hml0 hP hK
  obtain ⟨rfl, hZ, hh⟩ := hP
  have X0 : Stand p l e room_1 s m #[(.int x0), (.int x1), (.int x2)] below meth c s₁ [] 0 0 := Stand.of_body Bd
  have e0 : s₁.heap = h0 := by rw [← hh, Bd.state]; rfl
  refine own_cast (own_ef0 m x0 x1 x2) ?_
  exact own_t0 X0 Bd.exec Bd.notSynchronized Bd.bytes hml0 Bd.returns (findClass_of_methodNamed Bd.named) hZ hw e0 (Fr.nil n0) Z0 (by decide) (by decide) tA cA SA AA LA HA x0 x1 x2
set_option maxRecDepth 65536 in
set_option maxHeartbeats 4000000 in
theorem own_comes_1 {Post : Tables → Env → Array Value → State → Outcome → State → Prop} (hpost : ∀ tb e args s v u, (limb_1_1.after args s (.returned v) u = true ∧ limb_1_2.after args s (.returned v) u = true ∧ True) → FrameEnd s (.returned v) u (Jvm.fieldLocs frame_1_writes args s ++ Jvm.arrayLocs frame_1_arrays args s ++ Jvm.staticLocs frame_1_statics s) 16 192 → Post tb e args s (.returned v) u) :
    ArmFor flags0 classFile x code maxLocals ret World_1 tables_1 room_1 Calls_1 rest_1 Pre_1 Post := by
  intro l hfl _ _ p e ha hc hk s m args below hf hA hF happ hP
  obtain ⟨hcalls, hrest, hpre⟩ := hP
  obtain ⟨-, -, -, hnamed, -, -, -, hat⟩ := (Spec.applies_iff hf).mp happ
  obtain ⟨hg, hn⟩ := and_e (Cond.before_iff.mp (show (Jvm.Cond.and given_1 narrow_1).before args s = true from hpre))
  obtain ⟨gg1, gg2⟩ := and_e hg
  obtain ⟨gg3, gg4⟩ := and_e gg2
  obtain ⟨gg5, gg6⟩ := and_e gg4
  obtain ⟨w0, w1, w2, rfl⟩ : ∃ w0 w1 w2 : Value, args = #[w0, w1, w2] := by
    have hs : args.size = 3 := by simpa [Cond.value, given_1] using gg1
    obtain ⟨L⟩ := args
    match L, hs with
    | [w0, w1, w2], _ => exact ⟨w0, w1, w2, rfl⟩
  have hw := fun d (hd : d ∈ tables_1) => atoms_spec (ws := Jvm.Cond.code x code maxLocals ret :: tables_1) hat d (List.mem_cons_of_mem _ hd)
  have hfit : Fit s := fun {y c} hc i hi => by
    obtain ⟨ha, rfl⟩ := Array.getElem?_eq_some_iff.mp hc
    have q := List.all_eq_true.mp ((Array.all_eq_true_iff_forall_mem.mp hF) _ (Array.getElem_mem ha)) i (List.mem_range.mpr hi)
    simpa [Array.getElem?_eq_getElem hi] using q
  obtain ⟨i0, ei0⟩ := is_v gg3
  obtain rfl : w0 = (.int i0) := Option.some.inj ei0
  obtain ⟨i1, ei1⟩ := is_v gg5
  obtain rfl : w1 = (.int i1) := Option.some.inj ei1
  obtain ⟨i2, ei2⟩ := is_v gg6
  obtain rfl : w2 = (.int i2) := Option.some.inj ei2
  obtain ⟨tA, cA, SA, AA, LA, HA⟩ := own_table hfit (hw _ (List.mem_of_getElem? (i := 13) rfl)) (hw _ (List.mem_of_getElem? (i := 16) rfl)) hn
  obtain ⟨n, o, h1, h2, h3, _, L, rfl, ⟨rfl, N⟩, hq⟩ := own_rm0 l s _ hw tables_1 i0 i1 i2 s.heap s.heap.size (Nat.le_refl _) tA cA SA AA LA HA p e ha hc hk s m _ below hf ((Spec.applies_iff_loose hf).mp happ).1 ⟨rfl, State.Warmed39.refl s, rfl⟩ trivial
  refine ⟨n, _, h1, h2, h3, hpost _ _ _ _ _ _ ⟨Cond.after_iff.mpr rfl, Cond.after_iff.mpr (eq_i res_at (Term.int_eval (1)) rfl), trivial⟩ ⟨hq.1, hq.2.1, (hq.2.2.sift fun y hy => Or.inr (N y hy)).mono (by decide) (by decide)⟩⟩
theorem main_1_1 : Claimed_1_1 := own_comes_1 fun _ _ _ _ _ _ h hF => ⟨h.1, hF⟩
theorem main_1_2 : Claimed_1_2 := own_comes_1 fun _ _ _ _ _ _ h hF => ⟨h.2.1, hF⟩
end Jvm.Pilot.@@N@@
namespace Jvm.Pilot.@@N@@
open Jvm Jvm.ClassFile Sem Op Lib Jvm.Free Jvm.Stand Jvm.Pilot.@@N@@.Jvm.D
/-! MADE BY PROGRAM (witnessworld.py) out of the Statement's table words and the real class files: 9 classes; the members and pool entries that the words name. The judged class is class 1, her method 1. -/
namespace start1
open Jvm.ClassFile
def u (s : String) : CpInfo := .utf8 (stringToUtf16 s)
/-- a pool by its gaps: so many unusable entries, then the entry; so many at the end -/
def gap : Nat → List CpInfo → List CpInfo
  | 0, r => r
  | n + 1, r => .unusable :: gap n r
def poolList (es : List (Nat × CpInfo)) (last : Nat) : List CpInfo := es.foldr (fun e r => gap e.1 (e.2 :: r)) (gap last [])
def pool (es : List (Nat × CpInfo)) (last : Nat) : Array CpInfo := ⟨poolList es last⟩
def fileOf (pool : Array CpInfo) (this : Nat) (attrs : Array Attribute := #[]) (ms : Array MethodInfo := #[]) (fl : Nat := 33) (sup : Nat := 0) (ifs : Array Nat := #[]) (fds : Array FieldInfo := #[]) : ClassFile where
  minorVersion := 0
  majorVersion := 65
  constantPool := pool
  accessFlags := fl
  thisClass := this
  superClass := sup
  interfaces := ifs
  fields := fds
  methods := ms
  attributes := attrs
def plain (name : String) (sup : Option ClassId) : Class where
  name := name
  kind := .ordinary
  loader := none
  accessFlags := 33
  super := sup
  interfaces := #[]
  cf := none
  fields := #[]
  methods := #[]
  instanceTypes := #[]
  staticTypes := #[]
  resolved := #[]
  callSites := []
  init := .initialized
  statics := none
  mirror := none

def pool0 : Array CpInfo := pool [(5, u "<init>"), (0, u "()V"), (1, .class_ 10), (1, u "java/lang/Object")] 113

def k0m0 : Method := { name := "<init>", desc := "()V", sig := { parameters := [], returnType := none }, accessFlags := 1, code := none }
/-- java/lang/Object -/
def k0 : Class := { plain "java/lang/Object" none with
  accessFlags := 33
  interfaces := #[]
  cf := some (fileOf pool0 8 #[] #[{ accessFlags := 1, nameIndex := 5, descriptorIndex := 6, attributes := #[] }] 33 0 #[] #[])
  fields := #[]
  methods := #[k0m0]
  instanceTypes := #[]
  staticTypes := #[]
  resolved := Array.replicate 124 none
  statics := none }

def pool1 : Array CpInfo := pool [(2, .class_ 4), (1, u "java/lang/Object"), (0, u "<init>"), (0, u "()V"), (0, .integer 55295), (0, .integer 63744), (0, .integer 64975), (0, .integer 65008), (0, .integer 65533), (0, .integer 65536), (0, .integer 983039), (2, .integer 2147483649), (0, .integer 2147483646), (0, .integer 2147483647), (0, .methodref 20 21), (0, .class_ 22), (0, .nameAndType 23 24), (0, u "com/example/flycatcher/flycatcher/xml/XmlChars"), (0, u "isNameStartChar"), (0, u "(I)Z"), (0, .methodref 26 27), (0, .class_ 28), (0, .nameAndType 29 24), (0, u "com/example/flycatcher/flycatcher/xml/XmlCharsIsNameStartCharPinLaw"), (0, u "expected"), (0, .methodref 26 31), (0, .nameAndType 32 33), (0, u "between"), (0, u "(III)Z"), (0, .integer 55296), (0, .integer 63743), (0, .integer 64976), (0, .integer 65007), (0, .integer 65534), (0, .integer 65535), (2, u "law")] 5

def k1m0 : Method := { name := "<init>", desc := "()V", sig := { parameters := [], returnType := none }, accessFlags := 2, code := none }
def k1c1 : Code := { maxStack := 4, maxLocals := 7, code := code, exceptionTable := #[], attributes := #[] }
def k1m1 : Method := { name := "law", desc := "(III)Z", sig := { parameters := [.int, .int, .int], returnType := some .boolean }, accessFlags := 9, code := some k1c1 }
def k1c2 : Code := { maxStack := 2, maxLocals := 3, code := method_3_code, exceptionTable := #[], attributes := #[] }
def k1m2 : Method := { name := "between", desc := "(III)Z", sig := { parameters := [.int, .int, .int], returnType := some .boolean }, accessFlags := 10, code := some k1c2 }
def k1c3 : Code := { maxStack := 3, maxLocals := 1, code := method_4_code, exceptionTable := #[], attributes := #[] }
def k1m3 : Method := { name := "expected", desc := "(I)Z", sig := { parameters := [.int], returnType := some .boolean }, accessFlags := 10, code := some k1c3 }
/-- com/example/flycatcher/flycatcher/xml/XmlCharsIsNameStartCharPinLaw -/
def k1 : Class := { plain "com/example/flycatcher/flycatcher/xml/XmlCharsIsNameStartCharPinLaw" (some 0) with
  accessFlags := 49
  interfaces := #[]
  cf := some (fileOf pool1 26 #[] #[{ accessFlags := 2, nameIndex := 5, descriptorIndex := 6, attributes := #[] }, { accessFlags := 9, nameIndex := 42, descriptorIndex := 33, attributes := #[] }, { accessFlags := 10, nameIndex := 32, descriptorIndex := 33, attributes := #[] }, { accessFlags := 10, nameIndex := 29, descriptorIndex := 24, attributes := #[] }] 49 2 #[] #[])
  fields := #[]
  methods := #[k1m0, k1m1, k1m2, k1m3]
  instanceTypes := #[]
  staticTypes := #[]
  resolved := Array.replicate 48 none
  statics := none }

def pool2 : Array CpInfo := pool [(2, .class_ 4), (1, u "java/lang/Object"), (0, u "<init>"), (0, u "()V"), (0, .integer 55295), (1, .integer 65533), (0, .integer 65536), (2, .class_ 15), (1, u "com/example/flycatcher/flycatcher/xml/XmlChars$ComposingCharacters"), (7, u "(I)Z"), (0, .fieldref 25 26), (0, .class_ 27), (0, .nameAndType 28 29), (0, u "com/example/flycatcher/flycatcher/xml/XmlChars"), (0, u "ASCII"), (0, u "[B"), (26, .integer 63744), (0, .integer 64975), (0, .integer 65008), (0, .integer 983039), (2, u "isNameStartChar"), (1, .class_ 66), (1, u "com/example/flycatcher/flycatcher/xml/XmlChars$FourthEditionNames"), (0, u "NAME_START"), (5, u "NAME"), (18, u "PREDEFINED_ENTITIES"), (0, u "Ljava/util/List;"), (32, u "I"), (3, u "ORDINARY"), (3, u "PREDEFINED_CHARACTERS"), (0, u "Ljava/lang/String;"), (0, u "PUBID_PUNCTUATION")] 29

def k2m0 : Method := { name := "<init>", desc := "()V", sig := { parameters := [], returnType := none }, accessFlags := 2, code := none }
def k2c1 : Code := { maxStack := 2, maxLocals := 1, code := prog_174_method_10_code, exceptionTable := #[], attributes := #[] }
def k2m1 : Method := { name := "isNameStartChar", desc := "(I)Z", sig := { parameters := [.int], returnType := some .boolean }, accessFlags := 9, code := some k2c1 }
/-- com/example/flycatcher/flycatcher/xml/XmlChars -/
def k2 : Class := { plain "com/example/flycatcher/flycatcher/xml/XmlChars" (some 0) with
  accessFlags := 33
  interfaces := #[]
  cf := some (fileOf pool2 25 #[.nestMembers #[64, 13]] #[{ accessFlags := 2, nameIndex := 5, descriptorIndex := 6, attributes := #[] }, { accessFlags := 9, nameIndex := 62, descriptorIndex := 23, attributes := #[] }] 33 2 #[] #[{ accessFlags := 26, nameIndex := 67, descriptorIndex := 126, attributes := #[] }, { accessFlags := 26, nameIndex := 73, descriptorIndex := 126, attributes := #[] }, { accessFlags := 26, nameIndex := 130, descriptorIndex := 126, attributes := #[] }, { accessFlags := 26, nameIndex := 28, descriptorIndex := 29, attributes := #[] }, { accessFlags := 26, nameIndex := 92, descriptorIndex := 93, attributes := #[] }, { accessFlags := 26, nameIndex := 134, descriptorIndex := 135, attributes := #[] }, { accessFlags := 26, nameIndex := 136, descriptorIndex := 135, attributes := #[] }])
  fields := #[{ name := "NAME_START", type := .int, accessFlags := 26, slot := 0, constantValue := 0 }, { name := "NAME", type := .int, accessFlags := 26, slot := 1, constantValue := 0 }, { name := "ORDINARY", type := .int, accessFlags := 26, slot := 2, constantValue := 0 }, { name := "ASCII", type := (.array .byte), accessFlags := 26, slot := 3, constantValue := 0 }, { name := "PREDEFINED_ENTITIES", type := (.object "java/util/List"), accessFlags := 26, slot := 4, constantValue := 0 }, { name := "PREDEFINED_CHARACTERS", type := (.object "java/lang/String"), accessFlags := 26, slot := 5, constantValue := 0 }, { name := "PUBID_PUNCTUATION", type := (.object "java/lang/String"), accessFlags := 26, slot := 6, constantValue := 0 }]
  methods := #[k2m0, k2m1]
  instanceTypes := #[]
  staticTypes := #[.int, .int, .int, (.array .byte), (.object "java/util/List"), (.object "java/lang/String"), (.object "java/lang/String")]
  resolved := Array.replicate 166 none
  statics := some 0 }

def pool3 : Array CpInfo := pool [(1, u "java/lang/Cloneable"), (0, .class_ 1), (0, u "java/lang/Object"), (0, .class_ 3)] 3

/-- java/lang/Cloneable -/
def k3 : Class := { plain "java/lang/Cloneable" (some 0) with
  accessFlags := 1537
  interfaces := #[]
  cf := some (fileOf pool3 2 #[] #[] 1537 4 #[] #[])
  fields := #[]
  methods := #[]
  instanceTypes := #[]
  staticTypes := #[]
  resolved := Array.replicate 8 none
  statics := none }

def pool4 : Array CpInfo := pool [(1, u "java/io/Serializable"), (0, .class_ 1), (0, u "java/lang/Object"), (0, .class_ 3)] 3

/-- java/io/Serializable -/
def k4 : Class := { plain "java/io/Serializable" (some 0) with
  accessFlags := 1537
  interfaces := #[]
  cf := some (fileOf pool4 2 #[] #[] 1537 4 #[] #[])
  fields := #[]
  methods := #[]
  instanceTypes := #[]
  staticTypes := #[]
  resolved := Array.replicate 8 none
  statics := none }

/-- the primitive byte -/
def k5 : Class := { plain "byte" none with kind := .primitive 'B', accessFlags := 0x411 }
/-- [B -/
def k6 : Class := { plain "[B" (some 0) with kind := .array 5 .byte, interfaces := #[3, 4], accessFlags := 1041 }

/-- the primitive int -/
def k7 : Class := { plain "int" none with kind := .primitive 'I', accessFlags := 0x411 }
/-- [I -/
def k8 : Class := { plain "[I" (some 0) with kind := .array 7 .int, interfaces := #[3, 4], accessFlags := 1041 }

def heap : Heap := #[{ cls := 2, slots := #[.int 0, .int 0, .int 0, .ref 1, .null, .null, .null], vm := .statics 2 },
  { cls := 6, slots := #[.int 0, .int 0, .int 0, .int 0, .int 0, .int 0, .int 0, .int 0, .int 0, .int 4, .int 4, .int 0, .int 0, .int 0, .int 0, .int 0, .int 0, .int 0, .int 0, .int 0, .int 0, .int 0, .int 0, .int 0, .int 0, .int 0, .int 0, .int 0, .int 0, .int 0, .int 0, .int 0, .int 4, .int 4, .int 4, .int 4, .int 4, .int 4, .int 4, .int 4, .int 4, .int 4, .int 4, .int 4, .int 4, .int 6, .int 6, .int 4, .int 6, .int 6, .int 6, .int 6, .int 6, .int 6, .int 6, .int 6, .int 6, .int 6, .int 7, .int 4, .int 4, .int 4, .int 4, .int 4, .int 4, .int 7, .int 7, .int 7, .int 7, .int 7, .int 7, .int 7, .int 7, .int 7, .int 7, .int 7, .int 7, .int 7, .int 7, .int 7, .int 7, .int 7, .int 7, .int 7, .int 7, .int 7, .int 7, .int 7, .int 7, .int 7, .int 7, .int 4, .int 4, .int 4, .int 4, .int 7, .int 4, .int 7, .int 7, .int 7, .int 7, .int 7, .int 7, .int 7, .int 7, .int 7, .int 7, .int 7, .int 7, .int 7, .int 7, .int 7, .int 7, .int 7, .int 7, .int 7, .int 7, .int 7, .int 7, .int 7, .int 7, .int 7, .int 7, .int 4, .int 4, .int 4, .int 4, .int 0], vm := .none }]
def classes : Array Class := #[k0, k1, k2, k3, k4, k5, k6, k7, k8]
def interned : List (Array UInt16 × Addr) := []
def slotsUsed : Nat := 135
def theMethod : MethodId := ⟨1, 1⟩
def args0 : Array Value := #[.int 5, .int 1, .int 2]
def aboutOver (below : List Frame) : State where
  vm := { classes := classes, interned := interned.toArray }
  heap := heap
  slotsUsed := slotsUsed
  threads := #[{ frames := .invoking theMethod args0 :: below }]
def below0 : List Frame := [.native { method := ⟨0, 0⟩, args := #[] }]
def about1 : State := aboutOver below0
def p0 : Program := .bare "" "" ""
def e0 : Env := launch0.env 0 0 0
theorem w_frames : about1.frames = Frame.invoking theMethod args0 :: below0 := rfl
set_option maxRecDepth 65536 in
theorem w_args : argsFit about1.vm theMethod args0 = true := by decide +kernel
set_option maxRecDepth 65536 in
theorem w_heap : heapFits about1 = true := by decide +kernel
set_option maxRecDepth 65536 in
theorem w_runnable : about1.curStatus? = some .runnable := by decide +kernel
set_option maxRecDepth 65536 in
theorem w_alone : about1.alone = true := by decide +kernel
set_option maxRecDepth 65536 in
theorem w_named : about1.methodNamed? x = some theMethod := by decide +kernel
set_option maxRecDepth 65536 in
theorem w_hears : about1.hears theMethod below0 = true := by decide +kernel
set_option maxRecDepth 65536 in
theorem w_ripe : about1.ripe theMethod args0 below0 = true := by decide +kernel
theorem w_running : about1.status = .running := rfl
set_option maxRecDepth 65536 in
theorem w_room : about1.hasRoom e0.platform room_1 = true :=
  launch0.hasRoom_least _ room_1 (by decide +kernel) (by decide +kernel) (by decide +kernel) (by decide +kernel) (by decide +kernel) (by decide +kernel)
theorem allAtoms_all (ts : List Jvm.Cond) (a : Array Jvm.Value) (st : Jvm.State) : (allAtoms ts).before a st = ts.all (fun c => c.before a st) := by
  induction ts with
  | nil => rfl
  | cons c t ih =>
    show (Jvm.Cond.and c (allAtoms t)).before a st = _
    rw [Jvm.Cond.before_and, ih, List.all_cons]
def words1 : List Jvm.Cond := Jvm.Cond.code x code maxLocals ret :: tables_1
/-- a 'code' word, met by the world's own term for the bytes: nothing is compared byte by byte -/
theorem code_word {y : MethodName} {bytes : ByteArray} {mx : Nat} {rt : Option FieldType} {a : Array Value} {s : State} {m : MethodId} {meth : Method} {c : Code} (h1 : s.methodNamed? y = some m) (h2 : s.vm.method? m = some meth) (h3 : meth.code = some c) (h4 : c.code = bytes)
    (h5 : (c.maxLocals == mx && c.exceptionTable.isEmpty && decide (c.maxStack ≤ mostOperands) && decide (meth.sig.returnType = rt) && !meth.locks && decide (parseMethodDescriptor y.desc = some meth.sig)) = true) : (Jvm.Cond.code y bytes mx rt).before a s = true := by
  simp only [Bool.and_eq_true, beq_iff_eq, Bool.not_eq_true', decide_eq_true_eq] at h5
  obtain ⟨⟨⟨⟨⟨g1, g2⟩, g3⟩, g4⟩, g5⟩, g6⟩ := h5
  simp [Cond.before, Cond.holds, Cond.value, h1, h2, h3, h4, g1, g2, g3, g4, g5, g6]
def isCode : Jvm.Cond → Bool
  | .code _ _ _ _ => true
  | _ => false
theorem all_split {L : List Jvm.Cond} {P : Jvm.Cond → Bool} (h1 : L.all (fun c => isCode c || P c) = true) (h2 : ∀ c ∈ L.filter isCode, P c = true) : L.all P = true := by
  refine List.all_eq_true.mpr fun c hc => ?_
  have h := List.all_eq_true.mp h1 c hc
  rcases Bool.eq_false_or_eq_true (isCode c) with hi | hi
  · exact h2 c (List.mem_filter.mpr ⟨hc, hi⟩)
  · simpa [hi] using h
set_option maxRecDepth 65536 in
theorem w_c0 : (Jvm.Cond.code x code maxLocals ret).before args0 about1 = true := code_word (m := ⟨1, 1⟩) (meth := k1m1) (c := k1c1) (by decide +kernel) rfl rfl rfl (by decide +kernel)
set_option maxRecDepth 65536 in
theorem w_c1 : (Jvm.Cond.code ({ cls := "com/example/flycatcher/flycatcher/xml/XmlChars", name := "isNameStartChar", desc := "(I)Z" } : Jvm.MethodName) prog_174_method_10_code (1 : Nat) (Option.some Jvm.ClassFile.FieldType.boolean)).before args0 about1 = true := code_word (m := ⟨2, 1⟩) (meth := k2m1) (c := k2c1) (by decide +kernel) rfl rfl rfl (by decide +kernel)
set_option maxRecDepth 65536 in
theorem w_c2 : (Jvm.Cond.code ({ cls := "com/example/flycatcher/flycatcher/xml/XmlCharsIsNameStartCharPinLaw", name := "expected", desc := "(I)Z" } : Jvm.MethodName) method_4_code (1 : Nat) (Option.some Jvm.ClassFile.FieldType.boolean)).before args0 about1 = true := code_word (m := ⟨1, 3⟩) (meth := k1m3) (c := k1c3) (by decide +kernel) rfl rfl rfl (by decide +kernel)
set_option maxRecDepth 65536 in
theorem w_c3 : (Jvm.Cond.code ({ cls := "com/example/flycatcher/flycatcher/xml/XmlCharsIsNameStartCharPinLaw", name := "between", desc := "(III)Z" } : Jvm.MethodName) method_3_code (3 : Nat) (Option.some Jvm.ClassFile.FieldType.boolean)).before args0 about1 = true := code_word (m := ⟨1, 2⟩) (meth := k1m2) (c := k1c2) (by decide +kernel) rfl rfl rfl (by decide +kernel)
def codes1 : List Jvm.Cond := [Jvm.Cond.code x code maxLocals ret, Jvm.Cond.code ({ cls := "com/example/flycatcher/flycatcher/xml/XmlChars", name := "isNameStartChar", desc := "(I)Z" } : Jvm.MethodName) prog_174_method_10_code (1 : Nat) (Option.some Jvm.ClassFile.FieldType.boolean), Jvm.Cond.code ({ cls := "com/example/flycatcher/flycatcher/xml/XmlCharsIsNameStartCharPinLaw", name := "expected", desc := "(I)Z" } : Jvm.MethodName) method_4_code (1 : Nat) (Option.some Jvm.ClassFile.FieldType.boolean), Jvm.Cond.code ({ cls := "com/example/flycatcher/flycatcher/xml/XmlCharsIsNameStartCharPinLaw", name := "between", desc := "(III)Z" } : Jvm.MethodName) method_3_code (3 : Nat) (Option.some Jvm.ClassFile.FieldType.boolean)]
set_option maxRecDepth 65536 in
theorem codes_eq : words1.filter isCode = codes1 := rfl
theorem w_codes : ∀ c ∈ words1.filter isCode, c.before args0 about1 = true := by
  rw [codes_eq]
  intro c hc
  simp only [codes1, List.mem_cons, List.not_mem_nil, or_false] at hc
  rcases hc with rfl | rfl | rfl | rfl
  · exact w_c0
  · exact w_c1
  · exact w_c2
  · exact w_c3
set_option maxRecDepth 65536 in
theorem w_t1 : (words1.take 24).all (fun c => isCode c || c.before args0 about1) = true := by decide +kernel
set_option maxRecDepth 65536 in
theorem w_t2 : (words1.drop 24).all (fun c => isCode c || c.before args0 about1) = true := by decide +kernel
theorem w_tables : (allAtoms (Jvm.Cond.code x code maxLocals ret :: tables_1)).before args0 about1 = true := by
  rw [allAtoms_all]
  show words1.all (fun c => c.before args0 about1) = true
  refine all_split ?_ w_codes
  rw [← List.take_append_drop 24 words1, List.all_append, w_t1, w_t2]
  rfl
set_option maxRecDepth 65536 in
theorem w_case : (Jvm.Cond.and given_1 narrow_1).before args0 about1 = true := by decide +kernel
theorem w_applies : (headSpec (Jvm.Cond.code x code maxLocals ret :: tables_1) room_1).applies x e0.platform about1 = true :=
  (Spec.applies_iff w_frames).mpr ⟨w_running, w_runnable, w_alone, w_named, w_hears, w_ripe, w_room, w_tables⟩
theorem atStart : AtStart classFile x code maxLocals ret World_1 tables_1 room_1 Calls_1 rest_1 Pre_1 launch0 p0 e0 about1 theMethod args0 below0 :=
  ⟨lists_1, trivial, launch0.admits_env _ _ _, launch0.least_env, fairChoices_fair.cas, fairChoices_fair.clock, w_frames, w_args, w_heap, w_applies, trivial, trivial, w_case⟩
end start1
theorem witness_1 : WitnessClaimed_1 := ⟨start1.p0, start1.e0, start1.about1, start1.theMethod, start1.args0, start1.below0, start1.atStart⟩
end Jvm.Pilot.@@N@@
