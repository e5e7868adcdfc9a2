import JvmDerived
import JvmDerived.Pilot.@@N@@Statement
import JvmDerived.Pilot.@@N@@Code
set_option linter.unusedVariables false
set_option linter.unusedSimpArgs false
namespace Jvm.Pilot.@@N@@
open Jvm Jvm.ClassFile Sem Op Lib Jvm.Free Jvm.Stand Jvm.LawKit Jvm.RoadKit Bundle Jvm.Pilot.@@N@@.Jvm.D
/-! the goal of a walk: from the state a the run comes to an end that F allows -/
def Go (tb : Tables) (e : Env) (below : List Frame) (F : State → Outcome → Prop) (a : State) : Prop := ∃ s₂ o, Steps tb e below a s₂ ∧ s₂.status = .running ∧ Ended s₂ below o ∧ F s₂ o
theorem Go.by {tb : Tables} {e : Env} {below : List Frame} {F : State → Outcome → Prop} {a b : State} (h : ∀ t, Steps tb e below b t → Steps tb e below a t) (k : Go tb e below F b) : Go tb e below F a := by
  obtain ⟨s₂, o, h1, h2⟩ := k
  exact ⟨s₂, o, h _ h1, h2⟩
theorem Go.tr {tb : Tables} {e : Env} {below : List Frame} {F : State → Outcome → Prop} {a b : State} (h : Steps tb e below a b) (k : Go tb e below F b) : Go tb e below F a := Go.by (fun _ q => h.trans q) k
section Ret
variable {p : Program} {l : Launch} {e : Env} {R : Room} {s : State} {m : MethodId} {args : Array Value} {below : List Frame} {meth : Method} {c : Code} {T : State} {locs : List Loc} {cells slots rc rs pc : Nat} {Ls : Array Slot} {rest : List Value} {Q : Option Value → Heap → List Loc → Prop}
theorem Go.retZ {z : Int32} (X : Stand p l e R s m args below meth c T locs cells slots) (hx : p.tables.exec = Jvm.exec) (hlk : meth.locks = false) (hret : meth.sig.returnType = some .boolean) (hd : decode c.code pc = .ok (.ireturn, 1)) (hQ : Q (some (.int (nar .boolean z))) T.heap locs) (hc : cells ≤ rc) (hs : slots ≤ rs) :
    Go p.tables e below (fun t o => ∃ v L, o = .returned v ∧ Q v t.heap L ∧ FrameEnd s o t L rc rs) (T.setTop (mkF m pc Ls (.int z :: rest))) := by
  obtain ⟨fs, hr, hrun, hended, hW, hsame⟩ := X.leave (v := some (.int (nar .boolean z))) (fun h => by rw [hret] at h; cases h) hlk
  exact ⟨_, _, retN X hx (t := .boolean) hret (by simp) hd hr, hrun, hended, _, _, rfl, hQ, ⟨_, rfl⟩, hW, hsame.mono hc hs⟩
theorem Go.retI {z : Int32} (X : Stand p l e R s m args below meth c T locs cells slots) (hx : p.tables.exec = Jvm.exec) (hlk : meth.locks = false) (hret : meth.sig.returnType = some .int) (hd : decode c.code pc = .ok (.ireturn, 1)) (hQ : Q (some (.int z)) T.heap locs) (hc : cells ≤ rc) (hs : slots ≤ rs) :
    Go p.tables e below (fun t o => ∃ v L, o = .returned v ∧ Q v t.heap L ∧ FrameEnd s o t L rc rs) (T.setTop (mkF m pc Ls (.int z :: rest))) := by
  obtain ⟨fs, hr, hrun, hended, hW, hsame⟩ := X.leave (v := some (.int z)) (fun h => by rw [hret] at h; cases h) hlk
  exact ⟨_, _, retOut X hx (t := .int) (i := .ireturn) hret rfl (Or.inl ⟨rfl, Or.inl rfl, _, rfl⟩) hd hr, hrun, hended, _, _, rfl, hQ, ⟨_, rfl⟩, hW, hsame.mono hc hs⟩
theorem Go.retJ {z : Int64} (X : Stand p l e R s m args below meth c T locs cells slots) (hx : p.tables.exec = Jvm.exec) (hlk : meth.locks = false) (hret : meth.sig.returnType = some .long) (hd : decode c.code pc = .ok (.lreturn, 1)) (hQ : Q (some (.long z)) T.heap locs) (hc : cells ≤ rc) (hs : slots ≤ rs) :
    Go p.tables e below (fun t o => ∃ v L, o = .returned v ∧ Q v t.heap L ∧ FrameEnd s o t L rc rs) (T.setTop (mkF m pc Ls (.long z :: rest))) := by
  obtain ⟨fs, hr, hrun, hended, hW, hsame⟩ := X.leave (v := some (.long z)) (fun h => by rw [hret] at h; cases h) hlk
  exact ⟨_, _, retOut X hx (t := .long) (i := .lreturn) hret rfl (Or.inr (Or.inl ⟨rfl, rfl, _, rfl⟩)) hd hr, hrun, hended, _, _, rfl, hQ, ⟨_, rfl⟩, hW, hsame.mono hc hs⟩
theorem Go.retV (X : Stand p l e R s m args below meth c T locs cells slots) (hx : p.tables.exec = Jvm.exec) (hlk : meth.locks = false) (hret : meth.sig.returnType = none) (hd : decode c.code pc = .ok (.return_, 1)) (hQ : Q none T.heap locs) (hc : cells ≤ rc) (hs : slots ≤ rs) :
    Go p.tables e below (fun t o => ∃ v L, o = .returned v ∧ Q v t.heap L ∧ FrameEnd s o t L rc rs) (T.setTop (mkF m pc Ls [])) := by
  obtain ⟨fs, hr, hrun, hended, hW, hsame⟩ := X.leave (v := none) (fun _ => rfl) hlk
  exact ⟨_, _, X.returnOut hx hret hd hr, hrun, hended, _, _, rfl, hQ, ⟨_, rfl⟩, hW, hsame.mono hc hs⟩
end Ret

/-! an array of ints whose values don't matter: its length alone -/
def IA (Z : State) (h : Heap) (a : Addr) (n : Nat) : Prop := ∃ c : Cell, Arr Z h a c .int ∧ c.slots.size = n ∧ ∀ i, i < n → ∃ w, c.slots[i]? = some (.int w)
theorem IA.new {Z : State} {h : Heap} {a : Addr} {k : ClassId} {z : Int32} (A : Arr Z h a (newA k .int z) .int) : IA Z h a z.toNatClampNeg :=
  ⟨_, A, sz_new _ _ _, fun i hi => ⟨0, by simp [newA, hi, defaultValue]⟩⟩
section Arrays
variable {p : Program} {l : Launch} {e : Env} {R : Room} {s : State} {m : MethodId} {args : Array Value} {below : List Frame} {meth : Method} {c : Code} {T : State} {locs : List Loc} {cells slots n0 : Nat} {Z : State} {a0 : Array Value} {F : State → Outcome → Prop} {g : JFrame} {rest : List Value}
theorem Go.newI (X : Stand p l e R s m args below meth c T locs cells slots) (hx : p.tables.exec = Jvm.exec) (hZ : Z.Warmed39 s.vm) (w : (Cond.arrayClass .int).before a0 Z = true) (hz : n0 ≤ T.heap.size) {n : Int32} (hg : g.method = m) (hs : g.stack = .int n :: rest) (hd : decode c.code g.pc = .ok (.newarray .int, 2)) (hn : ¬ n < 0) {cap : Nat} (hcap : n.toNatClampNeg ≤ cap) (hb : cap * 8 ≤ 536870912) (hc : cells + 1 ≤ R.cells) (hl : slots + cap ≤ R.slots)
    (k : ∀ (T' : State) (a : Addr), Stand p l e R s m args below meth c T' locs (cells + 1) (slots + cap) → n0 ≤ T'.heap.size → n0 ≤ a → IA Z T'.heap a n.toNatClampNeg → Go p.tables e below F (T'.setTop { g with pc := g.pc + 2, stack := .ref a :: rest })) : Go p.tables e below F (T.setTop g) := by
  obtain ⟨T', h', cA, X', e', E', A', st⟩ := newP X hx hZ (aty := .int) w rfl (g := g) hg hd hs hn hcap hb hc hl
  subst e'
  exact Go.by st (k T' _ X' (Nat.le_trans hz E'.1) hz (IA.new A'))
theorem Go.stIA (X : Stand p l e R s m args below meth c T locs cells slots) (hx : p.tables.exec = Jvm.exec) (hZ : Z.Warmed39 s.vm) {a : Addr} {n : Nat} (A : IA Z T.heap a n) (N : Fr n0 locs) (hz : n0 ≤ T.heap.size) (ga : n0 ≤ a) {j x : Int32} (hj : ¬ j < 0 ∧ j.toNatClampNeg < n) (hg : g.method = m) (hs : g.stack = .int x :: .int j :: .ref a :: rest) (hd : decode c.code g.pc = .ok (.iastore, 1))
    (k : ∀ (T' : State) (locs' : List Loc), Stand p l e R s m args below meth c T' locs' cells slots → Fr n0 locs' → n0 ≤ T'.heap.size → IA Z T'.heap a n → Go p.tables e below F (T'.setTop { g with pc := g.pc + 1, stack := rest })) : Go p.tables e below F (T.setTop g) := by
  obtain ⟨cl, Ar, S, V⟩ := A
  have hin : ¬ (j < 0 ∨ cl.slots.size ≤ j.toNatClampNeg) := fun q => q.elim hj.1 fun q => by omega
  obtain ⟨T', h', X', e', W, st⟩ := stI X hx hZ rfl Ar hin hg hs hd
  subst e'
  refine Go.by st (k T' _ X' (Fr.snoc X' N ga) (by rw [W.size]; exact hz) ⟨_, Ar.same W, by rw [sz_set]; exact S, fun i hi => ?_⟩)
  by_cases q : j.toNatClampNeg = i
  · exact ⟨x, by subst q; simp [Cell.setSlot, S, hi]⟩
  · obtain ⟨v, hv⟩ := V i hi
    exact ⟨v, by simp only [Cell.setSlot]; rw [Array.getElem?_setIfInBounds_ne q]; exact hv⟩
theorem Go.ldIA (X : Stand p l e R s m args below meth c T locs cells slots) (hx : p.tables.exec = Jvm.exec) (hZ : Z.Warmed39 s.vm) {a : Addr} {n : Nat} (A : IA Z T.heap a n) {j : Int32} (hj : ¬ j < 0 ∧ j.toNatClampNeg < n) (hg : g.method = m) (hs : g.stack = .int j :: .ref a :: rest) (hd : decode c.code g.pc = .ok (.iaload, 1))
    (k : ∀ (w : Int32), Go p.tables e below F (T.setTop { g with pc := g.pc + 1, stack := .int w :: rest })) : Go p.tables e below F (T.setTop g) := by
  obtain ⟨cl, Ar, S, V⟩ := A
  have hin : ¬ (j < 0 ∨ cl.slots.size ≤ j.toNatClampNeg) := fun q => q.elim hj.1 fun q => by omega
  obtain ⟨w, hw⟩ := V _ hj.2
  exact Go.by (fun t q => X.iaload hx (j := j) (v := (.int w)) Ar.1 (State.isArrayOf_alike hZ.alike Ar.2.1) Ar.2.2 hin hw hg hs hd t q) (k w)
theorem Go.lenIA (X : Stand p l e R s m args below meth c T locs cells slots) (hx : p.tables.exec = Jvm.exec) (hZ : Z.Warmed39 s.vm) {a : Addr} {n : Nat} (A : IA Z T.heap a n) {z : Int32} (hn : n.toInt32 = z) (hg : g.method = m) (hs : g.stack = .ref a :: rest) (hd : decode c.code g.pc = .ok (.arraylength, 1))
    (k : Go p.tables e below F (T.setTop { g with pc := g.pc + 1, stack := .int z :: rest })) : Go p.tables e below F (T.setTop g) := by
  obtain ⟨cl, Ar, S, V⟩ := A
  refine Go.by (fun t q => X.arraylength hx Ar.1 (State.isArrayOf_alike hZ.alike Ar.2.1) hg hs hd t q) ?_
  rw [S, hn]; exact k
end Arrays
theorem own_idx {x y : Int32} {n : Nat} {d : Int} (hy : y.toInt = d) (hd : d = n) (hn : 0 < n) (h : 0 ≤ x.toInt) : ¬ (x - (x / y) * y) < 0 ∧ (x - (x / y) * y).toNatClampNeg < n := by
  rw [irem_eq_mod]
  have e := (c_irem x y d hy).1 h
  have h1 := Int.emod_nonneg x.toInt (show d ≠ 0 by omega)
  have h2 := Int.emod_lt_of_pos x.toInt (show 0 < d by omega)
  rw [← e] at h1 h2
  constructor
  · rw [Int32.lt_iff_toInt_lt]; show ¬ (x % y).toInt < 0; omega
  · show (x % y).toInt.toNat < n; omega
theorem own_mask (x : Int32) : 0 ≤ (x &&& (2147483647 : Int32)).toInt := (c_and x 2147483647 (by decide)).1
theorem own_ushr1 (x : Int32) : 0 ≤ (XT.ushr x (1 : Int32)).toInt := by
  have e : (XT.ushr x (1 : Int32)).toInt = _ := c_iushr x 1 1 rfl (by decide)
  rw [e]; omega

/-! a function of one int, read as a proposition over its value -/
theorem own_one : (1 : Int32) = if True then 1 else 0 := rfl
theorem own_zero : (0 : Int32) = if False then 1 else 0 := rfl
section Plain
variable {c k lo hi f g : Int32} {a b : Int} {P Q : Prop} [Decidable P] [Decidable Q]
theorem own_eqi (ha : k.toInt = a) : c = k ↔ c.toInt = a := by rw [← ha]; exact Int32.toInt_inj.symm
theorem own_lti (ha : k.toInt = a) : c < k ↔ c.toInt < a := by rw [← ha]; exact Int32.lt_iff_toInt_lt
theorem own_gti (ha : k.toInt = a) : k < c ↔ a < c.toInt := by rw [← ha]; exact Int32.lt_iff_toInt_lt
theorem own_is (ha : k.toInt = a) (hf : f = if Q then 1 else 0) : (if c = k then 1 else f) = if (c.toInt = a ∨ Q) then (1 : Int32) else 0 := by
  subst hf; simp only [own_eqi (c := c) ha]
  by_cases h : c.toInt = a <;> by_cases q : Q <;> simp [h, q]
theorem own_isnt (ha : k.toInt = a) (hf : f = if Q then 1 else 0) : (if c = k then 0 else f) = if (¬ c.toInt = a ∧ Q) then (1 : Int32) else 0 := by
  subst hf; simp only [own_eqi (c := c) ha]
  by_cases h : c.toInt = a <;> by_cases q : Q <;> simp [h, q]
theorem own_lt (ha : k.toInt = a) (hf : f = if P then 1 else 0) (hg : g = if Q then 1 else 0) : (if c < k then f else g) = if ((c.toInt < a ∧ P) ∨ (¬ c.toInt < a ∧ Q)) then (1 : Int32) else 0 := by
  subst hf hg; simp only [own_lti (c := c) ha]
  by_cases h : c.toInt < a <;> by_cases p : P <;> by_cases q : Q <;> simp [h, p, q]
theorem own_gt (ha : k.toInt = a) (hf : f = if P then 1 else 0) (hg : g = if Q then 1 else 0) : (if k < c then f else g) = if ((a < c.toInt ∧ P) ∨ (¬ a < c.toInt ∧ Q)) then (1 : Int32) else 0 := by
  subst hf hg; simp only [own_gti (c := c) ha]
  by_cases h : a < c.toInt <;> by_cases p : P <;> by_cases q : Q <;> simp [h, p, q]
theorem own_in (ha : lo.toInt = a) (hb : hi.toInt = b) (hf : f = if Q then 1 else 0) : (if c < lo then f else if hi < c then f else 1) = if ((a ≤ c.toInt ∧ c.toInt ≤ b) ∨ Q) then (1 : Int32) else 0 := by
  subst hf; simp only [own_lti (c := c) ha, own_gti (c := c) hb]
  by_cases h : c.toInt < a <;> by_cases h' : b < c.toInt <;> by_cases q : Q <;> simp [h, h', q] <;> omega
theorem own_out (ha : lo.toInt = a) (hb : hi.toInt = b) (hf : f = if Q then 1 else 0) : (if c < lo then f else if hi < c then f else 0) = if (¬ (a ≤ c.toInt ∧ c.toInt ≤ b) ∧ Q) then (1 : Int32) else 0 := by
  subst hf; simp only [own_lti (c := c) ha, own_gti (c := c) hb]
  by_cases h : c.toInt < a <;> by_cases h' : b < c.toInt <;> by_cases q : Q <;> simp [h, h', q] <;> omega
end Plain

theorem d1_0 : decode prog_212_method_2_code 0 = .ok (.iload_n 0, 1) := by decide +kernel
theorem d1_1 : decode prog_212_method_2_code 1 = .ok (.bipush 9, 2) := by decide +kernel
theorem d1_3 : decode prog_212_method_2_code 3 = .ok (.if_icmp .eq 51, 3) := by decide +kernel
theorem d1_6 : decode prog_212_method_2_code 6 = .ok (.iload_n 0, 1) := by decide +kernel
theorem d1_7 : decode prog_212_method_2_code 7 = .ok (.bipush 10, 2) := by decide +kernel
theorem d1_9 : decode prog_212_method_2_code 9 = .ok (.if_icmp .eq 45, 3) := by decide +kernel
theorem d1_12 : decode prog_212_method_2_code 12 = .ok (.iload_n 0, 1) := by decide +kernel
theorem d1_13 : decode prog_212_method_2_code 13 = .ok (.bipush 13, 2) := by decide +kernel
theorem d1_15 : decode prog_212_method_2_code 15 = .ok (.if_icmp .eq 39, 3) := by decide +kernel
theorem d1_18 : decode prog_212_method_2_code 18 = .ok (.iload_n 0, 1) := by decide +kernel
theorem d1_19 : decode prog_212_method_2_code 19 = .ok (.bipush 32, 2) := by decide +kernel
theorem d1_21 : decode prog_212_method_2_code 21 = .ok (.if_icmp .lt 9, 3) := by decide +kernel
theorem d1_24 : decode prog_212_method_2_code 24 = .ok (.iload_n 0, 1) := by decide +kernel
theorem d1_25 : decode prog_212_method_2_code 25 = .ok (.ldc 7, 2) := by decide +kernel
theorem d1_27 : decode prog_212_method_2_code 27 = .ok (.if_icmp .le 27, 3) := by decide +kernel
theorem d1_30 : decode prog_212_method_2_code 30 = .ok (.iload_n 0, 1) := by decide +kernel
theorem d1_31 : decode prog_212_method_2_code 31 = .ok (.ldc 8, 2) := by decide +kernel
theorem d1_33 : decode prog_212_method_2_code 33 = .ok (.if_icmp .lt 9, 3) := by decide +kernel
theorem d1_36 : decode prog_212_method_2_code 36 = .ok (.iload_n 0, 1) := by decide +kernel
theorem d1_37 : decode prog_212_method_2_code 37 = .ok (.ldc 9, 2) := by decide +kernel
theorem d1_39 : decode prog_212_method_2_code 39 = .ok (.if_icmp .le 15, 3) := by decide +kernel
theorem d1_42 : decode prog_212_method_2_code 42 = .ok (.iload_n 0, 1) := by decide +kernel
theorem d1_43 : decode prog_212_method_2_code 43 = .ok (.ldc 10, 2) := by decide +kernel
theorem d1_45 : decode prog_212_method_2_code 45 = .ok (.if_icmp .lt 13, 3) := by decide +kernel
theorem d1_48 : decode prog_212_method_2_code 48 = .ok (.iload_n 0, 1) := by decide +kernel
theorem d1_49 : decode prog_212_method_2_code 49 = .ok (.ldc 11, 2) := by decide +kernel
theorem d1_51 : decode prog_212_method_2_code 51 = .ok (.if_icmp .gt 7, 3) := by decide +kernel
theorem d1_54 : decode prog_212_method_2_code 54 = .ok (.iconst 1, 1) := by decide +kernel
theorem d1_55 : decode prog_212_method_2_code 55 = .ok (.goto 4, 3) := by decide +kernel
theorem d1_58 : decode prog_212_method_2_code 58 = .ok (.iconst 0, 1) := by decide +kernel
theorem d1_59 : decode prog_212_method_2_code 59 = .ok (.ireturn, 1) := by decide +kernel
theorem pn_1 : plainName "com/example/tributary/tributary/xdm/XmlNames" = true := by first | (simp [plainName, overriddenIn]; done) | decide +kernel
theorem ef_1 (m : MethodId) (p0 : Int32) : entryFrame m #[(.int p0)] 1 = mkF m 0 #[.val (.int p0)] [] := by first | (simp [entryFrame, mkF, argsToLocals, Value.category]; done) | rfl
def f1_58 (p0 : Int32) : Int32 := (0 : Int32)
def f1_54 (p0 : Int32) : Int32 := (1 : Int32)
def f1_42 (p0 : Int32) : Int32 := if p0 < (65536 : Int32) then f1_58 p0 else if (1114111 : Int32) < p0 then f1_58 p0 else f1_54 p0
def f1_30 (p0 : Int32) : Int32 := if p0 < (57344 : Int32) then f1_42 p0 else if (65533 : Int32) < p0 then f1_42 p0 else f1_54 p0
def f1_0 (p0 : Int32) : Int32 := if p0 = (9 : Int32) then f1_54 p0 else if p0 = (10 : Int32) then f1_54 p0 else if p0 = (13 : Int32) then f1_54 p0 else if p0 < (32 : Int32) then f1_30 p0 else if (55295 : Int32) < p0 then f1_30 p0 else f1_54 p0
def Q1 (p0 : Int32) (h0 : Heap) (n0 : Nat) (v : Option Value) (h : Heap) (L : List Loc) : Prop := v = some (.int (f1_0 p0)) ∧ Fr n0 L ∧ h = h0
set_option maxRecDepth 65536 in
set_option maxHeartbeats 40000000 in
theorem rm1 (l : Launch) (Z : State) (a0 : Array Value) (hw : ∀ d ∈ tables_1, d.before a0 Z = true) (ws : List Jvm.Cond) (p0 : Int32)  (h0 : Heap) (n0 : Nat) (Z0 : n0 ≤ h0.size)  :
    MetFree l (⟨"com/example/tributary/tributary/xdm/XmlNames", "isXmlChar", "(I)Z"⟩ : MethodName) (head1 (Jvm.Cond.code (⟨"com/example/tributary/tributary/xdm/XmlNames", "isXmlChar", "(I)Z"⟩ : MethodName) prog_212_method_2_code 1 (some .boolean) :: ws) ({ frames := 0, cells := 0, slots := 0, locals := 0 } : Room)) (fun a U => a = #[(.int p0)] ∧ Z.Warmed39 U.vm ∧ U.heap = h0) (fun _ _ _ _ _ => True) (fun _ U o U' => ∃ v L, o = .returned v ∧ (Q1 p0 h0 n0) v U'.heap L ∧ FrameEnd U o U' L ({ frames := 0, cells := 0, slots := 0, locals := 0 } : Room).cells ({ frames := 0, cells := 0, slots := 0, locals := 0 } : Room).slots) := by
  refine MetFree.of_bodySF (plainFor_of_name pn_1) hisR ?_
  intro p e s m args below meth c s₁ Bd hml0 hP hK
  obtain ⟨rfl, hZ, hh⟩ := hP
  have hx := Bd.exec
  have hby := Bd.bytes
  have hml : c.maxLocals = 1 := hml0
  have hown : s.vm.findClass "com/example/tributary/tributary/xdm/XmlNames" = some m.cls := findClass_of_methodNamed Bd.named
  have hnm := (name_of_methodNamed Bd.named Bd.method).1
  have hlk : meth.locks = false := Bd.notSynchronized
  have X0 : Stand p l e ({ frames := 0, cells := 0, slots := 0, locals := 0 } : Room) s m #[(.int p0)] below meth c s₁ [] 0 0 := Stand.of_body Bd
  have e0 : s₁.heap = h0 := by rw [← hh, Bd.state]; rfl
  have N0 := Fr.nil n0
  refine Go.by (tb := p.tables) (e := e) (below := below) (F := fun t o => ∃ v L, o = .returned v ∧ (Q1 p0 h0 n0) v t.heap L ∧ FrameEnd s o t L ({ frames := 0, cells := 0, slots := 0, locals := 0 } : Room).cells ({ frames := 0, cells := 0, slots := 0, locals := 0 } : Room).slots) (fun t k => castTop (ef_1 m p0) k) ?_
  have J58 : ∀ (T : State) (locs : List Loc) (X : Stand p l e ({ frames := 0, cells := 0, slots := 0, locals := 0 } : Room) s m #[(.int p0)] below meth c T locs 0 0), T.heap = h0 → Fr n0 locs → f1_0 p0 = f1_58 p0 → Go p.tables e below (fun t o => ∃ v L, o = .returned v ∧ (Q1 p0 h0 n0) v t.heap L ∧ FrameEnd s o t L ({ frames := 0, cells := 0, slots := 0, locals := 0 } : Room).cells ({ frames := 0, cells := 0, slots := 0, locals := 0 } : Room).slots) (T.setTop (mkF m 58 #[.val (.int p0)] [])) := by
    intro T locs X eT N hv
    replace hv : f1_0 p0 = (0 : Int32) := hv
    show Go _ _ _ _ (T.setTop (mkF m 58 #[.val (.int p0)] []))
    refine Go.by (fun t k => XS.iconst X.here hx rfl (hb hby d1_58) k) ?_
    show Go _ _ _ _ (T.setTop (mkF m 59 #[.val (.int p0)] [(.int (0 : Int32))]))
    exact Go.retZ (Q := Q1 p0 h0 n0) X hx hlk Bd.returns (hb hby d1_59) ⟨by rw [hv]; rfl, N, eT⟩ (by decide) (by decide)
  have J54 : ∀ (T : State) (locs : List Loc) (X : Stand p l e ({ frames := 0, cells := 0, slots := 0, locals := 0 } : Room) s m #[(.int p0)] below meth c T locs 0 0), T.heap = h0 → Fr n0 locs → f1_0 p0 = f1_54 p0 → Go p.tables e below (fun t o => ∃ v L, o = .returned v ∧ (Q1 p0 h0 n0) v t.heap L ∧ FrameEnd s o t L ({ frames := 0, cells := 0, slots := 0, locals := 0 } : Room).cells ({ frames := 0, cells := 0, slots := 0, locals := 0 } : Room).slots) (T.setTop (mkF m 54 #[.val (.int p0)] [])) := by
    intro T locs X eT N hv
    replace hv : f1_0 p0 = (1 : Int32) := hv
    show Go _ _ _ _ (T.setTop (mkF m 54 #[.val (.int p0)] []))
    refine Go.by (fun t k => XS.iconst X.here hx rfl (hb hby d1_54) k) ?_
    show Go _ _ _ _ (T.setTop (mkF m 55 #[.val (.int p0)] [(.int (1 : Int32))]))
    refine Go.by (fun t k => XS.goto X.here hx rfl (pc0 := 55) (pc' := 59) rfl (hb hby d1_55) (by decide) (by decide) k) ?_
    show Go _ _ _ _ (T.setTop (mkF m 59 #[.val (.int p0)] [(.int (1 : Int32))]))
    exact Go.retZ (Q := Q1 p0 h0 n0) X hx hlk Bd.returns (hb hby d1_59) ⟨by rw [hv]; rfl, N, eT⟩ (by decide) (by decide)
  have J42 : ∀ (T : State) (locs : List Loc) (X : Stand p l e ({ frames := 0, cells := 0, slots := 0, locals := 0 } : Room) s m #[(.int p0)] below meth c T locs 0 0), T.heap = h0 → Fr n0 locs → f1_0 p0 = f1_42 p0 → Go p.tables e below (fun t o => ∃ v L, o = .returned v ∧ (Q1 p0 h0 n0) v t.heap L ∧ FrameEnd s o t L ({ frames := 0, cells := 0, slots := 0, locals := 0 } : Room).cells ({ frames := 0, cells := 0, slots := 0, locals := 0 } : Room).slots) (T.setTop (mkF m 42 #[.val (.int p0)] [])) := by
    intro T locs X eT N hv
    replace hv : f1_0 p0 = if p0 < (65536 : Int32) then f1_58 p0 else if (1114111 : Int32) < p0 then f1_58 p0 else f1_54 p0 := hv
    show Go _ _ _ _ (T.setTop (mkF m 42 #[.val (.int p0)] []))
    refine Go.by (fun t k => XS.iloadN X.here hx rfl (hb hby d1_42) rfl k) ?_
    show Go _ _ _ _ (T.setTop (mkF m 43 #[.val (.int p0)] [(.int p0)]))
    refine Go.by (fun t k => X.ldcI hx hown (mvT hZ (hw _ (List.mem_of_getElem? (i := 17) rfl))) (g := (mkF m 43 #[.val (.int p0)] [(.int p0)])) rfl (hb hby d1_43) k) ?_
    show Go _ _ _ _ (T.setTop (mkF m 45 #[.val (.int p0)] [(.int (65536 : Int32)), (.int p0)]))
    by_cases hc45 : p0 < (65536 : Int32)
    · have hv := hv.trans (if_pos hc45)
      refine Go.by (fun t k => XS.icmpYes X.here hx rfl (pc0 := 45) (pc' := 58) rfl (hb hby d1_45) rfl (XT.ii_lt_t hc45) (by decide) (by decide) k) ?_
      exact J58 T _ X eT N hv
    · have hv := hv.trans (if_neg hc45)
      refine Go.by (fun t k => XS.icmpNo X.here hx rfl (hb hby d1_45) rfl (XT.ii_lt_f hc45) k) ?_
      show Go _ _ _ _ (T.setTop (mkF m 48 #[.val (.int p0)] []))
      refine Go.by (fun t k => XS.iloadN X.here hx rfl (hb hby d1_48) rfl k) ?_
      show Go _ _ _ _ (T.setTop (mkF m 49 #[.val (.int p0)] [(.int p0)]))
      refine Go.by (fun t k => X.ldcI hx hown (mvT hZ (hw _ (List.mem_of_getElem? (i := 25) rfl))) (g := (mkF m 49 #[.val (.int p0)] [(.int p0)])) rfl (hb hby d1_49) k) ?_
      show Go _ _ _ _ (T.setTop (mkF m 51 #[.val (.int p0)] [(.int (1114111 : Int32)), (.int p0)]))
      by_cases hc51 : (1114111 : Int32) < p0
      · have hv := hv.trans (if_pos hc51)
        refine Go.by (fun t k => XS.icmpYes X.here hx rfl (pc0 := 51) (pc' := 58) rfl (hb hby d1_51) rfl (XT.ii_gt_t hc51) (by decide) (by decide) k) ?_
        exact J58 T _ X eT N hv
      · have hv := hv.trans (if_neg hc51)
        refine Go.by (fun t k => XS.icmpNo X.here hx rfl (hb hby d1_51) rfl (XT.ii_gt_f hc51) k) ?_
        exact J54 T _ X eT N hv
  have J30 : ∀ (T : State) (locs : List Loc) (X : Stand p l e ({ frames := 0, cells := 0, slots := 0, locals := 0 } : Room) s m #[(.int p0)] below meth c T locs 0 0), T.heap = h0 → Fr n0 locs → f1_0 p0 = f1_30 p0 → Go p.tables e below (fun t o => ∃ v L, o = .returned v ∧ (Q1 p0 h0 n0) v t.heap L ∧ FrameEnd s o t L ({ frames := 0, cells := 0, slots := 0, locals := 0 } : Room).cells ({ frames := 0, cells := 0, slots := 0, locals := 0 } : Room).slots) (T.setTop (mkF m 30 #[.val (.int p0)] [])) := by
    intro T locs X eT N hv
    replace hv : f1_0 p0 = if p0 < (57344 : Int32) then f1_42 p0 else if (65533 : Int32) < p0 then f1_42 p0 else f1_54 p0 := hv
    show Go _ _ _ _ (T.setTop (mkF m 30 #[.val (.int p0)] []))
    refine Go.by (fun t k => XS.iloadN X.here hx rfl (hb hby d1_30) rfl k) ?_
    show Go _ _ _ _ (T.setTop (mkF m 31 #[.val (.int p0)] [(.int p0)]))
    refine Go.by (fun t k => X.ldcI hx hown (mvT hZ (hw _ (List.mem_of_getElem? (i := 16) rfl))) (g := (mkF m 31 #[.val (.int p0)] [(.int p0)])) rfl (hb hby d1_31) k) ?_
    show Go _ _ _ _ (T.setTop (mkF m 33 #[.val (.int p0)] [(.int (57344 : Int32)), (.int p0)]))
    by_cases hc33 : p0 < (57344 : Int32)
    · have hv := hv.trans (if_pos hc33)
      refine Go.by (fun t k => XS.icmpYes X.here hx rfl (pc0 := 33) (pc' := 42) rfl (hb hby d1_33) rfl (XT.ii_lt_t hc33) (by decide) (by decide) k) ?_
      exact J42 T _ X eT N hv
    · have hv := hv.trans (if_neg hc33)
      refine Go.by (fun t k => XS.icmpNo X.here hx rfl (hb hby d1_33) rfl (XT.ii_lt_f hc33) k) ?_
      show Go _ _ _ _ (T.setTop (mkF m 36 #[.val (.int p0)] []))
      refine Go.by (fun t k => XS.iloadN X.here hx rfl (hb hby d1_36) rfl k) ?_
      show Go _ _ _ _ (T.setTop (mkF m 37 #[.val (.int p0)] [(.int p0)]))
      refine Go.by (fun t k => X.ldcI hx hown (mvT hZ (hw _ (List.mem_of_getElem? (i := 24) rfl))) (g := (mkF m 37 #[.val (.int p0)] [(.int p0)])) rfl (hb hby d1_37) k) ?_
      show Go _ _ _ _ (T.setTop (mkF m 39 #[.val (.int p0)] [(.int (65533 : Int32)), (.int p0)]))
      by_cases hc39 : (65533 : Int32) < p0
      · have hv := hv.trans (if_pos hc39)
        refine Go.by (fun t k => XS.icmpNo X.here hx rfl (hb hby d1_39) rfl (XT.ii_le_f hc39) k) ?_
        exact J42 T _ X eT N hv
      · have hv := hv.trans (if_neg hc39)
        refine Go.by (fun t k => XS.icmpYes X.here hx rfl (pc0 := 39) (pc' := 54) rfl (hb hby d1_39) rfl (XT.ii_le_t hc39) (by decide) (by decide) k) ?_
        exact J54 T _ X eT N hv
  have hv : f1_0 p0 = if p0 = (9 : Int32) then f1_54 p0 else if p0 = (10 : Int32) then f1_54 p0 else if p0 = (13 : Int32) then f1_54 p0 else if p0 < (32 : Int32) then f1_30 p0 else if (55295 : Int32) < p0 then f1_30 p0 else f1_54 p0 := rfl
  show Go _ _ _ _ (s₁.setTop (mkF m 0 #[.val (.int p0)] []))
  refine Go.by (fun t k => XS.iloadN X0.here hx rfl (hb hby d1_0) rfl k) ?_
  show Go _ _ _ _ (s₁.setTop (mkF m 1 #[.val (.int p0)] [(.int p0)]))
  refine Go.by (fun t k => XS.bipush X0.here hx rfl (hb hby d1_1) k) ?_
  show Go _ _ _ _ (s₁.setTop (mkF m 3 #[.val (.int p0)] [(.int (9 : Int32)), (.int p0)]))
  by_cases hc3 : p0 = (9 : Int32)
  · have hv := hv.trans (if_pos hc3)
    refine Go.by (fun t k => XS.icmpYes X0.here hx rfl (pc0 := 3) (pc' := 54) rfl (hb hby d1_3) rfl (XT.ii_eq_t hc3) (by decide) (by decide) k) ?_
    exact J54 s₁ _ X0 e0 N0 hv
  · have hv := hv.trans (if_neg hc3)
    refine Go.by (fun t k => XS.icmpNo X0.here hx rfl (hb hby d1_3) rfl (XT.ii_eq_f hc3) k) ?_
    show Go _ _ _ _ (s₁.setTop (mkF m 6 #[.val (.int p0)] []))
    refine Go.by (fun t k => XS.iloadN X0.here hx rfl (hb hby d1_6) rfl k) ?_
    show Go _ _ _ _ (s₁.setTop (mkF m 7 #[.val (.int p0)] [(.int p0)]))
    refine Go.by (fun t k => XS.bipush X0.here hx rfl (hb hby d1_7) k) ?_
    show Go _ _ _ _ (s₁.setTop (mkF m 9 #[.val (.int p0)] [(.int (10 : Int32)), (.int p0)]))
    by_cases hc9 : p0 = (10 : Int32)
    · have hv := hv.trans (if_pos hc9)
      refine Go.by (fun t k => XS.icmpYes X0.here hx rfl (pc0 := 9) (pc' := 54) rfl (hb hby d1_9) rfl (XT.ii_eq_t hc9) (by decide) (by decide) k) ?_
      exact J54 s₁ _ X0 e0 N0 hv
    · have hv := hv.trans (if_neg hc9)
      refine Go.by (fun t k => XS.icmpNo X0.here hx rfl (hb hby d1_9) rfl (XT.ii_eq_f hc9) k) ?_
      show Go _ _ _ _ (s₁.setTop (mkF m 12 #[.val (.int p0)] []))
      refine Go.by (fun t k => XS.iloadN X0.here hx rfl (hb hby d1_12) rfl k) ?_
      show Go _ _ _ _ (s₁.setTop (mkF m 13 #[.val (.int p0)] [(.int p0)]))
      refine Go.by (fun t k => XS.bipush X0.here hx rfl (hb hby d1_13) k) ?_
      show Go _ _ _ _ (s₁.setTop (mkF m 15 #[.val (.int p0)] [(.int (13 : Int32)), (.int p0)]))
      by_cases hc15 : p0 = (13 : Int32)
      · have hv := hv.trans (if_pos hc15)
        refine Go.by (fun t k => XS.icmpYes X0.here hx rfl (pc0 := 15) (pc' := 54) rfl (hb hby d1_15) rfl (XT.ii_eq_t hc15) (by decide) (by decide) k) ?_
        exact J54 s₁ _ X0 e0 N0 hv
      · have hv := hv.trans (if_neg hc15)
        refine Go.by (fun t k => XS.icmpNo X0.here hx rfl (hb hby d1_15) rfl (XT.ii_eq_f hc15) k) ?_
        show Go _ _ _ _ (s₁.setTop (mkF m 18 #[.val (.int p0)] []))
        refine Go.by (fun t k => XS.iloadN X0.here hx rfl (hb hby d1_18) rfl k) ?_
        show Go _ _ _ _ (s₁.setTop (mkF m 19 #[.val (.int p0)] [(.int p0)]))
        refine Go.by (fun t k => XS.bipush X0.here hx rfl (hb hby d1_19) k) ?_
        show Go _ _ _ _ (s₁.setTop (mkF m 21 #[.val (.int p0)] [(.int (32 : Int32)), (.int p0)]))
        by_cases hc21 : p0 < (32 : Int32)
        · have hv := hv.trans (if_pos hc21)
          refine Go.by (fun t k => XS.icmpYes X0.here hx rfl (pc0 := 21) (pc' := 30) rfl (hb hby d1_21) rfl (XT.ii_lt_t hc21) (by decide) (by decide) k) ?_
          exact J30 s₁ _ X0 e0 N0 hv
        · have hv := hv.trans (if_neg hc21)
          refine Go.by (fun t k => XS.icmpNo X0.here hx rfl (hb hby d1_21) rfl (XT.ii_lt_f hc21) k) ?_
          show Go _ _ _ _ (s₁.setTop (mkF m 24 #[.val (.int p0)] []))
          refine Go.by (fun t k => XS.iloadN X0.here hx rfl (hb hby d1_24) rfl k) ?_
          show Go _ _ _ _ (s₁.setTop (mkF m 25 #[.val (.int p0)] [(.int p0)]))
          refine Go.by (fun t k => X0.ldcI hx hown (mvT hZ (hw _ (List.mem_of_getElem? (i := 22) rfl))) (g := (mkF m 25 #[.val (.int p0)] [(.int p0)])) rfl (hb hby d1_25) k) ?_
          show Go _ _ _ _ (s₁.setTop (mkF m 27 #[.val (.int p0)] [(.int (55295 : Int32)), (.int p0)]))
          by_cases hc27 : (55295 : Int32) < p0
          · have hv := hv.trans (if_pos hc27)
            refine Go.by (fun t k => XS.icmpNo X0.here hx rfl (hb hby d1_27) rfl (XT.ii_le_f hc27) k) ?_
            exact J30 s₁ _ X0 e0 N0 hv
          · have hv := hv.trans (if_neg hc27)
            refine Go.by (fun t k => XS.icmpYes X0.here hx rfl (pc0 := 27) (pc' := 54) rfl (hb hby d1_27) rfl (XT.ii_le_t hc27) (by decide) (by decide) k) ?_
            exact J54 s₁ _ X0 e0 N0 hv
theorem d2_0 : decode method_2_code 0 = .ok (.iload_n 0, 1) := by decide +kernel
theorem d2_1 : decode method_2_code 1 = .ok (.ifCond .lt 9, 3) := by decide +kernel
theorem d2_4 : decode method_2_code 4 = .ok (.iload_n 0, 1) := by decide +kernel
theorem d2_5 : decode method_2_code 5 = .ok (.ldc 7, 2) := by decide +kernel
theorem d2_7 : decode method_2_code 7 = .ok (.if_icmp .le 5, 3) := by decide +kernel
theorem d2_10 : decode method_2_code 10 = .ok (.iconst 0, 1) := by decide +kernel
theorem d2_11 : decode method_2_code 11 = .ok (.ireturn, 1) := by decide +kernel
theorem d2_12 : decode method_2_code 12 = .ok (.iload_n 0, 1) := by decide +kernel
theorem d2_13 : decode method_2_code 13 = .ok (.bipush 32, 2) := by decide +kernel
theorem d2_15 : decode method_2_code 15 = .ok (.if_icmp .ge 27, 3) := by decide +kernel
theorem d2_18 : decode method_2_code 18 = .ok (.iload_n 0, 1) := by decide +kernel
theorem d2_19 : decode method_2_code 19 = .ok (.bipush 9, 2) := by decide +kernel
theorem d2_21 : decode method_2_code 21 = .ok (.if_icmp .eq 15, 3) := by decide +kernel
theorem d2_24 : decode method_2_code 24 = .ok (.iload_n 0, 1) := by decide +kernel
theorem d2_25 : decode method_2_code 25 = .ok (.bipush 10, 2) := by decide +kernel
theorem d2_27 : decode method_2_code 27 = .ok (.if_icmp .eq 9, 3) := by decide +kernel
theorem d2_30 : decode method_2_code 30 = .ok (.iload_n 0, 1) := by decide +kernel
theorem d2_31 : decode method_2_code 31 = .ok (.bipush 13, 2) := by decide +kernel
theorem d2_33 : decode method_2_code 33 = .ok (.if_icmp .ne 7, 3) := by decide +kernel
theorem d2_36 : decode method_2_code 36 = .ok (.iconst 1, 1) := by decide +kernel
theorem d2_37 : decode method_2_code 37 = .ok (.goto 4, 3) := by decide +kernel
theorem d2_40 : decode method_2_code 40 = .ok (.iconst 0, 1) := by decide +kernel
theorem d2_41 : decode method_2_code 41 = .ok (.ireturn, 1) := by decide +kernel
theorem d2_42 : decode method_2_code 42 = .ok (.iload_n 0, 1) := by decide +kernel
theorem d2_43 : decode method_2_code 43 = .ok (.ldc 8, 2) := by decide +kernel
theorem d2_45 : decode method_2_code 45 = .ok (.if_icmp .lt 11, 3) := by decide +kernel
theorem d2_48 : decode method_2_code 48 = .ok (.iload_n 0, 1) := by decide +kernel
theorem d2_49 : decode method_2_code 49 = .ok (.ldc 9, 2) := by decide +kernel
theorem d2_51 : decode method_2_code 51 = .ok (.if_icmp .gt 5, 3) := by decide +kernel
theorem d2_54 : decode method_2_code 54 = .ok (.iconst 0, 1) := by decide +kernel
theorem d2_55 : decode method_2_code 55 = .ok (.ireturn, 1) := by decide +kernel
theorem d2_56 : decode method_2_code 56 = .ok (.iload_n 0, 1) := by decide +kernel
theorem d2_57 : decode method_2_code 57 = .ok (.ldc 10, 2) := by decide +kernel
theorem d2_59 : decode method_2_code 59 = .ok (.if_icmp .eq 9, 3) := by decide +kernel
theorem d2_62 : decode method_2_code 62 = .ok (.iload_n 0, 1) := by decide +kernel
theorem d2_63 : decode method_2_code 63 = .ok (.ldc 11, 2) := by decide +kernel
theorem d2_65 : decode method_2_code 65 = .ok (.if_icmp .ne 5, 3) := by decide +kernel
theorem d2_68 : decode method_2_code 68 = .ok (.iconst 0, 1) := by decide +kernel
theorem d2_69 : decode method_2_code 69 = .ok (.ireturn, 1) := by decide +kernel
theorem d2_70 : decode method_2_code 70 = .ok (.iconst 1, 1) := by decide +kernel
theorem d2_71 : decode method_2_code 71 = .ok (.ireturn, 1) := by decide +kernel
theorem pn_2 : plainName "com/example/tributary/tributary/xdm/XmlNamesIsXmlCharPinLaw" = true := by first | (simp [plainName, overriddenIn]; done) | decide +kernel
theorem ef_2 (m : MethodId) (p0 : Int32) : entryFrame m #[(.int p0)] 1 = mkF m 0 #[.val (.int p0)] [] := by first | (simp [entryFrame, mkF, argsToLocals, Value.category]; done) | rfl
def f2_68 (p0 : Int32) : Int32 := (0 : Int32)
def f2_56 (p0 : Int32) : Int32 := if p0 = (65534 : Int32) then f2_68 p0 else if p0 = (65535 : Int32) then f2_68 p0 else (1 : Int32)
def f2_36 (p0 : Int32) : Int32 := (1 : Int32)
def f2_10 (p0 : Int32) : Int32 := (0 : Int32)
def f2_0 (p0 : Int32) : Int32 := if p0 < 0 then f2_10 p0 else if (1114111 : Int32) < p0 then f2_10 p0 else if p0 < (32 : Int32) then if p0 = (9 : Int32) then f2_36 p0 else if p0 = (10 : Int32) then f2_36 p0 else if p0 = (13 : Int32) then f2_36 p0 else (0 : Int32) else if p0 < (55296 : Int32) then f2_56 p0 else if (57343 : Int32) < p0 then f2_56 p0 else (0 : Int32)
def Q2 (p0 : Int32) (h0 : Heap) (n0 : Nat) (v : Option Value) (h : Heap) (L : List Loc) : Prop := v = some (.int (f2_0 p0)) ∧ Fr n0 L ∧ h = h0
set_option maxRecDepth 65536 in
set_option maxHeartbeats 40000000 in
theorem rm2 (l : Launch) (Z : State) (a0 : Array Value) (hw : ∀ d ∈ tables_1, d.before a0 Z = true) (ws : List Jvm.Cond) (p0 : Int32)  (h0 : Heap) (n0 : Nat) (Z0 : n0 ≤ h0.size)  :
    MetFree l (⟨"com/example/tributary/tributary/xdm/XmlNamesIsXmlCharPinLaw", "ref", "(I)Z"⟩ : MethodName) (head1 (Jvm.Cond.code (⟨"com/example/tributary/tributary/xdm/XmlNamesIsXmlCharPinLaw", "ref", "(I)Z"⟩ : MethodName) method_2_code 1 (some .boolean) :: ws) ({ frames := 0, cells := 0, slots := 0, locals := 0 } : Room)) (fun a U => a = #[(.int p0)] ∧ Z.Warmed39 U.vm ∧ U.heap = h0) (fun _ _ _ _ _ => True) (fun _ U o U' => ∃ v L, o = .returned v ∧ (Q2 p0 h0 n0) v U'.heap L ∧ FrameEnd U o U' L ({ frames := 0, cells := 0, slots := 0, locals := 0 } : Room).cells ({ frames := 0, cells := 0, slots := 0, locals := 0 } : Room).slots) := by
  refine MetFree.of_bodySF (plainFor_of_name pn_2) hisR ?_
  intro p e s m args below meth c s₁ Bd hml0 hP hK
  obtain ⟨rfl, hZ, hh⟩ := hP
  have hx := Bd.exec
  have hby := Bd.bytes
  have hml : c.maxLocals = 1 := hml0
  have hown : s.vm.findClass "com/example/tributary/tributary/xdm/XmlNamesIsXmlCharPinLaw" = some m.cls := findClass_of_methodNamed Bd.named
  have hnm := (name_of_methodNamed Bd.named Bd.method).1
  have hlk : meth.locks = false := Bd.notSynchronized
  have X0 : Stand p l e ({ frames := 0, cells := 0, slots := 0, locals := 0 } : Room) s m #[(.int p0)] below meth c s₁ [] 0 0 := Stand.of_body Bd
  have e0 : s₁.heap = h0 := by rw [← hh, Bd.state]; rfl
  have N0 := Fr.nil n0
  refine Go.by (tb := p.tables) (e := e) (below := below) (F := fun t o => ∃ v L, o = .returned v ∧ (Q2 p0 h0 n0) v t.heap L ∧ FrameEnd s o t L ({ frames := 0, cells := 0, slots := 0, locals := 0 } : Room).cells ({ frames := 0, cells := 0, slots := 0, locals := 0 } : Room).slots) (fun t k => castTop (ef_2 m p0) k) ?_
  have J68 : ∀ (T : State) (locs : List Loc) (X : Stand p l e ({ frames := 0, cells := 0, slots := 0, locals := 0 } : Room) s m #[(.int p0)] below meth c T locs 0 0), T.heap = h0 → Fr n0 locs → f2_0 p0 = f2_68 p0 → Go p.tables e below (fun t o => ∃ v L, o = .returned v ∧ (Q2 p0 h0 n0) v t.heap L ∧ FrameEnd s o t L ({ frames := 0, cells := 0, slots := 0, locals := 0 } : Room).cells ({ frames := 0, cells := 0, slots := 0, locals := 0 } : Room).slots) (T.setTop (mkF m 68 #[.val (.int p0)] [])) := by
    intro T locs X eT N hv
    replace hv : f2_0 p0 = (0 : Int32) := hv
    show Go _ _ _ _ (T.setTop (mkF m 68 #[.val (.int p0)] []))
    refine Go.by (fun t k => XS.iconst X.here hx rfl (hb hby d2_68) k) ?_
    show Go _ _ _ _ (T.setTop (mkF m 69 #[.val (.int p0)] [(.int (0 : Int32))]))
    exact Go.retZ (Q := Q2 p0 h0 n0) X hx hlk Bd.returns (hb hby d2_69) ⟨by rw [hv]; rfl, N, eT⟩ (by decide) (by decide)
  have J56 : ∀ (T : State) (locs : List Loc) (X : Stand p l e ({ frames := 0, cells := 0, slots := 0, locals := 0 } : Room) s m #[(.int p0)] below meth c T locs 0 0), T.heap = h0 → Fr n0 locs → f2_0 p0 = f2_56 p0 → Go p.tables e below (fun t o => ∃ v L, o = .returned v ∧ (Q2 p0 h0 n0) v t.heap L ∧ FrameEnd s o t L ({ frames := 0, cells := 0, slots := 0, locals := 0 } : Room).cells ({ frames := 0, cells := 0, slots := 0, locals := 0 } : Room).slots) (T.setTop (mkF m 56 #[.val (.int p0)] [])) := by
    intro T locs X eT N hv
    replace hv : f2_0 p0 = if p0 = (65534 : Int32) then f2_68 p0 else if p0 = (65535 : Int32) then f2_68 p0 else (1 : Int32) := hv
    show Go _ _ _ _ (T.setTop (mkF m 56 #[.val (.int p0)] []))
    refine Go.by (fun t k => XS.iloadN X.here hx rfl (hb hby d2_56) rfl k) ?_
    show Go _ _ _ _ (T.setTop (mkF m 57 #[.val (.int p0)] [(.int p0)]))
    refine Go.by (fun t k => X.ldcI hx hown (mvT hZ (hw _ (List.mem_of_getElem? (i := 23) rfl))) (g := (mkF m 57 #[.val (.int p0)] [(.int p0)])) rfl (hb hby d2_57) k) ?_
    show Go _ _ _ _ (T.setTop (mkF m 59 #[.val (.int p0)] [(.int (65534 : Int32)), (.int p0)]))
    by_cases hc59 : p0 = (65534 : Int32)
    · have hv := hv.trans (if_pos hc59)
      refine Go.by (fun t k => XS.icmpYes X.here hx rfl (pc0 := 59) (pc' := 68) rfl (hb hby d2_59) rfl (XT.ii_eq_t hc59) (by decide) (by decide) k) ?_
      exact J68 T _ X eT N hv
    · have hv := hv.trans (if_neg hc59)
      refine Go.by (fun t k => XS.icmpNo X.here hx rfl (hb hby d2_59) rfl (XT.ii_eq_f hc59) k) ?_
      show Go _ _ _ _ (T.setTop (mkF m 62 #[.val (.int p0)] []))
      refine Go.by (fun t k => XS.iloadN X.here hx rfl (hb hby d2_62) rfl k) ?_
      show Go _ _ _ _ (T.setTop (mkF m 63 #[.val (.int p0)] [(.int p0)]))
      refine Go.by (fun t k => X.ldcI hx hown (mvT hZ (hw _ (List.mem_of_getElem? (i := 6) rfl))) (g := (mkF m 63 #[.val (.int p0)] [(.int p0)])) rfl (hb hby d2_63) k) ?_
      show Go _ _ _ _ (T.setTop (mkF m 65 #[.val (.int p0)] [(.int (65535 : Int32)), (.int p0)]))
      by_cases hc65 : p0 = (65535 : Int32)
      · have hv := hv.trans (if_pos hc65)
        refine Go.by (fun t k => XS.icmpNo X.here hx rfl (hb hby d2_65) rfl (XT.ii_ne_f hc65) k) ?_
        exact J68 T _ X eT N hv
      · have hv := hv.trans (if_neg hc65)
        refine Go.by (fun t k => XS.icmpYes X.here hx rfl (pc0 := 65) (pc' := 70) rfl (hb hby d2_65) rfl (XT.ii_ne_t hc65) (by decide) (by decide) k) ?_
        show Go _ _ _ _ (T.setTop (mkF m 70 #[.val (.int p0)] []))
        refine Go.by (fun t k => XS.iconst X.here hx rfl (hb hby d2_70) k) ?_
        show Go _ _ _ _ (T.setTop (mkF m 71 #[.val (.int p0)] [(.int (1 : Int32))]))
        exact Go.retZ (Q := Q2 p0 h0 n0) X hx hlk Bd.returns (hb hby d2_71) ⟨by rw [hv]; rfl, N, eT⟩ (by decide) (by decide)
  have J36 : ∀ (T : State) (locs : List Loc) (X : Stand p l e ({ frames := 0, cells := 0, slots := 0, locals := 0 } : Room) s m #[(.int p0)] below meth c T locs 0 0), T.heap = h0 → Fr n0 locs → f2_0 p0 = f2_36 p0 → Go p.tables e below (fun t o => ∃ v L, o = .returned v ∧ (Q2 p0 h0 n0) v t.heap L ∧ FrameEnd s o t L ({ frames := 0, cells := 0, slots := 0, locals := 0 } : Room).cells ({ frames := 0, cells := 0, slots := 0, locals := 0 } : Room).slots) (T.setTop (mkF m 36 #[.val (.int p0)] [])) := by
    intro T locs X eT N hv
    replace hv : f2_0 p0 = (1 : Int32) := hv
    show Go _ _ _ _ (T.setTop (mkF m 36 #[.val (.int p0)] []))
    refine Go.by (fun t k => XS.iconst X.here hx rfl (hb hby d2_36) k) ?_
    show Go _ _ _ _ (T.setTop (mkF m 37 #[.val (.int p0)] [(.int (1 : Int32))]))
    refine Go.by (fun t k => XS.goto X.here hx rfl (pc0 := 37) (pc' := 41) rfl (hb hby d2_37) (by decide) (by decide) k) ?_
    show Go _ _ _ _ (T.setTop (mkF m 41 #[.val (.int p0)] [(.int (1 : Int32))]))
    exact Go.retZ (Q := Q2 p0 h0 n0) X hx hlk Bd.returns (hb hby d2_41) ⟨by rw [hv]; rfl, N, eT⟩ (by decide) (by decide)
  have J10 : ∀ (T : State) (locs : List Loc) (X : Stand p l e ({ frames := 0, cells := 0, slots := 0, locals := 0 } : Room) s m #[(.int p0)] below meth c T locs 0 0), T.heap = h0 → Fr n0 locs → f2_0 p0 = f2_10 p0 → Go p.tables e below (fun t o => ∃ v L, o = .returned v ∧ (Q2 p0 h0 n0) v t.heap L ∧ FrameEnd s o t L ({ frames := 0, cells := 0, slots := 0, locals := 0 } : Room).cells ({ frames := 0, cells := 0, slots := 0, locals := 0 } : Room).slots) (T.setTop (mkF m 10 #[.val (.int p0)] [])) := by
    intro T locs X eT N hv
    replace hv : f2_0 p0 = (0 : Int32) := hv
    show Go _ _ _ _ (T.setTop (mkF m 10 #[.val (.int p0)] []))
    refine Go.by (fun t k => XS.iconst X.here hx rfl (hb hby d2_10) k) ?_
    show Go _ _ _ _ (T.setTop (mkF m 11 #[.val (.int p0)] [(.int (0 : Int32))]))
    exact Go.retZ (Q := Q2 p0 h0 n0) X hx hlk Bd.returns (hb hby d2_11) ⟨by rw [hv]; rfl, N, eT⟩ (by decide) (by decide)
  have hv : f2_0 p0 = if p0 < 0 then f2_10 p0 else if (1114111 : Int32) < p0 then f2_10 p0 else if p0 < (32 : Int32) then if p0 = (9 : Int32) then f2_36 p0 else if p0 = (10 : Int32) then f2_36 p0 else if p0 = (13 : Int32) then f2_36 p0 else (0 : Int32) else if p0 < (55296 : Int32) then f2_56 p0 else if (57343 : Int32) < p0 then f2_56 p0 else (0 : Int32) := rfl
  show Go _ _ _ _ (s₁.setTop (mkF m 0 #[.val (.int p0)] []))
  refine Go.by (fun t k => XS.iloadN X0.here hx rfl (hb hby d2_0) rfl k) ?_
  show Go _ _ _ _ (s₁.setTop (mkF m 1 #[.val (.int p0)] [(.int p0)]))
  by_cases hc1 : p0 < 0
  · have hv := hv.trans (if_pos hc1)
    refine Go.by (fun t k => XS.ifYes X0.here hx rfl (pc0 := 1) (pc' := 10) rfl (hb hby d2_1) rfl (XT.i0_lt_t hc1) (by decide) (by decide) k) ?_
    exact J10 s₁ _ X0 e0 N0 hv
  · have hv := hv.trans (if_neg hc1)
    refine Go.by (fun t k => XS.ifNo X0.here hx rfl (hb hby d2_1) rfl (XT.i0_lt_f hc1) k) ?_
    show Go _ _ _ _ (s₁.setTop (mkF m 4 #[.val (.int p0)] []))
    refine Go.by (fun t k => XS.iloadN X0.here hx rfl (hb hby d2_4) rfl k) ?_
    show Go _ _ _ _ (s₁.setTop (mkF m 5 #[.val (.int p0)] [(.int p0)]))
    refine Go.by (fun t k => X0.ldcI hx hown (mvT hZ (hw _ (List.mem_of_getElem? (i := 8) rfl))) (g := (mkF m 5 #[.val (.int p0)] [(.int p0)])) rfl (hb hby d2_5) k) ?_
    show Go _ _ _ _ (s₁.setTop (mkF m 7 #[.val (.int p0)] [(.int (1114111 : Int32)), (.int p0)]))
    by_cases hc7 : (1114111 : Int32) < p0
    · have hv := hv.trans (if_pos hc7)
      refine Go.by (fun t k => XS.icmpNo X0.here hx rfl (hb hby d2_7) rfl (XT.ii_le_f hc7) k) ?_
      exact J10 s₁ _ X0 e0 N0 hv
    · have hv := hv.trans (if_neg hc7)
      refine Go.by (fun t k => XS.icmpYes X0.here hx rfl (pc0 := 7) (pc' := 12) rfl (hb hby d2_7) rfl (XT.ii_le_t hc7) (by decide) (by decide) k) ?_
      show Go _ _ _ _ (s₁.setTop (mkF m 12 #[.val (.int p0)] []))
      refine Go.by (fun t k => XS.iloadN X0.here hx rfl (hb hby d2_12) rfl k) ?_
      show Go _ _ _ _ (s₁.setTop (mkF m 13 #[.val (.int p0)] [(.int p0)]))
      refine Go.by (fun t k => XS.bipush X0.here hx rfl (hb hby d2_13) k) ?_
      show Go _ _ _ _ (s₁.setTop (mkF m 15 #[.val (.int p0)] [(.int (32 : Int32)), (.int p0)]))
      by_cases hc15 : p0 < (32 : Int32)
      · have hv := hv.trans (if_pos hc15)
        refine Go.by (fun t k => XS.icmpNo X0.here hx rfl (hb hby d2_15) rfl (XT.ii_ge_f hc15) k) ?_
        show Go _ _ _ _ (s₁.setTop (mkF m 18 #[.val (.int p0)] []))
        refine Go.by (fun t k => XS.iloadN X0.here hx rfl (hb hby d2_18) rfl k) ?_
        show Go _ _ _ _ (s₁.setTop (mkF m 19 #[.val (.int p0)] [(.int p0)]))
        refine Go.by (fun t k => XS.bipush X0.here hx rfl (hb hby d2_19) k) ?_
        show Go _ _ _ _ (s₁.setTop (mkF m 21 #[.val (.int p0)] [(.int (9 : Int32)), (.int p0)]))
        by_cases hc21 : p0 = (9 : Int32)
        · have hv := hv.trans (if_pos hc21)
          refine Go.by (fun t k => XS.icmpYes X0.here hx rfl (pc0 := 21) (pc' := 36) rfl (hb hby d2_21) rfl (XT.ii_eq_t hc21) (by decide) (by decide) k) ?_
          exact J36 s₁ _ X0 e0 N0 hv
        · have hv := hv.trans (if_neg hc21)
          refine Go.by (fun t k => XS.icmpNo X0.here hx rfl (hb hby d2_21) rfl (XT.ii_eq_f hc21) k) ?_
          show Go _ _ _ _ (s₁.setTop (mkF m 24 #[.val (.int p0)] []))
          refine Go.by (fun t k => XS.iloadN X0.here hx rfl (hb hby d2_24) rfl k) ?_
          show Go _ _ _ _ (s₁.setTop (mkF m 25 #[.val (.int p0)] [(.int p0)]))
          refine Go.by (fun t k => XS.bipush X0.here hx rfl (hb hby d2_25) k) ?_
          show Go _ _ _ _ (s₁.setTop (mkF m 27 #[.val (.int p0)] [(.int (10 : Int32)), (.int p0)]))
          by_cases hc27 : p0 = (10 : Int32)
          · have hv := hv.trans (if_pos hc27)
            refine Go.by (fun t k => XS.icmpYes X0.here hx rfl (pc0 := 27) (pc' := 36) rfl (hb hby d2_27) rfl (XT.ii_eq_t hc27) (by decide) (by decide) k) ?_
            exact J36 s₁ _ X0 e0 N0 hv
          · have hv := hv.trans (if_neg hc27)
            refine Go.by (fun t k => XS.icmpNo X0.here hx rfl (hb hby d2_27) rfl (XT.ii_eq_f hc27) k) ?_
            show Go _ _ _ _ (s₁.setTop (mkF m 30 #[.val (.int p0)] []))
            refine Go.by (fun t k => XS.iloadN X0.here hx rfl (hb hby d2_30) rfl k) ?_
            show Go _ _ _ _ (s₁.setTop (mkF m 31 #[.val (.int p0)] [(.int p0)]))
            refine Go.by (fun t k => XS.bipush X0.here hx rfl (hb hby d2_31) k) ?_
            show Go _ _ _ _ (s₁.setTop (mkF m 33 #[.val (.int p0)] [(.int (13 : Int32)), (.int p0)]))
            by_cases hc33 : p0 = (13 : Int32)
            · have hv := hv.trans (if_pos hc33)
              refine Go.by (fun t k => XS.icmpNo X0.here hx rfl (hb hby d2_33) rfl (XT.ii_ne_f hc33) k) ?_
              exact J36 s₁ _ X0 e0 N0 hv
            · have hv := hv.trans (if_neg hc33)
              refine Go.by (fun t k => XS.icmpYes X0.here hx rfl (pc0 := 33) (pc' := 40) rfl (hb hby d2_33) rfl (XT.ii_ne_t hc33) (by decide) (by decide) k) ?_
              show Go _ _ _ _ (s₁.setTop (mkF m 40 #[.val (.int p0)] []))
              refine Go.by (fun t k => XS.iconst X0.here hx rfl (hb hby d2_40) k) ?_
              show Go _ _ _ _ (s₁.setTop (mkF m 41 #[.val (.int p0)] [(.int (0 : Int32))]))
              exact Go.retZ (Q := Q2 p0 h0 n0) X0 hx hlk Bd.returns (hb hby d2_41) ⟨by rw [hv]; rfl, N0, e0⟩ (by decide) (by decide)
      · have hv := hv.trans (if_neg hc15)
        refine Go.by (fun t k => XS.icmpYes X0.here hx rfl (pc0 := 15) (pc' := 42) rfl (hb hby d2_15) rfl (XT.ii_ge_t hc15) (by decide) (by decide) k) ?_
        show Go _ _ _ _ (s₁.setTop (mkF m 42 #[.val (.int p0)] []))
        refine Go.by (fun t k => XS.iloadN X0.here hx rfl (hb hby d2_42) rfl k) ?_
        show Go _ _ _ _ (s₁.setTop (mkF m 43 #[.val (.int p0)] [(.int p0)]))
        refine Go.by (fun t k => X0.ldcI hx hown (mvT hZ (hw _ (List.mem_of_getElem? (i := 2) rfl))) (g := (mkF m 43 #[.val (.int p0)] [(.int p0)])) rfl (hb hby d2_43) k) ?_
        show Go _ _ _ _ (s₁.setTop (mkF m 45 #[.val (.int p0)] [(.int (55296 : Int32)), (.int p0)]))
        by_cases hc45 : p0 < (55296 : Int32)
        · have hv := hv.trans (if_pos hc45)
          refine Go.by (fun t k => XS.icmpYes X0.here hx rfl (pc0 := 45) (pc' := 56) rfl (hb hby d2_45) rfl (XT.ii_lt_t hc45) (by decide) (by decide) k) ?_
          exact J56 s₁ _ X0 e0 N0 hv
        · have hv := hv.trans (if_neg hc45)
          refine Go.by (fun t k => XS.icmpNo X0.here hx rfl (hb hby d2_45) rfl (XT.ii_lt_f hc45) k) ?_
          show Go _ _ _ _ (s₁.setTop (mkF m 48 #[.val (.int p0)] []))
          refine Go.by (fun t k => XS.iloadN X0.here hx rfl (hb hby d2_48) rfl k) ?_
          show Go _ _ _ _ (s₁.setTop (mkF m 49 #[.val (.int p0)] [(.int p0)]))
          refine Go.by (fun t k => X0.ldcI hx hown (mvT hZ (hw _ (List.mem_of_getElem? (i := 3) rfl))) (g := (mkF m 49 #[.val (.int p0)] [(.int p0)])) rfl (hb hby d2_49) k) ?_
          show Go _ _ _ _ (s₁.setTop (mkF m 51 #[.val (.int p0)] [(.int (57343 : Int32)), (.int p0)]))
          by_cases hc51 : (57343 : Int32) < p0
          · have hv := hv.trans (if_pos hc51)
            refine Go.by (fun t k => XS.icmpYes X0.here hx rfl (pc0 := 51) (pc' := 56) rfl (hb hby d2_51) rfl (XT.ii_gt_t hc51) (by decide) (by decide) k) ?_
            exact J56 s₁ _ X0 e0 N0 hv
          · have hv := hv.trans (if_neg hc51)
            refine Go.by (fun t k => XS.icmpNo X0.here hx rfl (hb hby d2_51) rfl (XT.ii_gt_f hc51) k) ?_
            show Go _ _ _ _ (s₁.setTop (mkF m 54 #[.val (.int p0)] []))
            refine Go.by (fun t k => XS.iconst X0.here hx rfl (hb hby d2_54) k) ?_
            show Go _ _ _ _ (s₁.setTop (mkF m 55 #[.val (.int p0)] [(.int (0 : Int32))]))
            exact Go.retZ (Q := Q2 p0 h0 n0) X0 hx hlk Bd.returns (hb hby d2_55) ⟨by rw [hv]; rfl, N0, e0⟩ (by decide) (by decide)
theorem qf1_42 (p0 : Int32) : f1_42 p0 = if ((65536 ≤ p0.toInt ∧ p0.toInt ≤ 1114111) ∨ False) then 1 else 0 := (own_in (lo := (65536 : Int32)) (hi := (1114111 : Int32)) rfl rfl own_zero)
theorem qf1_30 (p0 : Int32) : f1_30 p0 = if ((57344 ≤ p0.toInt ∧ p0.toInt ≤ 65533) ∨ ((65536 ≤ p0.toInt ∧ p0.toInt ≤ 1114111) ∨ False)) then 1 else 0 := (own_in (lo := (57344 : Int32)) (hi := (65533 : Int32)) rfl rfl (qf1_42 p0))
theorem qf1_0 (p0 : Int32) : f1_0 p0 = if (p0.toInt = 9 ∨ (p0.toInt = 10 ∨ (p0.toInt = 13 ∨ ((32 ≤ p0.toInt ∧ p0.toInt ≤ 55295) ∨ ((57344 ≤ p0.toInt ∧ p0.toInt ≤ 65533) ∨ ((65536 ≤ p0.toInt ∧ p0.toInt ≤ 1114111) ∨ False)))))) then 1 else 0 := (own_is (k := (9 : Int32)) rfl (own_is (k := (10 : Int32)) rfl (own_is (k := (13 : Int32)) rfl (own_in (lo := (32 : Int32)) (hi := (55295 : Int32)) rfl rfl (qf1_30 p0)))))
theorem qf2_56 (p0 : Int32) : f2_56 p0 = if (¬ p0.toInt = 65534 ∧ (¬ p0.toInt = 65535 ∧ True)) then 1 else 0 := (own_isnt (k := (65534 : Int32)) rfl (own_isnt (k := (65535 : Int32)) rfl own_one))
theorem qf2_0 (p0 : Int32) : f2_0 p0 = if ((p0.toInt < 0 ∧ False) ∨ (¬ p0.toInt < 0 ∧ ((1114111 < p0.toInt ∧ False) ∨ (¬ 1114111 < p0.toInt ∧ ((p0.toInt < 32 ∧ (p0.toInt = 9 ∨ (p0.toInt = 10 ∨ (p0.toInt = 13 ∨ False)))) ∨ (¬ p0.toInt < 32 ∧ (¬ (55296 ≤ p0.toInt ∧ p0.toInt ≤ 57343) ∧ (¬ p0.toInt = 65534 ∧ (¬ p0.toInt = 65535 ∧ True))))))))) then 1 else 0 := (own_lt (k := 0) rfl own_zero (own_gt (k := (1114111 : Int32)) rfl own_zero (own_lt (k := (32 : Int32)) rfl (own_is (k := (9 : Int32)) rfl (own_is (k := (10 : Int32)) rfl (own_is (k := (13 : Int32)) rfl own_zero))) (own_out (lo := (55296 : Int32)) (hi := (57343 : Int32)) rfl rfl (qf2_56 p0)))))
theorem own_iff (t : Int) : (t = 9 ∨ (t = 10 ∨ (t = 13 ∨ ((32 ≤ t ∧ t ≤ 55295) ∨ ((57344 ≤ t ∧ t ≤ 65533) ∨ ((65536 ≤ t ∧ t ≤ 1114111) ∨ False)))))) ↔ ((t < 0 ∧ False) ∨ (¬ t < 0 ∧ ((1114111 < t ∧ False) ∨ (¬ 1114111 < t ∧ ((t < 32 ∧ (t = 9 ∨ (t = 10 ∨ (t = 13 ∨ False)))) ∨ (¬ t < 32 ∧ (¬ (55296 ≤ t ∧ t ≤ 57343) ∧ (¬ t = 65534 ∧ (¬ t = 65535 ∧ True))))))))) := by
  simp only [or_false, false_or, and_false, and_true, true_and]
  omega
theorem own_eq (p0 : Int32) : f1_0 p0 = f2_0 p0 := by
  rw [qf1_0, qf2_0]
  simp only [own_iff p0.toInt]
theorem pd0 : parseMethodDescriptor "(I)Z" = some ⟨[.int], some .boolean⟩ := by decide +kernel
theorem pn_0 : plainName "com/example/tributary/tributary/xdm/XmlNamesIsXmlCharPinLaw" = true := by first | (simp [plainName, overriddenIn]; done) | decide +kernel
theorem ef_0 (m : MethodId) (p0 : Int32) (p1 : Int32) (p2 : Int32) : entryFrame m #[(.int p0), (.int p1), (.int p2)] maxLocals = mkF m 0 #[.val (.int p0), .val (.int p1), .val (.int p2), .unset, .unset, .unset, .unset, .unset, .unset] [] := by first | (simp [entryFrame, mkF, argsToLocals, Value.category, maxLocals]; done) | rfl
def Q0 (n0 : Nat) (v : Option Value) (h : Heap) (L : List Loc) : Prop := v = some (.int 1) ∧ Fr n0 L
set_option maxRecDepth 65536 in
set_option maxHeartbeats 40000000 in
theorem rm0 (l : Launch) (Z : State) (a0 : Array Value) (hw : ∀ d ∈ tables_1, d.before a0 Z = true) (ws : List Jvm.Cond) (p0 : Int32) (p1 : Int32) (p2 : Int32)  (h0 : Heap) (n0 : Nat) (Z0 : n0 ≤ h0.size)  :
    MetFree l x (head1 (Jvm.Cond.code x code maxLocals ret :: ws) room_1) (fun a U => a = #[(.int p0), (.int p1), (.int p2)] ∧ Z.Warmed39 U.vm ∧ U.heap = h0) (fun _ _ _ _ _ => True) (fun _ U o U' => ∃ v L, o = .returned v ∧ (Q0 n0) v U'.heap L ∧ FrameEnd U o U' L room_1.cells room_1.slots) := by
  refine MetFree.of_bodySF (plainFor_of_name pn_0) hisR ?_
  intro p e s m args below meth c s₁ Bd hml0 hP hK
  obtain ⟨rfl, hZ, hh⟩ := hP
  have hx := Bd.exec
  have hby := Bd.bytes
  have hml : c.maxLocals = 9 := hml0
  have hown : s.vm.findClass "com/example/tributary/tributary/xdm/XmlNamesIsXmlCharPinLaw" = some m.cls := findClass_of_methodNamed Bd.named
  have hnm := (name_of_methodNamed Bd.named Bd.method).1
  have hlk : meth.locks = false := Bd.notSynchronized
  have X0 : Stand p l e room_1 s m #[(.int p0), (.int p1), (.int p2)] below meth c s₁ [] 0 0 := Stand.of_body Bd
  have e0 : s₁.heap = h0 := by rw [← hh, Bd.state]; rfl
  have N0 := Fr.nil n0
  refine Go.by (tb := p.tables) (e := e) (below := below) (F := fun t o => ∃ v L, o = .returned v ∧ (Q0 n0) v t.heap L ∧ FrameEnd s o t L room_1.cells room_1.slots) (fun t k => castTop (ef_0 m p0 p1 p2) k) ?_
  have hz0 : n0 ≤ s₁.heap.size := by rw [e0]; exact Z0
  show Go _ _ _ _ (s₁.setTop (mkF m 0 #[.val (.int p0), .val (.int p1), .val (.int p2), .unset, .unset, .unset, .unset, .unset, .unset] []))
  refine Go.by (fun t k => XS.bipush X0.here hx rfl (hb hby at_0) k) ?_
  show Go _ _ _ _ (s₁.setTop (mkF m 2 #[.val (.int p0), .val (.int p1), .val (.int p2), .unset, .unset, .unset, .unset, .unset, .unset] [(.int (16 : Int32))]))
  refine Go.newI X0 hx hZ (hw _ (List.mem_of_getElem? (i := 0) rfl)) hz0 (g := (mkF m 2 #[.val (.int p0), .val (.int p1), .val (.int p2), .unset, .unset, .unset, .unset, .unset, .unset] [(.int (16 : Int32))])) rfl rfl (hb hby at_2) (by decide) (cap := 16) (by decide) (by decide) (by decide) (by decide) fun T1 b1 X1 hz1 g1 A1 => ?_
  show Go _ _ _ _ (T1.setTop (mkF m 4 #[.val (.int p0), .val (.int p1), .val (.int p2), .unset, .unset, .unset, .unset, .unset, .unset] [(.ref b1)]))
  refine Go.by (fun t k => XS.dup X1.here hx rfl (hb hby at_4) rfl rfl k) ?_
  show Go _ _ _ _ (T1.setTop (mkF m 5 #[.val (.int p0), .val (.int p1), .val (.int p2), .unset, .unset, .unset, .unset, .unset, .unset] [(.ref b1), (.ref b1)]))
  refine Go.by (fun t k => XS.iconst X1.here hx rfl (hb hby at_5) k) ?_
  show Go _ _ _ _ (T1.setTop (mkF m 6 #[.val (.int p0), .val (.int p1), .val (.int p2), .unset, .unset, .unset, .unset, .unset, .unset] [(.int (0 : Int32)), (.ref b1), (.ref b1)]))
  refine Go.by (fun t k => XS.bipush X1.here hx rfl (hb hby at_6) k) ?_
  show Go _ _ _ _ (T1.setTop (mkF m 8 #[.val (.int p0), .val (.int p1), .val (.int p2), .unset, .unset, .unset, .unset, .unset, .unset] [(.int (9 : Int32)), (.int (0 : Int32)), (.ref b1), (.ref b1)]))
  refine Go.stIA X1 hx hZ A1 N0 hz1 g1 (j := (0 : Int32)) (by decide) (g := (mkF m 8 #[.val (.int p0), .val (.int p1), .val (.int p2), .unset, .unset, .unset, .unset, .unset, .unset] [(.int (9 : Int32)), (.int (0 : Int32)), (.ref b1), (.ref b1)])) rfl rfl (hb hby at_8) fun T2 lc2 X2 N2 hz2 A2 => ?_
  show Go _ _ _ _ (T2.setTop (mkF m 9 #[.val (.int p0), .val (.int p1), .val (.int p2), .unset, .unset, .unset, .unset, .unset, .unset] [(.ref b1)]))
  refine Go.by (fun t k => XS.dup X2.here hx rfl (hb hby at_9) rfl rfl k) ?_
  show Go _ _ _ _ (T2.setTop (mkF m 10 #[.val (.int p0), .val (.int p1), .val (.int p2), .unset, .unset, .unset, .unset, .unset, .unset] [(.ref b1), (.ref b1)]))
  refine Go.by (fun t k => XS.iconst X2.here hx rfl (hb hby at_10) k) ?_
  show Go _ _ _ _ (T2.setTop (mkF m 11 #[.val (.int p0), .val (.int p1), .val (.int p2), .unset, .unset, .unset, .unset, .unset, .unset] [(.int (1 : Int32)), (.ref b1), (.ref b1)]))
  refine Go.by (fun t k => XS.bipush X2.here hx rfl (hb hby at_11) k) ?_
  show Go _ _ _ _ (T2.setTop (mkF m 13 #[.val (.int p0), .val (.int p1), .val (.int p2), .unset, .unset, .unset, .unset, .unset, .unset] [(.int (10 : Int32)), (.int (1 : Int32)), (.ref b1), (.ref b1)]))
  refine Go.stIA X2 hx hZ A2 N2 hz2 g1 (j := (1 : Int32)) (by decide) (g := (mkF m 13 #[.val (.int p0), .val (.int p1), .val (.int p2), .unset, .unset, .unset, .unset, .unset, .unset] [(.int (10 : Int32)), (.int (1 : Int32)), (.ref b1), (.ref b1)])) rfl rfl (hb hby at_13) fun T3 lc3 X3 N3 hz3 A3 => ?_
  show Go _ _ _ _ (T3.setTop (mkF m 14 #[.val (.int p0), .val (.int p1), .val (.int p2), .unset, .unset, .unset, .unset, .unset, .unset] [(.ref b1)]))
  refine Go.by (fun t k => XS.dup X3.here hx rfl (hb hby at_14) rfl rfl k) ?_
  show Go _ _ _ _ (T3.setTop (mkF m 15 #[.val (.int p0), .val (.int p1), .val (.int p2), .unset, .unset, .unset, .unset, .unset, .unset] [(.ref b1), (.ref b1)]))
  refine Go.by (fun t k => XS.iconst X3.here hx rfl (hb hby at_15) k) ?_
  show Go _ _ _ _ (T3.setTop (mkF m 16 #[.val (.int p0), .val (.int p1), .val (.int p2), .unset, .unset, .unset, .unset, .unset, .unset] [(.int (2 : Int32)), (.ref b1), (.ref b1)]))
  refine Go.by (fun t k => XS.bipush X3.here hx rfl (hb hby at_16) k) ?_
  show Go _ _ _ _ (T3.setTop (mkF m 18 #[.val (.int p0), .val (.int p1), .val (.int p2), .unset, .unset, .unset, .unset, .unset, .unset] [(.int (13 : Int32)), (.int (2 : Int32)), (.ref b1), (.ref b1)]))
  refine Go.stIA X3 hx hZ A3 N3 hz3 g1 (j := (2 : Int32)) (by decide) (g := (mkF m 18 #[.val (.int p0), .val (.int p1), .val (.int p2), .unset, .unset, .unset, .unset, .unset, .unset] [(.int (13 : Int32)), (.int (2 : Int32)), (.ref b1), (.ref b1)])) rfl rfl (hb hby at_18) fun T4 lc4 X4 N4 hz4 A4 => ?_
  show Go _ _ _ _ (T4.setTop (mkF m 19 #[.val (.int p0), .val (.int p1), .val (.int p2), .unset, .unset, .unset, .unset, .unset, .unset] [(.ref b1)]))
  refine Go.by (fun t k => XS.dup X4.here hx rfl (hb hby at_19) rfl rfl k) ?_
  show Go _ _ _ _ (T4.setTop (mkF m 20 #[.val (.int p0), .val (.int p1), .val (.int p2), .unset, .unset, .unset, .unset, .unset, .unset] [(.ref b1), (.ref b1)]))
  refine Go.by (fun t k => XS.iconst X4.here hx rfl (hb hby at_20) k) ?_
  show Go _ _ _ _ (T4.setTop (mkF m 21 #[.val (.int p0), .val (.int p1), .val (.int p2), .unset, .unset, .unset, .unset, .unset, .unset] [(.int (3 : Int32)), (.ref b1), (.ref b1)]))
  refine Go.by (fun t k => XS.bipush X4.here hx rfl (hb hby at_21) k) ?_
  show Go _ _ _ _ (T4.setTop (mkF m 23 #[.val (.int p0), .val (.int p1), .val (.int p2), .unset, .unset, .unset, .unset, .unset, .unset] [(.int (32 : Int32)), (.int (3 : Int32)), (.ref b1), (.ref b1)]))
  refine Go.stIA X4 hx hZ A4 N4 hz4 g1 (j := (3 : Int32)) (by decide) (g := (mkF m 23 #[.val (.int p0), .val (.int p1), .val (.int p2), .unset, .unset, .unset, .unset, .unset, .unset] [(.int (32 : Int32)), (.int (3 : Int32)), (.ref b1), (.ref b1)])) rfl rfl (hb hby at_23) fun T5 lc5 X5 N5 hz5 A5 => ?_
  show Go _ _ _ _ (T5.setTop (mkF m 24 #[.val (.int p0), .val (.int p1), .val (.int p2), .unset, .unset, .unset, .unset, .unset, .unset] [(.ref b1)]))
  refine Go.by (fun t k => XS.dup X5.here hx rfl (hb hby at_24) rfl rfl k) ?_
  show Go _ _ _ _ (T5.setTop (mkF m 25 #[.val (.int p0), .val (.int p1), .val (.int p2), .unset, .unset, .unset, .unset, .unset, .unset] [(.ref b1), (.ref b1)]))
  refine Go.by (fun t k => XS.iconst X5.here hx rfl (hb hby at_25) k) ?_
  show Go _ _ _ _ (T5.setTop (mkF m 26 #[.val (.int p0), .val (.int p1), .val (.int p2), .unset, .unset, .unset, .unset, .unset, .unset] [(.int (4 : Int32)), (.ref b1), (.ref b1)]))
  refine Go.by (fun t k => X5.ldcI hx hown (mvT hZ (hw _ (List.mem_of_getElem? (i := 1) rfl))) (g := (mkF m 26 #[.val (.int p0), .val (.int p1), .val (.int p2), .unset, .unset, .unset, .unset, .unset, .unset] [(.int (4 : Int32)), (.ref b1), (.ref b1)])) rfl (hb hby at_26) k) ?_
  show Go _ _ _ _ (T5.setTop (mkF m 28 #[.val (.int p0), .val (.int p1), .val (.int p2), .unset, .unset, .unset, .unset, .unset, .unset] [(.int (55295 : Int32)), (.int (4 : Int32)), (.ref b1), (.ref b1)]))
  refine Go.stIA X5 hx hZ A5 N5 hz5 g1 (j := (4 : Int32)) (by decide) (g := (mkF m 28 #[.val (.int p0), .val (.int p1), .val (.int p2), .unset, .unset, .unset, .unset, .unset, .unset] [(.int (55295 : Int32)), (.int (4 : Int32)), (.ref b1), (.ref b1)])) rfl rfl (hb hby at_28) fun T6 lc6 X6 N6 hz6 A6 => ?_
  show Go _ _ _ _ (T6.setTop (mkF m 29 #[.val (.int p0), .val (.int p1), .val (.int p2), .unset, .unset, .unset, .unset, .unset, .unset] [(.ref b1)]))
  refine Go.by (fun t k => XS.dup X6.here hx rfl (hb hby at_29) rfl rfl k) ?_
  show Go _ _ _ _ (T6.setTop (mkF m 30 #[.val (.int p0), .val (.int p1), .val (.int p2), .unset, .unset, .unset, .unset, .unset, .unset] [(.ref b1), (.ref b1)]))
  refine Go.by (fun t k => XS.iconst X6.here hx rfl (hb hby at_30) k) ?_
  show Go _ _ _ _ (T6.setTop (mkF m 31 #[.val (.int p0), .val (.int p1), .val (.int p2), .unset, .unset, .unset, .unset, .unset, .unset] [(.int (5 : Int32)), (.ref b1), (.ref b1)]))
  refine Go.by (fun t k => X6.ldcI hx hown (mvT hZ (hw _ (List.mem_of_getElem? (i := 2) rfl))) (g := (mkF m 31 #[.val (.int p0), .val (.int p1), .val (.int p2), .unset, .unset, .unset, .unset, .unset, .unset] [(.int (5 : Int32)), (.ref b1), (.ref b1)])) rfl (hb hby at_31) k) ?_
  show Go _ _ _ _ (T6.setTop (mkF m 33 #[.val (.int p0), .val (.int p1), .val (.int p2), .unset, .unset, .unset, .unset, .unset, .unset] [(.int (55296 : Int32)), (.int (5 : Int32)), (.ref b1), (.ref b1)]))
  refine Go.stIA X6 hx hZ A6 N6 hz6 g1 (j := (5 : Int32)) (by decide) (g := (mkF m 33 #[.val (.int p0), .val (.int p1), .val (.int p2), .unset, .unset, .unset, .unset, .unset, .unset] [(.int (55296 : Int32)), (.int (5 : Int32)), (.ref b1), (.ref b1)])) rfl rfl (hb hby at_33) fun T7 lc7 X7 N7 hz7 A7 => ?_
  show Go _ _ _ _ (T7.setTop (mkF m 34 #[.val (.int p0), .val (.int p1), .val (.int p2), .unset, .unset, .unset, .unset, .unset, .unset] [(.ref b1)]))
  refine Go.by (fun t k => XS.dup X7.here hx rfl (hb hby at_34) rfl rfl k) ?_
  show Go _ _ _ _ (T7.setTop (mkF m 35 #[.val (.int p0), .val (.int p1), .val (.int p2), .unset, .unset, .unset, .unset, .unset, .unset] [(.ref b1), (.ref b1)]))
  refine Go.by (fun t k => XS.bipush X7.here hx rfl (hb hby at_35) k) ?_
  show Go _ _ _ _ (T7.setTop (mkF m 37 #[.val (.int p0), .val (.int p1), .val (.int p2), .unset, .unset, .unset, .unset, .unset, .unset] [(.int (6 : Int32)), (.ref b1), (.ref b1)]))
  refine Go.by (fun t k => X7.ldcI hx hown (mvT hZ (hw _ (List.mem_of_getElem? (i := 3) rfl))) (g := (mkF m 37 #[.val (.int p0), .val (.int p1), .val (.int p2), .unset, .unset, .unset, .unset, .unset, .unset] [(.int (6 : Int32)), (.ref b1), (.ref b1)])) rfl (hb hby at_37) k) ?_
  show Go _ _ _ _ (T7.setTop (mkF m 39 #[.val (.int p0), .val (.int p1), .val (.int p2), .unset, .unset, .unset, .unset, .unset, .unset] [(.int (57343 : Int32)), (.int (6 : Int32)), (.ref b1), (.ref b1)]))
  refine Go.stIA X7 hx hZ A7 N7 hz7 g1 (j := (6 : Int32)) (by decide) (g := (mkF m 39 #[.val (.int p0), .val (.int p1), .val (.int p2), .unset, .unset, .unset, .unset, .unset, .unset] [(.int (57343 : Int32)), (.int (6 : Int32)), (.ref b1), (.ref b1)])) rfl rfl (hb hby at_39) fun T8 lc8 X8 N8 hz8 A8 => ?_
  show Go _ _ _ _ (T8.setTop (mkF m 40 #[.val (.int p0), .val (.int p1), .val (.int p2), .unset, .unset, .unset, .unset, .unset, .unset] [(.ref b1)]))
  refine Go.by (fun t k => XS.dup X8.here hx rfl (hb hby at_40) rfl rfl k) ?_
  show Go _ _ _ _ (T8.setTop (mkF m 41 #[.val (.int p0), .val (.int p1), .val (.int p2), .unset, .unset, .unset, .unset, .unset, .unset] [(.ref b1), (.ref b1)]))
  refine Go.by (fun t k => XS.bipush X8.here hx rfl (hb hby at_41) k) ?_
  show Go _ _ _ _ (T8.setTop (mkF m 43 #[.val (.int p0), .val (.int p1), .val (.int p2), .unset, .unset, .unset, .unset, .unset, .unset] [(.int (7 : Int32)), (.ref b1), (.ref b1)]))
  refine Go.by (fun t k => X8.ldcI hx hown (mvT hZ (hw _ (List.mem_of_getElem? (i := 4) rfl))) (g := (mkF m 43 #[.val (.int p0), .val (.int p1), .val (.int p2), .unset, .unset, .unset, .unset, .unset, .unset] [(.int (7 : Int32)), (.ref b1), (.ref b1)])) rfl (hb hby at_43) k) ?_
  show Go _ _ _ _ (T8.setTop (mkF m 45 #[.val (.int p0), .val (.int p1), .val (.int p2), .unset, .unset, .unset, .unset, .unset, .unset] [(.int (57344 : Int32)), (.int (7 : Int32)), (.ref b1), (.ref b1)]))
  refine Go.stIA X8 hx hZ A8 N8 hz8 g1 (j := (7 : Int32)) (by decide) (g := (mkF m 45 #[.val (.int p0), .val (.int p1), .val (.int p2), .unset, .unset, .unset, .unset, .unset, .unset] [(.int (57344 : Int32)), (.int (7 : Int32)), (.ref b1), (.ref b1)])) rfl rfl (hb hby at_45) fun T9 lc9 X9 N9 hz9 A9 => ?_
  show Go _ _ _ _ (T9.setTop (mkF m 46 #[.val (.int p0), .val (.int p1), .val (.int p2), .unset, .unset, .unset, .unset, .unset, .unset] [(.ref b1)]))
  refine Go.by (fun t k => XS.dup X9.here hx rfl (hb hby at_46) rfl rfl k) ?_
  show Go _ _ _ _ (T9.setTop (mkF m 47 #[.val (.int p0), .val (.int p1), .val (.int p2), .unset, .unset, .unset, .unset, .unset, .unset] [(.ref b1), (.ref b1)]))
  refine Go.by (fun t k => XS.bipush X9.here hx rfl (hb hby at_47) k) ?_
  show Go _ _ _ _ (T9.setTop (mkF m 49 #[.val (.int p0), .val (.int p1), .val (.int p2), .unset, .unset, .unset, .unset, .unset, .unset] [(.int (8 : Int32)), (.ref b1), (.ref b1)]))
  refine Go.by (fun t k => X9.ldcI hx hown (mvT hZ (hw _ (List.mem_of_getElem? (i := 5) rfl))) (g := (mkF m 49 #[.val (.int p0), .val (.int p1), .val (.int p2), .unset, .unset, .unset, .unset, .unset, .unset] [(.int (8 : Int32)), (.ref b1), (.ref b1)])) rfl (hb hby at_49) k) ?_
  show Go _ _ _ _ (T9.setTop (mkF m 51 #[.val (.int p0), .val (.int p1), .val (.int p2), .unset, .unset, .unset, .unset, .unset, .unset] [(.int (65533 : Int32)), (.int (8 : Int32)), (.ref b1), (.ref b1)]))
  refine Go.stIA X9 hx hZ A9 N9 hz9 g1 (j := (8 : Int32)) (by decide) (g := (mkF m 51 #[.val (.int p0), .val (.int p1), .val (.int p2), .unset, .unset, .unset, .unset, .unset, .unset] [(.int (65533 : Int32)), (.int (8 : Int32)), (.ref b1), (.ref b1)])) rfl rfl (hb hby at_51) fun T10 lc10 X10 N10 hz10 A10 => ?_
  show Go _ _ _ _ (T10.setTop (mkF m 52 #[.val (.int p0), .val (.int p1), .val (.int p2), .unset, .unset, .unset, .unset, .unset, .unset] [(.ref b1)]))
  refine Go.by (fun t k => XS.dup X10.here hx rfl (hb hby at_52) rfl rfl k) ?_
  show Go _ _ _ _ (T10.setTop (mkF m 53 #[.val (.int p0), .val (.int p1), .val (.int p2), .unset, .unset, .unset, .unset, .unset, .unset] [(.ref b1), (.ref b1)]))
  refine Go.by (fun t k => XS.bipush X10.here hx rfl (hb hby at_53) k) ?_
  show Go _ _ _ _ (T10.setTop (mkF m 55 #[.val (.int p0), .val (.int p1), .val (.int p2), .unset, .unset, .unset, .unset, .unset, .unset] [(.int (9 : Int32)), (.ref b1), (.ref b1)]))
  refine Go.by (fun t k => X10.ldcI hx hown (mvT hZ (hw _ (List.mem_of_getElem? (i := 6) rfl))) (g := (mkF m 55 #[.val (.int p0), .val (.int p1), .val (.int p2), .unset, .unset, .unset, .unset, .unset, .unset] [(.int (9 : Int32)), (.ref b1), (.ref b1)])) rfl (hb hby at_55) k) ?_
  show Go _ _ _ _ (T10.setTop (mkF m 57 #[.val (.int p0), .val (.int p1), .val (.int p2), .unset, .unset, .unset, .unset, .unset, .unset] [(.int (65535 : Int32)), (.int (9 : Int32)), (.ref b1), (.ref b1)]))
  refine Go.stIA X10 hx hZ A10 N10 hz10 g1 (j := (9 : Int32)) (by decide) (g := (mkF m 57 #[.val (.int p0), .val (.int p1), .val (.int p2), .unset, .unset, .unset, .unset, .unset, .unset] [(.int (65535 : Int32)), (.int (9 : Int32)), (.ref b1), (.ref b1)])) rfl rfl (hb hby at_57) fun T11 lc11 X11 N11 hz11 A11 => ?_
  show Go _ _ _ _ (T11.setTop (mkF m 58 #[.val (.int p0), .val (.int p1), .val (.int p2), .unset, .unset, .unset, .unset, .unset, .unset] [(.ref b1)]))
  refine Go.by (fun t k => XS.dup X11.here hx rfl (hb hby at_58) rfl rfl k) ?_
  show Go _ _ _ _ (T11.setTop (mkF m 59 #[.val (.int p0), .val (.int p1), .val (.int p2), .unset, .unset, .unset, .unset, .unset, .unset] [(.ref b1), (.ref b1)]))
  refine Go.by (fun t k => XS.bipush X11.here hx rfl (hb hby at_59) k) ?_
  show Go _ _ _ _ (T11.setTop (mkF m 61 #[.val (.int p0), .val (.int p1), .val (.int p2), .unset, .unset, .unset, .unset, .unset, .unset] [(.int (10 : Int32)), (.ref b1), (.ref b1)]))
  refine Go.by (fun t k => X11.ldcI hx hown (mvT hZ (hw _ (List.mem_of_getElem? (i := 7) rfl))) (g := (mkF m 61 #[.val (.int p0), .val (.int p1), .val (.int p2), .unset, .unset, .unset, .unset, .unset, .unset] [(.int (10 : Int32)), (.ref b1), (.ref b1)])) rfl (hb hby at_61) k) ?_
  show Go _ _ _ _ (T11.setTop (mkF m 63 #[.val (.int p0), .val (.int p1), .val (.int p2), .unset, .unset, .unset, .unset, .unset, .unset] [(.int (65536 : Int32)), (.int (10 : Int32)), (.ref b1), (.ref b1)]))
  refine Go.stIA X11 hx hZ A11 N11 hz11 g1 (j := (10 : Int32)) (by decide) (g := (mkF m 63 #[.val (.int p0), .val (.int p1), .val (.int p2), .unset, .unset, .unset, .unset, .unset, .unset] [(.int (65536 : Int32)), (.int (10 : Int32)), (.ref b1), (.ref b1)])) rfl rfl (hb hby at_63) fun T12 lc12 X12 N12 hz12 A12 => ?_
  show Go _ _ _ _ (T12.setTop (mkF m 64 #[.val (.int p0), .val (.int p1), .val (.int p2), .unset, .unset, .unset, .unset, .unset, .unset] [(.ref b1)]))
  refine Go.by (fun t k => XS.dup X12.here hx rfl (hb hby at_64) rfl rfl k) ?_
  show Go _ _ _ _ (T12.setTop (mkF m 65 #[.val (.int p0), .val (.int p1), .val (.int p2), .unset, .unset, .unset, .unset, .unset, .unset] [(.ref b1), (.ref b1)]))
  refine Go.by (fun t k => XS.bipush X12.here hx rfl (hb hby at_65) k) ?_
  show Go _ _ _ _ (T12.setTop (mkF m 67 #[.val (.int p0), .val (.int p1), .val (.int p2), .unset, .unset, .unset, .unset, .unset, .unset] [(.int (11 : Int32)), (.ref b1), (.ref b1)]))
  refine Go.by (fun t k => X12.ldcI hx hown (mvT hZ (hw _ (List.mem_of_getElem? (i := 8) rfl))) (g := (mkF m 67 #[.val (.int p0), .val (.int p1), .val (.int p2), .unset, .unset, .unset, .unset, .unset, .unset] [(.int (11 : Int32)), (.ref b1), (.ref b1)])) rfl (hb hby at_67) k) ?_
  show Go _ _ _ _ (T12.setTop (mkF m 69 #[.val (.int p0), .val (.int p1), .val (.int p2), .unset, .unset, .unset, .unset, .unset, .unset] [(.int (1114111 : Int32)), (.int (11 : Int32)), (.ref b1), (.ref b1)]))
  refine Go.stIA X12 hx hZ A12 N12 hz12 g1 (j := (11 : Int32)) (by decide) (g := (mkF m 69 #[.val (.int p0), .val (.int p1), .val (.int p2), .unset, .unset, .unset, .unset, .unset, .unset] [(.int (1114111 : Int32)), (.int (11 : Int32)), (.ref b1), (.ref b1)])) rfl rfl (hb hby at_69) fun T13 lc13 X13 N13 hz13 A13 => ?_
  show Go _ _ _ _ (T13.setTop (mkF m 70 #[.val (.int p0), .val (.int p1), .val (.int p2), .unset, .unset, .unset, .unset, .unset, .unset] [(.ref b1)]))
  refine Go.by (fun t k => XS.dup X13.here hx rfl (hb hby at_70) rfl rfl k) ?_
  show Go _ _ _ _ (T13.setTop (mkF m 71 #[.val (.int p0), .val (.int p1), .val (.int p2), .unset, .unset, .unset, .unset, .unset, .unset] [(.ref b1), (.ref b1)]))
  refine Go.by (fun t k => XS.bipush X13.here hx rfl (hb hby at_71) k) ?_
  show Go _ _ _ _ (T13.setTop (mkF m 73 #[.val (.int p0), .val (.int p1), .val (.int p2), .unset, .unset, .unset, .unset, .unset, .unset] [(.int (12 : Int32)), (.ref b1), (.ref b1)]))
  refine Go.by (fun t k => X13.ldcI hx hown (mvT hZ (hw _ (List.mem_of_getElem? (i := 9) rfl))) (g := (mkF m 73 #[.val (.int p0), .val (.int p1), .val (.int p2), .unset, .unset, .unset, .unset, .unset, .unset] [(.int (12 : Int32)), (.ref b1), (.ref b1)])) rfl (hb hby at_73) k) ?_
  show Go _ _ _ _ (T13.setTop (mkF m 75 #[.val (.int p0), .val (.int p1), .val (.int p2), .unset, .unset, .unset, .unset, .unset, .unset] [(.int (1114112 : Int32)), (.int (12 : Int32)), (.ref b1), (.ref b1)]))
  refine Go.stIA X13 hx hZ A13 N13 hz13 g1 (j := (12 : Int32)) (by decide) (g := (mkF m 75 #[.val (.int p0), .val (.int p1), .val (.int p2), .unset, .unset, .unset, .unset, .unset, .unset] [(.int (1114112 : Int32)), (.int (12 : Int32)), (.ref b1), (.ref b1)])) rfl rfl (hb hby at_75) fun T14 lc14 X14 N14 hz14 A14 => ?_
  show Go _ _ _ _ (T14.setTop (mkF m 76 #[.val (.int p0), .val (.int p1), .val (.int p2), .unset, .unset, .unset, .unset, .unset, .unset] [(.ref b1)]))
  refine Go.by (fun t k => XS.dup X14.here hx rfl (hb hby at_76) rfl rfl k) ?_
  show Go _ _ _ _ (T14.setTop (mkF m 77 #[.val (.int p0), .val (.int p1), .val (.int p2), .unset, .unset, .unset, .unset, .unset, .unset] [(.ref b1), (.ref b1)]))
  refine Go.by (fun t k => XS.bipush X14.here hx rfl (hb hby at_77) k) ?_
  show Go _ _ _ _ (T14.setTop (mkF m 79 #[.val (.int p0), .val (.int p1), .val (.int p2), .unset, .unset, .unset, .unset, .unset, .unset] [(.int (13 : Int32)), (.ref b1), (.ref b1)]))
  refine Go.by (fun t k => XS.iconst X14.here hx rfl (hb hby at_79) k) ?_
  show Go _ _ _ _ (T14.setTop (mkF m 80 #[.val (.int p0), .val (.int p1), .val (.int p2), .unset, .unset, .unset, .unset, .unset, .unset] [(.int (0 : Int32)), (.int (13 : Int32)), (.ref b1), (.ref b1)]))
  refine Go.stIA X14 hx hZ A14 N14 hz14 g1 (j := (13 : Int32)) (by decide) (g := (mkF m 80 #[.val (.int p0), .val (.int p1), .val (.int p2), .unset, .unset, .unset, .unset, .unset, .unset] [(.int (0 : Int32)), (.int (13 : Int32)), (.ref b1), (.ref b1)])) rfl rfl (hb hby at_80) fun T15 lc15 X15 N15 hz15 A15 => ?_
  show Go _ _ _ _ (T15.setTop (mkF m 81 #[.val (.int p0), .val (.int p1), .val (.int p2), .unset, .unset, .unset, .unset, .unset, .unset] [(.ref b1)]))
  refine Go.by (fun t k => XS.dup X15.here hx rfl (hb hby at_81) rfl rfl k) ?_
  show Go _ _ _ _ (T15.setTop (mkF m 82 #[.val (.int p0), .val (.int p1), .val (.int p2), .unset, .unset, .unset, .unset, .unset, .unset] [(.ref b1), (.ref b1)]))
  refine Go.by (fun t k => XS.bipush X15.here hx rfl (hb hby at_82) k) ?_
  show Go _ _ _ _ (T15.setTop (mkF m 84 #[.val (.int p0), .val (.int p1), .val (.int p2), .unset, .unset, .unset, .unset, .unset, .unset] [(.int (14 : Int32)), (.ref b1), (.ref b1)]))
  refine Go.by (fun t k => XS.iconst X15.here hx rfl (hb hby at_84) k) ?_
  show Go _ _ _ _ (T15.setTop (mkF m 85 #[.val (.int p0), .val (.int p1), .val (.int p2), .unset, .unset, .unset, .unset, .unset, .unset] [(.int (-1 : Int32)), (.int (14 : Int32)), (.ref b1), (.ref b1)]))
  refine Go.stIA X15 hx hZ A15 N15 hz15 g1 (j := (14 : Int32)) (by decide) (g := (mkF m 85 #[.val (.int p0), .val (.int p1), .val (.int p2), .unset, .unset, .unset, .unset, .unset, .unset] [(.int (-1 : Int32)), (.int (14 : Int32)), (.ref b1), (.ref b1)])) rfl rfl (hb hby at_85) fun T16 lc16 X16 N16 hz16 A16 => ?_
  show Go _ _ _ _ (T16.setTop (mkF m 86 #[.val (.int p0), .val (.int p1), .val (.int p2), .unset, .unset, .unset, .unset, .unset, .unset] [(.ref b1)]))
  refine Go.by (fun t k => XS.dup X16.here hx rfl (hb hby at_86) rfl rfl k) ?_
  show Go _ _ _ _ (T16.setTop (mkF m 87 #[.val (.int p0), .val (.int p1), .val (.int p2), .unset, .unset, .unset, .unset, .unset, .unset] [(.ref b1), (.ref b1)]))
  refine Go.by (fun t k => XS.bipush X16.here hx rfl (hb hby at_87) k) ?_
  show Go _ _ _ _ (T16.setTop (mkF m 89 #[.val (.int p0), .val (.int p1), .val (.int p2), .unset, .unset, .unset, .unset, .unset, .unset] [(.int (15 : Int32)), (.ref b1), (.ref b1)]))
  refine Go.by (fun t k => X16.ldcI hx hown (mvT hZ (hw _ (List.mem_of_getElem? (i := 10) rfl))) (g := (mkF m 89 #[.val (.int p0), .val (.int p1), .val (.int p2), .unset, .unset, .unset, .unset, .unset, .unset] [(.int (15 : Int32)), (.ref b1), (.ref b1)])) rfl (hb hby at_89) k) ?_
  show Go _ _ _ _ (T16.setTop (mkF m 91 #[.val (.int p0), .val (.int p1), .val (.int p2), .unset, .unset, .unset, .unset, .unset, .unset] [(.int (-2147483648 : Int32)), (.int (15 : Int32)), (.ref b1), (.ref b1)]))
  refine Go.stIA X16 hx hZ A16 N16 hz16 g1 (j := (15 : Int32)) (by decide) (g := (mkF m 91 #[.val (.int p0), .val (.int p1), .val (.int p2), .unset, .unset, .unset, .unset, .unset, .unset] [(.int (-2147483648 : Int32)), (.int (15 : Int32)), (.ref b1), (.ref b1)])) rfl rfl (hb hby at_91) fun T17 lc17 X17 N17 hz17 A17 => ?_
  show Go _ _ _ _ (T17.setTop (mkF m 92 #[.val (.int p0), .val (.int p1), .val (.int p2), .unset, .unset, .unset, .unset, .unset, .unset] [(.ref b1)]))
  refine Go.by (fun t k => XS.astoreN X17.here hx rfl (hb hby at_92) rfl rfl (l' := #[.val (.int p0), .val (.int p1), .val (.int p2), .val (.ref b1), .unset, .unset, .unset, .unset, .unset]) rfl k) ?_
  show Go _ _ _ _ (T17.setTop (mkF m 93 #[.val (.int p0), .val (.int p1), .val (.int p2), .val (.ref b1), .unset, .unset, .unset, .unset, .unset] []))
  refine Go.by (fun t k => XS.iloadN X17.here hx rfl (hb hby at_93) rfl k) ?_
  show Go _ _ _ _ (T17.setTop (mkF m 94 #[.val (.int p0), .val (.int p1), .val (.int p2), .val (.ref b1), .unset, .unset, .unset, .unset, .unset] [(.int p1)]))
  refine Go.by (fun t k => X17.ldcI hx hown (mvT hZ (hw _ (List.mem_of_getElem? (i := 11) rfl))) (g := (mkF m 94 #[.val (.int p0), .val (.int p1), .val (.int p2), .val (.ref b1), .unset, .unset, .unset, .unset, .unset] [(.int p1)])) rfl (hb hby at_94) k) ?_
  show Go _ _ _ _ (T17.setTop (mkF m 96 #[.val (.int p0), .val (.int p1), .val (.int p2), .val (.ref b1), .unset, .unset, .unset, .unset, .unset] [(.int (2147483647 : Int32)), (.int p1)]))
  refine Go.by (fun t k => XS.iand X17.here hx rfl (hb hby at_96) rfl k) ?_
  show Go _ _ _ _ (T17.setTop (mkF m 97 #[.val (.int p0), .val (.int p1), .val (.int p2), .val (.ref b1), .unset, .unset, .unset, .unset, .unset] [(.int (p1 &&& (2147483647 : Int32)))]))
  refine Go.by (fun t k => XS.bipush X17.here hx rfl (hb hby at_97) k) ?_
  show Go _ _ _ _ (T17.setTop (mkF m 99 #[.val (.int p0), .val (.int p1), .val (.int p2), .val (.ref b1), .unset, .unset, .unset, .unset, .unset] [(.int (16 : Int32)), (.int (p1 &&& (2147483647 : Int32)))]))
  refine Go.by (fun t k => XS.irem X17.here hx rfl (hb hby at_99) rfl (by decide) k) ?_
  show Go _ _ _ _ (T17.setTop (mkF m 100 #[.val (.int p0), .val (.int p1), .val (.int p2), .val (.ref b1), .unset, .unset, .unset, .unset, .unset] [(.int ((p1 &&& (2147483647 : Int32)) - ((p1 &&& (2147483647 : Int32)) / (16 : Int32)) * (16 : Int32)))]))
  refine Go.by (fun t k => XS.istore X17.here hx rfl (hb hby at_100) rfl (l' := #[.val (.int p0), .val (.int p1), .val (.int p2), .val (.ref b1), .val (.int ((p1 &&& (2147483647 : Int32)) - ((p1 &&& (2147483647 : Int32)) / (16 : Int32)) * (16 : Int32))), .unset, .unset, .unset, .unset]) rfl k) ?_
  show Go _ _ _ _ (T17.setTop (mkF m 102 #[.val (.int p0), .val (.int p1), .val (.int p2), .val (.ref b1), .val (.int ((p1 &&& (2147483647 : Int32)) - ((p1 &&& (2147483647 : Int32)) / (16 : Int32)) * (16 : Int32))), .unset, .unset, .unset, .unset] []))
  refine Go.by (fun t k => XS.iloadN X17.here hx rfl (hb hby at_102) rfl k) ?_
  show Go _ _ _ _ (T17.setTop (mkF m 103 #[.val (.int p0), .val (.int p1), .val (.int p2), .val (.ref b1), .val (.int ((p1 &&& (2147483647 : Int32)) - ((p1 &&& (2147483647 : Int32)) / (16 : Int32)) * (16 : Int32))), .unset, .unset, .unset, .unset] [(.int p2)]))
  refine Go.by (fun t k => XS.bipush X17.here hx rfl (hb hby at_103) k) ?_
  show Go _ _ _ _ (T17.setTop (mkF m 105 #[.val (.int p0), .val (.int p1), .val (.int p2), .val (.ref b1), .val (.int ((p1 &&& (2147483647 : Int32)) - ((p1 &&& (2147483647 : Int32)) / (16 : Int32)) * (16 : Int32))), .unset, .unset, .unset, .unset] [(.int (7 : Int32)), (.int p2)]))
  refine Go.by (fun t k => XS.iand X17.here hx rfl (hb hby at_105) rfl k) ?_
  show Go _ _ _ _ (T17.setTop (mkF m 106 #[.val (.int p0), .val (.int p1), .val (.int p2), .val (.ref b1), .val (.int ((p1 &&& (2147483647 : Int32)) - ((p1 &&& (2147483647 : Int32)) / (16 : Int32)) * (16 : Int32))), .unset, .unset, .unset, .unset] [(.int (p2 &&& (7 : Int32)))]))
  refine Go.by (fun t k => XS.iconst X17.here hx rfl (hb hby at_106) k) ?_
  show Go _ _ _ _ (T17.setTop (mkF m 107 #[.val (.int p0), .val (.int p1), .val (.int p2), .val (.ref b1), .val (.int ((p1 &&& (2147483647 : Int32)) - ((p1 &&& (2147483647 : Int32)) / (16 : Int32)) * (16 : Int32))), .unset, .unset, .unset, .unset] [(.int (5 : Int32)), (.int (p2 &&& (7 : Int32)))]))
  refine Go.by (fun t k => XS.irem X17.here hx rfl (hb hby at_107) rfl (by decide) k) ?_
  show Go _ _ _ _ (T17.setTop (mkF m 108 #[.val (.int p0), .val (.int p1), .val (.int p2), .val (.ref b1), .val (.int ((p1 &&& (2147483647 : Int32)) - ((p1 &&& (2147483647 : Int32)) / (16 : Int32)) * (16 : Int32))), .unset, .unset, .unset, .unset] [(.int ((p2 &&& (7 : Int32)) - ((p2 &&& (7 : Int32)) / (5 : Int32)) * (5 : Int32)))]))
  refine Go.by (fun t k => XS.iconst X17.here hx rfl (hb hby at_108) k) ?_
  show Go _ _ _ _ (T17.setTop (mkF m 109 #[.val (.int p0), .val (.int p1), .val (.int p2), .val (.ref b1), .val (.int ((p1 &&& (2147483647 : Int32)) - ((p1 &&& (2147483647 : Int32)) / (16 : Int32)) * (16 : Int32))), .unset, .unset, .unset, .unset] [(.int (2 : Int32)), (.int ((p2 &&& (7 : Int32)) - ((p2 &&& (7 : Int32)) / (5 : Int32)) * (5 : Int32)))]))
  refine Go.by (fun t k => XS.isub X17.here hx rfl (hb hby at_109) rfl k) ?_
  show Go _ _ _ _ (T17.setTop (mkF m 110 #[.val (.int p0), .val (.int p1), .val (.int p2), .val (.ref b1), .val (.int ((p1 &&& (2147483647 : Int32)) - ((p1 &&& (2147483647 : Int32)) / (16 : Int32)) * (16 : Int32))), .unset, .unset, .unset, .unset] [(.int (((p2 &&& (7 : Int32)) - ((p2 &&& (7 : Int32)) / (5 : Int32)) * (5 : Int32)) - (2 : Int32)))]))
  refine Go.by (fun t k => XS.istore X17.here hx rfl (hb hby at_110) rfl (l' := #[.val (.int p0), .val (.int p1), .val (.int p2), .val (.ref b1), .val (.int ((p1 &&& (2147483647 : Int32)) - ((p1 &&& (2147483647 : Int32)) / (16 : Int32)) * (16 : Int32))), .val (.int (((p2 &&& (7 : Int32)) - ((p2 &&& (7 : Int32)) / (5 : Int32)) * (5 : Int32)) - (2 : Int32))), .unset, .unset, .unset]) rfl k) ?_
  show Go _ _ _ _ (T17.setTop (mkF m 112 #[.val (.int p0), .val (.int p1), .val (.int p2), .val (.ref b1), .val (.int ((p1 &&& (2147483647 : Int32)) - ((p1 &&& (2147483647 : Int32)) / (16 : Int32)) * (16 : Int32))), .val (.int (((p2 &&& (7 : Int32)) - ((p2 &&& (7 : Int32)) / (5 : Int32)) * (5 : Int32)) - (2 : Int32))), .unset, .unset, .unset] []))
  refine Go.by (fun t k => XS.aloadN X17.here hx rfl (hb hby at_112) rfl rfl k) ?_
  show Go _ _ _ _ (T17.setTop (mkF m 113 #[.val (.int p0), .val (.int p1), .val (.int p2), .val (.ref b1), .val (.int ((p1 &&& (2147483647 : Int32)) - ((p1 &&& (2147483647 : Int32)) / (16 : Int32)) * (16 : Int32))), .val (.int (((p2 &&& (7 : Int32)) - ((p2 &&& (7 : Int32)) / (5 : Int32)) * (5 : Int32)) - (2 : Int32))), .unset, .unset, .unset] [(.ref b1)]))
  refine Go.by (fun t k => XS.iload X17.here hx rfl (hb hby at_113) rfl k) ?_
  show Go _ _ _ _ (T17.setTop (mkF m 115 #[.val (.int p0), .val (.int p1), .val (.int p2), .val (.ref b1), .val (.int ((p1 &&& (2147483647 : Int32)) - ((p1 &&& (2147483647 : Int32)) / (16 : Int32)) * (16 : Int32))), .val (.int (((p2 &&& (7 : Int32)) - ((p2 &&& (7 : Int32)) / (5 : Int32)) * (5 : Int32)) - (2 : Int32))), .unset, .unset, .unset] [(.int ((p1 &&& (2147483647 : Int32)) - ((p1 &&& (2147483647 : Int32)) / (16 : Int32)) * (16 : Int32))), (.ref b1)]))
  refine Go.ldIA X17 hx hZ A17 (j := ((p1 &&& (2147483647 : Int32)) - ((p1 &&& (2147483647 : Int32)) / (16 : Int32)) * (16 : Int32))) (own_idx (n := 16) (d := 16) rfl rfl (by decide) (own_mask _)) (g := (mkF m 115 #[.val (.int p0), .val (.int p1), .val (.int p2), .val (.ref b1), .val (.int ((p1 &&& (2147483647 : Int32)) - ((p1 &&& (2147483647 : Int32)) / (16 : Int32)) * (16 : Int32))), .val (.int (((p2 &&& (7 : Int32)) - ((p2 &&& (7 : Int32)) / (5 : Int32)) * (5 : Int32)) - (2 : Int32))), .unset, .unset, .unset] [(.int ((p1 &&& (2147483647 : Int32)) - ((p1 &&& (2147483647 : Int32)) / (16 : Int32)) * (16 : Int32))), (.ref b1)])) rfl rfl (hb hby at_115) fun w18 => ?_
  show Go _ _ _ _ (T17.setTop (mkF m 116 #[.val (.int p0), .val (.int p1), .val (.int p2), .val (.ref b1), .val (.int ((p1 &&& (2147483647 : Int32)) - ((p1 &&& (2147483647 : Int32)) / (16 : Int32)) * (16 : Int32))), .val (.int (((p2 &&& (7 : Int32)) - ((p2 &&& (7 : Int32)) / (5 : Int32)) * (5 : Int32)) - (2 : Int32))), .unset, .unset, .unset] [(.int w18)]))
  refine Go.by (fun t k => XS.iload X17.here hx rfl (hb hby at_116) rfl k) ?_
  show Go _ _ _ _ (T17.setTop (mkF m 118 #[.val (.int p0), .val (.int p1), .val (.int p2), .val (.ref b1), .val (.int ((p1 &&& (2147483647 : Int32)) - ((p1 &&& (2147483647 : Int32)) / (16 : Int32)) * (16 : Int32))), .val (.int (((p2 &&& (7 : Int32)) - ((p2 &&& (7 : Int32)) / (5 : Int32)) * (5 : Int32)) - (2 : Int32))), .unset, .unset, .unset] [(.int (((p2 &&& (7 : Int32)) - ((p2 &&& (7 : Int32)) / (5 : Int32)) * (5 : Int32)) - (2 : Int32))), (.int w18)]))
  refine Go.by (fun t k => XS.iadd X17.here hx rfl (hb hby at_118) rfl k) ?_
  show Go _ _ _ _ (T17.setTop (mkF m 119 #[.val (.int p0), .val (.int p1), .val (.int p2), .val (.ref b1), .val (.int ((p1 &&& (2147483647 : Int32)) - ((p1 &&& (2147483647 : Int32)) / (16 : Int32)) * (16 : Int32))), .val (.int (((p2 &&& (7 : Int32)) - ((p2 &&& (7 : Int32)) / (5 : Int32)) * (5 : Int32)) - (2 : Int32))), .unset, .unset, .unset] [(.int (w18 + (((p2 &&& (7 : Int32)) - ((p2 &&& (7 : Int32)) / (5 : Int32)) * (5 : Int32)) - (2 : Int32))))]))
  refine Go.by (fun t k => XS.istore X17.here hx rfl (hb hby at_119) rfl (l' := #[.val (.int p0), .val (.int p1), .val (.int p2), .val (.ref b1), .val (.int ((p1 &&& (2147483647 : Int32)) - ((p1 &&& (2147483647 : Int32)) / (16 : Int32)) * (16 : Int32))), .val (.int (((p2 &&& (7 : Int32)) - ((p2 &&& (7 : Int32)) / (5 : Int32)) * (5 : Int32)) - (2 : Int32))), .val (.int (w18 + (((p2 &&& (7 : Int32)) - ((p2 &&& (7 : Int32)) / (5 : Int32)) * (5 : Int32)) - (2 : Int32)))), .unset, .unset]) rfl k) ?_
  show Go _ _ _ _ (T17.setTop (mkF m 121 #[.val (.int p0), .val (.int p1), .val (.int p2), .val (.ref b1), .val (.int ((p1 &&& (2147483647 : Int32)) - ((p1 &&& (2147483647 : Int32)) / (16 : Int32)) * (16 : Int32))), .val (.int (((p2 &&& (7 : Int32)) - ((p2 &&& (7 : Int32)) / (5 : Int32)) * (5 : Int32)) - (2 : Int32))), .val (.int (w18 + (((p2 &&& (7 : Int32)) - ((p2 &&& (7 : Int32)) / (5 : Int32)) * (5 : Int32)) - (2 : Int32)))), .unset, .unset] []))
  refine Go.by (fun t k => XS.iloadN X17.here hx rfl (hb hby at_121) rfl k) ?_
  show Go _ _ _ _ (T17.setTop (mkF m 122 #[.val (.int p0), .val (.int p1), .val (.int p2), .val (.ref b1), .val (.int ((p1 &&& (2147483647 : Int32)) - ((p1 &&& (2147483647 : Int32)) / (16 : Int32)) * (16 : Int32))), .val (.int (((p2 &&& (7 : Int32)) - ((p2 &&& (7 : Int32)) / (5 : Int32)) * (5 : Int32)) - (2 : Int32))), .val (.int (w18 + (((p2 &&& (7 : Int32)) - ((p2 &&& (7 : Int32)) / (5 : Int32)) * (5 : Int32)) - (2 : Int32)))), .unset, .unset] [(.int p0)]))
  obtain ⟨_, _, ⟨T19, L19, k19, n19⟩, -, X19, ⟨Lc19, hQ19, l19, y19, z19⟩, st19⟩ := Jvm.LawKit.callS X17 hx (y := (⟨"com/example/tributary/tributary/xdm/XmlNames", "isXmlChar", "(I)Z"⟩ : MethodName)) hown (mvT hZ (hw _ (List.mem_of_getElem? (i := 12) rfl))) (mvT hZ (hw _ (List.mem_of_getElem? (i := 13) rfl))) (mvT hZ (hw _ (List.mem_of_getElem? (i := 14) rfl))) (mvT hZ (hw _ (List.mem_of_getElem? (i := 15) rfl))) (by decide) (backOf (W := 0) (rm1 l Z a0 hw [] p0 T17.heap n0 hz17) hZ (hw _ (List.mem_of_getElem? (i := 15) rfl)) (hw _ (List.mem_of_getElem? (i := 14) rfl)) (by decide) (by decide)) (g := (mkF m 122 #[.val (.int p0), .val (.int p1), .val (.int p2), .val (.ref b1), .val (.int ((p1 &&& (2147483647 : Int32)) - ((p1 &&& (2147483647 : Int32)) / (16 : Int32)) * (16 : Int32))), .val (.int (((p2 &&& (7 : Int32)) - ((p2 &&& (7 : Int32)) / (5 : Int32)) * (5 : Int32)) - (2 : Int32))), .val (.int (w18 + (((p2 &&& (7 : Int32)) - ((p2 &&& (7 : Int32)) / (5 : Int32)) * (5 : Int32)) - (2 : Int32)))), .unset, .unset] [(.int p0)])) rfl (by rw [hml]; rfl) (argsL := [(.int p0)]) (rest := []) (lenOf pd0 rfl) rfl (by show 2 * 0 + _ ≤ _; exact Nat.le_of_eq rfl) (hb hby at_122) (fun _ _ => ⟨rfl, rfl, (by decide : 1 + 0 ≤ _), (by decide : 16 + 0 ≤ _)⟩)
  dsimp only [Pt.U, Pt.locs, Pt.cells, Pt.slots] at X19 l19 y19 z19 st19 hQ19
  subst l19 y19 z19
  obtain ⟨rfl, Nq19, eq19⟩ := hQ19
  have N19 := Fr.app N17 Nq19
  refine Go.by st19 ?_
  have hz19 : n0 ≤ T19.heap.size := by rw [eq19]; exact hz17
  show Go _ _ _ _ (T19.setTop (mkF m 125 #[.val (.int p0), .val (.int p1), .val (.int p2), .val (.ref b1), .val (.int ((p1 &&& (2147483647 : Int32)) - ((p1 &&& (2147483647 : Int32)) / (16 : Int32)) * (16 : Int32))), .val (.int (((p2 &&& (7 : Int32)) - ((p2 &&& (7 : Int32)) / (5 : Int32)) * (5 : Int32)) - (2 : Int32))), .val (.int (w18 + (((p2 &&& (7 : Int32)) - ((p2 &&& (7 : Int32)) / (5 : Int32)) * (5 : Int32)) - (2 : Int32)))), .unset, .unset] [(.int (f1_0 p0))]))
  refine Go.by (fun t k => XS.iloadN X19.here hx rfl (hb hby at_125) rfl k) ?_
  show Go _ _ _ _ (T19.setTop (mkF m 126 #[.val (.int p0), .val (.int p1), .val (.int p2), .val (.ref b1), .val (.int ((p1 &&& (2147483647 : Int32)) - ((p1 &&& (2147483647 : Int32)) / (16 : Int32)) * (16 : Int32))), .val (.int (((p2 &&& (7 : Int32)) - ((p2 &&& (7 : Int32)) / (5 : Int32)) * (5 : Int32)) - (2 : Int32))), .val (.int (w18 + (((p2 &&& (7 : Int32)) - ((p2 &&& (7 : Int32)) / (5 : Int32)) * (5 : Int32)) - (2 : Int32)))), .unset, .unset] [(.int p0), (.int (f1_0 p0))]))
  obtain ⟨_, _, ⟨T20, L20, k20, n20⟩, -, X20, ⟨Lc20, hQ20, l20, y20, z20⟩, st20⟩ := Jvm.LawKit.callS X19 hx (y := (⟨"com/example/tributary/tributary/xdm/XmlNamesIsXmlCharPinLaw", "ref", "(I)Z"⟩ : MethodName)) hown (mvT hZ (hw _ (List.mem_of_getElem? (i := 18) rfl))) (mvT hZ (hw _ (List.mem_of_getElem? (i := 19) rfl))) (mvT hZ (hw _ (List.mem_of_getElem? (i := 20) rfl))) (mvT hZ (hw _ (List.mem_of_getElem? (i := 21) rfl))) (by decide) (backOf (W := 1) (rm2 l Z a0 hw [] p0 T19.heap n0 hz19) hZ (hw _ (List.mem_of_getElem? (i := 21) rfl)) (hw _ (List.mem_of_getElem? (i := 20) rfl)) (by decide) (by decide)) (g := (mkF m 126 #[.val (.int p0), .val (.int p1), .val (.int p2), .val (.ref b1), .val (.int ((p1 &&& (2147483647 : Int32)) - ((p1 &&& (2147483647 : Int32)) / (16 : Int32)) * (16 : Int32))), .val (.int (((p2 &&& (7 : Int32)) - ((p2 &&& (7 : Int32)) / (5 : Int32)) * (5 : Int32)) - (2 : Int32))), .val (.int (w18 + (((p2 &&& (7 : Int32)) - ((p2 &&& (7 : Int32)) / (5 : Int32)) * (5 : Int32)) - (2 : Int32)))), .unset, .unset] [(.int p0), (.int (f1_0 p0))])) rfl (by rw [hml]; rfl) (argsL := [(.int p0)]) (rest := [(.int (f1_0 p0))]) (lenOf pd0 rfl) rfl (by show 2 * 0 + _ ≤ _; exact Nat.le_of_eq rfl) (hb hby at_126) (fun _ _ => ⟨rfl, rfl, (by decide : 1 + 0 ≤ _), (by decide : 16 + 0 ≤ _)⟩)
  dsimp only [Pt.U, Pt.locs, Pt.cells, Pt.slots] at X20 l20 y20 z20 st20 hQ20
  subst l20 y20 z20
  obtain ⟨rfl, Nq20, eq20⟩ := hQ20
  have N20 := Fr.app N19 Nq20
  refine Go.by st20 ?_
  have hz20 : n0 ≤ T20.heap.size := by rw [eq20]; exact hz19
  show Go _ _ _ _ (T20.setTop (mkF m 129 #[.val (.int p0), .val (.int p1), .val (.int p2), .val (.ref b1), .val (.int ((p1 &&& (2147483647 : Int32)) - ((p1 &&& (2147483647 : Int32)) / (16 : Int32)) * (16 : Int32))), .val (.int (((p2 &&& (7 : Int32)) - ((p2 &&& (7 : Int32)) / (5 : Int32)) * (5 : Int32)) - (2 : Int32))), .val (.int (w18 + (((p2 &&& (7 : Int32)) - ((p2 &&& (7 : Int32)) / (5 : Int32)) * (5 : Int32)) - (2 : Int32)))), .unset, .unset] [(.int (f2_0 p0)), (.int (f1_0 p0))]))
  refine Go.by (fun t k => XS.icmpNo X20.here hx rfl (hb hby at_129) rfl (XT.ii_ne_f (own_eq _)) k) ?_
  show Go _ _ _ _ (T20.setTop (mkF m 132 #[.val (.int p0), .val (.int p1), .val (.int p2), .val (.ref b1), .val (.int ((p1 &&& (2147483647 : Int32)) - ((p1 &&& (2147483647 : Int32)) / (16 : Int32)) * (16 : Int32))), .val (.int (((p2 &&& (7 : Int32)) - ((p2 &&& (7 : Int32)) / (5 : Int32)) * (5 : Int32)) - (2 : Int32))), .val (.int (w18 + (((p2 &&& (7 : Int32)) - ((p2 &&& (7 : Int32)) / (5 : Int32)) * (5 : Int32)) - (2 : Int32)))), .unset, .unset] []))
  refine Go.by (fun t k => XS.iconst X20.here hx rfl (hb hby at_132) k) ?_
  show Go _ _ _ _ (T20.setTop (mkF m 133 #[.val (.int p0), .val (.int p1), .val (.int p2), .val (.ref b1), .val (.int ((p1 &&& (2147483647 : Int32)) - ((p1 &&& (2147483647 : Int32)) / (16 : Int32)) * (16 : Int32))), .val (.int (((p2 &&& (7 : Int32)) - ((p2 &&& (7 : Int32)) / (5 : Int32)) * (5 : Int32)) - (2 : Int32))), .val (.int (w18 + (((p2 &&& (7 : Int32)) - ((p2 &&& (7 : Int32)) / (5 : Int32)) * (5 : Int32)) - (2 : Int32)))), .unset, .unset] [(.int (1 : Int32))]))
  refine Go.by (fun t k => XS.goto X20.here hx rfl (pc0 := 133) (pc' := 137) rfl (hb hby at_133) (by decide) (by decide) k) ?_
  show Go _ _ _ _ (T20.setTop (mkF m 137 #[.val (.int p0), .val (.int p1), .val (.int p2), .val (.ref b1), .val (.int ((p1 &&& (2147483647 : Int32)) - ((p1 &&& (2147483647 : Int32)) / (16 : Int32)) * (16 : Int32))), .val (.int (((p2 &&& (7 : Int32)) - ((p2 &&& (7 : Int32)) / (5 : Int32)) * (5 : Int32)) - (2 : Int32))), .val (.int (w18 + (((p2 &&& (7 : Int32)) - ((p2 &&& (7 : Int32)) / (5 : Int32)) * (5 : Int32)) - (2 : Int32)))), .unset, .unset] [(.int (1 : Int32))]))
  refine Go.by (fun t k => XS.istore X20.here hx rfl (hb hby at_137) rfl (l' := #[.val (.int p0), .val (.int p1), .val (.int p2), .val (.ref b1), .val (.int ((p1 &&& (2147483647 : Int32)) - ((p1 &&& (2147483647 : Int32)) / (16 : Int32)) * (16 : Int32))), .val (.int (((p2 &&& (7 : Int32)) - ((p2 &&& (7 : Int32)) / (5 : Int32)) * (5 : Int32)) - (2 : Int32))), .val (.int (w18 + (((p2 &&& (7 : Int32)) - ((p2 &&& (7 : Int32)) / (5 : Int32)) * (5 : Int32)) - (2 : Int32)))), .val (.int (1 : Int32)), .unset]) rfl k) ?_
  show Go _ _ _ _ (T20.setTop (mkF m 139 #[.val (.int p0), .val (.int p1), .val (.int p2), .val (.ref b1), .val (.int ((p1 &&& (2147483647 : Int32)) - ((p1 &&& (2147483647 : Int32)) / (16 : Int32)) * (16 : Int32))), .val (.int (((p2 &&& (7 : Int32)) - ((p2 &&& (7 : Int32)) / (5 : Int32)) * (5 : Int32)) - (2 : Int32))), .val (.int (w18 + (((p2 &&& (7 : Int32)) - ((p2 &&& (7 : Int32)) / (5 : Int32)) * (5 : Int32)) - (2 : Int32)))), .val (.int (1 : Int32)), .unset] []))
  refine Go.by (fun t k => XS.iload X20.here hx rfl (hb hby at_139) rfl k) ?_
  show Go _ _ _ _ (T20.setTop (mkF m 141 #[.val (.int p0), .val (.int p1), .val (.int p2), .val (.ref b1), .val (.int ((p1 &&& (2147483647 : Int32)) - ((p1 &&& (2147483647 : Int32)) / (16 : Int32)) * (16 : Int32))), .val (.int (((p2 &&& (7 : Int32)) - ((p2 &&& (7 : Int32)) / (5 : Int32)) * (5 : Int32)) - (2 : Int32))), .val (.int (w18 + (((p2 &&& (7 : Int32)) - ((p2 &&& (7 : Int32)) / (5 : Int32)) * (5 : Int32)) - (2 : Int32)))), .val (.int (1 : Int32)), .unset] [(.int (w18 + (((p2 &&& (7 : Int32)) - ((p2 &&& (7 : Int32)) / (5 : Int32)) * (5 : Int32)) - (2 : Int32))))]))
  obtain ⟨_, _, ⟨T21, L21, k21, n21⟩, -, X21, ⟨Lc21, hQ21, l21, y21, z21⟩, st21⟩ := Jvm.LawKit.callS X20 hx (y := (⟨"com/example/tributary/tributary/xdm/XmlNames", "isXmlChar", "(I)Z"⟩ : MethodName)) hown (mvT hZ (hw _ (List.mem_of_getElem? (i := 12) rfl))) (mvT hZ (hw _ (List.mem_of_getElem? (i := 13) rfl))) (mvT hZ (hw _ (List.mem_of_getElem? (i := 14) rfl))) (mvT hZ (hw _ (List.mem_of_getElem? (i := 15) rfl))) (by decide) (backOf (W := 0) (rm1 l Z a0 hw [] (w18 + (((p2 &&& (7 : Int32)) - ((p2 &&& (7 : Int32)) / (5 : Int32)) * (5 : Int32)) - (2 : Int32))) T20.heap n0 hz20) hZ (hw _ (List.mem_of_getElem? (i := 15) rfl)) (hw _ (List.mem_of_getElem? (i := 14) rfl)) (by decide) (by decide)) (g := (mkF m 141 #[.val (.int p0), .val (.int p1), .val (.int p2), .val (.ref b1), .val (.int ((p1 &&& (2147483647 : Int32)) - ((p1 &&& (2147483647 : Int32)) / (16 : Int32)) * (16 : Int32))), .val (.int (((p2 &&& (7 : Int32)) - ((p2 &&& (7 : Int32)) / (5 : Int32)) * (5 : Int32)) - (2 : Int32))), .val (.int (w18 + (((p2 &&& (7 : Int32)) - ((p2 &&& (7 : Int32)) / (5 : Int32)) * (5 : Int32)) - (2 : Int32)))), .val (.int (1 : Int32)), .unset] [(.int (w18 + (((p2 &&& (7 : Int32)) - ((p2 &&& (7 : Int32)) / (5 : Int32)) * (5 : Int32)) - (2 : Int32))))])) rfl (by rw [hml]; rfl) (argsL := [(.int (w18 + (((p2 &&& (7 : Int32)) - ((p2 &&& (7 : Int32)) / (5 : Int32)) * (5 : Int32)) - (2 : Int32))))]) (rest := []) (lenOf pd0 rfl) rfl (by show 2 * 0 + _ ≤ _; exact Nat.le_of_eq rfl) (hb hby at_141) (fun _ _ => ⟨rfl, rfl, (by decide : 1 + 0 ≤ _), (by decide : 16 + 0 ≤ _)⟩)
  dsimp only [Pt.U, Pt.locs, Pt.cells, Pt.slots] at X21 l21 y21 z21 st21 hQ21
  subst l21 y21 z21
  obtain ⟨rfl, Nq21, eq21⟩ := hQ21
  have N21 := Fr.app N20 Nq21
  refine Go.by st21 ?_
  have hz21 : n0 ≤ T21.heap.size := by rw [eq21]; exact hz20
  show Go _ _ _ _ (T21.setTop (mkF m 144 #[.val (.int p0), .val (.int p1), .val (.int p2), .val (.ref b1), .val (.int ((p1 &&& (2147483647 : Int32)) - ((p1 &&& (2147483647 : Int32)) / (16 : Int32)) * (16 : Int32))), .val (.int (((p2 &&& (7 : Int32)) - ((p2 &&& (7 : Int32)) / (5 : Int32)) * (5 : Int32)) - (2 : Int32))), .val (.int (w18 + (((p2 &&& (7 : Int32)) - ((p2 &&& (7 : Int32)) / (5 : Int32)) * (5 : Int32)) - (2 : Int32)))), .val (.int (1 : Int32)), .unset] [(.int (f1_0 (w18 + (((p2 &&& (7 : Int32)) - ((p2 &&& (7 : Int32)) / (5 : Int32)) * (5 : Int32)) - (2 : Int32)))))]))
  refine Go.by (fun t k => XS.iload X21.here hx rfl (hb hby at_144) rfl k) ?_
  show Go _ _ _ _ (T21.setTop (mkF m 146 #[.val (.int p0), .val (.int p1), .val (.int p2), .val (.ref b1), .val (.int ((p1 &&& (2147483647 : Int32)) - ((p1 &&& (2147483647 : Int32)) / (16 : Int32)) * (16 : Int32))), .val (.int (((p2 &&& (7 : Int32)) - ((p2 &&& (7 : Int32)) / (5 : Int32)) * (5 : Int32)) - (2 : Int32))), .val (.int (w18 + (((p2 &&& (7 : Int32)) - ((p2 &&& (7 : Int32)) / (5 : Int32)) * (5 : Int32)) - (2 : Int32)))), .val (.int (1 : Int32)), .unset] [(.int (w18 + (((p2 &&& (7 : Int32)) - ((p2 &&& (7 : Int32)) / (5 : Int32)) * (5 : Int32)) - (2 : Int32)))), (.int (f1_0 (w18 + (((p2 &&& (7 : Int32)) - ((p2 &&& (7 : Int32)) / (5 : Int32)) * (5 : Int32)) - (2 : Int32)))))]))
  obtain ⟨_, _, ⟨T22, L22, k22, n22⟩, -, X22, ⟨Lc22, hQ22, l22, y22, z22⟩, st22⟩ := Jvm.LawKit.callS X21 hx (y := (⟨"com/example/tributary/tributary/xdm/XmlNamesIsXmlCharPinLaw", "ref", "(I)Z"⟩ : MethodName)) hown (mvT hZ (hw _ (List.mem_of_getElem? (i := 18) rfl))) (mvT hZ (hw _ (List.mem_of_getElem? (i := 19) rfl))) (mvT hZ (hw _ (List.mem_of_getElem? (i := 20) rfl))) (mvT hZ (hw _ (List.mem_of_getElem? (i := 21) rfl))) (by decide) (backOf (W := 1) (rm2 l Z a0 hw [] (w18 + (((p2 &&& (7 : Int32)) - ((p2 &&& (7 : Int32)) / (5 : Int32)) * (5 : Int32)) - (2 : Int32))) T21.heap n0 hz21) hZ (hw _ (List.mem_of_getElem? (i := 21) rfl)) (hw _ (List.mem_of_getElem? (i := 20) rfl)) (by decide) (by decide)) (g := (mkF m 146 #[.val (.int p0), .val (.int p1), .val (.int p2), .val (.ref b1), .val (.int ((p1 &&& (2147483647 : Int32)) - ((p1 &&& (2147483647 : Int32)) / (16 : Int32)) * (16 : Int32))), .val (.int (((p2 &&& (7 : Int32)) - ((p2 &&& (7 : Int32)) / (5 : Int32)) * (5 : Int32)) - (2 : Int32))), .val (.int (w18 + (((p2 &&& (7 : Int32)) - ((p2 &&& (7 : Int32)) / (5 : Int32)) * (5 : Int32)) - (2 : Int32)))), .val (.int (1 : Int32)), .unset] [(.int (w18 + (((p2 &&& (7 : Int32)) - ((p2 &&& (7 : Int32)) / (5 : Int32)) * (5 : Int32)) - (2 : Int32)))), (.int (f1_0 (w18 + (((p2 &&& (7 : Int32)) - ((p2 &&& (7 : Int32)) / (5 : Int32)) * (5 : Int32)) - (2 : Int32)))))])) rfl (by rw [hml]; rfl) (argsL := [(.int (w18 + (((p2 &&& (7 : Int32)) - ((p2 &&& (7 : Int32)) / (5 : Int32)) * (5 : Int32)) - (2 : Int32))))]) (rest := [(.int (f1_0 (w18 + (((p2 &&& (7 : Int32)) - ((p2 &&& (7 : Int32)) / (5 : Int32)) * (5 : Int32)) - (2 : Int32)))))]) (lenOf pd0 rfl) rfl (by show 2 * 0 + _ ≤ _; exact Nat.le_of_eq rfl) (hb hby at_146) (fun _ _ => ⟨rfl, rfl, (by decide : 1 + 0 ≤ _), (by decide : 16 + 0 ≤ _)⟩)
  dsimp only [Pt.U, Pt.locs, Pt.cells, Pt.slots] at X22 l22 y22 z22 st22 hQ22
  subst l22 y22 z22
  obtain ⟨rfl, Nq22, eq22⟩ := hQ22
  have N22 := Fr.app N21 Nq22
  refine Go.by st22 ?_
  have hz22 : n0 ≤ T22.heap.size := by rw [eq22]; exact hz21
  show Go _ _ _ _ (T22.setTop (mkF m 149 #[.val (.int p0), .val (.int p1), .val (.int p2), .val (.ref b1), .val (.int ((p1 &&& (2147483647 : Int32)) - ((p1 &&& (2147483647 : Int32)) / (16 : Int32)) * (16 : Int32))), .val (.int (((p2 &&& (7 : Int32)) - ((p2 &&& (7 : Int32)) / (5 : Int32)) * (5 : Int32)) - (2 : Int32))), .val (.int (w18 + (((p2 &&& (7 : Int32)) - ((p2 &&& (7 : Int32)) / (5 : Int32)) * (5 : Int32)) - (2 : Int32)))), .val (.int (1 : Int32)), .unset] [(.int (f2_0 (w18 + (((p2 &&& (7 : Int32)) - ((p2 &&& (7 : Int32)) / (5 : Int32)) * (5 : Int32)) - (2 : Int32))))), (.int (f1_0 (w18 + (((p2 &&& (7 : Int32)) - ((p2 &&& (7 : Int32)) / (5 : Int32)) * (5 : Int32)) - (2 : Int32)))))]))
  refine Go.by (fun t k => XS.icmpNo X22.here hx rfl (hb hby at_149) rfl (XT.ii_ne_f (own_eq _)) k) ?_
  show Go _ _ _ _ (T22.setTop (mkF m 152 #[.val (.int p0), .val (.int p1), .val (.int p2), .val (.ref b1), .val (.int ((p1 &&& (2147483647 : Int32)) - ((p1 &&& (2147483647 : Int32)) / (16 : Int32)) * (16 : Int32))), .val (.int (((p2 &&& (7 : Int32)) - ((p2 &&& (7 : Int32)) / (5 : Int32)) * (5 : Int32)) - (2 : Int32))), .val (.int (w18 + (((p2 &&& (7 : Int32)) - ((p2 &&& (7 : Int32)) / (5 : Int32)) * (5 : Int32)) - (2 : Int32)))), .val (.int (1 : Int32)), .unset] []))
  refine Go.by (fun t k => XS.iconst X22.here hx rfl (hb hby at_152) k) ?_
  show Go _ _ _ _ (T22.setTop (mkF m 153 #[.val (.int p0), .val (.int p1), .val (.int p2), .val (.ref b1), .val (.int ((p1 &&& (2147483647 : Int32)) - ((p1 &&& (2147483647 : Int32)) / (16 : Int32)) * (16 : Int32))), .val (.int (((p2 &&& (7 : Int32)) - ((p2 &&& (7 : Int32)) / (5 : Int32)) * (5 : Int32)) - (2 : Int32))), .val (.int (w18 + (((p2 &&& (7 : Int32)) - ((p2 &&& (7 : Int32)) / (5 : Int32)) * (5 : Int32)) - (2 : Int32)))), .val (.int (1 : Int32)), .unset] [(.int (1 : Int32))]))
  refine Go.by (fun t k => XS.goto X22.here hx rfl (pc0 := 153) (pc' := 157) rfl (hb hby at_153) (by decide) (by decide) k) ?_
  show Go _ _ _ _ (T22.setTop (mkF m 157 #[.val (.int p0), .val (.int p1), .val (.int p2), .val (.ref b1), .val (.int ((p1 &&& (2147483647 : Int32)) - ((p1 &&& (2147483647 : Int32)) / (16 : Int32)) * (16 : Int32))), .val (.int (((p2 &&& (7 : Int32)) - ((p2 &&& (7 : Int32)) / (5 : Int32)) * (5 : Int32)) - (2 : Int32))), .val (.int (w18 + (((p2 &&& (7 : Int32)) - ((p2 &&& (7 : Int32)) / (5 : Int32)) * (5 : Int32)) - (2 : Int32)))), .val (.int (1 : Int32)), .unset] [(.int (1 : Int32))]))
  refine Go.by (fun t k => XS.istore X22.here hx rfl (hb hby at_157) rfl (l' := #[.val (.int p0), .val (.int p1), .val (.int p2), .val (.ref b1), .val (.int ((p1 &&& (2147483647 : Int32)) - ((p1 &&& (2147483647 : Int32)) / (16 : Int32)) * (16 : Int32))), .val (.int (((p2 &&& (7 : Int32)) - ((p2 &&& (7 : Int32)) / (5 : Int32)) * (5 : Int32)) - (2 : Int32))), .val (.int (w18 + (((p2 &&& (7 : Int32)) - ((p2 &&& (7 : Int32)) / (5 : Int32)) * (5 : Int32)) - (2 : Int32)))), .val (.int (1 : Int32)), .val (.int (1 : Int32))]) rfl k) ?_
  show Go _ _ _ _ (T22.setTop (mkF m 159 #[.val (.int p0), .val (.int p1), .val (.int p2), .val (.ref b1), .val (.int ((p1 &&& (2147483647 : Int32)) - ((p1 &&& (2147483647 : Int32)) / (16 : Int32)) * (16 : Int32))), .val (.int (((p2 &&& (7 : Int32)) - ((p2 &&& (7 : Int32)) / (5 : Int32)) * (5 : Int32)) - (2 : Int32))), .val (.int (w18 + (((p2 &&& (7 : Int32)) - ((p2 &&& (7 : Int32)) / (5 : Int32)) * (5 : Int32)) - (2 : Int32)))), .val (.int (1 : Int32)), .val (.int (1 : Int32))] []))
  refine Go.by (fun t k => XS.iload X22.here hx rfl (hb hby at_159) rfl k) ?_
  show Go _ _ _ _ (T22.setTop (mkF m 161 #[.val (.int p0), .val (.int p1), .val (.int p2), .val (.ref b1), .val (.int ((p1 &&& (2147483647 : Int32)) - ((p1 &&& (2147483647 : Int32)) / (16 : Int32)) * (16 : Int32))), .val (.int (((p2 &&& (7 : Int32)) - ((p2 &&& (7 : Int32)) / (5 : Int32)) * (5 : Int32)) - (2 : Int32))), .val (.int (w18 + (((p2 &&& (7 : Int32)) - ((p2 &&& (7 : Int32)) / (5 : Int32)) * (5 : Int32)) - (2 : Int32)))), .val (.int (1 : Int32)), .val (.int (1 : Int32))] [(.int (1 : Int32))]))
  refine Go.by (fun t k => XS.ifNo X22.here hx rfl (hb hby at_161) rfl (XT.i0_eq_f (by decide)) k) ?_
  show Go _ _ _ _ (T22.setTop (mkF m 164 #[.val (.int p0), .val (.int p1), .val (.int p2), .val (.ref b1), .val (.int ((p1 &&& (2147483647 : Int32)) - ((p1 &&& (2147483647 : Int32)) / (16 : Int32)) * (16 : Int32))), .val (.int (((p2 &&& (7 : Int32)) - ((p2 &&& (7 : Int32)) / (5 : Int32)) * (5 : Int32)) - (2 : Int32))), .val (.int (w18 + (((p2 &&& (7 : Int32)) - ((p2 &&& (7 : Int32)) / (5 : Int32)) * (5 : Int32)) - (2 : Int32)))), .val (.int (1 : Int32)), .val (.int (1 : Int32))] []))
  refine Go.by (fun t k => XS.iload X22.here hx rfl (hb hby at_164) rfl k) ?_
  show Go _ _ _ _ (T22.setTop (mkF m 166 #[.val (.int p0), .val (.int p1), .val (.int p2), .val (.ref b1), .val (.int ((p1 &&& (2147483647 : Int32)) - ((p1 &&& (2147483647 : Int32)) / (16 : Int32)) * (16 : Int32))), .val (.int (((p2 &&& (7 : Int32)) - ((p2 &&& (7 : Int32)) / (5 : Int32)) * (5 : Int32)) - (2 : Int32))), .val (.int (w18 + (((p2 &&& (7 : Int32)) - ((p2 &&& (7 : Int32)) / (5 : Int32)) * (5 : Int32)) - (2 : Int32)))), .val (.int (1 : Int32)), .val (.int (1 : Int32))] [(.int (1 : Int32))]))
  refine Go.by (fun t k => XS.ifNo X22.here hx rfl (hb hby at_166) rfl (XT.i0_eq_f (by decide)) k) ?_
  show Go _ _ _ _ (T22.setTop (mkF m 169 #[.val (.int p0), .val (.int p1), .val (.int p2), .val (.ref b1), .val (.int ((p1 &&& (2147483647 : Int32)) - ((p1 &&& (2147483647 : Int32)) / (16 : Int32)) * (16 : Int32))), .val (.int (((p2 &&& (7 : Int32)) - ((p2 &&& (7 : Int32)) / (5 : Int32)) * (5 : Int32)) - (2 : Int32))), .val (.int (w18 + (((p2 &&& (7 : Int32)) - ((p2 &&& (7 : Int32)) / (5 : Int32)) * (5 : Int32)) - (2 : Int32)))), .val (.int (1 : Int32)), .val (.int (1 : Int32))] []))
  refine Go.by (fun t k => XS.iconst X22.here hx rfl (hb hby at_169) k) ?_
  show Go _ _ _ _ (T22.setTop (mkF m 170 #[.val (.int p0), .val (.int p1), .val (.int p2), .val (.ref b1), .val (.int ((p1 &&& (2147483647 : Int32)) - ((p1 &&& (2147483647 : Int32)) / (16 : Int32)) * (16 : Int32))), .val (.int (((p2 &&& (7 : Int32)) - ((p2 &&& (7 : Int32)) / (5 : Int32)) * (5 : Int32)) - (2 : Int32))), .val (.int (w18 + (((p2 &&& (7 : Int32)) - ((p2 &&& (7 : Int32)) / (5 : Int32)) * (5 : Int32)) - (2 : Int32)))), .val (.int (1 : Int32)), .val (.int (1 : Int32))] [(.int (1 : Int32))]))
  refine Go.by (fun t k => XS.goto X22.here hx rfl (pc0 := 170) (pc' := 174) rfl (hb hby at_170) (by decide) (by decide) k) ?_
  show Go _ _ _ _ (T22.setTop (mkF m 174 #[.val (.int p0), .val (.int p1), .val (.int p2), .val (.ref b1), .val (.int ((p1 &&& (2147483647 : Int32)) - ((p1 &&& (2147483647 : Int32)) / (16 : Int32)) * (16 : Int32))), .val (.int (((p2 &&& (7 : Int32)) - ((p2 &&& (7 : Int32)) / (5 : Int32)) * (5 : Int32)) - (2 : Int32))), .val (.int (w18 + (((p2 &&& (7 : Int32)) - ((p2 &&& (7 : Int32)) / (5 : Int32)) * (5 : Int32)) - (2 : Int32)))), .val (.int (1 : Int32)), .val (.int (1 : Int32))] [(.int (1 : Int32))]))
  exact Go.retZ (Q := Q0 n0) X22 hx hlk Bd.returns (hb hby at_174) ⟨by rfl, N22⟩ (by decide) (by decide)
set_option maxRecDepth 65536 in
set_option maxHeartbeats 40000000 in
theorem comes_1 {Post : Tables → Env → Array Value → State → Outcome → State → Prop} (hpost : ∀ tb e args s v u, (limb_1_1.after args s (.returned v) u = true ∧ limb_1_2.after args s (.returned v) u = true) → FrameEnd s (.returned v) u (Jvm.fieldLocs frame_1_writes args s ++ Jvm.arrayLocs frame_1_arrays args s ++ Jvm.staticLocs frame_1_statics s) 16 128 → Post tb e args s (.returned v) u) :
    ArmFor flags0 classFile x code maxLocals ret World_1 tables_1 room_1 Calls_1 rest_1 Pre_1 Post := by
  intro l hfl _ _ p e ha hc hk s m args below hf hA hF happ hP
  obtain ⟨hcalls, hrest, hpre⟩ := hP
  obtain ⟨-, -, -, hnamed, -, -, -, hat⟩ := (Spec.applies_iff hf).mp happ
  obtain ⟨hg, hn⟩ := and_e (Cond.before_iff.mp (show (Jvm.Cond.and given_1 narrow_1).before args s = true from hpre))
  obtain ⟨ga1, gb1⟩ := and_e hg
  obtain ⟨ga2, gb2⟩ := and_e gb1
  obtain ⟨ga3, gb3⟩ := and_e gb2
  obtain ⟨w0, w1, w2, rfl⟩ : ∃ w0 w1 w2 : Value, args = #[w0, w1, w2] := by
    have hs : args.size = 3 := by simpa [Cond.value, given_1] using ga1
    obtain ⟨L⟩ := args
    match L, hs with
    | [w0, w1, w2], _ => exact ⟨w0, w1, w2, rfl⟩
  have hw := fun d (hd : d ∈ tables_1) => atoms_spec (ws := Jvm.Cond.code x code maxLocals ret :: tables_1) hat d (List.mem_cons_of_mem _ hd)
  obtain ⟨i0, ei0⟩ := is_v ga2
  obtain rfl : w0 = (.int i0) := Option.some.inj ei0
  obtain ⟨i1, ei1⟩ := is_v ga3
  obtain rfl : w1 = (.int i1) := Option.some.inj ei1
  obtain ⟨i2, ei2⟩ := is_v gb3
  obtain rfl : w2 = (.int i2) := Option.some.inj ei2
  obtain ⟨n, o, h1, h2, h3, _, L, rfl, ⟨rfl, N⟩, hq⟩ := rm0 l s _ hw tables_1 i0 i1 i2 s.heap s.heap.size (Nat.le_refl _) p e ha hc hk s m _ below hf ((Spec.applies_iff_loose hf).mp happ).1 ⟨rfl, State.Warmed39.refl s, rfl⟩ trivial
  refine ⟨n, _, h1, h2, h3, hpost _ _ _ _ _ _ ⟨Cond.after_iff.mpr rfl, Cond.after_iff.mpr (eq_i res_at (Term.int_eval (1)) rfl)⟩ ⟨hq.1, hq.2.1, (hq.2.2.sift fun y hy => Or.inr (N y hy)).mono (by decide) (by decide)⟩⟩
theorem main_1_1 : Claimed_1_1 := comes_1 fun _ _ _ _ _ _ h hF => ⟨h.1, hF⟩
theorem main_1_2 : Claimed_1_2 := comes_1 fun _ _ _ _ _ _ h hF => ⟨h.2, hF⟩
end Jvm.Pilot.@@N@@
namespace Jvm.Pilot.@@N@@
open Jvm Jvm.ClassFile Sem Op Lib Jvm.Free Jvm.Stand Jvm.Pilot.@@N@@.Jvm.D
/-! MADE BY PROGRAM (witnessworld.py) out of the Statement's table words and the real class files: 9 classes; the members and pool entries that the words name. The judged class is class 1, her method 2. -/
namespace start1
open Jvm.ClassFile
def u (s : String) : CpInfo := .utf8 (stringToUtf16 s)
/-- a pool by its gaps: so many unusable entries, then the entry; so many at the end -/
def gap : Nat → List CpInfo → List CpInfo
  | 0, r => r
  | n + 1, r => .unusable :: gap n r
def poolList (es : List (Nat × CpInfo)) (last : Nat) : List CpInfo := es.foldr (fun e r => gap e.1 (e.2 :: r)) (gap last [])
def pool (es : List (Nat × CpInfo)) (last : Nat) : Array CpInfo := ⟨poolList es last⟩
def fileOf (pool : Array CpInfo) (this : Nat) (attrs : Array Attribute := #[]) (ms : Array MethodInfo := #[]) (fl : Nat := 33) (sup : Nat := 0) (ifs : Array Nat := #[]) (fds : Array FieldInfo := #[]) : ClassFile where
  minorVersion := 0
  majorVersion := 65
  constantPool := pool
  accessFlags := fl
  thisClass := this
  superClass := sup
  interfaces := ifs
  fields := fds
  methods := ms
  attributes := attrs
def plain (name : String) (sup : Option ClassId) : Class where
  name := name
  kind := .ordinary
  loader := none
  accessFlags := 33
  super := sup
  interfaces := #[]
  cf := none
  fields := #[]
  methods := #[]
  instanceTypes := #[]
  staticTypes := #[]
  resolved := #[]
  callSites := []
  init := .initialized
  statics := none
  mirror := none

def pool0 : Array CpInfo := pool [(5, u "<init>"), (0, u "()V"), (1, .class_ 10), (1, u "java/lang/Object")] 113

def k0m0 : Method := { name := "<init>", desc := "()V", sig := { parameters := [], returnType := none }, accessFlags := 1, code := none }
/-- java/lang/Object -/
def k0 : Class := { plain "java/lang/Object" none with
  accessFlags := 33
  interfaces := #[]
  cf := some (fileOf pool0 8 #[] #[{ accessFlags := 1, nameIndex := 5, descriptorIndex := 6, attributes := #[] }] 33 0 #[] #[])
  fields := #[]
  methods := #[k0m0]
  instanceTypes := #[]
  staticTypes := #[]
  resolved := Array.replicate 124 none
  statics := none }

def pool1 : Array CpInfo := pool [(2, .class_ 4), (1, u "java/lang/Object"), (0, u "<init>"), (0, u "()V"), (0, .integer 1114111), (0, .integer 55296), (0, .integer 57343), (0, .integer 65534), (0, .integer 65535), (0, .integer 55295), (0, .integer 57344), (0, .integer 65533), (0, .integer 65536), (0, .integer 1114112), (2, .integer 2147483648), (0, .integer 2147483647), (0, .methodref 22 23), (0, .class_ 24), (0, .nameAndType 25 26), (0, u "com/example/tributary/tributary/xdm/XmlNames"), (0, u "isXmlChar"), (0, u "(I)Z"), (0, .methodref 28 29), (0, .class_ 30), (0, .nameAndType 31 26), (0, u "com/example/tributary/tributary/xdm/XmlNamesIsXmlCharPinLaw"), (0, u "ref"), (3, u "law"), (0, u "(III)Z")] 4

def k1m0 : Method := { name := "<init>", desc := "()V", sig := { parameters := [], returnType := none }, accessFlags := 2, code := none }
def k1c1 : Code := { maxStack := 2, maxLocals := 1, code := method_2_code, exceptionTable := #[], attributes := #[] }
def k1m1 : Method := { name := "ref", desc := "(I)Z", sig := { parameters := [.int], returnType := some .boolean }, accessFlags := 10, code := some k1c1 }
def k1c2 : Code := { maxStack := 4, maxLocals := 9, code := code, exceptionTable := #[], attributes := #[] }
def k1m2 : Method := { name := "law", desc := "(III)Z", sig := { parameters := [.int, .int, .int], returnType := some .boolean }, accessFlags := 9, code := some k1c2 }
/-- com/example/tributary/tributary/xdm/XmlNamesIsXmlCharPinLaw -/
def k1 : Class := { plain "com/example/tributary/tributary/xdm/XmlNamesIsXmlCharPinLaw" (some 0) with
  accessFlags := 49
  interfaces := #[]
  cf := some (fileOf pool1 28 #[] #[{ accessFlags := 2, nameIndex := 5, descriptorIndex := 6, attributes := #[] }, { accessFlags := 10, nameIndex := 31, descriptorIndex := 26, attributes := #[] }, { accessFlags := 9, nameIndex := 35, descriptorIndex := 36, attributes := #[] }] 49 2 #[] #[])
  fields := #[]
  methods := #[k1m0, k1m1, k1m2]
  instanceTypes := #[]
  staticTypes := #[]
  resolved := Array.replicate 41 none
  statics := none }

def pool2 : Array CpInfo := pool [(2, .class_ 4), (1, u "java/lang/Object"), (0, u "<init>"), (0, u "()V"), (0, .integer 55295), (0, .integer 57344), (0, .integer 65533), (0, .integer 65536), (0, .integer 1114111), (11, .class_ 25), (1, u "com/example/tributary/tributary/xdm/XmlNames"), (0, u "isXmlChar"), (0, u "(I)Z"), (68, u "XML_ID"), (0, u "Ljavax/xml/namespace/QName;")] 11

def k2m0 : Method := { name := "<init>", desc := "()V", sig := { parameters := [], returnType := none }, accessFlags := 2, code := none }
def k2c1 : Code := { maxStack := 2, maxLocals := 1, code := prog_212_method_2_code, exceptionTable := #[], attributes := #[] }
def k2m1 : Method := { name := "isXmlChar", desc := "(I)Z", sig := { parameters := [.int], returnType := some .boolean }, accessFlags := 9, code := some k2c1 }
/-- com/example/tributary/tributary/xdm/XmlNames -/
def k2 : Class := { plain "com/example/tributary/tributary/xdm/XmlNames" (some 0) with
  accessFlags := 49
  interfaces := #[]
  cf := some (fileOf pool2 23 #[] #[{ accessFlags := 2, nameIndex := 5, descriptorIndex := 6, attributes := #[] }, { accessFlags := 9, nameIndex := 26, descriptorIndex := 27, attributes := #[] }] 49 2 #[] #[{ accessFlags := 25, nameIndex := 96, descriptorIndex := 97, attributes := #[] }])
  fields := #[{ name := "XML_ID", type := (.object "javax/xml/namespace/QName"), accessFlags := 25, slot := 0, constantValue := 0 }]
  methods := #[k2m0, k2m1]
  instanceTypes := #[]
  staticTypes := #[(.object "javax/xml/namespace/QName")]
  resolved := Array.replicate 109 none
  statics := none }

def pool3 : Array CpInfo := pool [(1, u "java/lang/Cloneable"), (0, .class_ 1), (0, u "java/lang/Object"), (0, .class_ 3)] 3

/-- java/lang/Cloneable -/
def k3 : Class := { plain "java/lang/Cloneable" (some 0) with
  accessFlags := 1537
  interfaces := #[]
  cf := some (fileOf pool3 2 #[] #[] 1537 4 #[] #[])
  fields := #[]
  methods := #[]
  instanceTypes := #[]
  staticTypes := #[]
  resolved := Array.replicate 8 none
  statics := none }

def pool4 : Array CpInfo := pool [(1, u "java/io/Serializable"), (0, .class_ 1), (0, u "java/lang/Object"), (0, .class_ 3)] 3

/-- java/io/Serializable -/
def k4 : Class := { plain "java/io/Serializable" (some 0) with
  accessFlags := 1537
  interfaces := #[]
  cf := some (fileOf pool4 2 #[] #[] 1537 4 #[] #[])
  fields := #[]
  methods := #[]
  instanceTypes := #[]
  staticTypes := #[]
  resolved := Array.replicate 8 none
  statics := none }

/-- the primitive byte -/
def k5 : Class := { plain "byte" none with kind := .primitive 'B', accessFlags := 0x411 }
/-- [B -/
def k6 : Class := { plain "[B" (some 0) with kind := .array 5 .byte, interfaces := #[3, 4], accessFlags := 1041 }

/-- the primitive int -/
def k7 : Class := { plain "int" none with kind := .primitive 'I', accessFlags := 0x411 }
/-- [I -/
def k8 : Class := { plain "[I" (some 0) with kind := .array 7 .int, interfaces := #[3, 4], accessFlags := 1041 }

def heap : Heap := #[]
def classes : Array Class := #[k0, k1, k2, k3, k4, k5, k6, k7, k8]
def interned : List (Array UInt16 × Addr) := []
def slotsUsed : Nat := 0
def theMethod : MethodId := ⟨1, 2⟩
def args0 : Array Value := #[.int 5, .int 3, .int 7]
def aboutOver (below : List Frame) : State where
  vm := { classes := classes, interned := interned.toArray }
  heap := heap
  slotsUsed := slotsUsed
  threads := #[{ frames := .invoking theMethod args0 :: below }]
def below0 : List Frame := [.native { method := ⟨0, 0⟩, args := #[] }]
def about1 : State := aboutOver below0
def p0 : Program := .bare "" "" ""
def e0 : Env := launch0.env 0 0 0
theorem w_frames : about1.frames = Frame.invoking theMethod args0 :: below0 := rfl
set_option maxRecDepth 65536 in
theorem w_args : argsFit about1.vm theMethod args0 = true := by decide +kernel
set_option maxRecDepth 65536 in
theorem w_heap : heapFits about1 = true := by decide +kernel
set_option maxRecDepth 65536 in
theorem w_runnable : about1.curStatus? = some .runnable := by decide +kernel
set_option maxRecDepth 65536 in
theorem w_alone : about1.alone = true := by decide +kernel
set_option maxRecDepth 65536 in
theorem w_named : about1.methodNamed? x = some theMethod := by decide +kernel
set_option maxRecDepth 65536 in
theorem w_hears : about1.hears theMethod below0 = true := by decide +kernel
set_option maxRecDepth 65536 in
theorem w_ripe : about1.ripe theMethod args0 below0 = true := by decide +kernel
theorem w_running : about1.status = .running := rfl
set_option maxRecDepth 65536 in
theorem w_room : about1.hasRoom e0.platform room_1 = true :=
  launch0.hasRoom_least _ room_1 (by decide +kernel) (by decide +kernel) (by decide +kernel) (by decide +kernel) (by decide +kernel) (by decide +kernel)
theorem allAtoms_all (ts : List Jvm.Cond) (a : Array Jvm.Value) (st : Jvm.State) : (allAtoms ts).before a st = ts.all (fun c => c.before a st) := by
  induction ts with
  | nil => rfl
  | cons c t ih =>
    show (Jvm.Cond.and c (allAtoms t)).before a st = _
    rw [Jvm.Cond.before_and, ih, List.all_cons]
def words1 : List Jvm.Cond := Jvm.Cond.code x code maxLocals ret :: tables_1
/-- a 'code' word, met by the world's own term for the bytes: nothing is compared byte by byte -/
theorem code_word {y : MethodName} {bytes : ByteArray} {mx : Nat} {rt : Option FieldType} {a : Array Value} {s : State} {m : MethodId} {meth : Method} {c : Code} (h1 : s.methodNamed? y = some m) (h2 : s.vm.method? m = some meth) (h3 : meth.code = some c) (h4 : c.code = bytes)
    (h5 : (c.maxLocals == mx && c.exceptionTable.isEmpty && decide (c.maxStack ≤ mostOperands) && decide (meth.sig.returnType = rt) && !meth.locks && decide (parseMethodDescriptor y.desc = some meth.sig)) = true) : (Jvm.Cond.code y bytes mx rt).before a s = true := by
  simp only [Bool.and_eq_true, beq_iff_eq, Bool.not_eq_true', decide_eq_true_eq] at h5
  obtain ⟨⟨⟨⟨⟨g1, g2⟩, g3⟩, g4⟩, g5⟩, g6⟩ := h5
  simp [Cond.before, Cond.holds, Cond.value, h1, h2, h3, h4, g1, g2, g3, g4, g5, g6]
def isCode : Jvm.Cond → Bool
  | .code _ _ _ _ => true
  | _ => false
theorem all_split {L : List Jvm.Cond} {P : Jvm.Cond → Bool} (h1 : L.all (fun c => isCode c || P c) = true) (h2 : ∀ c ∈ L.filter isCode, P c = true) : L.all P = true := by
  refine List.all_eq_true.mpr fun c hc => ?_
  have h := List.all_eq_true.mp h1 c hc
  rcases Bool.eq_false_or_eq_true (isCode c) with hi | hi
  · exact h2 c (List.mem_filter.mpr ⟨hc, hi⟩)
  · simpa [hi] using h
set_option maxRecDepth 65536 in
theorem w_c0 : (Jvm.Cond.code x code maxLocals ret).before args0 about1 = true := code_word (m := ⟨1, 2⟩) (meth := k1m2) (c := k1c2) (by decide +kernel) rfl rfl rfl (by decide +kernel)
set_option maxRecDepth 65536 in
theorem w_c1 : (Jvm.Cond.code ({ cls := "com/example/tributary/tributary/xdm/XmlNames", name := "isXmlChar", desc := "(I)Z" } : Jvm.MethodName) prog_212_method_2_code (1 : Nat) (Option.some Jvm.ClassFile.FieldType.boolean)).before args0 about1 = true := code_word (m := ⟨2, 1⟩) (meth := k2m1) (c := k2c1) (by decide +kernel) rfl rfl rfl (by decide +kernel)
set_option maxRecDepth 65536 in
theorem w_c2 : (Jvm.Cond.code ({ cls := "com/example/tributary/tributary/xdm/XmlNamesIsXmlCharPinLaw", name := "ref", desc := "(I)Z" } : Jvm.MethodName) method_2_code (1 : Nat) (Option.some Jvm.ClassFile.FieldType.boolean)).before args0 about1 = true := code_word (m := ⟨1, 1⟩) (meth := k1m1) (c := k1c1) (by decide +kernel) rfl rfl rfl (by decide +kernel)
def codes1 : List Jvm.Cond := [Jvm.Cond.code x code maxLocals ret, Jvm.Cond.code ({ cls := "com/example/tributary/tributary/xdm/XmlNames", name := "isXmlChar", desc := "(I)Z" } : Jvm.MethodName) prog_212_method_2_code (1 : Nat) (Option.some Jvm.ClassFile.FieldType.boolean), Jvm.Cond.code ({ cls := "com/example/tributary/tributary/xdm/XmlNamesIsXmlCharPinLaw", name := "ref", desc := "(I)Z" } : Jvm.MethodName) method_2_code (1 : Nat) (Option.some Jvm.ClassFile.FieldType.boolean)]
set_option maxRecDepth 65536 in
theorem codes_eq : words1.filter isCode = codes1 := rfl
theorem w_codes : ∀ c ∈ words1.filter isCode, c.before args0 about1 = true := by
  rw [codes_eq]
  intro c hc
  simp only [codes1, List.mem_cons, List.not_mem_nil, or_false] at hc
  rcases hc with rfl | rfl | rfl
  · exact w_c0
  · exact w_c1
  · exact w_c2
set_option maxRecDepth 65536 in
theorem w_t1 : (words1.take 24).all (fun c => isCode c || c.before args0 about1) = true := by decide +kernel
set_option maxRecDepth 65536 in
theorem w_t2 : (words1.drop 24).all (fun c => isCode c || c.before args0 about1) = true := by decide +kernel
theorem w_tables : (allAtoms (Jvm.Cond.code x code maxLocals ret :: tables_1)).before args0 about1 = true := by
  rw [allAtoms_all]
  show words1.all (fun c => c.before args0 about1) = true
  refine all_split ?_ w_codes
  rw [← List.take_append_drop 24 words1, List.all_append, w_t1, w_t2]
  rfl
set_option maxRecDepth 65536 in
theorem w_case : (Jvm.Cond.and given_1 narrow_1).before args0 about1 = true := by decide +kernel
theorem w_applies : (headSpec (Jvm.Cond.code x code maxLocals ret :: tables_1) room_1).applies x e0.platform about1 = true :=
  (Spec.applies_iff w_frames).mpr ⟨w_running, w_runnable, w_alone, w_named, w_hears, w_ripe, w_room, w_tables⟩
theorem atStart : AtStart classFile x code maxLocals ret World_1 tables_1 room_1 Calls_1 rest_1 Pre_1 launch0 p0 e0 about1 theMethod args0 below0 :=
  ⟨lists_1, trivial, launch0.admits_env _ _ _, launch0.least_env, fairChoices_fair.cas, fairChoices_fair.clock, w_frames, w_args, w_heap, w_applies, trivial, trivial, w_case⟩
end start1
theorem witness_1 : WitnessClaimed_1 := ⟨start1.p0, start1.e0, start1.about1, start1.theMethod, start1.args0, start1.below0, start1.atStart⟩
end Jvm.Pilot.@@N@@
