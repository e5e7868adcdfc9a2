import JvmDerived
import JvmDerived.Pilot.@@N@@Statement
import JvmDerived.Pilot.@@N@@Code
set_option linter.unusedVariables false
set_option linter.unusedSimpArgs false
namespace Jvm.Pilot.@@N@@
open Jvm Jvm.ClassFile Sem Op Lib Jvm.Free Jvm.Stand Jvm.LawKit Jvm.RoadKit Bundle Jvm.Pilot.@@N@@.Jvm.D
/-! the goal of a walk: from the state a the run comes to an end that F allows -/
def Go (tb : Tables) (e : Env) (below : List Frame) (F : State → Outcome → Prop) (a : State) : Prop := ∃ s₂ o, Steps tb e below a s₂ ∧ s₂.status = .running ∧ Ended s₂ below o ∧ F s₂ o
theorem Go.by {tb : Tables} {e : Env} {below : List Frame} {F : State → Outcome → Prop} {a b : State} (h : ∀ t, Steps tb e below b t → Steps tb e below a t) (k : Go tb e below F b) : Go tb e below F a := by
  obtain ⟨s₂, o, h1, h2⟩ := k
  exact ⟨s₂, o, h _ h1, h2⟩
theorem Go.tr {tb : Tables} {e : Env} {below : List Frame} {F : State → Outcome → Prop} {a b : State} (h : Steps tb e below a b) (k : Go tb e below F b) : Go tb e below F a := Go.by (fun _ q => h.trans q) k
section Ret
variable {p : Program} {l : Launch} {e : Env} {R : Room} {s : State} {m : MethodId} {args : Array Value} {below : List Frame} {meth : Method} {c : Code} {T : State} {locs : List Loc} {cells slots rc rs pc : Nat} {Ls : Array Slot} {rest : List Value} {Q : Option Value → Heap → List Loc → Prop}
theorem Go.retZ {z : Int32} (X : Stand p l e R s m args below meth c T locs cells slots) (hx : p.tables.exec = Jvm.exec) (hlk : meth.locks = false) (hret : meth.sig.returnType = some .boolean) (hd : decode c.code pc = .ok (.ireturn, 1)) (hQ : Q (some (.int (nar .boolean z))) T.heap locs) (hc : cells ≤ rc) (hs : slots ≤ rs) :
    Go p.tables e below (fun t o => ∃ v L, o = .returned v ∧ Q v t.heap L ∧ FrameEnd s o t L rc rs) (T.setTop (mkF m pc Ls (.int z :: rest))) := by
  obtain ⟨fs, hr, hrun, hended, hW, hsame⟩ := X.leave (v := some (.int (nar .boolean z))) (fun h => by rw [hret] at h; cases h) hlk
  exact ⟨_, _, retN X hx (t := .boolean) hret (by simp) hd hr, hrun, hended, _, _, rfl, hQ, ⟨_, rfl⟩, hW, hsame.mono hc hs⟩
theorem Go.retI {z : Int32} (X : Stand p l e R s m args below meth c T locs cells slots) (hx : p.tables.exec = Jvm.exec) (hlk : meth.locks = false) (hret : meth.sig.returnType = some .int) (hd : decode c.code pc = .ok (.ireturn, 1)) (hQ : Q (some (.int z)) T.heap locs) (hc : cells ≤ rc) (hs : slots ≤ rs) :
    Go p.tables e below (fun t o => ∃ v L, o = .returned v ∧ Q v t.heap L ∧ FrameEnd s o t L rc rs) (T.setTop (mkF m pc Ls (.int z :: rest))) := by
  obtain ⟨fs, hr, hrun, hended, hW, hsame⟩ := X.leave (v := some (.int z)) (fun h => by rw [hret] at h; cases h) hlk
  exact ⟨_, _, retOut X hx (t := .int) (i := .ireturn) hret rfl (Or.inl ⟨rfl, Or.inl rfl, _, rfl⟩) hd hr, hrun, hended, _, _, rfl, hQ, ⟨_, rfl⟩, hW, hsame.mono hc hs⟩
theorem Go.retJ {z : Int64} (X : Stand p l e R s m args below meth c T locs cells slots) (hx : p.tables.exec = Jvm.exec) (hlk : meth.locks = false) (hret : meth.sig.returnType = some .long) (hd : decode c.code pc = .ok (.lreturn, 1)) (hQ : Q (some (.long z)) T.heap locs) (hc : cells ≤ rc) (hs : slots ≤ rs) :
    Go p.tables e below (fun t o => ∃ v L, o = .returned v ∧ Q v t.heap L ∧ FrameEnd s o t L rc rs) (T.setTop (mkF m pc Ls (.long z :: rest))) := by
  obtain ⟨fs, hr, hrun, hended, hW, hsame⟩ := X.leave (v := some (.long z)) (fun h => by rw [hret] at h; cases h) hlk
  exact ⟨_, _, retOut X hx (t := .long) (i := .lreturn) hret rfl (Or.inr (Or.inl ⟨rfl, rfl, _, rfl⟩)) hd hr, hrun, hended, _, _, rfl, hQ, ⟨_, rfl⟩, hW, hsame.mono hc hs⟩
theorem Go.retV (X : Stand p l e R s m args below meth c T locs cells slots) (hx : p.tables.exec = Jvm.exec) (hlk : meth.locks = false) (hret : meth.sig.returnType = none) (hd : decode c.code pc = .ok (.return_, 1)) (hQ : Q none T.heap locs) (hc : cells ≤ rc) (hs : slots ≤ rs) :
    Go p.tables e below (fun t o => ∃ v L, o = .returned v ∧ Q v t.heap L ∧ FrameEnd s o t L rc rs) (T.setTop (mkF m pc Ls [])) := by
  obtain ⟨fs, hr, hrun, hended, hW, hsame⟩ := X.leave (v := none) (fun _ => rfl) hlk
  exact ⟨_, _, X.returnOut hx hret hd hr, hrun, hended, _, _, rfl, hQ, ⟨_, rfl⟩, hW, hsame.mono hc hs⟩
end Ret

/-! an array of ints whose values don't matter: its length alone -/
def IA (Z : State) (h : Heap) (a : Addr) (n : Nat) : Prop := ∃ c : Cell, Arr Z h a c .int ∧ c.slots.size = n ∧ ∀ i, i < n → ∃ w, c.slots[i]? = some (.int w)
theorem IA.new {Z : State} {h : Heap} {a : Addr} {k : ClassId} {z : Int32} (A : Arr Z h a (newA k .int z) .int) : IA Z h a z.toNatClampNeg :=
  ⟨_, A, sz_new _ _ _, fun i hi => ⟨0, by simp [newA, hi, defaultValue]⟩⟩
section Arrays
variable {p : Program} {l : Launch} {e : Env} {R : Room} {s : State} {m : MethodId} {args : Array Value} {below : List Frame} {meth : Method} {c : Code} {T : State} {locs : List Loc} {cells slots n0 : Nat} {Z : State} {a0 : Array Value} {F : State → Outcome → Prop} {g : JFrame} {rest : List Value}
theorem Go.newI (X : Stand p l e R s m args below meth c T locs cells slots) (hx : p.tables.exec = Jvm.exec) (hZ : Z.Warmed39 s.vm) (w : (Cond.arrayClass .int).before a0 Z = true) (hz : n0 ≤ T.heap.size) {n : Int32} (hg : g.method = m) (hs : g.stack = .int n :: rest) (hd : decode c.code g.pc = .ok (.newarray .int, 2)) (hn : ¬ n < 0) {cap : Nat} (hcap : n.toNatClampNeg ≤ cap) (hb : cap * 8 ≤ 536870912) (hc : cells + 1 ≤ R.cells) (hl : slots + cap ≤ R.slots)
    (k : ∀ (T' : State) (a : Addr), Stand p l e R s m args below meth c T' locs (cells + 1) (slots + cap) → n0 ≤ T'.heap.size → n0 ≤ a → IA Z T'.heap a n.toNatClampNeg → Go p.tables e below F (T'.setTop { g with pc := g.pc + 2, stack := .ref a :: rest })) : Go p.tables e below F (T.setTop g) := by
  obtain ⟨T', h', cA, X', e', E', A', st⟩ := newP X hx hZ (aty := .int) w rfl (g := g) hg hd hs hn hcap hb hc hl
  subst e'
  exact Go.by st (k T' _ X' (Nat.le_trans hz E'.1) hz (IA.new A'))
theorem Go.stIA (X : Stand p l e R s m args below meth c T locs cells slots) (hx : p.tables.exec = Jvm.exec) (hZ : Z.Warmed39 s.vm) {a : Addr} {n : Nat} (A : IA Z T.heap a n) (N : Fr n0 locs) (hz : n0 ≤ T.heap.size) (ga : n0 ≤ a) {j x : Int32} (hj : ¬ j < 0 ∧ j.toNatClampNeg < n) (hg : g.method = m) (hs : g.stack = .int x :: .int j :: .ref a :: rest) (hd : decode c.code g.pc = .ok (.iastore, 1))
    (k : ∀ (T' : State) (locs' : List Loc), Stand p l e R s m args below meth c T' locs' cells slots → Fr n0 locs' → n0 ≤ T'.heap.size → IA Z T'.heap a n → Go p.tables e below F (T'.setTop { g with pc := g.pc + 1, stack := rest })) : Go p.tables e below F (T.setTop g) := by
  obtain ⟨cl, Ar, S, V⟩ := A
  have hin : ¬ (j < 0 ∨ cl.slots.size ≤ j.toNatClampNeg) := fun q => q.elim hj.1 fun q => by omega
  obtain ⟨T', h', X', e', W, st⟩ := stI X hx hZ rfl Ar hin hg hs hd
  subst e'
  refine Go.by st (k T' _ X' (Fr.snoc X' N ga) (by rw [W.size]; exact hz) ⟨_, Ar.same W, by rw [sz_set]; exact S, fun i hi => ?_⟩)
  by_cases q : j.toNatClampNeg = i
  · exact ⟨x, by subst q; simp [Cell.setSlot, S, hi]⟩
  · obtain ⟨v, hv⟩ := V i hi
    exact ⟨v, by simp only [Cell.setSlot]; rw [Array.getElem?_setIfInBounds_ne q]; exact hv⟩
theorem Go.ldIA (X : Stand p l e R s m args below meth c T locs cells slots) (hx : p.tables.exec = Jvm.exec) (hZ : Z.Warmed39 s.vm) {a : Addr} {n : Nat} (A : IA Z T.heap a n) {j : Int32} (hj : ¬ j < 0 ∧ j.toNatClampNeg < n) (hg : g.method = m) (hs : g.stack = .int j :: .ref a :: rest) (hd : decode c.code g.pc = .ok (.iaload, 1))
    (k : ∀ (w : Int32), Go p.tables e below F (T.setTop { g with pc := g.pc + 1, stack := .int w :: rest })) : Go p.tables e below F (T.setTop g) := by
  obtain ⟨cl, Ar, S, V⟩ := A
  have hin : ¬ (j < 0 ∨ cl.slots.size ≤ j.toNatClampNeg) := fun q => q.elim hj.1 fun q => by omega
  obtain ⟨w, hw⟩ := V _ hj.2
  exact Go.by (fun t q => X.iaload hx (j := j) (v := (.int w)) Ar.1 (State.isArrayOf_alike hZ.alike Ar.2.1) Ar.2.2 hin hw hg hs hd t q) (k w)
theorem Go.lenIA (X : Stand p l e R s m args below meth c T locs cells slots) (hx : p.tables.exec = Jvm.exec) (hZ : Z.Warmed39 s.vm) {a : Addr} {n : Nat} (A : IA Z T.heap a n) {z : Int32} (hn : n.toInt32 = z) (hg : g.method = m) (hs : g.stack = .ref a :: rest) (hd : decode c.code g.pc = .ok (.arraylength, 1))
    (k : Go p.tables e below F (T.setTop { g with pc := g.pc + 1, stack := .int z :: rest })) : Go p.tables e below F (T.setTop g) := by
  obtain ⟨cl, Ar, S, V⟩ := A
  refine Go.by (fun t q => X.arraylength hx Ar.1 (State.isArrayOf_alike hZ.alike Ar.2.1) hg hs hd t q) ?_
  rw [S, hn]; exact k
end Arrays
theorem own_idx {x y : Int32} {n : Nat} {d : Int} (hy : y.toInt = d) (hd : d = n) (hn : 0 < n) (h : 0 ≤ x.toInt) : ¬ (x - (x / y) * y) < 0 ∧ (x - (x / y) * y).toNatClampNeg < n := by
  rw [irem_eq_mod]
  have e := (c_irem x y d hy).1 h
  have h1 := Int.emod_nonneg x.toInt (show d ≠ 0 by omega)
  have h2 := Int.emod_lt_of_pos x.toInt (show 0 < d by omega)
  rw [← e] at h1 h2
  constructor
  · rw [Int32.lt_iff_toInt_lt]; show ¬ (x % y).toInt < 0; omega
  · show (x % y).toInt.toNat < n; omega
theorem own_mask (x : Int32) : 0 ≤ (x &&& (2147483647 : Int32)).toInt := (c_and x 2147483647 (by decide)).1
theorem own_ushr1 (x : Int32) : 0 ≤ (XT.ushr x (1 : Int32)).toInt := by
  have e : (XT.ushr x (1 : Int32)).toInt = _ := c_iushr x 1 1 rfl (by decide)
  rw [e]; omega

/-! a function of one int, read as a proposition over its value -/
theorem own_one : (1 : Int32) = if True then 1 else 0 := rfl
theorem own_zero : (0 : Int32) = if False then 1 else 0 := rfl
section Plain
variable {c k lo hi f g : Int32} {a b : Int} {P Q : Prop} [Decidable P] [Decidable Q]
theorem own_eqi (ha : k.toInt = a) : c = k ↔ c.toInt = a := by rw [← ha]; exact Int32.toInt_inj.symm
theorem own_lti (ha : k.toInt = a) : c < k ↔ c.toInt < a := by rw [← ha]; exact Int32.lt_iff_toInt_lt
theorem own_gti (ha : k.toInt = a) : k < c ↔ a < c.toInt := by rw [← ha]; exact Int32.lt_iff_toInt_lt
theorem own_is (ha : k.toInt = a) (hf : f = if Q then 1 else 0) : (if c = k then 1 else f) = if (c.toInt = a ∨ Q) then (1 : Int32) else 0 := by
  subst hf; simp only [own_eqi (c := c) ha]
  by_cases h : c.toInt = a <;> by_cases q : Q <;> simp [h, q]
theorem own_isnt (ha : k.toInt = a) (hf : f = if Q then 1 else 0) : (if c = k then 0 else f) = if (¬ c.toInt = a ∧ Q) then (1 : Int32) else 0 := by
  subst hf; simp only [own_eqi (c := c) ha]
  by_cases h : c.toInt = a <;> by_cases q : Q <;> simp [h, q]
theorem own_lt (ha : k.toInt = a) (hf : f = if P then 1 else 0) (hg : g = if Q then 1 else 0) : (if c < k then f else g) = if ((c.toInt < a ∧ P) ∨ (¬ c.toInt < a ∧ Q)) then (1 : Int32) else 0 := by
  subst hf hg; simp only [own_lti (c := c) ha]
  by_cases h : c.toInt < a <;> by_cases p : P <;> by_cases q : Q <;> simp [h, p, q]
theorem own_gt (ha : k.toInt = a) (hf : f = if P then 1 else 0) (hg : g = if Q then 1 else 0) : (if k < c then f else g) = if ((a < c.toInt ∧ P) ∨ (¬ a < c.toInt ∧ Q)) then (1 : Int32) else 0 := by
  subst hf hg; simp only [own_gti (c := c) ha]
  by_cases h : a < c.toInt <;> by_cases p : P <;> by_cases q : Q <;> simp [h, p, q]
theorem own_in (ha : lo.toInt = a) (hb : hi.toInt = b) (hf : f = if Q then 1 else 0) : (if c < lo then f else if hi < c then f else 1) = if ((a ≤ c.toInt ∧ c.toInt ≤ b) ∨ Q) then (1 : Int32) else 0 := by
  subst hf; simp only [own_lti (c := c) ha, own_gti (c := c) hb]
  by_cases h : c.toInt < a <;> by_cases h' : b < c.toInt <;> by_cases q : Q <;> simp [h, h', q] <;> omega
theorem own_out (ha : lo.toInt = a) (hb : hi.toInt = b) (hf : f = if Q then 1 else 0) : (if c < lo then f else if hi < c then f else 0) = if (¬ (a ≤ c.toInt ∧ c.toInt ≤ b) ∧ Q) then (1 : Int32) else 0 := by
  subst hf; simp only [own_lti (c := c) ha, own_gti (c := c) hb]
  by_cases h : c.toInt < a <;> by_cases h' : b < c.toInt <;> by_cases q : Q <;> simp [h, h', q] <;> omega
end Plain

theorem d1_0 : decode method_2_code 0 = .ok (.iload_n 0, 1) := by decide +kernel
theorem d1_1 : decode method_2_code 1 = .ok (.iload_n 1, 1) := by decide +kernel
theorem d1_2 : decode method_2_code 2 = .ok (.if_icmp .lt 12, 3) := by decide +kernel
theorem d1_5 : decode method_2_code 5 = .ok (.iload_n 0, 1) := by decide +kernel
theorem d1_6 : decode method_2_code 6 = .ok (.iload_n 2, 1) := by decide +kernel
theorem d1_7 : decode method_2_code 7 = .ok (.if_icmp .gt 7, 3) := by decide +kernel
theorem d1_10 : decode method_2_code 10 = .ok (.iconst 1, 1) := by decide +kernel
theorem d1_11 : decode method_2_code 11 = .ok (.goto 4, 3) := by decide +kernel
theorem d1_14 : decode method_2_code 14 = .ok (.iconst 0, 1) := by decide +kernel
theorem d1_15 : decode method_2_code 15 = .ok (.ireturn, 1) := by decide +kernel
theorem pn_1 : plainName "com/example/ixel/ixel/util/XmlCharsIsNcNameStartCharPinLaw" = true := by first | (simp [plainName, overriddenIn]; done) | decide +kernel
theorem ef_1 (m : MethodId) (p0 : Int32) (p1 : Int32) (p2 : Int32) : entryFrame m #[(.int p0), (.int p1), (.int p2)] 3 = mkF m 0 #[.val (.int p0), .val (.int p1), .val (.int p2)] [] := by first | (simp [entryFrame, mkF, argsToLocals, Value.category]; done) | rfl
def f1_14 (p0 : Int32) (p1 : Int32) (p2 : Int32) : Int32 := (0 : Int32)
def f1_0 (p0 : Int32) (p1 : Int32) (p2 : Int32) : Int32 := if p0 < p1 then f1_14 p0 p1 p2 else if p2 < p0 then f1_14 p0 p1 p2 else (1 : Int32)
def Q1 (p0 : Int32) (p1 : Int32) (p2 : Int32) (h0 : Heap) (n0 : Nat) (v : Option Value) (h : Heap) (L : List Loc) : Prop := v = some (.int (f1_0 p0 p1 p2)) ∧ Fr n0 L ∧ h = h0
set_option maxRecDepth 65536 in
set_option maxHeartbeats 40000000 in
theorem rm1 (l : Launch) (Z : State) (a0 : Array Value) (hw : ∀ d ∈ tables_1, d.before a0 Z = true) (ws : List Jvm.Cond) (p0 : Int32) (p1 : Int32) (p2 : Int32)  (h0 : Heap) (n0 : Nat) (Z0 : n0 ≤ h0.size)  :
    MetFree l (⟨"com/example/ixel/ixel/util/XmlCharsIsNcNameStartCharPinLaw", "in", "(III)Z"⟩ : MethodName) (head1 (Jvm.Cond.code (⟨"com/example/ixel/ixel/util/XmlCharsIsNcNameStartCharPinLaw", "in", "(III)Z"⟩ : MethodName) method_2_code 3 (some .boolean) :: ws) ({ frames := 0, cells := 0, slots := 0, locals := 0 } : Room)) (fun a U => a = #[(.int p0), (.int p1), (.int p2)] ∧ Z.Warmed39 U.vm ∧ U.heap = h0) (fun _ _ _ _ _ => True) (fun _ U o U' => ∃ v L, o = .returned v ∧ (Q1 p0 p1 p2 h0 n0) v U'.heap L ∧ FrameEnd U o U' L ({ frames := 0, cells := 0, slots := 0, locals := 0 } : Room).cells ({ frames := 0, cells := 0, slots := 0, locals := 0 } : Room).slots) := by
  refine MetFree.of_bodySF (plainFor_of_name pn_1) hisR ?_
  intro p e s m args below meth c s₁ Bd hml0 hP hK
  obtain ⟨rfl, hZ, hh⟩ := hP
  have hx := Bd.exec
  have hby := Bd.bytes
  have hml : c.maxLocals = 3 := hml0
  have hown : s.vm.findClass "com/example/ixel/ixel/util/XmlCharsIsNcNameStartCharPinLaw" = some m.cls := findClass_of_methodNamed Bd.named
  have hnm := (name_of_methodNamed Bd.named Bd.method).1
  have hlk : meth.locks = false := Bd.notSynchronized
  have X0 : Stand p l e ({ frames := 0, cells := 0, slots := 0, locals := 0 } : Room) s m #[(.int p0), (.int p1), (.int p2)] below meth c s₁ [] 0 0 := Stand.of_body Bd
  have e0 : s₁.heap = h0 := by rw [← hh, Bd.state]; rfl
  have N0 := Fr.nil n0
  refine Go.by (tb := p.tables) (e := e) (below := below) (F := fun t o => ∃ v L, o = .returned v ∧ (Q1 p0 p1 p2 h0 n0) v t.heap L ∧ FrameEnd s o t L ({ frames := 0, cells := 0, slots := 0, locals := 0 } : Room).cells ({ frames := 0, cells := 0, slots := 0, locals := 0 } : Room).slots) (fun t k => castTop (ef_1 m p0 p1 p2) k) ?_
  have J14 : ∀ (T : State) (locs : List Loc) (X : Stand p l e ({ frames := 0, cells := 0, slots := 0, locals := 0 } : Room) s m #[(.int p0), (.int p1), (.int p2)] below meth c T locs 0 0), T.heap = h0 → Fr n0 locs → f1_0 p0 p1 p2 = f1_14 p0 p1 p2 → Go p.tables e below (fun t o => ∃ v L, o = .returned v ∧ (Q1 p0 p1 p2 h0 n0) v t.heap L ∧ FrameEnd s o t L ({ frames := 0, cells := 0, slots := 0, locals := 0 } : Room).cells ({ frames := 0, cells := 0, slots := 0, locals := 0 } : Room).slots) (T.setTop (mkF m 14 #[.val (.int p0), .val (.int p1), .val (.int p2)] [])) := by
    intro T locs X eT N hv
    replace hv : f1_0 p0 p1 p2 = (0 : Int32) := hv
    show Go _ _ _ _ (T.setTop (mkF m 14 #[.val (.int p0), .val (.int p1), .val (.int p2)] []))
    refine Go.by (fun t k => XS.iconst X.here hx rfl (hb hby d1_14) k) ?_
    show Go _ _ _ _ (T.setTop (mkF m 15 #[.val (.int p0), .val (.int p1), .val (.int p2)] [(.int (0 : Int32))]))
    exact Go.retZ (Q := Q1 p0 p1 p2 h0 n0) X hx hlk Bd.returns (hb hby d1_15) ⟨by rw [hv]; rfl, N, eT⟩ (by decide) (by decide)
  have hv : f1_0 p0 p1 p2 = if p0 < p1 then f1_14 p0 p1 p2 else if p2 < p0 then f1_14 p0 p1 p2 else (1 : Int32) := rfl
  show Go _ _ _ _ (s₁.setTop (mkF m 0 #[.val (.int p0), .val (.int p1), .val (.int p2)] []))
  refine Go.by (fun t k => XS.iloadN X0.here hx rfl (hb hby d1_0) rfl k) ?_
  show Go _ _ _ _ (s₁.setTop (mkF m 1 #[.val (.int p0), .val (.int p1), .val (.int p2)] [(.int p0)]))
  refine Go.by (fun t k => XS.iloadN X0.here hx rfl (hb hby d1_1) rfl k) ?_
  show Go _ _ _ _ (s₁.setTop (mkF m 2 #[.val (.int p0), .val (.int p1), .val (.int p2)] [(.int p1), (.int p0)]))
  by_cases hc2 : p0 < p1
  · have hv := hv.trans (if_pos hc2)
    refine Go.by (fun t k => XS.icmpYes X0.here hx rfl (pc0 := 2) (pc' := 14) rfl (hb hby d1_2) rfl (XT.ii_lt_t hc2) (by decide) (by decide) k) ?_
    exact J14 s₁ _ X0 e0 N0 hv
  · have hv := hv.trans (if_neg hc2)
    refine Go.by (fun t k => XS.icmpNo X0.here hx rfl (hb hby d1_2) rfl (XT.ii_lt_f hc2) k) ?_
    show Go _ _ _ _ (s₁.setTop (mkF m 5 #[.val (.int p0), .val (.int p1), .val (.int p2)] []))
    refine Go.by (fun t k => XS.iloadN X0.here hx rfl (hb hby d1_5) rfl k) ?_
    show Go _ _ _ _ (s₁.setTop (mkF m 6 #[.val (.int p0), .val (.int p1), .val (.int p2)] [(.int p0)]))
    refine Go.by (fun t k => XS.iloadN X0.here hx rfl (hb hby d1_6) rfl k) ?_
    show Go _ _ _ _ (s₁.setTop (mkF m 7 #[.val (.int p0), .val (.int p1), .val (.int p2)] [(.int p2), (.int p0)]))
    by_cases hc7 : p2 < p0
    · have hv := hv.trans (if_pos hc7)
      refine Go.by (fun t k => XS.icmpYes X0.here hx rfl (pc0 := 7) (pc' := 14) rfl (hb hby d1_7) rfl (XT.ii_gt_t hc7) (by decide) (by decide) k) ?_
      exact J14 s₁ _ X0 e0 N0 hv
    · have hv := hv.trans (if_neg hc7)
      refine Go.by (fun t k => XS.icmpNo X0.here hx rfl (hb hby d1_7) rfl (XT.ii_gt_f hc7) k) ?_
      show Go _ _ _ _ (s₁.setTop (mkF m 10 #[.val (.int p0), .val (.int p1), .val (.int p2)] []))
      refine Go.by (fun t k => XS.iconst X0.here hx rfl (hb hby d1_10) k) ?_
      show Go _ _ _ _ (s₁.setTop (mkF m 11 #[.val (.int p0), .val (.int p1), .val (.int p2)] [(.int (1 : Int32))]))
      refine Go.by (fun t k => XS.goto X0.here hx rfl (pc0 := 11) (pc' := 15) rfl (hb hby d1_11) (by decide) (by decide) k) ?_
      show Go _ _ _ _ (s₁.setTop (mkF m 15 #[.val (.int p0), .val (.int p1), .val (.int p2)] [(.int (1 : Int32))]))
      exact Go.retZ (Q := Q1 p0 p1 p2 h0 n0) X0 hx hlk Bd.returns (hb hby d1_15) ⟨by rw [hv]; rfl, N0, e0⟩ (by decide) (by decide)
theorem own_f1z {c lo hi : Int32} {a b : Int} (ha : lo.toInt = a) (hb : hi.toInt = b) : f1_0 c lo hi = 0 ↔ ¬ (a ≤ c.toInt ∧ c.toInt ≤ b) := by
  simp only [f1_0, f1_14, own_lti (c := c) ha, own_gti (c := c) hb]
  by_cases h : c.toInt < a <;> by_cases h' : b < c.toInt <;> simp [h, h'] <;> omega
theorem own_inx {c lo hi f : Int32} {a b : Int} {Q : Prop} [Decidable Q] (ha : lo.toInt = a) (hb : hi.toInt = b) (hf : f = if Q then 1 else 0) : (if f1_0 c lo hi = 0 then f else 1) = if ((a ≤ c.toInt ∧ c.toInt ≤ b) ∨ Q) then (1 : Int32) else 0 := by
  subst hf; simp only [own_f1z (c := c) ha hb]
  by_cases h : (a ≤ c.toInt ∧ c.toInt ≤ b) <;> by_cases q : Q <;> simp [h, q]
theorem d2_0 : decode prog_110_method_5_code 0 = .ok (.iload_n 0, 1) := by decide +kernel
theorem d2_1 : decode prog_110_method_5_code 1 = .ok (.bipush 97, 2) := by decide +kernel
theorem d2_3 : decode prog_110_method_5_code 3 = .ok (.if_icmp .lt 9, 3) := by decide +kernel
theorem d2_6 : decode prog_110_method_5_code 6 = .ok (.iload_n 0, 1) := by decide +kernel
theorem d2_7 : decode prog_110_method_5_code 7 = .ok (.bipush 122, 2) := by decide +kernel
theorem d2_9 : decode prog_110_method_5_code 9 = .ok (.if_icmp .le 182, 3) := by decide +kernel
theorem d2_12 : decode prog_110_method_5_code 12 = .ok (.iload_n 0, 1) := by decide +kernel
theorem d2_13 : decode prog_110_method_5_code 13 = .ok (.bipush 65, 2) := by decide +kernel
theorem d2_15 : decode prog_110_method_5_code 15 = .ok (.if_icmp .lt 9, 3) := by decide +kernel
theorem d2_18 : decode prog_110_method_5_code 18 = .ok (.iload_n 0, 1) := by decide +kernel
theorem d2_19 : decode prog_110_method_5_code 19 = .ok (.bipush 90, 2) := by decide +kernel
theorem d2_21 : decode prog_110_method_5_code 21 = .ok (.if_icmp .le 170, 3) := by decide +kernel
theorem d2_24 : decode prog_110_method_5_code 24 = .ok (.iload_n 0, 1) := by decide +kernel
theorem d2_25 : decode prog_110_method_5_code 25 = .ok (.bipush 95, 2) := by decide +kernel
theorem d2_27 : decode prog_110_method_5_code 27 = .ok (.if_icmp .eq 164, 3) := by decide +kernel
theorem d2_30 : decode prog_110_method_5_code 30 = .ok (.iload_n 0, 1) := by decide +kernel
theorem d2_31 : decode prog_110_method_5_code 31 = .ok (.sipush 192, 3) := by decide +kernel
theorem d2_34 : decode prog_110_method_5_code 34 = .ok (.if_icmp .lt 10, 3) := by decide +kernel
theorem d2_37 : decode prog_110_method_5_code 37 = .ok (.iload_n 0, 1) := by decide +kernel
theorem d2_38 : decode prog_110_method_5_code 38 = .ok (.sipush 214, 3) := by decide +kernel
theorem d2_41 : decode prog_110_method_5_code 41 = .ok (.if_icmp .le 150, 3) := by decide +kernel
theorem d2_44 : decode prog_110_method_5_code 44 = .ok (.iload_n 0, 1) := by decide +kernel
theorem d2_45 : decode prog_110_method_5_code 45 = .ok (.sipush 216, 3) := by decide +kernel
theorem d2_48 : decode prog_110_method_5_code 48 = .ok (.if_icmp .lt 10, 3) := by decide +kernel
theorem d2_51 : decode prog_110_method_5_code 51 = .ok (.iload_n 0, 1) := by decide +kernel
theorem d2_52 : decode prog_110_method_5_code 52 = .ok (.sipush 246, 3) := by decide +kernel
theorem d2_55 : decode prog_110_method_5_code 55 = .ok (.if_icmp .le 136, 3) := by decide +kernel
theorem d2_58 : decode prog_110_method_5_code 58 = .ok (.iload_n 0, 1) := by decide +kernel
theorem d2_59 : decode prog_110_method_5_code 59 = .ok (.sipush 248, 3) := by decide +kernel
theorem d2_62 : decode prog_110_method_5_code 62 = .ok (.if_icmp .lt 10, 3) := by decide +kernel
theorem d2_65 : decode prog_110_method_5_code 65 = .ok (.iload_n 0, 1) := by decide +kernel
theorem d2_66 : decode prog_110_method_5_code 66 = .ok (.sipush 767, 3) := by decide +kernel
theorem d2_69 : decode prog_110_method_5_code 69 = .ok (.if_icmp .le 122, 3) := by decide +kernel
theorem d2_72 : decode prog_110_method_5_code 72 = .ok (.iload_n 0, 1) := by decide +kernel
theorem d2_73 : decode prog_110_method_5_code 73 = .ok (.sipush 880, 3) := by decide +kernel
theorem d2_76 : decode prog_110_method_5_code 76 = .ok (.if_icmp .lt 10, 3) := by decide +kernel
theorem d2_79 : decode prog_110_method_5_code 79 = .ok (.iload_n 0, 1) := by decide +kernel
theorem d2_80 : decode prog_110_method_5_code 80 = .ok (.sipush 893, 3) := by decide +kernel
theorem d2_83 : decode prog_110_method_5_code 83 = .ok (.if_icmp .le 108, 3) := by decide +kernel
theorem d2_86 : decode prog_110_method_5_code 86 = .ok (.iload_n 0, 1) := by decide +kernel
theorem d2_87 : decode prog_110_method_5_code 87 = .ok (.sipush 895, 3) := by decide +kernel
theorem d2_90 : decode prog_110_method_5_code 90 = .ok (.if_icmp .lt 10, 3) := by decide +kernel
theorem d2_93 : decode prog_110_method_5_code 93 = .ok (.iload_n 0, 1) := by decide +kernel
theorem d2_94 : decode prog_110_method_5_code 94 = .ok (.sipush 8191, 3) := by decide +kernel
theorem d2_97 : decode prog_110_method_5_code 97 = .ok (.if_icmp .le 94, 3) := by decide +kernel
theorem d2_100 : decode prog_110_method_5_code 100 = .ok (.iload_n 0, 1) := by decide +kernel
theorem d2_101 : decode prog_110_method_5_code 101 = .ok (.sipush 8204, 3) := by decide +kernel
theorem d2_104 : decode prog_110_method_5_code 104 = .ok (.if_icmp .lt 10, 3) := by decide +kernel
theorem d2_107 : decode prog_110_method_5_code 107 = .ok (.iload_n 0, 1) := by decide +kernel
theorem d2_108 : decode prog_110_method_5_code 108 = .ok (.sipush 8205, 3) := by decide +kernel
theorem d2_111 : decode prog_110_method_5_code 111 = .ok (.if_icmp .le 80, 3) := by decide +kernel
theorem d2_114 : decode prog_110_method_5_code 114 = .ok (.iload_n 0, 1) := by decide +kernel
theorem d2_115 : decode prog_110_method_5_code 115 = .ok (.sipush 8304, 3) := by decide +kernel
theorem d2_118 : decode prog_110_method_5_code 118 = .ok (.if_icmp .lt 10, 3) := by decide +kernel
theorem d2_121 : decode prog_110_method_5_code 121 = .ok (.iload_n 0, 1) := by decide +kernel
theorem d2_122 : decode prog_110_method_5_code 122 = .ok (.sipush 8591, 3) := by decide +kernel
theorem d2_125 : decode prog_110_method_5_code 125 = .ok (.if_icmp .le 66, 3) := by decide +kernel
theorem d2_128 : decode prog_110_method_5_code 128 = .ok (.iload_n 0, 1) := by decide +kernel
theorem d2_129 : decode prog_110_method_5_code 129 = .ok (.sipush 11264, 3) := by decide +kernel
theorem d2_132 : decode prog_110_method_5_code 132 = .ok (.if_icmp .lt 10, 3) := by decide +kernel
theorem d2_135 : decode prog_110_method_5_code 135 = .ok (.iload_n 0, 1) := by decide +kernel
theorem d2_136 : decode prog_110_method_5_code 136 = .ok (.sipush 12271, 3) := by decide +kernel
theorem d2_139 : decode prog_110_method_5_code 139 = .ok (.if_icmp .le 52, 3) := by decide +kernel
theorem d2_142 : decode prog_110_method_5_code 142 = .ok (.iload_n 0, 1) := by decide +kernel
theorem d2_143 : decode prog_110_method_5_code 143 = .ok (.sipush 12289, 3) := by decide +kernel
theorem d2_146 : decode prog_110_method_5_code 146 = .ok (.if_icmp .lt 9, 3) := by decide +kernel
theorem d2_149 : decode prog_110_method_5_code 149 = .ok (.iload_n 0, 1) := by decide +kernel
theorem d2_150 : decode prog_110_method_5_code 150 = .ok (.ldc 40, 2) := by decide +kernel
theorem d2_152 : decode prog_110_method_5_code 152 = .ok (.if_icmp .le 39, 3) := by decide +kernel
theorem d2_155 : decode prog_110_method_5_code 155 = .ok (.iload_n 0, 1) := by decide +kernel
theorem d2_156 : decode prog_110_method_5_code 156 = .ok (.ldc 41, 2) := by decide +kernel
theorem d2_158 : decode prog_110_method_5_code 158 = .ok (.if_icmp .lt 9, 3) := by decide +kernel
theorem d2_161 : decode prog_110_method_5_code 161 = .ok (.iload_n 0, 1) := by decide +kernel
theorem d2_162 : decode prog_110_method_5_code 162 = .ok (.ldc 42, 2) := by decide +kernel
theorem d2_164 : decode prog_110_method_5_code 164 = .ok (.if_icmp .le 27, 3) := by decide +kernel
theorem d2_167 : decode prog_110_method_5_code 167 = .ok (.iload_n 0, 1) := by decide +kernel
theorem d2_168 : decode prog_110_method_5_code 168 = .ok (.ldc 43, 2) := by decide +kernel
theorem d2_170 : decode prog_110_method_5_code 170 = .ok (.if_icmp .lt 9, 3) := by decide +kernel
theorem d2_173 : decode prog_110_method_5_code 173 = .ok (.iload_n 0, 1) := by decide +kernel
theorem d2_174 : decode prog_110_method_5_code 174 = .ok (.ldc 44, 2) := by decide +kernel
theorem d2_176 : decode prog_110_method_5_code 176 = .ok (.if_icmp .le 15, 3) := by decide +kernel
theorem d2_179 : decode prog_110_method_5_code 179 = .ok (.iload_n 0, 1) := by decide +kernel
theorem d2_180 : decode prog_110_method_5_code 180 = .ok (.ldc 45, 2) := by decide +kernel
theorem d2_182 : decode prog_110_method_5_code 182 = .ok (.if_icmp .lt 13, 3) := by decide +kernel
theorem d2_185 : decode prog_110_method_5_code 185 = .ok (.iload_n 0, 1) := by decide +kernel
theorem d2_186 : decode prog_110_method_5_code 186 = .ok (.ldc 46, 2) := by decide +kernel
theorem d2_188 : decode prog_110_method_5_code 188 = .ok (.if_icmp .gt 7, 3) := by decide +kernel
theorem d2_191 : decode prog_110_method_5_code 191 = .ok (.iconst 1, 1) := by decide +kernel
theorem d2_192 : decode prog_110_method_5_code 192 = .ok (.goto 4, 3) := by decide +kernel
theorem d2_195 : decode prog_110_method_5_code 195 = .ok (.iconst 0, 1) := by decide +kernel
theorem d2_196 : decode prog_110_method_5_code 196 = .ok (.ireturn, 1) := by decide +kernel
theorem pn_2 : plainName "com/example/ixel/ixel/util/XmlChars" = true := by first | (simp [plainName, overriddenIn]; done) | decide +kernel
theorem ef_2 (m : MethodId) (p0 : Int32) : entryFrame m #[(.int p0)] 1 = mkF m 0 #[.val (.int p0)] [] := by first | (simp [entryFrame, mkF, argsToLocals, Value.category]; done) | rfl
def f2_195 (p0 : Int32) : Int32 := (0 : Int32)
def f2_191 (p0 : Int32) : Int32 := (1 : Int32)
def f2_179 (p0 : Int32) : Int32 := if p0 < (65536 : Int32) then f2_195 p0 else if (983039 : Int32) < p0 then f2_195 p0 else f2_191 p0
def f2_167 (p0 : Int32) : Int32 := if p0 < (65008 : Int32) then f2_179 p0 else if (65533 : Int32) < p0 then f2_179 p0 else f2_191 p0
def f2_155 (p0 : Int32) : Int32 := if p0 < (63744 : Int32) then f2_167 p0 else if (64975 : Int32) < p0 then f2_167 p0 else f2_191 p0
def f2_142 (p0 : Int32) : Int32 := if p0 < (12289 : Int32) then f2_155 p0 else if (55295 : Int32) < p0 then f2_155 p0 else f2_191 p0
def f2_128 (p0 : Int32) : Int32 := if p0 < (11264 : Int32) then f2_142 p0 else if (12271 : Int32) < p0 then f2_142 p0 else f2_191 p0
def f2_114 (p0 : Int32) : Int32 := if p0 < (8304 : Int32) then f2_128 p0 else if (8591 : Int32) < p0 then f2_128 p0 else f2_191 p0
def f2_100 (p0 : Int32) : Int32 := if p0 < (8204 : Int32) then f2_114 p0 else if (8205 : Int32) < p0 then f2_114 p0 else f2_191 p0
def f2_86 (p0 : Int32) : Int32 := if p0 < (895 : Int32) then f2_100 p0 else if (8191 : Int32) < p0 then f2_100 p0 else f2_191 p0
def f2_72 (p0 : Int32) : Int32 := if p0 < (880 : Int32) then f2_86 p0 else if (893 : Int32) < p0 then f2_86 p0 else f2_191 p0
def f2_58 (p0 : Int32) : Int32 := if p0 < (248 : Int32) then f2_72 p0 else if (767 : Int32) < p0 then f2_72 p0 else f2_191 p0
def f2_44 (p0 : Int32) : Int32 := if p0 < (216 : Int32) then f2_58 p0 else if (246 : Int32) < p0 then f2_58 p0 else f2_191 p0
def f2_24 (p0 : Int32) : Int32 := if p0 = (95 : Int32) then f2_191 p0 else if p0 < (192 : Int32) then f2_44 p0 else if (214 : Int32) < p0 then f2_44 p0 else f2_191 p0
def f2_12 (p0 : Int32) : Int32 := if p0 < (65 : Int32) then f2_24 p0 else if (90 : Int32) < p0 then f2_24 p0 else f2_191 p0
def f2_0 (p0 : Int32) : Int32 := if p0 < (97 : Int32) then f2_12 p0 else if (122 : Int32) < p0 then f2_12 p0 else f2_191 p0
def Q2 (p0 : Int32) (h0 : Heap) (n0 : Nat) (v : Option Value) (h : Heap) (L : List Loc) : Prop := v = some (.int (f2_0 p0)) ∧ Fr n0 L ∧ h = h0
set_option maxRecDepth 65536 in
set_option maxHeartbeats 40000000 in
theorem rm2 (l : Launch) (Z : State) (a0 : Array Value) (hw : ∀ d ∈ tables_1, d.before a0 Z = true) (ws : List Jvm.Cond) (p0 : Int32)  (h0 : Heap) (n0 : Nat) (Z0 : n0 ≤ h0.size)  :
    MetFree l (⟨"com/example/ixel/ixel/util/XmlChars", "isNcNameStartChar", "(I)Z"⟩ : MethodName) (head1 (Jvm.Cond.code (⟨"com/example/ixel/ixel/util/XmlChars", "isNcNameStartChar", "(I)Z"⟩ : MethodName) prog_110_method_5_code 1 (some .boolean) :: ws) ({ frames := 0, cells := 0, slots := 0, locals := 0 } : Room)) (fun a U => a = #[(.int p0)] ∧ Z.Warmed39 U.vm ∧ U.heap = h0) (fun _ _ _ _ _ => True) (fun _ U o U' => ∃ v L, o = .returned v ∧ (Q2 p0 h0 n0) v U'.heap L ∧ FrameEnd U o U' L ({ frames := 0, cells := 0, slots := 0, locals := 0 } : Room).cells ({ frames := 0, cells := 0, slots := 0, locals := 0 } : Room).slots) := by
  refine MetFree.of_bodySF (plainFor_of_name pn_2) hisR ?_
  intro p e s m args below meth c s₁ Bd hml0 hP hK
  obtain ⟨rfl, hZ, hh⟩ := hP
  have hx := Bd.exec
  have hby := Bd.bytes
  have hml : c.maxLocals = 1 := hml0
  have hown : s.vm.findClass "com/example/ixel/ixel/util/XmlChars" = some m.cls := findClass_of_methodNamed Bd.named
  have hnm := (name_of_methodNamed Bd.named Bd.method).1
  have hlk : meth.locks = false := Bd.notSynchronized
  have X0 : Stand p l e ({ frames := 0, cells := 0, slots := 0, locals := 0 } : Room) s m #[(.int p0)] below meth c s₁ [] 0 0 := Stand.of_body Bd
  have e0 : s₁.heap = h0 := by rw [← hh, Bd.state]; rfl
  have N0 := Fr.nil n0
  refine Go.by (tb := p.tables) (e := e) (below := below) (F := fun t o => ∃ v L, o = .returned v ∧ (Q2 p0 h0 n0) v t.heap L ∧ FrameEnd s o t L ({ frames := 0, cells := 0, slots := 0, locals := 0 } : Room).cells ({ frames := 0, cells := 0, slots := 0, locals := 0 } : Room).slots) (fun t k => castTop (ef_2 m p0) k) ?_
  have J195 : ∀ (T : State) (locs : List Loc) (X : Stand p l e ({ frames := 0, cells := 0, slots := 0, locals := 0 } : Room) s m #[(.int p0)] below meth c T locs 0 0), T.heap = h0 → Fr n0 locs → f2_0 p0 = f2_195 p0 → Go p.tables e below (fun t o => ∃ v L, o = .returned v ∧ (Q2 p0 h0 n0) v t.heap L ∧ FrameEnd s o t L ({ frames := 0, cells := 0, slots := 0, locals := 0 } : Room).cells ({ frames := 0, cells := 0, slots := 0, locals := 0 } : Room).slots) (T.setTop (mkF m 195 #[.val (.int p0)] [])) := by
    intro T locs X eT N hv
    replace hv : f2_0 p0 = (0 : Int32) := hv
    show Go _ _ _ _ (T.setTop (mkF m 195 #[.val (.int p0)] []))
    refine Go.by (fun t k => XS.iconst X.here hx rfl (hb hby d2_195) k) ?_
    show Go _ _ _ _ (T.setTop (mkF m 196 #[.val (.int p0)] [(.int (0 : Int32))]))
    exact Go.retZ (Q := Q2 p0 h0 n0) X hx hlk Bd.returns (hb hby d2_196) ⟨by rw [hv]; rfl, N, eT⟩ (by decide) (by decide)
  have J191 : ∀ (T : State) (locs : List Loc) (X : Stand p l e ({ frames := 0, cells := 0, slots := 0, locals := 0 } : Room) s m #[(.int p0)] below meth c T locs 0 0), T.heap = h0 → Fr n0 locs → f2_0 p0 = f2_191 p0 → Go p.tables e below (fun t o => ∃ v L, o = .returned v ∧ (Q2 p0 h0 n0) v t.heap L ∧ FrameEnd s o t L ({ frames := 0, cells := 0, slots := 0, locals := 0 } : Room).cells ({ frames := 0, cells := 0, slots := 0, locals := 0 } : Room).slots) (T.setTop (mkF m 191 #[.val (.int p0)] [])) := by
    intro T locs X eT N hv
    replace hv : f2_0 p0 = (1 : Int32) := hv
    show Go _ _ _ _ (T.setTop (mkF m 191 #[.val (.int p0)] []))
    refine Go.by (fun t k => XS.iconst X.here hx rfl (hb hby d2_191) k) ?_
    show Go _ _ _ _ (T.setTop (mkF m 192 #[.val (.int p0)] [(.int (1 : Int32))]))
    refine Go.by (fun t k => XS.goto X.here hx rfl (pc0 := 192) (pc' := 196) rfl (hb hby d2_192) (by decide) (by decide) k) ?_
    show Go _ _ _ _ (T.setTop (mkF m 196 #[.val (.int p0)] [(.int (1 : Int32))]))
    exact Go.retZ (Q := Q2 p0 h0 n0) X hx hlk Bd.returns (hb hby d2_196) ⟨by rw [hv]; rfl, N, eT⟩ (by decide) (by decide)
  have J179 : ∀ (T : State) (locs : List Loc) (X : Stand p l e ({ frames := 0, cells := 0, slots := 0, locals := 0 } : Room) s m #[(.int p0)] below meth c T locs 0 0), T.heap = h0 → Fr n0 locs → f2_0 p0 = f2_179 p0 → Go p.tables e below (fun t o => ∃ v L, o = .returned v ∧ (Q2 p0 h0 n0) v t.heap L ∧ FrameEnd s o t L ({ frames := 0, cells := 0, slots := 0, locals := 0 } : Room).cells ({ frames := 0, cells := 0, slots := 0, locals := 0 } : Room).slots) (T.setTop (mkF m 179 #[.val (.int p0)] [])) := by
    intro T locs X eT N hv
    replace hv : f2_0 p0 = if p0 < (65536 : Int32) then f2_195 p0 else if (983039 : Int32) < p0 then f2_195 p0 else f2_191 p0 := hv
    show Go _ _ _ _ (T.setTop (mkF m 179 #[.val (.int p0)] []))
    refine Go.by (fun t k => XS.iloadN X.here hx rfl (hb hby d2_179) rfl k) ?_
    show Go _ _ _ _ (T.setTop (mkF m 180 #[.val (.int p0)] [(.int p0)]))
    refine Go.by (fun t k => X.ldcI hx hown (mvT hZ (hw _ (List.mem_of_getElem? (i := 21) rfl))) (g := (mkF m 180 #[.val (.int p0)] [(.int p0)])) rfl (hb hby d2_180) k) ?_
    show Go _ _ _ _ (T.setTop (mkF m 182 #[.val (.int p0)] [(.int (65536 : Int32)), (.int p0)]))
    by_cases hc182 : p0 < (65536 : Int32)
    · have hv := hv.trans (if_pos hc182)
      refine Go.by (fun t k => XS.icmpYes X.here hx rfl (pc0 := 182) (pc' := 195) rfl (hb hby d2_182) rfl (XT.ii_lt_t hc182) (by decide) (by decide) k) ?_
      exact J195 T _ X eT N hv
    · have hv := hv.trans (if_neg hc182)
      refine Go.by (fun t k => XS.icmpNo X.here hx rfl (hb hby d2_182) rfl (XT.ii_lt_f hc182) k) ?_
      show Go _ _ _ _ (T.setTop (mkF m 185 #[.val (.int p0)] []))
      refine Go.by (fun t k => XS.iloadN X.here hx rfl (hb hby d2_185) rfl k) ?_
      show Go _ _ _ _ (T.setTop (mkF m 186 #[.val (.int p0)] [(.int p0)]))
      refine Go.by (fun t k => X.ldcI hx hown (mvT hZ (hw _ (List.mem_of_getElem? (i := 29) rfl))) (g := (mkF m 186 #[.val (.int p0)] [(.int p0)])) rfl (hb hby d2_186) k) ?_
      show Go _ _ _ _ (T.setTop (mkF m 188 #[.val (.int p0)] [(.int (983039 : Int32)), (.int p0)]))
      by_cases hc188 : (983039 : Int32) < p0
      · have hv := hv.trans (if_pos hc188)
        refine Go.by (fun t k => XS.icmpYes X.here hx rfl (pc0 := 188) (pc' := 195) rfl (hb hby d2_188) rfl (XT.ii_gt_t hc188) (by decide) (by decide) k) ?_
        exact J195 T _ X eT N hv
      · have hv := hv.trans (if_neg hc188)
        refine Go.by (fun t k => XS.icmpNo X.here hx rfl (hb hby d2_188) rfl (XT.ii_gt_f hc188) k) ?_
        exact J191 T _ X eT N hv
  have J167 : ∀ (T : State) (locs : List Loc) (X : Stand p l e ({ frames := 0, cells := 0, slots := 0, locals := 0 } : Room) s m #[(.int p0)] below meth c T locs 0 0), T.heap = h0 → Fr n0 locs → f2_0 p0 = f2_167 p0 → Go p.tables e below (fun t o => ∃ v L, o = .returned v ∧ (Q2 p0 h0 n0) v t.heap L ∧ FrameEnd s o t L ({ frames := 0, cells := 0, slots := 0, locals := 0 } : Room).cells ({ frames := 0, cells := 0, slots := 0, locals := 0 } : Room).slots) (T.setTop (mkF m 167 #[.val (.int p0)] [])) := by
    intro T locs X eT N hv
    replace hv : f2_0 p0 = if p0 < (65008 : Int32) then f2_179 p0 else if (65533 : Int32) < p0 then f2_179 p0 else f2_191 p0 := hv
    show Go _ _ _ _ (T.setTop (mkF m 167 #[.val (.int p0)] []))
    refine Go.by (fun t k => XS.iloadN X.here hx rfl (hb hby d2_167) rfl k) ?_
    show Go _ _ _ _ (T.setTop (mkF m 168 #[.val (.int p0)] [(.int p0)]))
    refine Go.by (fun t k => X.ldcI hx hown (mvT hZ (hw _ (List.mem_of_getElem? (i := 20) rfl))) (g := (mkF m 168 #[.val (.int p0)] [(.int p0)])) rfl (hb hby d2_168) k) ?_
    show Go _ _ _ _ (T.setTop (mkF m 170 #[.val (.int p0)] [(.int (65008 : Int32)), (.int p0)]))
    by_cases hc170 : p0 < (65008 : Int32)
    · have hv := hv.trans (if_pos hc170)
      refine Go.by (fun t k => XS.icmpYes X.here hx rfl (pc0 := 170) (pc' := 179) rfl (hb hby d2_170) rfl (XT.ii_lt_t hc170) (by decide) (by decide) k) ?_
      exact J179 T _ X eT N hv
    · have hv := hv.trans (if_neg hc170)
      refine Go.by (fun t k => XS.icmpNo X.here hx rfl (hb hby d2_170) rfl (XT.ii_lt_f hc170) k) ?_
      show Go _ _ _ _ (T.setTop (mkF m 173 #[.val (.int p0)] []))
      refine Go.by (fun t k => XS.iloadN X.here hx rfl (hb hby d2_173) rfl k) ?_
      show Go _ _ _ _ (T.setTop (mkF m 174 #[.val (.int p0)] [(.int p0)]))
      refine Go.by (fun t k => X.ldcI hx hown (mvT hZ (hw _ (List.mem_of_getElem? (i := 28) rfl))) (g := (mkF m 174 #[.val (.int p0)] [(.int p0)])) rfl (hb hby d2_174) k) ?_
      show Go _ _ _ _ (T.setTop (mkF m 176 #[.val (.int p0)] [(.int (65533 : Int32)), (.int p0)]))
      by_cases hc176 : (65533 : Int32) < p0
      · have hv := hv.trans (if_pos hc176)
        refine Go.by (fun t k => XS.icmpNo X.here hx rfl (hb hby d2_176) rfl (XT.ii_le_f hc176) k) ?_
        exact J179 T _ X eT N hv
      · have hv := hv.trans (if_neg hc176)
        refine Go.by (fun t k => XS.icmpYes X.here hx rfl (pc0 := 176) (pc' := 191) rfl (hb hby d2_176) rfl (XT.ii_le_t hc176) (by decide) (by decide) k) ?_
        exact J191 T _ X eT N hv
  have J155 : ∀ (T : State) (locs : List Loc) (X : Stand p l e ({ frames := 0, cells := 0, slots := 0, locals := 0 } : Room) s m #[(.int p0)] below meth c T locs 0 0), T.heap = h0 → Fr n0 locs → f2_0 p0 = f2_155 p0 → Go p.tables e below (fun t o => ∃ v L, o = .returned v ∧ (Q2 p0 h0 n0) v t.heap L ∧ FrameEnd s o t L ({ frames := 0, cells := 0, slots := 0, locals := 0 } : Room).cells ({ frames := 0, cells := 0, slots := 0, locals := 0 } : Room).slots) (T.setTop (mkF m 155 #[.val (.int p0)] [])) := by
    intro T locs X eT N hv
    replace hv : f2_0 p0 = if p0 < (63744 : Int32) then f2_167 p0 else if (64975 : Int32) < p0 then f2_167 p0 else f2_191 p0 := hv
    show Go _ _ _ _ (T.setTop (mkF m 155 #[.val (.int p0)] []))
    refine Go.by (fun t k => XS.iloadN X.here hx rfl (hb hby d2_155) rfl k) ?_
    show Go _ _ _ _ (T.setTop (mkF m 156 #[.val (.int p0)] [(.int p0)]))
    refine Go.by (fun t k => X.ldcI hx hown (mvT hZ (hw _ (List.mem_of_getElem? (i := 19) rfl))) (g := (mkF m 156 #[.val (.int p0)] [(.int p0)])) rfl (hb hby d2_156) k) ?_
    show Go _ _ _ _ (T.setTop (mkF m 158 #[.val (.int p0)] [(.int (63744 : Int32)), (.int p0)]))
    by_cases hc158 : p0 < (63744 : Int32)
    · have hv := hv.trans (if_pos hc158)
      refine Go.by (fun t k => XS.icmpYes X.here hx rfl (pc0 := 158) (pc' := 167) rfl (hb hby d2_158) rfl (XT.ii_lt_t hc158) (by decide) (by decide) k) ?_
      exact J167 T _ X eT N hv
    · have hv := hv.trans (if_neg hc158)
      refine Go.by (fun t k => XS.icmpNo X.here hx rfl (hb hby d2_158) rfl (XT.ii_lt_f hc158) k) ?_
      show Go _ _ _ _ (T.setTop (mkF m 161 #[.val (.int p0)] []))
      refine Go.by (fun t k => XS.iloadN X.here hx rfl (hb hby d2_161) rfl k) ?_
      show Go _ _ _ _ (T.setTop (mkF m 162 #[.val (.int p0)] [(.int p0)]))
      refine Go.by (fun t k => X.ldcI hx hown (mvT hZ (hw _ (List.mem_of_getElem? (i := 27) rfl))) (g := (mkF m 162 #[.val (.int p0)] [(.int p0)])) rfl (hb hby d2_162) k) ?_
      show Go _ _ _ _ (T.setTop (mkF m 164 #[.val (.int p0)] [(.int (64975 : Int32)), (.int p0)]))
      by_cases hc164 : (64975 : Int32) < p0
      · have hv := hv.trans (if_pos hc164)
        refine Go.by (fun t k => XS.icmpNo X.here hx rfl (hb hby d2_164) rfl (XT.ii_le_f hc164) k) ?_
        exact J167 T _ X eT N hv
      · have hv := hv.trans (if_neg hc164)
        refine Go.by (fun t k => XS.icmpYes X.here hx rfl (pc0 := 164) (pc' := 191) rfl (hb hby d2_164) rfl (XT.ii_le_t hc164) (by decide) (by decide) k) ?_
        exact J191 T _ X eT N hv
  have J142 : ∀ (T : State) (locs : List Loc) (X : Stand p l e ({ frames := 0, cells := 0, slots := 0, locals := 0 } : Room) s m #[(.int p0)] below meth c T locs 0 0), T.heap = h0 → Fr n0 locs → f2_0 p0 = f2_142 p0 → Go p.tables e below (fun t o => ∃ v L, o = .returned v ∧ (Q2 p0 h0 n0) v t.heap L ∧ FrameEnd s o t L ({ frames := 0, cells := 0, slots := 0, locals := 0 } : Room).cells ({ frames := 0, cells := 0, slots := 0, locals := 0 } : Room).slots) (T.setTop (mkF m 142 #[.val (.int p0)] [])) := by
    intro T locs X eT N hv
    replace hv : f2_0 p0 = if p0 < (12289 : Int32) then f2_155 p0 else if (55295 : Int32) < p0 then f2_155 p0 else f2_191 p0 := hv
    show Go _ _ _ _ (T.setTop (mkF m 142 #[.val (.int p0)] []))
    refine Go.by (fun t k => XS.iloadN X.here hx rfl (hb hby d2_142) rfl k) ?_
    show Go _ _ _ _ (T.setTop (mkF m 143 #[.val (.int p0)] [(.int p0)]))
    refine Go.by (fun t k => XS.sipush X.here hx rfl (hb hby d2_143) k) ?_
    show Go _ _ _ _ (T.setTop (mkF m 146 #[.val (.int p0)] [(.int (12289 : Int32)), (.int p0)]))
    by_cases hc146 : p0 < (12289 : Int32)
    · have hv := hv.trans (if_pos hc146)
      refine Go.by (fun t k => XS.icmpYes X.here hx rfl (pc0 := 146) (pc' := 155) rfl (hb hby d2_146) rfl (XT.ii_lt_t hc146) (by decide) (by decide) k) ?_
      exact J155 T _ X eT N hv
    · have hv := hv.trans (if_neg hc146)
      refine Go.by (fun t k => XS.icmpNo X.here hx rfl (hb hby d2_146) rfl (XT.ii_lt_f hc146) k) ?_
      show Go _ _ _ _ (T.setTop (mkF m 149 #[.val (.int p0)] []))
      refine Go.by (fun t k => XS.iloadN X.here hx rfl (hb hby d2_149) rfl k) ?_
      show Go _ _ _ _ (T.setTop (mkF m 150 #[.val (.int p0)] [(.int p0)]))
      refine Go.by (fun t k => X.ldcI hx hown (mvT hZ (hw _ (List.mem_of_getElem? (i := 26) rfl))) (g := (mkF m 150 #[.val (.int p0)] [(.int p0)])) rfl (hb hby d2_150) k) ?_
      show Go _ _ _ _ (T.setTop (mkF m 152 #[.val (.int p0)] [(.int (55295 : Int32)), (.int p0)]))
      by_cases hc152 : (55295 : Int32) < p0
      · have hv := hv.trans (if_pos hc152)
        refine Go.by (fun t k => XS.icmpNo X.here hx rfl (hb hby d2_152) rfl (XT.ii_le_f hc152) k) ?_
        exact J155 T _ X eT N hv
      · have hv := hv.trans (if_neg hc152)
        refine Go.by (fun t k => XS.icmpYes X.here hx rfl (pc0 := 152) (pc' := 191) rfl (hb hby d2_152) rfl (XT.ii_le_t hc152) (by decide) (by decide) k) ?_
        exact J191 T _ X eT N hv
  have J128 : ∀ (T : State) (locs : List Loc) (X : Stand p l e ({ frames := 0, cells := 0, slots := 0, locals := 0 } : Room) s m #[(.int p0)] below meth c T locs 0 0), T.heap = h0 → Fr n0 locs → f2_0 p0 = f2_128 p0 → Go p.tables e below (fun t o => ∃ v L, o = .returned v ∧ (Q2 p0 h0 n0) v t.heap L ∧ FrameEnd s o t L ({ frames := 0, cells := 0, slots := 0, locals := 0 } : Room).cells ({ frames := 0, cells := 0, slots := 0, locals := 0 } : Room).slots) (T.setTop (mkF m 128 #[.val (.int p0)] [])) := by
    intro T locs X eT N hv
    replace hv : f2_0 p0 = if p0 < (11264 : Int32) then f2_142 p0 else if (12271 : Int32) < p0 then f2_142 p0 else f2_191 p0 := hv
    show Go _ _ _ _ (T.setTop (mkF m 128 #[.val (.int p0)] []))
    refine Go.by (fun t k => XS.iloadN X.here hx rfl (hb hby d2_128) rfl k) ?_
    show Go _ _ _ _ (T.setTop (mkF m 129 #[.val (.int p0)] [(.int p0)]))
    refine Go.by (fun t k => XS.sipush X.here hx rfl (hb hby d2_129) k) ?_
    show Go _ _ _ _ (T.setTop (mkF m 132 #[.val (.int p0)] [(.int (11264 : Int32)), (.int p0)]))
    by_cases hc132 : p0 < (11264 : Int32)
    · have hv := hv.trans (if_pos hc132)
      refine Go.by (fun t k => XS.icmpYes X.here hx rfl (pc0 := 132) (pc' := 142) rfl (hb hby d2_132) rfl (XT.ii_lt_t hc132) (by decide) (by decide) k) ?_
      exact J142 T _ X eT N hv
    · have hv := hv.trans (if_neg hc132)
      refine Go.by (fun t k => XS.icmpNo X.here hx rfl (hb hby d2_132) rfl (XT.ii_lt_f hc132) k) ?_
      show Go _ _ _ _ (T.setTop (mkF m 135 #[.val (.int p0)] []))
      refine Go.by (fun t k => XS.iloadN X.here hx rfl (hb hby d2_135) rfl k) ?_
      show Go _ _ _ _ (T.setTop (mkF m 136 #[.val (.int p0)] [(.int p0)]))
      refine Go.by (fun t k => XS.sipush X.here hx rfl (hb hby d2_136) k) ?_
      show Go _ _ _ _ (T.setTop (mkF m 139 #[.val (.int p0)] [(.int (12271 : Int32)), (.int p0)]))
      by_cases hc139 : (12271 : Int32) < p0
      · have hv := hv.trans (if_pos hc139)
        refine Go.by (fun t k => XS.icmpNo X.here hx rfl (hb hby d2_139) rfl (XT.ii_le_f hc139) k) ?_
        exact J142 T _ X eT N hv
      · have hv := hv.trans (if_neg hc139)
        refine Go.by (fun t k => XS.icmpYes X.here hx rfl (pc0 := 139) (pc' := 191) rfl (hb hby d2_139) rfl (XT.ii_le_t hc139) (by decide) (by decide) k) ?_
        exact J191 T _ X eT N hv
  have J114 : ∀ (T : State) (locs : List Loc) (X : Stand p l e ({ frames := 0, cells := 0, slots := 0, locals := 0 } : Room) s m #[(.int p0)] below meth c T locs 0 0), T.heap = h0 → Fr n0 locs → f2_0 p0 = f2_114 p0 → Go p.tables e below (fun t o => ∃ v L, o = .returned v ∧ (Q2 p0 h0 n0) v t.heap L ∧ FrameEnd s o t L ({ frames := 0, cells := 0, slots := 0, locals := 0 } : Room).cells ({ frames := 0, cells := 0, slots := 0, locals := 0 } : Room).slots) (T.setTop (mkF m 114 #[.val (.int p0)] [])) := by
    intro T locs X eT N hv
    replace hv : f2_0 p0 = if p0 < (8304 : Int32) then f2_128 p0 else if (8591 : Int32) < p0 then f2_128 p0 else f2_191 p0 := hv
    show Go _ _ _ _ (T.setTop (mkF m 114 #[.val (.int p0)] []))
    refine Go.by (fun t k => XS.iloadN X.here hx rfl (hb hby d2_114) rfl k) ?_
    show Go _ _ _ _ (T.setTop (mkF m 115 #[.val (.int p0)] [(.int p0)]))
    refine Go.by (fun t k => XS.sipush X.here hx rfl (hb hby d2_115) k) ?_
    show Go _ _ _ _ (T.setTop (mkF m 118 #[.val (.int p0)] [(.int (8304 : Int32)), (.int p0)]))
    by_cases hc118 : p0 < (8304 : Int32)
    · have hv := hv.trans (if_pos hc118)
      refine Go.by (fun t k => XS.icmpYes X.here hx rfl (pc0 := 118) (pc' := 128) rfl (hb hby d2_118) rfl (XT.ii_lt_t hc118) (by decide) (by decide) k) ?_
      exact J128 T _ X eT N hv
    · have hv := hv.trans (if_neg hc118)
      refine Go.by (fun t k => XS.icmpNo X.here hx rfl (hb hby d2_118) rfl (XT.ii_lt_f hc118) k) ?_
      show Go _ _ _ _ (T.setTop (mkF m 121 #[.val (.int p0)] []))
      refine Go.by (fun t k => XS.iloadN X.here hx rfl (hb hby d2_121) rfl k) ?_
      show Go _ _ _ _ (T.setTop (mkF m 122 #[.val (.int p0)] [(.int p0)]))
      refine Go.by (fun t k => XS.sipush X.here hx rfl (hb hby d2_122) k) ?_
      show Go _ _ _ _ (T.setTop (mkF m 125 #[.val (.int p0)] [(.int (8591 : Int32)), (.int p0)]))
      by_cases hc125 : (8591 : Int32) < p0
      · have hv := hv.trans (if_pos hc125)
        refine Go.by (fun t k => XS.icmpNo X.here hx rfl (hb hby d2_125) rfl (XT.ii_le_f hc125) k) ?_
        exact J128 T _ X eT N hv
      · have hv := hv.trans (if_neg hc125)
        refine Go.by (fun t k => XS.icmpYes X.here hx rfl (pc0 := 125) (pc' := 191) rfl (hb hby d2_125) rfl (XT.ii_le_t hc125) (by decide) (by decide) k) ?_
        exact J191 T _ X eT N hv
  have J100 : ∀ (T : State) (locs : List Loc) (X : Stand p l e ({ frames := 0, cells := 0, slots := 0, locals := 0 } : Room) s m #[(.int p0)] below meth c T locs 0 0), T.heap = h0 → Fr n0 locs → f2_0 p0 = f2_100 p0 → Go p.tables e below (fun t o => ∃ v L, o = .returned v ∧ (Q2 p0 h0 n0) v t.heap L ∧ FrameEnd s o t L ({ frames := 0, cells := 0, slots := 0, locals := 0 } : Room).cells ({ frames := 0, cells := 0, slots := 0, locals := 0 } : Room).slots) (T.setTop (mkF m 100 #[.val (.int p0)] [])) := by
    intro T locs X eT N hv
    replace hv : f2_0 p0 = if p0 < (8204 : Int32) then f2_114 p0 else if (8205 : Int32) < p0 then f2_114 p0 else f2_191 p0 := hv
    show Go _ _ _ _ (T.setTop (mkF m 100 #[.val (.int p0)] []))
    refine Go.by (fun t k => XS.iloadN X.here hx rfl (hb hby d2_100) rfl k) ?_
    show Go _ _ _ _ (T.setTop (mkF m 101 #[.val (.int p0)] [(.int p0)]))
    refine Go.by (fun t k => XS.sipush X.here hx rfl (hb hby d2_101) k) ?_
    show Go _ _ _ _ (T.setTop (mkF m 104 #[.val (.int p0)] [(.int (8204 : Int32)), (.int p0)]))
    by_cases hc104 : p0 < (8204 : Int32)
    · have hv := hv.trans (if_pos hc104)
      refine Go.by (fun t k => XS.icmpYes X.here hx rfl (pc0 := 104) (pc' := 114) rfl (hb hby d2_104) rfl (XT.ii_lt_t hc104) (by decide) (by decide) k) ?_
      exact J114 T _ X eT N hv
    · have hv := hv.trans (if_neg hc104)
      refine Go.by (fun t k => XS.icmpNo X.here hx rfl (hb hby d2_104) rfl (XT.ii_lt_f hc104) k) ?_
      show Go _ _ _ _ (T.setTop (mkF m 107 #[.val (.int p0)] []))
      refine Go.by (fun t k => XS.iloadN X.here hx rfl (hb hby d2_107) rfl k) ?_
      show Go _ _ _ _ (T.setTop (mkF m 108 #[.val (.int p0)] [(.int p0)]))
      refine Go.by (fun t k => XS.sipush X.here hx rfl (hb hby d2_108) k) ?_
      show Go _ _ _ _ (T.setTop (mkF m 111 #[.val (.int p0)] [(.int (8205 : Int32)), (.int p0)]))
      by_cases hc111 : (8205 : Int32) < p0
      · have hv := hv.trans (if_pos hc111)
        refine Go.by (fun t k => XS.icmpNo X.here hx rfl (hb hby d2_111) rfl (XT.ii_le_f hc111) k) ?_
        exact J114 T _ X eT N hv
      · have hv := hv.trans (if_neg hc111)
        refine Go.by (fun t k => XS.icmpYes X.here hx rfl (pc0 := 111) (pc' := 191) rfl (hb hby d2_111) rfl (XT.ii_le_t hc111) (by decide) (by decide) k) ?_
        exact J191 T _ X eT N hv
  have J86 : ∀ (T : State) (locs : List Loc) (X : Stand p l e ({ frames := 0, cells := 0, slots := 0, locals := 0 } : Room) s m #[(.int p0)] below meth c T locs 0 0), T.heap = h0 → Fr n0 locs → f2_0 p0 = f2_86 p0 → Go p.tables e below (fun t o => ∃ v L, o = .returned v ∧ (Q2 p0 h0 n0) v t.heap L ∧ FrameEnd s o t L ({ frames := 0, cells := 0, slots := 0, locals := 0 } : Room).cells ({ frames := 0, cells := 0, slots := 0, locals := 0 } : Room).slots) (T.setTop (mkF m 86 #[.val (.int p0)] [])) := by
    intro T locs X eT N hv
    replace hv : f2_0 p0 = if p0 < (895 : Int32) then f2_100 p0 else if (8191 : Int32) < p0 then f2_100 p0 else f2_191 p0 := hv
    show Go _ _ _ _ (T.setTop (mkF m 86 #[.val (.int p0)] []))
    refine Go.by (fun t k => XS.iloadN X.here hx rfl (hb hby d2_86) rfl k) ?_
    show Go _ _ _ _ (T.setTop (mkF m 87 #[.val (.int p0)] [(.int p0)]))
    refine Go.by (fun t k => XS.sipush X.here hx rfl (hb hby d2_87) k) ?_
    show Go _ _ _ _ (T.setTop (mkF m 90 #[.val (.int p0)] [(.int (895 : Int32)), (.int p0)]))
    by_cases hc90 : p0 < (895 : Int32)
    · have hv := hv.trans (if_pos hc90)
      refine Go.by (fun t k => XS.icmpYes X.here hx rfl (pc0 := 90) (pc' := 100) rfl (hb hby d2_90) rfl (XT.ii_lt_t hc90) (by decide) (by decide) k) ?_
      exact J100 T _ X eT N hv
    · have hv := hv.trans (if_neg hc90)
      refine Go.by (fun t k => XS.icmpNo X.here hx rfl (hb hby d2_90) rfl (XT.ii_lt_f hc90) k) ?_
      show Go _ _ _ _ (T.setTop (mkF m 93 #[.val (.int p0)] []))
      refine Go.by (fun t k => XS.iloadN X.here hx rfl (hb hby d2_93) rfl k) ?_
      show Go _ _ _ _ (T.setTop (mkF m 94 #[.val (.int p0)] [(.int p0)]))
      refine Go.by (fun t k => XS.sipush X.here hx rfl (hb hby d2_94) k) ?_
      show Go _ _ _ _ (T.setTop (mkF m 97 #[.val (.int p0)] [(.int (8191 : Int32)), (.int p0)]))
      by_cases hc97 : (8191 : Int32) < p0
      · have hv := hv.trans (if_pos hc97)
        refine Go.by (fun t k => XS.icmpNo X.here hx rfl (hb hby d2_97) rfl (XT.ii_le_f hc97) k) ?_
        exact J100 T _ X eT N hv
      · have hv := hv.trans (if_neg hc97)
        refine Go.by (fun t k => XS.icmpYes X.here hx rfl (pc0 := 97) (pc' := 191) rfl (hb hby d2_97) rfl (XT.ii_le_t hc97) (by decide) (by decide) k) ?_
        exact J191 T _ X eT N hv
  have J72 : ∀ (T : State) (locs : List Loc) (X : Stand p l e ({ frames := 0, cells := 0, slots := 0, locals := 0 } : Room) s m #[(.int p0)] below meth c T locs 0 0), T.heap = h0 → Fr n0 locs → f2_0 p0 = f2_72 p0 → Go p.tables e below (fun t o => ∃ v L, o = .returned v ∧ (Q2 p0 h0 n0) v t.heap L ∧ FrameEnd s o t L ({ frames := 0, cells := 0, slots := 0, locals := 0 } : Room).cells ({ frames := 0, cells := 0, slots := 0, locals := 0 } : Room).slots) (T.setTop (mkF m 72 #[.val (.int p0)] [])) := by
    intro T locs X eT N hv
    replace hv : f2_0 p0 = if p0 < (880 : Int32) then f2_86 p0 else if (893 : Int32) < p0 then f2_86 p0 else f2_191 p0 := hv
    show Go _ _ _ _ (T.setTop (mkF m 72 #[.val (.int p0)] []))
    refine Go.by (fun t k => XS.iloadN X.here hx rfl (hb hby d2_72) rfl k) ?_
    show Go _ _ _ _ (T.setTop (mkF m 73 #[.val (.int p0)] [(.int p0)]))
    refine Go.by (fun t k => XS.sipush X.here hx rfl (hb hby d2_73) k) ?_
    show Go _ _ _ _ (T.setTop (mkF m 76 #[.val (.int p0)] [(.int (880 : Int32)), (.int p0)]))
    by_cases hc76 : p0 < (880 : Int32)
    · have hv := hv.trans (if_pos hc76)
      refine Go.by (fun t k => XS.icmpYes X.here hx rfl (pc0 := 76) (pc' := 86) rfl (hb hby d2_76) rfl (XT.ii_lt_t hc76) (by decide) (by decide) k) ?_
      exact J86 T _ X eT N hv
    · have hv := hv.trans (if_neg hc76)
      refine Go.by (fun t k => XS.icmpNo X.here hx rfl (hb hby d2_76) rfl (XT.ii_lt_f hc76) k) ?_
      show Go _ _ _ _ (T.setTop (mkF m 79 #[.val (.int p0)] []))
      refine Go.by (fun t k => XS.iloadN X.here hx rfl (hb hby d2_79) rfl k) ?_
      show Go _ _ _ _ (T.setTop (mkF m 80 #[.val (.int p0)] [(.int p0)]))
      refine Go.by (fun t k => XS.sipush X.here hx rfl (hb hby d2_80) k) ?_
      show Go _ _ _ _ (T.setTop (mkF m 83 #[.val (.int p0)] [(.int (893 : Int32)), (.int p0)]))
      by_cases hc83 : (893 : Int32) < p0
      · have hv := hv.trans (if_pos hc83)
        refine Go.by (fun t k => XS.icmpNo X.here hx rfl (hb hby d2_83) rfl (XT.ii_le_f hc83) k) ?_
        exact J86 T _ X eT N hv
      · have hv := hv.trans (if_neg hc83)
        refine Go.by (fun t k => XS.icmpYes X.here hx rfl (pc0 := 83) (pc' := 191) rfl (hb hby d2_83) rfl (XT.ii_le_t hc83) (by decide) (by decide) k) ?_
        exact J191 T _ X eT N hv
  have J58 : ∀ (T : State) (locs : List Loc) (X : Stand p l e ({ frames := 0, cells := 0, slots := 0, locals := 0 } : Room) s m #[(.int p0)] below meth c T locs 0 0), T.heap = h0 → Fr n0 locs → f2_0 p0 = f2_58 p0 → Go p.tables e below (fun t o => ∃ v L, o = .returned v ∧ (Q2 p0 h0 n0) v t.heap L ∧ FrameEnd s o t L ({ frames := 0, cells := 0, slots := 0, locals := 0 } : Room).cells ({ frames := 0, cells := 0, slots := 0, locals := 0 } : Room).slots) (T.setTop (mkF m 58 #[.val (.int p0)] [])) := by
    intro T locs X eT N hv
    replace hv : f2_0 p0 = if p0 < (248 : Int32) then f2_72 p0 else if (767 : Int32) < p0 then f2_72 p0 else f2_191 p0 := hv
    show Go _ _ _ _ (T.setTop (mkF m 58 #[.val (.int p0)] []))
    refine Go.by (fun t k => XS.iloadN X.here hx rfl (hb hby d2_58) rfl k) ?_
    show Go _ _ _ _ (T.setTop (mkF m 59 #[.val (.int p0)] [(.int p0)]))
    refine Go.by (fun t k => XS.sipush X.here hx rfl (hb hby d2_59) k) ?_
    show Go _ _ _ _ (T.setTop (mkF m 62 #[.val (.int p0)] [(.int (248 : Int32)), (.int p0)]))
    by_cases hc62 : p0 < (248 : Int32)
    · have hv := hv.trans (if_pos hc62)
      refine Go.by (fun t k => XS.icmpYes X.here hx rfl (pc0 := 62) (pc' := 72) rfl (hb hby d2_62) rfl (XT.ii_lt_t hc62) (by decide) (by decide) k) ?_
      exact J72 T _ X eT N hv
    · have hv := hv.trans (if_neg hc62)
      refine Go.by (fun t k => XS.icmpNo X.here hx rfl (hb hby d2_62) rfl (XT.ii_lt_f hc62) k) ?_
      show Go _ _ _ _ (T.setTop (mkF m 65 #[.val (.int p0)] []))
      refine Go.by (fun t k => XS.iloadN X.here hx rfl (hb hby d2_65) rfl k) ?_
      show Go _ _ _ _ (T.setTop (mkF m 66 #[.val (.int p0)] [(.int p0)]))
      refine Go.by (fun t k => XS.sipush X.here hx rfl (hb hby d2_66) k) ?_
      show Go _ _ _ _ (T.setTop (mkF m 69 #[.val (.int p0)] [(.int (767 : Int32)), (.int p0)]))
      by_cases hc69 : (767 : Int32) < p0
      · have hv := hv.trans (if_pos hc69)
        refine Go.by (fun t k => XS.icmpNo X.here hx rfl (hb hby d2_69) rfl (XT.ii_le_f hc69) k) ?_
        exact J72 T _ X eT N hv
      · have hv := hv.trans (if_neg hc69)
        refine Go.by (fun t k => XS.icmpYes X.here hx rfl (pc0 := 69) (pc' := 191) rfl (hb hby d2_69) rfl (XT.ii_le_t hc69) (by decide) (by decide) k) ?_
        exact J191 T _ X eT N hv
  have J44 : ∀ (T : State) (locs : List Loc) (X : Stand p l e ({ frames := 0, cells := 0, slots := 0, locals := 0 } : Room) s m #[(.int p0)] below meth c T locs 0 0), T.heap = h0 → Fr n0 locs → f2_0 p0 = f2_44 p0 → Go p.tables e below (fun t o => ∃ v L, o = .returned v ∧ (Q2 p0 h0 n0) v t.heap L ∧ FrameEnd s o t L ({ frames := 0, cells := 0, slots := 0, locals := 0 } : Room).cells ({ frames := 0, cells := 0, slots := 0, locals := 0 } : Room).slots) (T.setTop (mkF m 44 #[.val (.int p0)] [])) := by
    intro T locs X eT N hv
    replace hv : f2_0 p0 = if p0 < (216 : Int32) then f2_58 p0 else if (246 : Int32) < p0 then f2_58 p0 else f2_191 p0 := hv
    show Go _ _ _ _ (T.setTop (mkF m 44 #[.val (.int p0)] []))
    refine Go.by (fun t k => XS.iloadN X.here hx rfl (hb hby d2_44) rfl k) ?_
    show Go _ _ _ _ (T.setTop (mkF m 45 #[.val (.int p0)] [(.int p0)]))
    refine Go.by (fun t k => XS.sipush X.here hx rfl (hb hby d2_45) k) ?_
    show Go _ _ _ _ (T.setTop (mkF m 48 #[.val (.int p0)] [(.int (216 : Int32)), (.int p0)]))
    by_cases hc48 : p0 < (216 : Int32)
    · have hv := hv.trans (if_pos hc48)
      refine Go.by (fun t k => XS.icmpYes X.here hx rfl (pc0 := 48) (pc' := 58) rfl (hb hby d2_48) rfl (XT.ii_lt_t hc48) (by decide) (by decide) k) ?_
      exact J58 T _ X eT N hv
    · have hv := hv.trans (if_neg hc48)
      refine Go.by (fun t k => XS.icmpNo X.here hx rfl (hb hby d2_48) rfl (XT.ii_lt_f hc48) k) ?_
      show Go _ _ _ _ (T.setTop (mkF m 51 #[.val (.int p0)] []))
      refine Go.by (fun t k => XS.iloadN X.here hx rfl (hb hby d2_51) rfl k) ?_
      show Go _ _ _ _ (T.setTop (mkF m 52 #[.val (.int p0)] [(.int p0)]))
      refine Go.by (fun t k => XS.sipush X.here hx rfl (hb hby d2_52) k) ?_
      show Go _ _ _ _ (T.setTop (mkF m 55 #[.val (.int p0)] [(.int (246 : Int32)), (.int p0)]))
      by_cases hc55 : (246 : Int32) < p0
      · have hv := hv.trans (if_pos hc55)
        refine Go.by (fun t k => XS.icmpNo X.here hx rfl (hb hby d2_55) rfl (XT.ii_le_f hc55) k) ?_
        exact J58 T _ X eT N hv
      · have hv := hv.trans (if_neg hc55)
        refine Go.by (fun t k => XS.icmpYes X.here hx rfl (pc0 := 55) (pc' := 191) rfl (hb hby d2_55) rfl (XT.ii_le_t hc55) (by decide) (by decide) k) ?_
        exact J191 T _ X eT N hv
  have J24 : ∀ (T : State) (locs : List Loc) (X : Stand p l e ({ frames := 0, cells := 0, slots := 0, locals := 0 } : Room) s m #[(.int p0)] below meth c T locs 0 0), T.heap = h0 → Fr n0 locs → f2_0 p0 = f2_24 p0 → Go p.tables e below (fun t o => ∃ v L, o = .returned v ∧ (Q2 p0 h0 n0) v t.heap L ∧ FrameEnd s o t L ({ frames := 0, cells := 0, slots := 0, locals := 0 } : Room).cells ({ frames := 0, cells := 0, slots := 0, locals := 0 } : Room).slots) (T.setTop (mkF m 24 #[.val (.int p0)] [])) := by
    intro T locs X eT N hv
    replace hv : f2_0 p0 = if p0 = (95 : Int32) then f2_191 p0 else if p0 < (192 : Int32) then f2_44 p0 else if (214 : Int32) < p0 then f2_44 p0 else f2_191 p0 := hv
    show Go _ _ _ _ (T.setTop (mkF m 24 #[.val (.int p0)] []))
    refine Go.by (fun t k => XS.iloadN X.here hx rfl (hb hby d2_24) rfl k) ?_
    show Go _ _ _ _ (T.setTop (mkF m 25 #[.val (.int p0)] [(.int p0)]))
    refine Go.by (fun t k => XS.bipush X.here hx rfl (hb hby d2_25) k) ?_
    show Go _ _ _ _ (T.setTop (mkF m 27 #[.val (.int p0)] [(.int (95 : Int32)), (.int p0)]))
    by_cases hc27 : p0 = (95 : Int32)
    · have hv := hv.trans (if_pos hc27)
      refine Go.by (fun t k => XS.icmpYes X.here hx rfl (pc0 := 27) (pc' := 191) rfl (hb hby d2_27) rfl (XT.ii_eq_t hc27) (by decide) (by decide) k) ?_
      exact J191 T _ X eT N hv
    · have hv := hv.trans (if_neg hc27)
      refine Go.by (fun t k => XS.icmpNo X.here hx rfl (hb hby d2_27) rfl (XT.ii_eq_f hc27) k) ?_
      show Go _ _ _ _ (T.setTop (mkF m 30 #[.val (.int p0)] []))
      refine Go.by (fun t k => XS.iloadN X.here hx rfl (hb hby d2_30) rfl k) ?_
      show Go _ _ _ _ (T.setTop (mkF m 31 #[.val (.int p0)] [(.int p0)]))
      refine Go.by (fun t k => XS.sipush X.here hx rfl (hb hby d2_31) k) ?_
      show Go _ _ _ _ (T.setTop (mkF m 34 #[.val (.int p0)] [(.int (192 : Int32)), (.int p0)]))
      by_cases hc34 : p0 < (192 : Int32)
      · have hv := hv.trans (if_pos hc34)
        refine Go.by (fun t k => XS.icmpYes X.here hx rfl (pc0 := 34) (pc' := 44) rfl (hb hby d2_34) rfl (XT.ii_lt_t hc34) (by decide) (by decide) k) ?_
        exact J44 T _ X eT N hv
      · have hv := hv.trans (if_neg hc34)
        refine Go.by (fun t k => XS.icmpNo X.here hx rfl (hb hby d2_34) rfl (XT.ii_lt_f hc34) k) ?_
        show Go _ _ _ _ (T.setTop (mkF m 37 #[.val (.int p0)] []))
        refine Go.by (fun t k => XS.iloadN X.here hx rfl (hb hby d2_37) rfl k) ?_
        show Go _ _ _ _ (T.setTop (mkF m 38 #[.val (.int p0)] [(.int p0)]))
        refine Go.by (fun t k => XS.sipush X.here hx rfl (hb hby d2_38) k) ?_
        show Go _ _ _ _ (T.setTop (mkF m 41 #[.val (.int p0)] [(.int (214 : Int32)), (.int p0)]))
        by_cases hc41 : (214 : Int32) < p0
        · have hv := hv.trans (if_pos hc41)
          refine Go.by (fun t k => XS.icmpNo X.here hx rfl (hb hby d2_41) rfl (XT.ii_le_f hc41) k) ?_
          exact J44 T _ X eT N hv
        · have hv := hv.trans (if_neg hc41)
          refine Go.by (fun t k => XS.icmpYes X.here hx rfl (pc0 := 41) (pc' := 191) rfl (hb hby d2_41) rfl (XT.ii_le_t hc41) (by decide) (by decide) k) ?_
          exact J191 T _ X eT N hv
  have J12 : ∀ (T : State) (locs : List Loc) (X : Stand p l e ({ frames := 0, cells := 0, slots := 0, locals := 0 } : Room) s m #[(.int p0)] below meth c T locs 0 0), T.heap = h0 → Fr n0 locs → f2_0 p0 = f2_12 p0 → Go p.tables e below (fun t o => ∃ v L, o = .returned v ∧ (Q2 p0 h0 n0) v t.heap L ∧ FrameEnd s o t L ({ frames := 0, cells := 0, slots := 0, locals := 0 } : Room).cells ({ frames := 0, cells := 0, slots := 0, locals := 0 } : Room).slots) (T.setTop (mkF m 12 #[.val (.int p0)] [])) := by
    intro T locs X eT N hv
    replace hv : f2_0 p0 = if p0 < (65 : Int32) then f2_24 p0 else if (90 : Int32) < p0 then f2_24 p0 else f2_191 p0 := hv
    show Go _ _ _ _ (T.setTop (mkF m 12 #[.val (.int p0)] []))
    refine Go.by (fun t k => XS.iloadN X.here hx rfl (hb hby d2_12) rfl k) ?_
    show Go _ _ _ _ (T.setTop (mkF m 13 #[.val (.int p0)] [(.int p0)]))
    refine Go.by (fun t k => XS.bipush X.here hx rfl (hb hby d2_13) k) ?_
    show Go _ _ _ _ (T.setTop (mkF m 15 #[.val (.int p0)] [(.int (65 : Int32)), (.int p0)]))
    by_cases hc15 : p0 < (65 : Int32)
    · have hv := hv.trans (if_pos hc15)
      refine Go.by (fun t k => XS.icmpYes X.here hx rfl (pc0 := 15) (pc' := 24) rfl (hb hby d2_15) rfl (XT.ii_lt_t hc15) (by decide) (by decide) k) ?_
      exact J24 T _ X eT N hv
    · have hv := hv.trans (if_neg hc15)
      refine Go.by (fun t k => XS.icmpNo X.here hx rfl (hb hby d2_15) rfl (XT.ii_lt_f hc15) k) ?_
      show Go _ _ _ _ (T.setTop (mkF m 18 #[.val (.int p0)] []))
      refine Go.by (fun t k => XS.iloadN X.here hx rfl (hb hby d2_18) rfl k) ?_
      show Go _ _ _ _ (T.setTop (mkF m 19 #[.val (.int p0)] [(.int p0)]))
      refine Go.by (fun t k => XS.bipush X.here hx rfl (hb hby d2_19) k) ?_
      show Go _ _ _ _ (T.setTop (mkF m 21 #[.val (.int p0)] [(.int (90 : Int32)), (.int p0)]))
      by_cases hc21 : (90 : Int32) < p0
      · have hv := hv.trans (if_pos hc21)
        refine Go.by (fun t k => XS.icmpNo X.here hx rfl (hb hby d2_21) rfl (XT.ii_le_f hc21) k) ?_
        exact J24 T _ X eT N hv
      · have hv := hv.trans (if_neg hc21)
        refine Go.by (fun t k => XS.icmpYes X.here hx rfl (pc0 := 21) (pc' := 191) rfl (hb hby d2_21) rfl (XT.ii_le_t hc21) (by decide) (by decide) k) ?_
        exact J191 T _ X eT N hv
  have hv : f2_0 p0 = if p0 < (97 : Int32) then f2_12 p0 else if (122 : Int32) < p0 then f2_12 p0 else f2_191 p0 := rfl
  show Go _ _ _ _ (s₁.setTop (mkF m 0 #[.val (.int p0)] []))
  refine Go.by (fun t k => XS.iloadN X0.here hx rfl (hb hby d2_0) rfl k) ?_
  show Go _ _ _ _ (s₁.setTop (mkF m 1 #[.val (.int p0)] [(.int p0)]))
  refine Go.by (fun t k => XS.bipush X0.here hx rfl (hb hby d2_1) k) ?_
  show Go _ _ _ _ (s₁.setTop (mkF m 3 #[.val (.int p0)] [(.int (97 : Int32)), (.int p0)]))
  by_cases hc3 : p0 < (97 : Int32)
  · have hv := hv.trans (if_pos hc3)
    refine Go.by (fun t k => XS.icmpYes X0.here hx rfl (pc0 := 3) (pc' := 12) rfl (hb hby d2_3) rfl (XT.ii_lt_t hc3) (by decide) (by decide) k) ?_
    exact J12 s₁ _ X0 e0 N0 hv
  · have hv := hv.trans (if_neg hc3)
    refine Go.by (fun t k => XS.icmpNo X0.here hx rfl (hb hby d2_3) rfl (XT.ii_lt_f hc3) k) ?_
    show Go _ _ _ _ (s₁.setTop (mkF m 6 #[.val (.int p0)] []))
    refine Go.by (fun t k => XS.iloadN X0.here hx rfl (hb hby d2_6) rfl k) ?_
    show Go _ _ _ _ (s₁.setTop (mkF m 7 #[.val (.int p0)] [(.int p0)]))
    refine Go.by (fun t k => XS.bipush X0.here hx rfl (hb hby d2_7) k) ?_
    show Go _ _ _ _ (s₁.setTop (mkF m 9 #[.val (.int p0)] [(.int (122 : Int32)), (.int p0)]))
    by_cases hc9 : (122 : Int32) < p0
    · have hv := hv.trans (if_pos hc9)
      refine Go.by (fun t k => XS.icmpNo X0.here hx rfl (hb hby d2_9) rfl (XT.ii_le_f hc9) k) ?_
      exact J12 s₁ _ X0 e0 N0 hv
    · have hv := hv.trans (if_neg hc9)
      refine Go.by (fun t k => XS.icmpYes X0.here hx rfl (pc0 := 9) (pc' := 191) rfl (hb hby d2_9) rfl (XT.ii_le_t hc9) (by decide) (by decide) k) ?_
      exact J191 s₁ _ X0 e0 N0 hv
theorem pd0 : parseMethodDescriptor "(III)Z" = some ⟨[.int, .int, .int], some .boolean⟩ := by decide +kernel
theorem pd1 : parseMethodDescriptor "(I)Z" = some ⟨[.int], some .boolean⟩ := by decide +kernel
theorem d3_0 : decode method_3_code 0 = .ok (.iload_n 0, 1) := by decide +kernel
theorem d3_1 : decode method_3_code 1 = .ok (.bipush 91, 2) := by decide +kernel
theorem d3_3 : decode method_3_code 3 = .ok (.bipush 94, 2) := by decide +kernel
theorem d3_5 : decode method_3_code 5 = .ok (.invokestatic 7, 3) := by decide +kernel
theorem d3_8 : decode method_3_code 8 = .ok (.ifCond .ne 140, 3) := by decide +kernel
theorem d3_11 : decode method_3_code 11 = .ok (.iload_n 0, 1) := by decide +kernel
theorem d3_12 : decode method_3_code 12 = .ok (.bipush 96, 2) := by decide +kernel
theorem d3_14 : decode method_3_code 14 = .ok (.if_icmp .eq 134, 3) := by decide +kernel
theorem d3_17 : decode method_3_code 17 = .ok (.iload_n 0, 1) := by decide +kernel
theorem d3_18 : decode method_3_code 18 = .ok (.bipush 123, 2) := by decide +kernel
theorem d3_20 : decode method_3_code 20 = .ok (.sipush 191, 3) := by decide +kernel
theorem d3_23 : decode method_3_code 23 = .ok (.invokestatic 7, 3) := by decide +kernel
theorem d3_26 : decode method_3_code 26 = .ok (.ifCond .ne 122, 3) := by decide +kernel
theorem d3_29 : decode method_3_code 29 = .ok (.iload_n 0, 1) := by decide +kernel
theorem d3_30 : decode method_3_code 30 = .ok (.sipush 215, 3) := by decide +kernel
theorem d3_33 : decode method_3_code 33 = .ok (.if_icmp .eq 115, 3) := by decide +kernel
theorem d3_36 : decode method_3_code 36 = .ok (.iload_n 0, 1) := by decide +kernel
theorem d3_37 : decode method_3_code 37 = .ok (.sipush 247, 3) := by decide +kernel
theorem d3_40 : decode method_3_code 40 = .ok (.if_icmp .eq 108, 3) := by decide +kernel
theorem d3_43 : decode method_3_code 43 = .ok (.iload_n 0, 1) := by decide +kernel
theorem d3_44 : decode method_3_code 44 = .ok (.sipush 768, 3) := by decide +kernel
theorem d3_47 : decode method_3_code 47 = .ok (.sipush 879, 3) := by decide +kernel
theorem d3_50 : decode method_3_code 50 = .ok (.invokestatic 7, 3) := by decide +kernel
theorem d3_53 : decode method_3_code 53 = .ok (.ifCond .ne 95, 3) := by decide +kernel
theorem d3_56 : decode method_3_code 56 = .ok (.iload_n 0, 1) := by decide +kernel
theorem d3_57 : decode method_3_code 57 = .ok (.sipush 894, 3) := by decide +kernel
theorem d3_60 : decode method_3_code 60 = .ok (.if_icmp .eq 88, 3) := by decide +kernel
theorem d3_63 : decode method_3_code 63 = .ok (.iload_n 0, 1) := by decide +kernel
theorem d3_64 : decode method_3_code 64 = .ok (.sipush 8192, 3) := by decide +kernel
theorem d3_67 : decode method_3_code 67 = .ok (.sipush 8203, 3) := by decide +kernel
theorem d3_70 : decode method_3_code 70 = .ok (.invokestatic 7, 3) := by decide +kernel
theorem d3_73 : decode method_3_code 73 = .ok (.ifCond .ne 75, 3) := by decide +kernel
theorem d3_76 : decode method_3_code 76 = .ok (.iload_n 0, 1) := by decide +kernel
theorem d3_77 : decode method_3_code 77 = .ok (.sipush 8206, 3) := by decide +kernel
theorem d3_80 : decode method_3_code 80 = .ok (.sipush 8303, 3) := by decide +kernel
theorem d3_83 : decode method_3_code 83 = .ok (.invokestatic 7, 3) := by decide +kernel
theorem d3_86 : decode method_3_code 86 = .ok (.ifCond .ne 62, 3) := by decide +kernel
theorem d3_89 : decode method_3_code 89 = .ok (.iload_n 0, 1) := by decide +kernel
theorem d3_90 : decode method_3_code 90 = .ok (.sipush 8592, 3) := by decide +kernel
theorem d3_93 : decode method_3_code 93 = .ok (.sipush 11263, 3) := by decide +kernel
theorem d3_96 : decode method_3_code 96 = .ok (.invokestatic 7, 3) := by decide +kernel
theorem d3_99 : decode method_3_code 99 = .ok (.ifCond .ne 49, 3) := by decide +kernel
theorem d3_102 : decode method_3_code 102 = .ok (.iload_n 0, 1) := by decide +kernel
theorem d3_103 : decode method_3_code 103 = .ok (.sipush 12272, 3) := by decide +kernel
theorem d3_106 : decode method_3_code 106 = .ok (.sipush 12288, 3) := by decide +kernel
theorem d3_109 : decode method_3_code 109 = .ok (.invokestatic 7, 3) := by decide +kernel
theorem d3_112 : decode method_3_code 112 = .ok (.ifCond .ne 36, 3) := by decide +kernel
theorem d3_115 : decode method_3_code 115 = .ok (.iload_n 0, 1) := by decide +kernel
theorem d3_116 : decode method_3_code 116 = .ok (.ldc 13, 2) := by decide +kernel
theorem d3_118 : decode method_3_code 118 = .ok (.ldc 14, 2) := by decide +kernel
theorem d3_120 : decode method_3_code 120 = .ok (.invokestatic 7, 3) := by decide +kernel
theorem d3_123 : decode method_3_code 123 = .ok (.ifCond .ne 25, 3) := by decide +kernel
theorem d3_126 : decode method_3_code 126 = .ok (.iload_n 0, 1) := by decide +kernel
theorem d3_127 : decode method_3_code 127 = .ok (.ldc 15, 2) := by decide +kernel
theorem d3_129 : decode method_3_code 129 = .ok (.ldc 16, 2) := by decide +kernel
theorem d3_131 : decode method_3_code 131 = .ok (.invokestatic 7, 3) := by decide +kernel
theorem d3_134 : decode method_3_code 134 = .ok (.ifCond .ne 14, 3) := by decide +kernel
theorem d3_137 : decode method_3_code 137 = .ok (.iload_n 0, 1) := by decide +kernel
theorem d3_138 : decode method_3_code 138 = .ok (.ldc 17, 2) := by decide +kernel
theorem d3_140 : decode method_3_code 140 = .ok (.ldc 18, 2) := by decide +kernel
theorem d3_142 : decode method_3_code 142 = .ok (.invokestatic 7, 3) := by decide +kernel
theorem d3_145 : decode method_3_code 145 = .ok (.ifCond .eq 7, 3) := by decide +kernel
theorem d3_148 : decode method_3_code 148 = .ok (.iconst 1, 1) := by decide +kernel
theorem d3_149 : decode method_3_code 149 = .ok (.goto 4, 3) := by decide +kernel
theorem d3_152 : decode method_3_code 152 = .ok (.iconst 0, 1) := by decide +kernel
theorem d3_153 : decode method_3_code 153 = .ok (.ireturn, 1) := by decide +kernel
theorem pn_3 : plainName "com/example/ixel/ixel/util/XmlCharsIsNcNameStartCharPinLaw" = true := by first | (simp [plainName, overriddenIn]; done) | decide +kernel
theorem ef_3 (m : MethodId) (p0 : Int32) : entryFrame m #[(.int p0)] 1 = mkF m 0 #[.val (.int p0)] [] := by first | (simp [entryFrame, mkF, argsToLocals, Value.category]; done) | rfl
def f3_148 (p0 : Int32) : Int32 := (1 : Int32)
def f3_0 (p0 : Int32) : Int32 := if (f1_0 p0 (91 : Int32) (94 : Int32)) = 0 then if p0 = (96 : Int32) then f3_148 p0 else if (f1_0 p0 (123 : Int32) (191 : Int32)) = 0 then if p0 = (215 : Int32) then f3_148 p0 else if p0 = (247 : Int32) then f3_148 p0 else if (f1_0 p0 (768 : Int32) (879 : Int32)) = 0 then if p0 = (894 : Int32) then f3_148 p0 else if (f1_0 p0 (8192 : Int32) (8203 : Int32)) = 0 then if (f1_0 p0 (8206 : Int32) (8303 : Int32)) = 0 then if (f1_0 p0 (8592 : Int32) (11263 : Int32)) = 0 then if (f1_0 p0 (12272 : Int32) (12288 : Int32)) = 0 then if (f1_0 p0 (55296 : Int32) (63743 : Int32)) = 0 then if (f1_0 p0 (64976 : Int32) (65007 : Int32)) = 0 then if (f1_0 p0 (65534 : Int32) (65535 : Int32)) = 0 then (0 : Int32) else f3_148 p0 else f3_148 p0 else f3_148 p0 else f3_148 p0 else f3_148 p0 else f3_148 p0 else f3_148 p0 else f3_148 p0 else f3_148 p0 else f3_148 p0
def Q3 (p0 : Int32) (h0 : Heap) (n0 : Nat) (v : Option Value) (h : Heap) (L : List Loc) : Prop := v = some (.int (f3_0 p0)) ∧ Fr n0 L ∧ h = h0
set_option maxRecDepth 65536 in
set_option maxHeartbeats 40000000 in
theorem rm3 (l : Launch) (Z : State) (a0 : Array Value) (hw : ∀ d ∈ tables_1, d.before a0 Z = true) (ws : List Jvm.Cond) (p0 : Int32)  (h0 : Heap) (n0 : Nat) (Z0 : n0 ≤ h0.size)  :
    MetFree l (⟨"com/example/ixel/ixel/util/XmlCharsIsNcNameStartCharPinLaw", "excluded", "(I)Z"⟩ : MethodName) (head1 (Jvm.Cond.code (⟨"com/example/ixel/ixel/util/XmlCharsIsNcNameStartCharPinLaw", "excluded", "(I)Z"⟩ : MethodName) method_3_code 1 (some .boolean) :: ws) ({ frames := 1, cells := 0, slots := 0, locals := 14 } : Room)) (fun a U => a = #[(.int p0)] ∧ Z.Warmed39 U.vm ∧ U.heap = h0) (fun _ _ _ _ _ => True) (fun _ U o U' => ∃ v L, o = .returned v ∧ (Q3 p0 h0 n0) v U'.heap L ∧ FrameEnd U o U' L ({ frames := 1, cells := 0, slots := 0, locals := 14 } : Room).cells ({ frames := 1, cells := 0, slots := 0, locals := 14 } : Room).slots) := by
  refine MetFree.of_bodySF (plainFor_of_name pn_3) hisR ?_
  intro p e s m args below meth c s₁ Bd hml0 hP hK
  obtain ⟨rfl, hZ, hh⟩ := hP
  have hx := Bd.exec
  have hby := Bd.bytes
  have hml : c.maxLocals = 1 := hml0
  have hown : s.vm.findClass "com/example/ixel/ixel/util/XmlCharsIsNcNameStartCharPinLaw" = some m.cls := findClass_of_methodNamed Bd.named
  have hnm := (name_of_methodNamed Bd.named Bd.method).1
  have hlk : meth.locks = false := Bd.notSynchronized
  have X0 : Stand p l e ({ frames := 1, cells := 0, slots := 0, locals := 14 } : Room) s m #[(.int p0)] below meth c s₁ [] 0 0 := Stand.of_body Bd
  have e0 : s₁.heap = h0 := by rw [← hh, Bd.state]; rfl
  have N0 := Fr.nil n0
  refine Go.by (tb := p.tables) (e := e) (below := below) (F := fun t o => ∃ v L, o = .returned v ∧ (Q3 p0 h0 n0) v t.heap L ∧ FrameEnd s o t L ({ frames := 1, cells := 0, slots := 0, locals := 14 } : Room).cells ({ frames := 1, cells := 0, slots := 0, locals := 14 } : Room).slots) (fun t k => castTop (ef_3 m p0) k) ?_
  have J148 : ∀ (T : State) (locs : List Loc) (X : Stand p l e ({ frames := 1, cells := 0, slots := 0, locals := 14 } : Room) s m #[(.int p0)] below meth c T locs 0 0), T.heap = h0 → Fr n0 locs → f3_0 p0 = f3_148 p0 → Go p.tables e below (fun t o => ∃ v L, o = .returned v ∧ (Q3 p0 h0 n0) v t.heap L ∧ FrameEnd s o t L ({ frames := 1, cells := 0, slots := 0, locals := 14 } : Room).cells ({ frames := 1, cells := 0, slots := 0, locals := 14 } : Room).slots) (T.setTop (mkF m 148 #[.val (.int p0)] [])) := by
    intro T locs X eT N hv
    replace hv : f3_0 p0 = (1 : Int32) := hv
    show Go _ _ _ _ (T.setTop (mkF m 148 #[.val (.int p0)] []))
    refine Go.by (fun t k => XS.iconst X.here hx rfl (hb hby d3_148) k) ?_
    show Go _ _ _ _ (T.setTop (mkF m 149 #[.val (.int p0)] [(.int (1 : Int32))]))
    refine Go.by (fun t k => XS.goto X.here hx rfl (pc0 := 149) (pc' := 153) rfl (hb hby d3_149) (by decide) (by decide) k) ?_
    show Go _ _ _ _ (T.setTop (mkF m 153 #[.val (.int p0)] [(.int (1 : Int32))]))
    exact Go.retZ (Q := Q3 p0 h0 n0) X hx hlk Bd.returns (hb hby d3_153) ⟨by rw [hv]; rfl, N, eT⟩ (by decide) (by decide)
  have hv : f3_0 p0 = if (f1_0 p0 (91 : Int32) (94 : Int32)) = 0 then if p0 = (96 : Int32) then f3_148 p0 else if (f1_0 p0 (123 : Int32) (191 : Int32)) = 0 then if p0 = (215 : Int32) then f3_148 p0 else if p0 = (247 : Int32) then f3_148 p0 else if (f1_0 p0 (768 : Int32) (879 : Int32)) = 0 then if p0 = (894 : Int32) then f3_148 p0 else if (f1_0 p0 (8192 : Int32) (8203 : Int32)) = 0 then if (f1_0 p0 (8206 : Int32) (8303 : Int32)) = 0 then if (f1_0 p0 (8592 : Int32) (11263 : Int32)) = 0 then if (f1_0 p0 (12272 : Int32) (12288 : Int32)) = 0 then if (f1_0 p0 (55296 : Int32) (63743 : Int32)) = 0 then if (f1_0 p0 (64976 : Int32) (65007 : Int32)) = 0 then if (f1_0 p0 (65534 : Int32) (65535 : Int32)) = 0 then (0 : Int32) else f3_148 p0 else f3_148 p0 else f3_148 p0 else f3_148 p0 else f3_148 p0 else f3_148 p0 else f3_148 p0 else f3_148 p0 else f3_148 p0 else f3_148 p0 := rfl
  show Go _ _ _ _ (s₁.setTop (mkF m 0 #[.val (.int p0)] []))
  refine Go.by (fun t k => XS.iloadN X0.here hx rfl (hb hby d3_0) rfl k) ?_
  show Go _ _ _ _ (s₁.setTop (mkF m 1 #[.val (.int p0)] [(.int p0)]))
  refine Go.by (fun t k => XS.bipush X0.here hx rfl (hb hby d3_1) k) ?_
  show Go _ _ _ _ (s₁.setTop (mkF m 3 #[.val (.int p0)] [(.int (91 : Int32)), (.int p0)]))
  refine Go.by (fun t k => XS.bipush X0.here hx rfl (hb hby d3_3) k) ?_
  show Go _ _ _ _ (s₁.setTop (mkF m 5 #[.val (.int p0)] [(.int (94 : Int32)), (.int (91 : Int32)), (.int p0)]))
  obtain ⟨_, _, ⟨T1, L1, k1, n1⟩, -, X1, ⟨Lc1, hQ1, l1, y1, z1⟩, st1⟩ := Jvm.LawKit.callS X0 hx (y := (⟨"com/example/ixel/ixel/util/XmlCharsIsNcNameStartCharPinLaw", "in", "(III)Z"⟩ : MethodName)) hown (mvT hZ (hw _ (List.mem_of_getElem? (i := 11) rfl))) (mvT hZ (hw _ (List.mem_of_getElem? (i := 12) rfl))) (mvT hZ (hw _ (List.mem_of_getElem? (i := 13) rfl))) (mvT hZ (hw _ (List.mem_of_getElem? (i := 14) rfl))) (by decide) (backOf (W := 0) (rm1 l Z a0 hw [] p0 (91 : Int32) (94 : Int32) h0 n0 Z0) hZ (hw _ (List.mem_of_getElem? (i := 14) rfl)) (hw _ (List.mem_of_getElem? (i := 13) rfl)) (by decide) (by decide)) (g := (mkF m 5 #[.val (.int p0)] [(.int (94 : Int32)), (.int (91 : Int32)), (.int p0)])) rfl (by rw [hml]; rfl) (argsL := [(.int p0), (.int (91 : Int32)), (.int (94 : Int32))]) (rest := []) (lenOf pd0 rfl) rfl (by show 2 * 0 + _ ≤ _; exact Nat.le_of_eq rfl) (hb hby d3_5) (fun _ _ => ⟨rfl, e0, (by decide : 0 + 0 ≤ _), (by decide : 0 + 0 ≤ _)⟩)
  dsimp only [Pt.U, Pt.locs, Pt.cells, Pt.slots] at X1 l1 y1 z1 st1 hQ1
  subst l1 y1 z1
  obtain ⟨rfl, Nq1, eq1⟩ := hQ1
  have N1 := Fr.app N0 Nq1
  refine Go.by st1 ?_
  show Go _ _ _ _ (T1.setTop (mkF m 8 #[.val (.int p0)] [(.int (f1_0 p0 (91 : Int32) (94 : Int32)))]))
  by_cases hc8 : (f1_0 p0 (91 : Int32) (94 : Int32)) = 0
  · have hv := hv.trans (if_pos hc8)
    refine Go.by (fun t k => XS.ifNo X1.here hx rfl (hb hby d3_8) rfl (XT.i0_ne_f hc8) k) ?_
    show Go _ _ _ _ (T1.setTop (mkF m 11 #[.val (.int p0)] []))
    refine Go.by (fun t k => XS.iloadN X1.here hx rfl (hb hby d3_11) rfl k) ?_
    show Go _ _ _ _ (T1.setTop (mkF m 12 #[.val (.int p0)] [(.int p0)]))
    refine Go.by (fun t k => XS.bipush X1.here hx rfl (hb hby d3_12) k) ?_
    show Go _ _ _ _ (T1.setTop (mkF m 14 #[.val (.int p0)] [(.int (96 : Int32)), (.int p0)]))
    by_cases hc14 : p0 = (96 : Int32)
    · have hv := hv.trans (if_pos hc14)
      refine Go.by (fun t k => XS.icmpYes X1.here hx rfl (pc0 := 14) (pc' := 148) rfl (hb hby d3_14) rfl (XT.ii_eq_t hc14) (by decide) (by decide) k) ?_
      exact J148 T1 _ X1 eq1 N1 hv
    · have hv := hv.trans (if_neg hc14)
      refine Go.by (fun t k => XS.icmpNo X1.here hx rfl (hb hby d3_14) rfl (XT.ii_eq_f hc14) k) ?_
      show Go _ _ _ _ (T1.setTop (mkF m 17 #[.val (.int p0)] []))
      refine Go.by (fun t k => XS.iloadN X1.here hx rfl (hb hby d3_17) rfl k) ?_
      show Go _ _ _ _ (T1.setTop (mkF m 18 #[.val (.int p0)] [(.int p0)]))
      refine Go.by (fun t k => XS.bipush X1.here hx rfl (hb hby d3_18) k) ?_
      show Go _ _ _ _ (T1.setTop (mkF m 20 #[.val (.int p0)] [(.int (123 : Int32)), (.int p0)]))
      refine Go.by (fun t k => XS.sipush X1.here hx rfl (hb hby d3_20) k) ?_
      show Go _ _ _ _ (T1.setTop (mkF m 23 #[.val (.int p0)] [(.int (191 : Int32)), (.int (123 : Int32)), (.int p0)]))
      obtain ⟨_, _, ⟨T2, L2, k2, n2⟩, -, X2, ⟨Lc2, hQ2, l2, y2, z2⟩, st2⟩ := Jvm.LawKit.callS X1 hx (y := (⟨"com/example/ixel/ixel/util/XmlCharsIsNcNameStartCharPinLaw", "in", "(III)Z"⟩ : MethodName)) hown (mvT hZ (hw _ (List.mem_of_getElem? (i := 11) rfl))) (mvT hZ (hw _ (List.mem_of_getElem? (i := 12) rfl))) (mvT hZ (hw _ (List.mem_of_getElem? (i := 13) rfl))) (mvT hZ (hw _ (List.mem_of_getElem? (i := 14) rfl))) (by decide) (backOf (W := 0) (rm1 l Z a0 hw [] p0 (123 : Int32) (191 : Int32) h0 n0 Z0) hZ (hw _ (List.mem_of_getElem? (i := 14) rfl)) (hw _ (List.mem_of_getElem? (i := 13) rfl)) (by decide) (by decide)) (g := (mkF m 23 #[.val (.int p0)] [(.int (191 : Int32)), (.int (123 : Int32)), (.int p0)])) rfl (by rw [hml]; rfl) (argsL := [(.int p0), (.int (123 : Int32)), (.int (191 : Int32))]) (rest := []) (lenOf pd0 rfl) rfl (by show 2 * 0 + _ ≤ _; exact Nat.le_of_eq rfl) (hb hby d3_23) (fun _ _ => ⟨rfl, eq1, (by decide : 0 + 0 ≤ _), (by decide : 0 + 0 ≤ _)⟩)
      dsimp only [Pt.U, Pt.locs, Pt.cells, Pt.slots] at X2 l2 y2 z2 st2 hQ2
      subst l2 y2 z2
      obtain ⟨rfl, Nq2, eq2⟩ := hQ2
      have N2 := Fr.app N1 Nq2
      refine Go.by st2 ?_
      show Go _ _ _ _ (T2.setTop (mkF m 26 #[.val (.int p0)] [(.int (f1_0 p0 (123 : Int32) (191 : Int32)))]))
      by_cases hc26 : (f1_0 p0 (123 : Int32) (191 : Int32)) = 0
      · have hv := hv.trans (if_pos hc26)
        refine Go.by (fun t k => XS.ifNo X2.here hx rfl (hb hby d3_26) rfl (XT.i0_ne_f hc26) k) ?_
        show Go _ _ _ _ (T2.setTop (mkF m 29 #[.val (.int p0)] []))
        refine Go.by (fun t k => XS.iloadN X2.here hx rfl (hb hby d3_29) rfl k) ?_
        show Go _ _ _ _ (T2.setTop (mkF m 30 #[.val (.int p0)] [(.int p0)]))
        refine Go.by (fun t k => XS.sipush X2.here hx rfl (hb hby d3_30) k) ?_
        show Go _ _ _ _ (T2.setTop (mkF m 33 #[.val (.int p0)] [(.int (215 : Int32)), (.int p0)]))
        by_cases hc33 : p0 = (215 : Int32)
        · have hv := hv.trans (if_pos hc33)
          refine Go.by (fun t k => XS.icmpYes X2.here hx rfl (pc0 := 33) (pc' := 148) rfl (hb hby d3_33) rfl (XT.ii_eq_t hc33) (by decide) (by decide) k) ?_
          exact J148 T2 _ X2 eq2 N2 hv
        · have hv := hv.trans (if_neg hc33)
          refine Go.by (fun t k => XS.icmpNo X2.here hx rfl (hb hby d3_33) rfl (XT.ii_eq_f hc33) k) ?_
          show Go _ _ _ _ (T2.setTop (mkF m 36 #[.val (.int p0)] []))
          refine Go.by (fun t k => XS.iloadN X2.here hx rfl (hb hby d3_36) rfl k) ?_
          show Go _ _ _ _ (T2.setTop (mkF m 37 #[.val (.int p0)] [(.int p0)]))
          refine Go.by (fun t k => XS.sipush X2.here hx rfl (hb hby d3_37) k) ?_
          show Go _ _ _ _ (T2.setTop (mkF m 40 #[.val (.int p0)] [(.int (247 : Int32)), (.int p0)]))
          by_cases hc40 : p0 = (247 : Int32)
          · have hv := hv.trans (if_pos hc40)
            refine Go.by (fun t k => XS.icmpYes X2.here hx rfl (pc0 := 40) (pc' := 148) rfl (hb hby d3_40) rfl (XT.ii_eq_t hc40) (by decide) (by decide) k) ?_
            exact J148 T2 _ X2 eq2 N2 hv
          · have hv := hv.trans (if_neg hc40)
            refine Go.by (fun t k => XS.icmpNo X2.here hx rfl (hb hby d3_40) rfl (XT.ii_eq_f hc40) k) ?_
            show Go _ _ _ _ (T2.setTop (mkF m 43 #[.val (.int p0)] []))
            refine Go.by (fun t k => XS.iloadN X2.here hx rfl (hb hby d3_43) rfl k) ?_
            show Go _ _ _ _ (T2.setTop (mkF m 44 #[.val (.int p0)] [(.int p0)]))
            refine Go.by (fun t k => XS.sipush X2.here hx rfl (hb hby d3_44) k) ?_
            show Go _ _ _ _ (T2.setTop (mkF m 47 #[.val (.int p0)] [(.int (768 : Int32)), (.int p0)]))
            refine Go.by (fun t k => XS.sipush X2.here hx rfl (hb hby d3_47) k) ?_
            show Go _ _ _ _ (T2.setTop (mkF m 50 #[.val (.int p0)] [(.int (879 : Int32)), (.int (768 : Int32)), (.int p0)]))
            obtain ⟨_, _, ⟨T3, L3, k3, n3⟩, -, X3, ⟨Lc3, hQ3, l3, y3, z3⟩, st3⟩ := Jvm.LawKit.callS X2 hx (y := (⟨"com/example/ixel/ixel/util/XmlCharsIsNcNameStartCharPinLaw", "in", "(III)Z"⟩ : MethodName)) hown (mvT hZ (hw _ (List.mem_of_getElem? (i := 11) rfl))) (mvT hZ (hw _ (List.mem_of_getElem? (i := 12) rfl))) (mvT hZ (hw _ (List.mem_of_getElem? (i := 13) rfl))) (mvT hZ (hw _ (List.mem_of_getElem? (i := 14) rfl))) (by decide) (backOf (W := 0) (rm1 l Z a0 hw [] p0 (768 : Int32) (879 : Int32) h0 n0 Z0) hZ (hw _ (List.mem_of_getElem? (i := 14) rfl)) (hw _ (List.mem_of_getElem? (i := 13) rfl)) (by decide) (by decide)) (g := (mkF m 50 #[.val (.int p0)] [(.int (879 : Int32)), (.int (768 : Int32)), (.int p0)])) rfl (by rw [hml]; rfl) (argsL := [(.int p0), (.int (768 : Int32)), (.int (879 : Int32))]) (rest := []) (lenOf pd0 rfl) rfl (by show 2 * 0 + _ ≤ _; exact Nat.le_of_eq rfl) (hb hby d3_50) (fun _ _ => ⟨rfl, eq2, (by decide : 0 + 0 ≤ _), (by decide : 0 + 0 ≤ _)⟩)
            dsimp only [Pt.U, Pt.locs, Pt.cells, Pt.slots] at X3 l3 y3 z3 st3 hQ3
            subst l3 y3 z3
            obtain ⟨rfl, Nq3, eq3⟩ := hQ3
            have N3 := Fr.app N2 Nq3
            refine Go.by st3 ?_
            show Go _ _ _ _ (T3.setTop (mkF m 53 #[.val (.int p0)] [(.int (f1_0 p0 (768 : Int32) (879 : Int32)))]))
            by_cases hc53 : (f1_0 p0 (768 : Int32) (879 : Int32)) = 0
            · have hv := hv.trans (if_pos hc53)
              refine Go.by (fun t k => XS.ifNo X3.here hx rfl (hb hby d3_53) rfl (XT.i0_ne_f hc53) k) ?_
              show Go _ _ _ _ (T3.setTop (mkF m 56 #[.val (.int p0)] []))
              refine Go.by (fun t k => XS.iloadN X3.here hx rfl (hb hby d3_56) rfl k) ?_
              show Go _ _ _ _ (T3.setTop (mkF m 57 #[.val (.int p0)] [(.int p0)]))
              refine Go.by (fun t k => XS.sipush X3.here hx rfl (hb hby d3_57) k) ?_
              show Go _ _ _ _ (T3.setTop (mkF m 60 #[.val (.int p0)] [(.int (894 : Int32)), (.int p0)]))
              by_cases hc60 : p0 = (894 : Int32)
              · have hv := hv.trans (if_pos hc60)
                refine Go.by (fun t k => XS.icmpYes X3.here hx rfl (pc0 := 60) (pc' := 148) rfl (hb hby d3_60) rfl (XT.ii_eq_t hc60) (by decide) (by decide) k) ?_
                exact J148 T3 _ X3 eq3 N3 hv
              · have hv := hv.trans (if_neg hc60)
                refine Go.by (fun t k => XS.icmpNo X3.here hx rfl (hb hby d3_60) rfl (XT.ii_eq_f hc60) k) ?_
                show Go _ _ _ _ (T3.setTop (mkF m 63 #[.val (.int p0)] []))
                refine Go.by (fun t k => XS.iloadN X3.here hx rfl (hb hby d3_63) rfl k) ?_
                show Go _ _ _ _ (T3.setTop (mkF m 64 #[.val (.int p0)] [(.int p0)]))
                refine Go.by (fun t k => XS.sipush X3.here hx rfl (hb hby d3_64) k) ?_
                show Go _ _ _ _ (T3.setTop (mkF m 67 #[.val (.int p0)] [(.int (8192 : Int32)), (.int p0)]))
                refine Go.by (fun t k => XS.sipush X3.here hx rfl (hb hby d3_67) k) ?_
                show Go _ _ _ _ (T3.setTop (mkF m 70 #[.val (.int p0)] [(.int (8203 : Int32)), (.int (8192 : Int32)), (.int p0)]))
                obtain ⟨_, _, ⟨T4, L4, k4, n4⟩, -, X4, ⟨Lc4, hQ4, l4, y4, z4⟩, st4⟩ := Jvm.LawKit.callS X3 hx (y := (⟨"com/example/ixel/ixel/util/XmlCharsIsNcNameStartCharPinLaw", "in", "(III)Z"⟩ : MethodName)) hown (mvT hZ (hw _ (List.mem_of_getElem? (i := 11) rfl))) (mvT hZ (hw _ (List.mem_of_getElem? (i := 12) rfl))) (mvT hZ (hw _ (List.mem_of_getElem? (i := 13) rfl))) (mvT hZ (hw _ (List.mem_of_getElem? (i := 14) rfl))) (by decide) (backOf (W := 0) (rm1 l Z a0 hw [] p0 (8192 : Int32) (8203 : Int32) h0 n0 Z0) hZ (hw _ (List.mem_of_getElem? (i := 14) rfl)) (hw _ (List.mem_of_getElem? (i := 13) rfl)) (by decide) (by decide)) (g := (mkF m 70 #[.val (.int p0)] [(.int (8203 : Int32)), (.int (8192 : Int32)), (.int p0)])) rfl (by rw [hml]; rfl) (argsL := [(.int p0), (.int (8192 : Int32)), (.int (8203 : Int32))]) (rest := []) (lenOf pd0 rfl) rfl (by show 2 * 0 + _ ≤ _; exact Nat.le_of_eq rfl) (hb hby d3_70) (fun _ _ => ⟨rfl, eq3, (by decide : 0 + 0 ≤ _), (by decide : 0 + 0 ≤ _)⟩)
                dsimp only [Pt.U, Pt.locs, Pt.cells, Pt.slots] at X4 l4 y4 z4 st4 hQ4
                subst l4 y4 z4
                obtain ⟨rfl, Nq4, eq4⟩ := hQ4
                have N4 := Fr.app N3 Nq4
                refine Go.by st4 ?_
                show Go _ _ _ _ (T4.setTop (mkF m 73 #[.val (.int p0)] [(.int (f1_0 p0 (8192 : Int32) (8203 : Int32)))]))
                by_cases hc73 : (f1_0 p0 (8192 : Int32) (8203 : Int32)) = 0
                · have hv := hv.trans (if_pos hc73)
                  refine Go.by (fun t k => XS.ifNo X4.here hx rfl (hb hby d3_73) rfl (XT.i0_ne_f hc73) k) ?_
                  show Go _ _ _ _ (T4.setTop (mkF m 76 #[.val (.int p0)] []))
                  refine Go.by (fun t k => XS.iloadN X4.here hx rfl (hb hby d3_76) rfl k) ?_
                  show Go _ _ _ _ (T4.setTop (mkF m 77 #[.val (.int p0)] [(.int p0)]))
                  refine Go.by (fun t k => XS.sipush X4.here hx rfl (hb hby d3_77) k) ?_
                  show Go _ _ _ _ (T4.setTop (mkF m 80 #[.val (.int p0)] [(.int (8206 : Int32)), (.int p0)]))
                  refine Go.by (fun t k => XS.sipush X4.here hx rfl (hb hby d3_80) k) ?_
                  show Go _ _ _ _ (T4.setTop (mkF m 83 #[.val (.int p0)] [(.int (8303 : Int32)), (.int (8206 : Int32)), (.int p0)]))
                  obtain ⟨_, _, ⟨T5, L5, k5, n5⟩, -, X5, ⟨Lc5, hQ5, l5, y5, z5⟩, st5⟩ := Jvm.LawKit.callS X4 hx (y := (⟨"com/example/ixel/ixel/util/XmlCharsIsNcNameStartCharPinLaw", "in", "(III)Z"⟩ : MethodName)) hown (mvT hZ (hw _ (List.mem_of_getElem? (i := 11) rfl))) (mvT hZ (hw _ (List.mem_of_getElem? (i := 12) rfl))) (mvT hZ (hw _ (List.mem_of_getElem? (i := 13) rfl))) (mvT hZ (hw _ (List.mem_of_getElem? (i := 14) rfl))) (by decide) (backOf (W := 0) (rm1 l Z a0 hw [] p0 (8206 : Int32) (8303 : Int32) h0 n0 Z0) hZ (hw _ (List.mem_of_getElem? (i := 14) rfl)) (hw _ (List.mem_of_getElem? (i := 13) rfl)) (by decide) (by decide)) (g := (mkF m 83 #[.val (.int p0)] [(.int (8303 : Int32)), (.int (8206 : Int32)), (.int p0)])) rfl (by rw [hml]; rfl) (argsL := [(.int p0), (.int (8206 : Int32)), (.int (8303 : Int32))]) (rest := []) (lenOf pd0 rfl) rfl (by show 2 * 0 + _ ≤ _; exact Nat.le_of_eq rfl) (hb hby d3_83) (fun _ _ => ⟨rfl, eq4, (by decide : 0 + 0 ≤ _), (by decide : 0 + 0 ≤ _)⟩)
                  dsimp only [Pt.U, Pt.locs, Pt.cells, Pt.slots] at X5 l5 y5 z5 st5 hQ5
                  subst l5 y5 z5
                  obtain ⟨rfl, Nq5, eq5⟩ := hQ5
                  have N5 := Fr.app N4 Nq5
                  refine Go.by st5 ?_
                  show Go _ _ _ _ (T5.setTop (mkF m 86 #[.val (.int p0)] [(.int (f1_0 p0 (8206 : Int32) (8303 : Int32)))]))
                  by_cases hc86 : (f1_0 p0 (8206 : Int32) (8303 : Int32)) = 0
                  · have hv := hv.trans (if_pos hc86)
                    refine Go.by (fun t k => XS.ifNo X5.here hx rfl (hb hby d3_86) rfl (XT.i0_ne_f hc86) k) ?_
                    show Go _ _ _ _ (T5.setTop (mkF m 89 #[.val (.int p0)] []))
                    refine Go.by (fun t k => XS.iloadN X5.here hx rfl (hb hby d3_89) rfl k) ?_
                    show Go _ _ _ _ (T5.setTop (mkF m 90 #[.val (.int p0)] [(.int p0)]))
                    refine Go.by (fun t k => XS.sipush X5.here hx rfl (hb hby d3_90) k) ?_
                    show Go _ _ _ _ (T5.setTop (mkF m 93 #[.val (.int p0)] [(.int (8592 : Int32)), (.int p0)]))
                    refine Go.by (fun t k => XS.sipush X5.here hx rfl (hb hby d3_93) k) ?_
                    show Go _ _ _ _ (T5.setTop (mkF m 96 #[.val (.int p0)] [(.int (11263 : Int32)), (.int (8592 : Int32)), (.int p0)]))
                    obtain ⟨_, _, ⟨T6, L6, k6, n6⟩, -, X6, ⟨Lc6, hQ6, l6, y6, z6⟩, st6⟩ := Jvm.LawKit.callS X5 hx (y := (⟨"com/example/ixel/ixel/util/XmlCharsIsNcNameStartCharPinLaw", "in", "(III)Z"⟩ : MethodName)) hown (mvT hZ (hw _ (List.mem_of_getElem? (i := 11) rfl))) (mvT hZ (hw _ (List.mem_of_getElem? (i := 12) rfl))) (mvT hZ (hw _ (List.mem_of_getElem? (i := 13) rfl))) (mvT hZ (hw _ (List.mem_of_getElem? (i := 14) rfl))) (by decide) (backOf (W := 0) (rm1 l Z a0 hw [] p0 (8592 : Int32) (11263 : Int32) h0 n0 Z0) hZ (hw _ (List.mem_of_getElem? (i := 14) rfl)) (hw _ (List.mem_of_getElem? (i := 13) rfl)) (by decide) (by decide)) (g := (mkF m 96 #[.val (.int p0)] [(.int (11263 : Int32)), (.int (8592 : Int32)), (.int p0)])) rfl (by rw [hml]; rfl) (argsL := [(.int p0), (.int (8592 : Int32)), (.int (11263 : Int32))]) (rest := []) (lenOf pd0 rfl) rfl (by show 2 * 0 + _ ≤ _; exact Nat.le_of_eq rfl) (hb hby d3_96) (fun _ _ => ⟨rfl, eq5, (by decide : 0 + 0 ≤ _), (by decide : 0 + 0 ≤ _)⟩)
                    dsimp only [Pt.U, Pt.locs, Pt.cells, Pt.slots] at X6 l6 y6 z6 st6 hQ6
                    subst l6 y6 z6
                    obtain ⟨rfl, Nq6, eq6⟩ := hQ6
                    have N6 := Fr.app N5 Nq6
                    refine Go.by st6 ?_
                    show Go _ _ _ _ (T6.setTop (mkF m 99 #[.val (.int p0)] [(.int (f1_0 p0 (8592 : Int32) (11263 : Int32)))]))
                    by_cases hc99 : (f1_0 p0 (8592 : Int32) (11263 : Int32)) = 0
                    · have hv := hv.trans (if_pos hc99)
                      refine Go.by (fun t k => XS.ifNo X6.here hx rfl (hb hby d3_99) rfl (XT.i0_ne_f hc99) k) ?_
                      show Go _ _ _ _ (T6.setTop (mkF m 102 #[.val (.int p0)] []))
                      refine Go.by (fun t k => XS.iloadN X6.here hx rfl (hb hby d3_102) rfl k) ?_
                      show Go _ _ _ _ (T6.setTop (mkF m 103 #[.val (.int p0)] [(.int p0)]))
                      refine Go.by (fun t k => XS.sipush X6.here hx rfl (hb hby d3_103) k) ?_
                      show Go _ _ _ _ (T6.setTop (mkF m 106 #[.val (.int p0)] [(.int (12272 : Int32)), (.int p0)]))
                      refine Go.by (fun t k => XS.sipush X6.here hx rfl (hb hby d3_106) k) ?_
                      show Go _ _ _ _ (T6.setTop (mkF m 109 #[.val (.int p0)] [(.int (12288 : Int32)), (.int (12272 : Int32)), (.int p0)]))
                      obtain ⟨_, _, ⟨T7, L7, k7, n7⟩, -, X7, ⟨Lc7, hQ7, l7, y7, z7⟩, st7⟩ := Jvm.LawKit.callS X6 hx (y := (⟨"com/example/ixel/ixel/util/XmlCharsIsNcNameStartCharPinLaw", "in", "(III)Z"⟩ : MethodName)) hown (mvT hZ (hw _ (List.mem_of_getElem? (i := 11) rfl))) (mvT hZ (hw _ (List.mem_of_getElem? (i := 12) rfl))) (mvT hZ (hw _ (List.mem_of_getElem? (i := 13) rfl))) (mvT hZ (hw _ (List.mem_of_getElem? (i := 14) rfl))) (by decide) (backOf (W := 0) (rm1 l Z a0 hw [] p0 (12272 : Int32) (12288 : Int32) h0 n0 Z0) hZ (hw _ (List.mem_of_getElem? (i := 14) rfl)) (hw _ (List.mem_of_getElem? (i := 13) rfl)) (by decide) (by decide)) (g := (mkF m 109 #[.val (.int p0)] [(.int (12288 : Int32)), (.int (12272 : Int32)), (.int p0)])) rfl (by rw [hml]; rfl) (argsL := [(.int p0), (.int (12272 : Int32)), (.int (12288 : Int32))]) (rest := []) (lenOf pd0 rfl) rfl (by show 2 * 0 + _ ≤ _; exact Nat.le_of_eq rfl) (hb hby d3_109) (fun _ _ => ⟨rfl, eq6, (by decide : 0 + 0 ≤ _), (by decide : 0 + 0 ≤ _)⟩)
                      dsimp only [Pt.U, Pt.locs, Pt.cells, Pt.slots] at X7 l7 y7 z7 st7 hQ7
                      subst l7 y7 z7
                      obtain ⟨rfl, Nq7, eq7⟩ := hQ7
                      have N7 := Fr.app N6 Nq7
                      refine Go.by st7 ?_
                      show Go _ _ _ _ (T7.setTop (mkF m 112 #[.val (.int p0)] [(.int (f1_0 p0 (12272 : Int32) (12288 : Int32)))]))
                      by_cases hc112 : (f1_0 p0 (12272 : Int32) (12288 : Int32)) = 0
                      · have hv := hv.trans (if_pos hc112)
                        refine Go.by (fun t k => XS.ifNo X7.here hx rfl (hb hby d3_112) rfl (XT.i0_ne_f hc112) k) ?_
                        show Go _ _ _ _ (T7.setTop (mkF m 115 #[.val (.int p0)] []))
                        refine Go.by (fun t k => XS.iloadN X7.here hx rfl (hb hby d3_115) rfl k) ?_
                        show Go _ _ _ _ (T7.setTop (mkF m 116 #[.val (.int p0)] [(.int p0)]))
                        refine Go.by (fun t k => X7.ldcI hx hown (mvT hZ (hw _ (List.mem_of_getElem? (i := 31) rfl))) (g := (mkF m 116 #[.val (.int p0)] [(.int p0)])) rfl (hb hby d3_116) k) ?_
                        show Go _ _ _ _ (T7.setTop (mkF m 118 #[.val (.int p0)] [(.int (55296 : Int32)), (.int p0)]))
                        refine Go.by (fun t k => X7.ldcI hx hown (mvT hZ (hw _ (List.mem_of_getElem? (i := 32) rfl))) (g := (mkF m 118 #[.val (.int p0)] [(.int (55296 : Int32)), (.int p0)])) rfl (hb hby d3_118) k) ?_
                        show Go _ _ _ _ (T7.setTop (mkF m 120 #[.val (.int p0)] [(.int (63743 : Int32)), (.int (55296 : Int32)), (.int p0)]))
                        obtain ⟨_, _, ⟨T8, L8, k8, n8⟩, -, X8, ⟨Lc8, hQ8, l8, y8, z8⟩, st8⟩ := Jvm.LawKit.callS X7 hx (y := (⟨"com/example/ixel/ixel/util/XmlCharsIsNcNameStartCharPinLaw", "in", "(III)Z"⟩ : MethodName)) hown (mvT hZ (hw _ (List.mem_of_getElem? (i := 11) rfl))) (mvT hZ (hw _ (List.mem_of_getElem? (i := 12) rfl))) (mvT hZ (hw _ (List.mem_of_getElem? (i := 13) rfl))) (mvT hZ (hw _ (List.mem_of_getElem? (i := 14) rfl))) (by decide) (backOf (W := 0) (rm1 l Z a0 hw [] p0 (55296 : Int32) (63743 : Int32) h0 n0 Z0) hZ (hw _ (List.mem_of_getElem? (i := 14) rfl)) (hw _ (List.mem_of_getElem? (i := 13) rfl)) (by decide) (by decide)) (g := (mkF m 120 #[.val (.int p0)] [(.int (63743 : Int32)), (.int (55296 : Int32)), (.int p0)])) rfl (by rw [hml]; rfl) (argsL := [(.int p0), (.int (55296 : Int32)), (.int (63743 : Int32))]) (rest := []) (lenOf pd0 rfl) rfl (by show 2 * 0 + _ ≤ _; exact Nat.le_of_eq rfl) (hb hby d3_120) (fun _ _ => ⟨rfl, eq7, (by decide : 0 + 0 ≤ _), (by decide : 0 + 0 ≤ _)⟩)
                        dsimp only [Pt.U, Pt.locs, Pt.cells, Pt.slots] at X8 l8 y8 z8 st8 hQ8
                        subst l8 y8 z8
                        obtain ⟨rfl, Nq8, eq8⟩ := hQ8
                        have N8 := Fr.app N7 Nq8
                        refine Go.by st8 ?_
                        show Go _ _ _ _ (T8.setTop (mkF m 123 #[.val (.int p0)] [(.int (f1_0 p0 (55296 : Int32) (63743 : Int32)))]))
                        by_cases hc123 : (f1_0 p0 (55296 : Int32) (63743 : Int32)) = 0
                        · have hv := hv.trans (if_pos hc123)
                          refine Go.by (fun t k => XS.ifNo X8.here hx rfl (hb hby d3_123) rfl (XT.i0_ne_f hc123) k) ?_
                          show Go _ _ _ _ (T8.setTop (mkF m 126 #[.val (.int p0)] []))
                          refine Go.by (fun t k => XS.iloadN X8.here hx rfl (hb hby d3_126) rfl k) ?_
                          show Go _ _ _ _ (T8.setTop (mkF m 127 #[.val (.int p0)] [(.int p0)]))
                          refine Go.by (fun t k => X8.ldcI hx hown (mvT hZ (hw _ (List.mem_of_getElem? (i := 33) rfl))) (g := (mkF m 127 #[.val (.int p0)] [(.int p0)])) rfl (hb hby d3_127) k) ?_
                          show Go _ _ _ _ (T8.setTop (mkF m 129 #[.val (.int p0)] [(.int (64976 : Int32)), (.int p0)]))
                          refine Go.by (fun t k => X8.ldcI hx hown (mvT hZ (hw _ (List.mem_of_getElem? (i := 34) rfl))) (g := (mkF m 129 #[.val (.int p0)] [(.int (64976 : Int32)), (.int p0)])) rfl (hb hby d3_129) k) ?_
                          show Go _ _ _ _ (T8.setTop (mkF m 131 #[.val (.int p0)] [(.int (65007 : Int32)), (.int (64976 : Int32)), (.int p0)]))
                          obtain ⟨_, _, ⟨T9, L9, k9, n9⟩, -, X9, ⟨Lc9, hQ9, l9, y9, z9⟩, st9⟩ := Jvm.LawKit.callS X8 hx (y := (⟨"com/example/ixel/ixel/util/XmlCharsIsNcNameStartCharPinLaw", "in", "(III)Z"⟩ : MethodName)) hown (mvT hZ (hw _ (List.mem_of_getElem? (i := 11) rfl))) (mvT hZ (hw _ (List.mem_of_getElem? (i := 12) rfl))) (mvT hZ (hw _ (List.mem_of_getElem? (i := 13) rfl))) (mvT hZ (hw _ (List.mem_of_getElem? (i := 14) rfl))) (by decide) (backOf (W := 0) (rm1 l Z a0 hw [] p0 (64976 : Int32) (65007 : Int32) h0 n0 Z0) hZ (hw _ (List.mem_of_getElem? (i := 14) rfl)) (hw _ (List.mem_of_getElem? (i := 13) rfl)) (by decide) (by decide)) (g := (mkF m 131 #[.val (.int p0)] [(.int (65007 : Int32)), (.int (64976 : Int32)), (.int p0)])) rfl (by rw [hml]; rfl) (argsL := [(.int p0), (.int (64976 : Int32)), (.int (65007 : Int32))]) (rest := []) (lenOf pd0 rfl) rfl (by show 2 * 0 + _ ≤ _; exact Nat.le_of_eq rfl) (hb hby d3_131) (fun _ _ => ⟨rfl, eq8, (by decide : 0 + 0 ≤ _), (by decide : 0 + 0 ≤ _)⟩)
                          dsimp only [Pt.U, Pt.locs, Pt.cells, Pt.slots] at X9 l9 y9 z9 st9 hQ9
                          subst l9 y9 z9
                          obtain ⟨rfl, Nq9, eq9⟩ := hQ9
                          have N9 := Fr.app N8 Nq9
                          refine Go.by st9 ?_
                          show Go _ _ _ _ (T9.setTop (mkF m 134 #[.val (.int p0)] [(.int (f1_0 p0 (64976 : Int32) (65007 : Int32)))]))
                          by_cases hc134 : (f1_0 p0 (64976 : Int32) (65007 : Int32)) = 0
                          · have hv := hv.trans (if_pos hc134)
                            refine Go.by (fun t k => XS.ifNo X9.here hx rfl (hb hby d3_134) rfl (XT.i0_ne_f hc134) k) ?_
                            show Go _ _ _ _ (T9.setTop (mkF m 137 #[.val (.int p0)] []))
                            refine Go.by (fun t k => XS.iloadN X9.here hx rfl (hb hby d3_137) rfl k) ?_
                            show Go _ _ _ _ (T9.setTop (mkF m 138 #[.val (.int p0)] [(.int p0)]))
                            refine Go.by (fun t k => X9.ldcI hx hown (mvT hZ (hw _ (List.mem_of_getElem? (i := 35) rfl))) (g := (mkF m 138 #[.val (.int p0)] [(.int p0)])) rfl (hb hby d3_138) k) ?_
                            show Go _ _ _ _ (T9.setTop (mkF m 140 #[.val (.int p0)] [(.int (65534 : Int32)), (.int p0)]))
                            refine Go.by (fun t k => X9.ldcI hx hown (mvT hZ (hw _ (List.mem_of_getElem? (i := 10) rfl))) (g := (mkF m 140 #[.val (.int p0)] [(.int (65534 : Int32)), (.int p0)])) rfl (hb hby d3_140) k) ?_
                            show Go _ _ _ _ (T9.setTop (mkF m 142 #[.val (.int p0)] [(.int (65535 : Int32)), (.int (65534 : Int32)), (.int p0)]))
                            obtain ⟨_, _, ⟨T10, L10, k10, n10⟩, -, X10, ⟨Lc10, hQ10, l10, y10, z10⟩, st10⟩ := Jvm.LawKit.callS X9 hx (y := (⟨"com/example/ixel/ixel/util/XmlCharsIsNcNameStartCharPinLaw", "in", "(III)Z"⟩ : MethodName)) hown (mvT hZ (hw _ (List.mem_of_getElem? (i := 11) rfl))) (mvT hZ (hw _ (List.mem_of_getElem? (i := 12) rfl))) (mvT hZ (hw _ (List.mem_of_getElem? (i := 13) rfl))) (mvT hZ (hw _ (List.mem_of_getElem? (i := 14) rfl))) (by decide) (backOf (W := 0) (rm1 l Z a0 hw [] p0 (65534 : Int32) (65535 : Int32) h0 n0 Z0) hZ (hw _ (List.mem_of_getElem? (i := 14) rfl)) (hw _ (List.mem_of_getElem? (i := 13) rfl)) (by decide) (by decide)) (g := (mkF m 142 #[.val (.int p0)] [(.int (65535 : Int32)), (.int (65534 : Int32)), (.int p0)])) rfl (by rw [hml]; rfl) (argsL := [(.int p0), (.int (65534 : Int32)), (.int (65535 : Int32))]) (rest := []) (lenOf pd0 rfl) rfl (by show 2 * 0 + _ ≤ _; exact Nat.le_of_eq rfl) (hb hby d3_142) (fun _ _ => ⟨rfl, eq9, (by decide : 0 + 0 ≤ _), (by decide : 0 + 0 ≤ _)⟩)
                            dsimp only [Pt.U, Pt.locs, Pt.cells, Pt.slots] at X10 l10 y10 z10 st10 hQ10
                            subst l10 y10 z10
                            obtain ⟨rfl, Nq10, eq10⟩ := hQ10
                            have N10 := Fr.app N9 Nq10
                            refine Go.by st10 ?_
                            show Go _ _ _ _ (T10.setTop (mkF m 145 #[.val (.int p0)] [(.int (f1_0 p0 (65534 : Int32) (65535 : Int32)))]))
                            by_cases hc145 : (f1_0 p0 (65534 : Int32) (65535 : Int32)) = 0
                            · have hv := hv.trans (if_pos hc145)
                              refine Go.by (fun t k => XS.ifYes X10.here hx rfl (pc0 := 145) (pc' := 152) rfl (hb hby d3_145) rfl (XT.i0_eq_t hc145) (by decide) (by decide) k) ?_
                              show Go _ _ _ _ (T10.setTop (mkF m 152 #[.val (.int p0)] []))
                              refine Go.by (fun t k => XS.iconst X10.here hx rfl (hb hby d3_152) k) ?_
                              show Go _ _ _ _ (T10.setTop (mkF m 153 #[.val (.int p0)] [(.int (0 : Int32))]))
                              exact Go.retZ (Q := Q3 p0 h0 n0) X10 hx hlk Bd.returns (hb hby d3_153) ⟨by rw [hv]; rfl, N10, eq10⟩ (by decide) (by decide)
                            · have hv := hv.trans (if_neg hc145)
                              refine Go.by (fun t k => XS.ifNo X10.here hx rfl (hb hby d3_145) rfl (XT.i0_eq_f hc145) k) ?_
                              exact J148 T10 _ X10 eq10 N10 hv
                          · have hv := hv.trans (if_neg hc134)
                            refine Go.by (fun t k => XS.ifYes X9.here hx rfl (pc0 := 134) (pc' := 148) rfl (hb hby d3_134) rfl (XT.i0_ne_t hc134) (by decide) (by decide) k) ?_
                            exact J148 T9 _ X9 eq9 N9 hv
                        · have hv := hv.trans (if_neg hc123)
                          refine Go.by (fun t k => XS.ifYes X8.here hx rfl (pc0 := 123) (pc' := 148) rfl (hb hby d3_123) rfl (XT.i0_ne_t hc123) (by decide) (by decide) k) ?_
                          exact J148 T8 _ X8 eq8 N8 hv
                      · have hv := hv.trans (if_neg hc112)
                        refine Go.by (fun t k => XS.ifYes X7.here hx rfl (pc0 := 112) (pc' := 148) rfl (hb hby d3_112) rfl (XT.i0_ne_t hc112) (by decide) (by decide) k) ?_
                        exact J148 T7 _ X7 eq7 N7 hv
                    · have hv := hv.trans (if_neg hc99)
                      refine Go.by (fun t k => XS.ifYes X6.here hx rfl (pc0 := 99) (pc' := 148) rfl (hb hby d3_99) rfl (XT.i0_ne_t hc99) (by decide) (by decide) k) ?_
                      exact J148 T6 _ X6 eq6 N6 hv
                  · have hv := hv.trans (if_neg hc86)
                    refine Go.by (fun t k => XS.ifYes X5.here hx rfl (pc0 := 86) (pc' := 148) rfl (hb hby d3_86) rfl (XT.i0_ne_t hc86) (by decide) (by decide) k) ?_
                    exact J148 T5 _ X5 eq5 N5 hv
                · have hv := hv.trans (if_neg hc73)
                  refine Go.by (fun t k => XS.ifYes X4.here hx rfl (pc0 := 73) (pc' := 148) rfl (hb hby d3_73) rfl (XT.i0_ne_t hc73) (by decide) (by decide) k) ?_
                  exact J148 T4 _ X4 eq4 N4 hv
            · have hv := hv.trans (if_neg hc53)
              refine Go.by (fun t k => XS.ifYes X3.here hx rfl (pc0 := 53) (pc' := 148) rfl (hb hby d3_53) rfl (XT.i0_ne_t hc53) (by decide) (by decide) k) ?_
              exact J148 T3 _ X3 eq3 N3 hv
      · have hv := hv.trans (if_neg hc26)
        refine Go.by (fun t k => XS.ifYes X2.here hx rfl (pc0 := 26) (pc' := 148) rfl (hb hby d3_26) rfl (XT.i0_ne_t hc26) (by decide) (by decide) k) ?_
        exact J148 T2 _ X2 eq2 N2 hv
  · have hv := hv.trans (if_neg hc8)
    refine Go.by (fun t k => XS.ifYes X1.here hx rfl (pc0 := 8) (pc' := 148) rfl (hb hby d3_8) rfl (XT.i0_ne_t hc8) (by decide) (by decide) k) ?_
    exact J148 T1 _ X1 eq1 N1 hv
theorem qf2_179 (p0 : Int32) : f2_179 p0 = if ((65536 ≤ p0.toInt ∧ p0.toInt ≤ 983039) ∨ False) then 1 else 0 := (own_in (lo := (65536 : Int32)) (hi := (983039 : Int32)) rfl rfl own_zero)
theorem qf2_167 (p0 : Int32) : f2_167 p0 = if ((65008 ≤ p0.toInt ∧ p0.toInt ≤ 65533) ∨ ((65536 ≤ p0.toInt ∧ p0.toInt ≤ 983039) ∨ False)) then 1 else 0 := (own_in (lo := (65008 : Int32)) (hi := (65533 : Int32)) rfl rfl (qf2_179 p0))
theorem qf2_155 (p0 : Int32) : f2_155 p0 = if ((63744 ≤ p0.toInt ∧ p0.toInt ≤ 64975) ∨ ((65008 ≤ p0.toInt ∧ p0.toInt ≤ 65533) ∨ ((65536 ≤ p0.toInt ∧ p0.toInt ≤ 983039) ∨ False))) then 1 else 0 := (own_in (lo := (63744 : Int32)) (hi := (64975 : Int32)) rfl rfl (qf2_167 p0))
theorem qf2_142 (p0 : Int32) : f2_142 p0 = if ((12289 ≤ p0.toInt ∧ p0.toInt ≤ 55295) ∨ ((63744 ≤ p0.toInt ∧ p0.toInt ≤ 64975) ∨ ((65008 ≤ p0.toInt ∧ p0.toInt ≤ 65533) ∨ ((65536 ≤ p0.toInt ∧ p0.toInt ≤ 983039) ∨ False)))) then 1 else 0 := (own_in (lo := (12289 : Int32)) (hi := (55295 : Int32)) rfl rfl (qf2_155 p0))
theorem qf2_128 (p0 : Int32) : f2_128 p0 = if ((11264 ≤ p0.toInt ∧ p0.toInt ≤ 12271) ∨ ((12289 ≤ p0.toInt ∧ p0.toInt ≤ 55295) ∨ ((63744 ≤ p0.toInt ∧ p0.toInt ≤ 64975) ∨ ((65008 ≤ p0.toInt ∧ p0.toInt ≤ 65533) ∨ ((65536 ≤ p0.toInt ∧ p0.toInt ≤ 983039) ∨ False))))) then 1 else 0 := (own_in (lo := (11264 : Int32)) (hi := (12271 : Int32)) rfl rfl (qf2_142 p0))
theorem qf2_114 (p0 : Int32) : f2_114 p0 = if ((8304 ≤ p0.toInt ∧ p0.toInt ≤ 8591) ∨ ((11264 ≤ p0.toInt ∧ p0.toInt ≤ 12271) ∨ ((12289 ≤ p0.toInt ∧ p0.toInt ≤ 55295) ∨ ((63744 ≤ p0.toInt ∧ p0.toInt ≤ 64975) ∨ ((65008 ≤ p0.toInt ∧ p0.toInt ≤ 65533) ∨ ((65536 ≤ p0.toInt ∧ p0.toInt ≤ 983039) ∨ False)))))) then 1 else 0 := (own_in (lo := (8304 : Int32)) (hi := (8591 : Int32)) rfl rfl (qf2_128 p0))
theorem qf2_100 (p0 : Int32) : f2_100 p0 = if ((8204 ≤ p0.toInt ∧ p0.toInt ≤ 8205) ∨ ((8304 ≤ p0.toInt ∧ p0.toInt ≤ 8591) ∨ ((11264 ≤ p0.toInt ∧ p0.toInt ≤ 12271) ∨ ((12289 ≤ p0.toInt ∧ p0.toInt ≤ 55295) ∨ ((63744 ≤ p0.toInt ∧ p0.toInt ≤ 64975) ∨ ((65008 ≤ p0.toInt ∧ p0.toInt ≤ 65533) ∨ ((65536 ≤ p0.toInt ∧ p0.toInt ≤ 983039) ∨ False))))))) then 1 else 0 := (own_in (lo := (8204 : Int32)) (hi := (8205 : Int32)) rfl rfl (qf2_114 p0))
theorem qf2_86 (p0 : Int32) : f2_86 p0 = if ((895 ≤ p0.toInt ∧ p0.toInt ≤ 8191) ∨ ((8204 ≤ p0.toInt ∧ p0.toInt ≤ 8205) ∨ ((8304 ≤ p0.toInt ∧ p0.toInt ≤ 8591) ∨ ((11264 ≤ p0.toInt ∧ p0.toInt ≤ 12271) ∨ ((12289 ≤ p0.toInt ∧ p0.toInt ≤ 55295) ∨ ((63744 ≤ p0.toInt ∧ p0.toInt ≤ 64975) ∨ ((65008 ≤ p0.toInt ∧ p0.toInt ≤ 65533) ∨ ((65536 ≤ p0.toInt ∧ p0.toInt ≤ 983039) ∨ False)))))))) then 1 else 0 := (own_in (lo := (895 : Int32)) (hi := (8191 : Int32)) rfl rfl (qf2_100 p0))
theorem qf2_72 (p0 : Int32) : f2_72 p0 = if ((880 ≤ p0.toInt ∧ p0.toInt ≤ 893) ∨ ((895 ≤ p0.toInt ∧ p0.toInt ≤ 8191) ∨ ((8204 ≤ p0.toInt ∧ p0.toInt ≤ 8205) ∨ ((8304 ≤ p0.toInt ∧ p0.toInt ≤ 8591) ∨ ((11264 ≤ p0.toInt ∧ p0.toInt ≤ 12271) ∨ ((12289 ≤ p0.toInt ∧ p0.toInt ≤ 55295) ∨ ((63744 ≤ p0.toInt ∧ p0.toInt ≤ 64975) ∨ ((65008 ≤ p0.toInt ∧ p0.toInt ≤ 65533) ∨ ((65536 ≤ p0.toInt ∧ p0.toInt ≤ 983039) ∨ False))))))))) then 1 else 0 := (own_in (lo := (880 : Int32)) (hi := (893 : Int32)) rfl rfl (qf2_86 p0))
theorem qf2_58 (p0 : Int32) : f2_58 p0 = if ((248 ≤ p0.toInt ∧ p0.toInt ≤ 767) ∨ ((880 ≤ p0.toInt ∧ p0.toInt ≤ 893) ∨ ((895 ≤ p0.toInt ∧ p0.toInt ≤ 8191) ∨ ((8204 ≤ p0.toInt ∧ p0.toInt ≤ 8205) ∨ ((8304 ≤ p0.toInt ∧ p0.toInt ≤ 8591) ∨ ((11264 ≤ p0.toInt ∧ p0.toInt ≤ 12271) ∨ ((12289 ≤ p0.toInt ∧ p0.toInt ≤ 55295) ∨ ((63744 ≤ p0.toInt ∧ p0.toInt ≤ 64975) ∨ ((65008 ≤ p0.toInt ∧ p0.toInt ≤ 65533) ∨ ((65536 ≤ p0.toInt ∧ p0.toInt ≤ 983039) ∨ False)))))))))) then 1 else 0 := (own_in (lo := (248 : Int32)) (hi := (767 : Int32)) rfl rfl (qf2_72 p0))
theorem qf2_44 (p0 : Int32) : f2_44 p0 = if ((216 ≤ p0.toInt ∧ p0.toInt ≤ 246) ∨ ((248 ≤ p0.toInt ∧ p0.toInt ≤ 767) ∨ ((880 ≤ p0.toInt ∧ p0.toInt ≤ 893) ∨ ((895 ≤ p0.toInt ∧ p0.toInt ≤ 8191) ∨ ((8204 ≤ p0.toInt ∧ p0.toInt ≤ 8205) ∨ ((8304 ≤ p0.toInt ∧ p0.toInt ≤ 8591) ∨ ((11264 ≤ p0.toInt ∧ p0.toInt ≤ 12271) ∨ ((12289 ≤ p0.toInt ∧ p0.toInt ≤ 55295) ∨ ((63744 ≤ p0.toInt ∧ p0.toInt ≤ 64975) ∨ ((65008 ≤ p0.toInt ∧ p0.toInt ≤ 65533) ∨ ((65536 ≤ p0.toInt ∧ p0.toInt ≤ 983039) ∨ False))))))))))) then 1 else 0 := (own_in (lo := (216 : Int32)) (hi := (246 : Int32)) rfl rfl (qf2_58 p0))
theorem qf2_24 (p0 : Int32) : f2_24 p0 = if (p0.toInt = 95 ∨ ((192 ≤ p0.toInt ∧ p0.toInt ≤ 214) ∨ ((216 ≤ p0.toInt ∧ p0.toInt ≤ 246) ∨ ((248 ≤ p0.toInt ∧ p0.toInt ≤ 767) ∨ ((880 ≤ p0.toInt ∧ p0.toInt ≤ 893) ∨ ((895 ≤ p0.toInt ∧ p0.toInt ≤ 8191) ∨ ((8204 ≤ p0.toInt ∧ p0.toInt ≤ 8205) ∨ ((8304 ≤ p0.toInt ∧ p0.toInt ≤ 8591) ∨ ((11264 ≤ p0.toInt ∧ p0.toInt ≤ 12271) ∨ ((12289 ≤ p0.toInt ∧ p0.toInt ≤ 55295) ∨ ((63744 ≤ p0.toInt ∧ p0.toInt ≤ 64975) ∨ ((65008 ≤ p0.toInt ∧ p0.toInt ≤ 65533) ∨ ((65536 ≤ p0.toInt ∧ p0.toInt ≤ 983039) ∨ False))))))))))))) then 1 else 0 := (own_is (k := (95 : Int32)) rfl (own_in (lo := (192 : Int32)) (hi := (214 : Int32)) rfl rfl (qf2_44 p0)))
theorem qf2_12 (p0 : Int32) : f2_12 p0 = if ((65 ≤ p0.toInt ∧ p0.toInt ≤ 90) ∨ (p0.toInt = 95 ∨ ((192 ≤ p0.toInt ∧ p0.toInt ≤ 214) ∨ ((216 ≤ p0.toInt ∧ p0.toInt ≤ 246) ∨ ((248 ≤ p0.toInt ∧ p0.toInt ≤ 767) ∨ ((880 ≤ p0.toInt ∧ p0.toInt ≤ 893) ∨ ((895 ≤ p0.toInt ∧ p0.toInt ≤ 8191) ∨ ((8204 ≤ p0.toInt ∧ p0.toInt ≤ 8205) ∨ ((8304 ≤ p0.toInt ∧ p0.toInt ≤ 8591) ∨ ((11264 ≤ p0.toInt ∧ p0.toInt ≤ 12271) ∨ ((12289 ≤ p0.toInt ∧ p0.toInt ≤ 55295) ∨ ((63744 ≤ p0.toInt ∧ p0.toInt ≤ 64975) ∨ ((65008 ≤ p0.toInt ∧ p0.toInt ≤ 65533) ∨ ((65536 ≤ p0.toInt ∧ p0.toInt ≤ 983039) ∨ False)))))))))))))) then 1 else 0 := (own_in (lo := (65 : Int32)) (hi := (90 : Int32)) rfl rfl (qf2_24 p0))
theorem qf2_0 (p0 : Int32) : f2_0 p0 = if ((97 ≤ p0.toInt ∧ p0.toInt ≤ 122) ∨ ((65 ≤ p0.toInt ∧ p0.toInt ≤ 90) ∨ (p0.toInt = 95 ∨ ((192 ≤ p0.toInt ∧ p0.toInt ≤ 214) ∨ ((216 ≤ p0.toInt ∧ p0.toInt ≤ 246) ∨ ((248 ≤ p0.toInt ∧ p0.toInt ≤ 767) ∨ ((880 ≤ p0.toInt ∧ p0.toInt ≤ 893) ∨ ((895 ≤ p0.toInt ∧ p0.toInt ≤ 8191) ∨ ((8204 ≤ p0.toInt ∧ p0.toInt ≤ 8205) ∨ ((8304 ≤ p0.toInt ∧ p0.toInt ≤ 8591) ∨ ((11264 ≤ p0.toInt ∧ p0.toInt ≤ 12271) ∨ ((12289 ≤ p0.toInt ∧ p0.toInt ≤ 55295) ∨ ((63744 ≤ p0.toInt ∧ p0.toInt ≤ 64975) ∨ ((65008 ≤ p0.toInt ∧ p0.toInt ≤ 65533) ∨ ((65536 ≤ p0.toInt ∧ p0.toInt ≤ 983039) ∨ False))))))))))))))) then 1 else 0 := (own_in (lo := (97 : Int32)) (hi := (122 : Int32)) rfl rfl (qf2_12 p0))
theorem qf3_0 (p0 : Int32) : f3_0 p0 = if ((91 ≤ p0.toInt ∧ p0.toInt ≤ 94) ∨ (p0.toInt = 96 ∨ ((123 ≤ p0.toInt ∧ p0.toInt ≤ 191) ∨ (p0.toInt = 215 ∨ (p0.toInt = 247 ∨ ((768 ≤ p0.toInt ∧ p0.toInt ≤ 879) ∨ (p0.toInt = 894 ∨ ((8192 ≤ p0.toInt ∧ p0.toInt ≤ 8203) ∨ ((8206 ≤ p0.toInt ∧ p0.toInt ≤ 8303) ∨ ((8592 ≤ p0.toInt ∧ p0.toInt ≤ 11263) ∨ ((12272 ≤ p0.toInt ∧ p0.toInt ≤ 12288) ∨ ((55296 ≤ p0.toInt ∧ p0.toInt ≤ 63743) ∨ ((64976 ≤ p0.toInt ∧ p0.toInt ≤ 65007) ∨ ((65534 ≤ p0.toInt ∧ p0.toInt ≤ 65535) ∨ False)))))))))))))) then 1 else 0 := (own_inx (lo := (91 : Int32)) (hi := (94 : Int32)) rfl rfl (own_is (k := (96 : Int32)) rfl (own_inx (lo := (123 : Int32)) (hi := (191 : Int32)) rfl rfl (own_is (k := (215 : Int32)) rfl (own_is (k := (247 : Int32)) rfl (own_inx (lo := (768 : Int32)) (hi := (879 : Int32)) rfl rfl (own_is (k := (894 : Int32)) rfl (own_inx (lo := (8192 : Int32)) (hi := (8203 : Int32)) rfl rfl (own_inx (lo := (8206 : Int32)) (hi := (8303 : Int32)) rfl rfl (own_inx (lo := (8592 : Int32)) (hi := (11263 : Int32)) rfl rfl (own_inx (lo := (12272 : Int32)) (hi := (12288 : Int32)) rfl rfl (own_inx (lo := (55296 : Int32)) (hi := (63743 : Int32)) rfl rfl (own_inx (lo := (64976 : Int32)) (hi := (65007 : Int32)) rfl rfl (own_inx (lo := (65534 : Int32)) (hi := (65535 : Int32)) rfl rfl own_zero))))))))))))))
theorem own_iff (t : Int) : ((97 ≤ t ∧ t ≤ 122) ∨ ((65 ≤ t ∧ t ≤ 90) ∨ (t = 95 ∨ ((192 ≤ t ∧ t ≤ 214) ∨ ((216 ≤ t ∧ t ≤ 246) ∨ ((248 ≤ t ∧ t ≤ 767) ∨ ((880 ≤ t ∧ t ≤ 893) ∨ ((895 ≤ t ∧ t ≤ 8191) ∨ ((8204 ≤ t ∧ t ≤ 8205) ∨ ((8304 ≤ t ∧ t ≤ 8591) ∨ ((11264 ≤ t ∧ t ≤ 12271) ∨ ((12289 ≤ t ∧ t ≤ 55295) ∨ ((63744 ≤ t ∧ t ≤ 64975) ∨ ((65008 ≤ t ∧ t ≤ 65533) ∨ ((65536 ≤ t ∧ t ≤ 983039) ∨ False))))))))))))))) ↔ ((65 ≤ t ∧ t ≤ 983039) ∧ ¬ ((91 ≤ t ∧ t ≤ 94) ∨ (t = 96 ∨ ((123 ≤ t ∧ t ≤ 191) ∨ (t = 215 ∨ (t = 247 ∨ ((768 ≤ t ∧ t ≤ 879) ∨ (t = 894 ∨ ((8192 ≤ t ∧ t ≤ 8203) ∨ ((8206 ≤ t ∧ t ≤ 8303) ∨ ((8592 ≤ t ∧ t ≤ 11263) ∨ ((12272 ≤ t ∧ t ≤ 12288) ∨ ((55296 ≤ t ∧ t ≤ 63743) ∨ ((64976 ≤ t ∧ t ≤ 65007) ∨ ((65534 ≤ t ∧ t ≤ 65535) ∨ False))))))))))))))) := by
  simp only [or_false, false_or, and_false, and_true, true_and]
  omega
theorem own_f1 (c : Int32) : (f1_0 c (65 : Int32) (983039 : Int32)) = 0 ↔ ¬ (65 ≤ c.toInt ∧ c.toInt ≤ 983039) := own_f1z (lo := (65 : Int32)) (hi := (983039 : Int32)) rfl rfl
theorem own_f3 (p0 : Int32) : f3_0 p0 = 0 ↔ ¬ ((91 ≤ p0.toInt ∧ p0.toInt ≤ 94) ∨ (p0.toInt = 96 ∨ ((123 ≤ p0.toInt ∧ p0.toInt ≤ 191) ∨ (p0.toInt = 215 ∨ (p0.toInt = 247 ∨ ((768 ≤ p0.toInt ∧ p0.toInt ≤ 879) ∨ (p0.toInt = 894 ∨ ((8192 ≤ p0.toInt ∧ p0.toInt ≤ 8203) ∨ ((8206 ≤ p0.toInt ∧ p0.toInt ≤ 8303) ∨ ((8592 ≤ p0.toInt ∧ p0.toInt ≤ 11263) ∨ ((12272 ≤ p0.toInt ∧ p0.toInt ≤ 12288) ∨ ((55296 ≤ p0.toInt ∧ p0.toInt ≤ 63743) ∨ ((64976 ≤ p0.toInt ∧ p0.toInt ≤ 65007) ∨ ((65534 ≤ p0.toInt ∧ p0.toInt ≤ 65535) ∨ False)))))))))))))) := by
  rw [qf3_0]
  split <;> rename_i h
  · exact ⟨fun q => absurd q (by decide), fun q => absurd h q⟩
  · exact ⟨fun _ => h, fun _ => rfl⟩
theorem own_yes (x : Int32) (h1 : ¬ (f1_0 x (65 : Int32) (983039 : Int32)) = 0) (h2 : (f3_0 x) = 0) : (f2_0 x) = (1 : Int32) := by
  rw [qf2_0, if_pos]
  exact (own_iff _).mpr ⟨Classical.byContradiction fun q => h1 ((own_f1 x).mpr q), (own_f3 x).mp h2⟩
theorem own_no1 (x : Int32) (h1 : (f1_0 x (65 : Int32) (983039 : Int32)) = 0) : (f2_0 x) = (0 : Int32) := by
  rw [qf2_0, if_neg]
  exact fun q => (own_f1 x).mp h1 ((own_iff _).mp q).1
theorem own_no2 (x : Int32) (h2 : ¬ (f3_0 x) = 0) : (f2_0 x) = (0 : Int32) := by
  rw [qf2_0, if_neg]
  exact fun q => h2 ((own_f3 x).mpr ((own_iff _).mp q).2)
theorem pn_0 : plainName "com/example/ixel/ixel/util/XmlCharsIsNcNameStartCharPinLaw" = true := by first | (simp [plainName, overriddenIn]; done) | decide +kernel
theorem ef_0 (m : MethodId) (p0 : Int32) (p1 : Int32) (p2 : Int32) : entryFrame m #[(.int p0), (.int p1), (.int p2)] maxLocals = mkF m 0 #[.val (.int p0), .val (.int p1), .val (.int p2), .unset, .unset, .unset, .unset] [] := by first | (simp [entryFrame, mkF, argsToLocals, Value.category, maxLocals]; done) | rfl
def Q0 (n0 : Nat) (v : Option Value) (h : Heap) (L : List Loc) : Prop := v = some (.int 1) ∧ Fr n0 L
set_option maxRecDepth 65536 in
set_option maxHeartbeats 40000000 in
theorem rm0 (l : Launch) (Z : State) (a0 : Array Value) (hw : ∀ d ∈ tables_1, d.before a0 Z = true) (ws : List Jvm.Cond) (p0 : Int32) (p1 : Int32) (p2 : Int32)  (h0 : Heap) (n0 : Nat) (Z0 : n0 ≤ h0.size)  :
    MetFree l x (head1 (Jvm.Cond.code x code maxLocals ret :: ws) room_1) (fun a U => a = #[(.int p0), (.int p1), (.int p2)] ∧ Z.Warmed39 U.vm ∧ U.heap = h0) (fun _ _ _ _ _ => True) (fun _ U o U' => ∃ v L, o = .returned v ∧ (Q0 n0) v U'.heap L ∧ FrameEnd U o U' L room_1.cells room_1.slots) := by
  refine MetFree.of_bodySF (plainFor_of_name pn_0) hisR ?_
  intro p e s m args below meth c s₁ Bd hml0 hP hK
  obtain ⟨rfl, hZ, hh⟩ := hP
  have hx := Bd.exec
  have hby := Bd.bytes
  have hml : c.maxLocals = 7 := hml0
  have hown : s.vm.findClass "com/example/ixel/ixel/util/XmlCharsIsNcNameStartCharPinLaw" = some m.cls := findClass_of_methodNamed Bd.named
  have hnm := (name_of_methodNamed Bd.named Bd.method).1
  have hlk : meth.locks = false := Bd.notSynchronized
  have X0 : Stand p l e room_1 s m #[(.int p0), (.int p1), (.int p2)] below meth c s₁ [] 0 0 := Stand.of_body Bd
  have e0 : s₁.heap = h0 := by rw [← hh, Bd.state]; rfl
  have N0 := Fr.nil n0
  refine Go.by (tb := p.tables) (e := e) (below := below) (F := fun t o => ∃ v L, o = .returned v ∧ (Q0 n0) v t.heap L ∧ FrameEnd s o t L room_1.cells room_1.slots) (fun t k => castTop (ef_0 m p0 p1 p2) k) ?_
  have hz0 : n0 ≤ s₁.heap.size := by rw [e0]; exact Z0
  have J324 : ∀ (T : State) (locs : List Loc) (X : Stand p l e room_1 s m #[(.int p0), (.int p1), (.int p2)] below meth c T locs 1 35) (N : Fr n0 locs) (hz : n0 ≤ T.heap.size) (s0 : Slot) (s1 : Slot) (s2 : Slot) (s3 : Slot) (s4 : Slot) (c5 : Int32), Go p.tables e below (fun t o => ∃ v L, o = .returned v ∧ (Q0 n0) v t.heap L ∧ FrameEnd s o t L room_1.cells room_1.slots) (T.setTop (mkF m 324 #[s0, s1, s2, s3, s4, .val (.int c5), .unset] [])) := by
    intro T locs X N hz s0 s1 s2 s3 s4 c5
    show Go _ _ _ _ (T.setTop (mkF m 324 #[s0, s1, s2, s3, s4, .val (.int c5), .unset] []))
    refine Go.by (fun t k => XS.iload X.here hx rfl (hb hby at_324) rfl k) ?_
    show Go _ _ _ _ (T.setTop (mkF m 326 #[s0, s1, s2, s3, s4, .val (.int c5), .unset] [(.int c5)]))
    refine Go.by (fun t k => XS.bipush X.here hx rfl (hb hby at_326) k) ?_
    show Go _ _ _ _ (T.setTop (mkF m 328 #[s0, s1, s2, s3, s4, .val (.int c5), .unset] [(.int (65 : Int32)), (.int c5)]))
    refine Go.by (fun t k => X.ldcI hx hown (mvT hZ (hw _ (List.mem_of_getElem? (i := 7) rfl))) (g := (mkF m 328 #[s0, s1, s2, s3, s4, .val (.int c5), .unset] [(.int (65 : Int32)), (.int c5)])) rfl (hb hby at_328) k) ?_
    show Go _ _ _ _ (T.setTop (mkF m 330 #[s0, s1, s2, s3, s4, .val (.int c5), .unset] [(.int (983039 : Int32)), (.int (65 : Int32)), (.int c5)]))
    obtain ⟨_, _, ⟨T1, L1, k1, n1⟩, -, X1, ⟨Lc1, hQ1, l1, y1, z1⟩, st1⟩ := Jvm.LawKit.callS X hx (y := (⟨"com/example/ixel/ixel/util/XmlCharsIsNcNameStartCharPinLaw", "in", "(III)Z"⟩ : MethodName)) hown (mvT hZ (hw _ (List.mem_of_getElem? (i := 11) rfl))) (mvT hZ (hw _ (List.mem_of_getElem? (i := 12) rfl))) (mvT hZ (hw _ (List.mem_of_getElem? (i := 13) rfl))) (mvT hZ (hw _ (List.mem_of_getElem? (i := 14) rfl))) (by decide) (backOf (W := 0) (rm1 l Z a0 hw [] c5 (65 : Int32) (983039 : Int32) T.heap n0 hz) hZ (hw _ (List.mem_of_getElem? (i := 14) rfl)) (hw _ (List.mem_of_getElem? (i := 13) rfl)) (by decide) (by decide)) (g := (mkF m 330 #[s0, s1, s2, s3, s4, .val (.int c5), .unset] [(.int (983039 : Int32)), (.int (65 : Int32)), (.int c5)])) rfl (by rw [hml]; rfl) (argsL := [(.int c5), (.int (65 : Int32)), (.int (983039 : Int32))]) (rest := []) (lenOf pd0 rfl) rfl (by show 2 * 0 + _ ≤ _; exact Nat.le_of_eq rfl) (hb hby at_330) (fun _ _ => ⟨rfl, rfl, (by decide : 1 + 0 ≤ _), (by decide : 35 + 0 ≤ _)⟩)
    dsimp only [Pt.U, Pt.locs, Pt.cells, Pt.slots] at X1 l1 y1 z1 st1 hQ1
    subst l1 y1 z1
    obtain ⟨rfl, Nq1, eq1⟩ := hQ1
    have N1 := Fr.app N Nq1
    refine Go.by st1 ?_
    have hz1 : n0 ≤ T1.heap.size := by rw [eq1]; exact hz
    show Go _ _ _ _ (T1.setTop (mkF m 333 #[s0, s1, s2, s3, s4, .val (.int c5), .unset] [(.int (f1_0 c5 (65 : Int32) (983039 : Int32)))]))
    by_cases hc333 : (f1_0 c5 (65 : Int32) (983039 : Int32)) = 0
    · refine Go.by (fun t k => XS.ifYes X1.here hx rfl (pc0 := 333) (pc' := 348) rfl (hb hby at_333) rfl (XT.i0_eq_t hc333) (by decide) (by decide) k) ?_
      show Go _ _ _ _ (T1.setTop (mkF m 348 #[s0, s1, s2, s3, s4, .val (.int c5), .unset] []))
      refine Go.by (fun t k => XS.iconst X1.here hx rfl (hb hby at_348) k) ?_
      show Go _ _ _ _ (T1.setTop (mkF m 349 #[s0, s1, s2, s3, s4, .val (.int c5), .unset] [(.int (0 : Int32))]))
      refine Go.by (fun t k => XS.istore X1.here hx rfl (hb hby at_349) rfl (l' := #[s0, s1, s2, s3, s4, .val (.int c5), .val (.int (0 : Int32))]) rfl k) ?_
      show Go _ _ _ _ (T1.setTop (mkF m 351 #[s0, s1, s2, s3, s4, .val (.int c5), .val (.int (0 : Int32))] []))
      refine Go.by (fun t k => XS.iload X1.here hx rfl (hb hby at_351) rfl k) ?_
      show Go _ _ _ _ (T1.setTop (mkF m 353 #[s0, s1, s2, s3, s4, .val (.int c5), .val (.int (0 : Int32))] [(.int c5)]))
      obtain ⟨_, _, ⟨T2, L2, k2, n2⟩, -, X2, ⟨Lc2, hQ2, l2, y2, z2⟩, st2⟩ := Jvm.LawKit.callS X1 hx (y := (⟨"com/example/ixel/ixel/util/XmlChars", "isNcNameStartChar", "(I)Z"⟩ : MethodName)) hown (mvT hZ (hw _ (List.mem_of_getElem? (i := 15) rfl))) (mvT hZ (hw _ (List.mem_of_getElem? (i := 16) rfl))) (mvT hZ (hw _ (List.mem_of_getElem? (i := 17) rfl))) (mvT hZ (hw _ (List.mem_of_getElem? (i := 18) rfl))) (by decide) (backOf (W := 0) (rm2 l Z a0 hw [] c5 T1.heap n0 hz1) hZ (hw _ (List.mem_of_getElem? (i := 18) rfl)) (hw _ (List.mem_of_getElem? (i := 17) rfl)) (by decide) (by decide)) (g := (mkF m 353 #[s0, s1, s2, s3, s4, .val (.int c5), .val (.int (0 : Int32))] [(.int c5)])) rfl (by rw [hml]; rfl) (argsL := [(.int c5)]) (rest := []) (lenOf pd1 rfl) rfl (by show 2 * 0 + _ ≤ _; exact Nat.le_of_eq rfl) (hb hby at_353) (fun _ _ => ⟨rfl, rfl, (by decide : 1 + 0 ≤ _), (by decide : 35 + 0 ≤ _)⟩)
      dsimp only [Pt.U, Pt.locs, Pt.cells, Pt.slots] at X2 l2 y2 z2 st2 hQ2
      subst l2 y2 z2
      obtain ⟨rfl, Nq2, eq2⟩ := hQ2
      have N2 := Fr.app N1 Nq2
      refine Go.by st2 ?_
      have hz2 : n0 ≤ T2.heap.size := by rw [eq2]; exact hz1
      show Go _ _ _ _ (T2.setTop (mkF m 356 #[s0, s1, s2, s3, s4, .val (.int c5), .val (.int (0 : Int32))] [(.int (f2_0 c5))]))
      refine Go.by (fun t k => XS.iload X2.here hx rfl (hb hby at_356) rfl k) ?_
      show Go _ _ _ _ (T2.setTop (mkF m 358 #[s0, s1, s2, s3, s4, .val (.int c5), .val (.int (0 : Int32))] [(.int (0 : Int32)), (.int (f2_0 c5))]))
      refine Go.by (fun t k => XS.icmpNo X2.here hx rfl (hb hby at_358) rfl (XT.ii_ne_f (by first | exact own_no1 _ hc333 | exact own_no2 _ hc341)) k) ?_
      show Go _ _ _ _ (T2.setTop (mkF m 361 #[s0, s1, s2, s3, s4, .val (.int c5), .val (.int (0 : Int32))] []))
      refine Go.by (fun t k => XS.iconst X2.here hx rfl (hb hby at_361) k) ?_
      show Go _ _ _ _ (T2.setTop (mkF m 362 #[s0, s1, s2, s3, s4, .val (.int c5), .val (.int (0 : Int32))] [(.int (1 : Int32))]))
      refine Go.by (fun t k => XS.goto X2.here hx rfl (pc0 := 362) (pc' := 366) rfl (hb hby at_362) (by decide) (by decide) k) ?_
      show Go _ _ _ _ (T2.setTop (mkF m 366 #[s0, s1, s2, s3, s4, .val (.int c5), .val (.int (0 : Int32))] [(.int (1 : Int32))]))
      exact Go.retZ (Q := Q0 n0) X2 hx hlk Bd.returns (hb hby at_366) ⟨by rfl, N2⟩ (by decide) (by decide)
    · refine Go.by (fun t k => XS.ifNo X1.here hx rfl (hb hby at_333) rfl (XT.i0_eq_f hc333) k) ?_
      show Go _ _ _ _ (T1.setTop (mkF m 336 #[s0, s1, s2, s3, s4, .val (.int c5), .unset] []))
      refine Go.by (fun t k => XS.iload X1.here hx rfl (hb hby at_336) rfl k) ?_
      show Go _ _ _ _ (T1.setTop (mkF m 338 #[s0, s1, s2, s3, s4, .val (.int c5), .unset] [(.int c5)]))
      obtain ⟨_, _, ⟨T3, L3, k3, n3⟩, -, X3, ⟨Lc3, hQ3, l3, y3, z3⟩, st3⟩ := Jvm.LawKit.callS X1 hx (y := (⟨"com/example/ixel/ixel/util/XmlCharsIsNcNameStartCharPinLaw", "excluded", "(I)Z"⟩ : MethodName)) hown (mvT hZ (hw _ (List.mem_of_getElem? (i := 23) rfl))) (mvT hZ (hw _ (List.mem_of_getElem? (i := 24) rfl))) (mvT hZ (hw _ (List.mem_of_getElem? (i := 13) rfl))) (mvT hZ (hw _ (List.mem_of_getElem? (i := 25) rfl))) (by decide) (backOf (W := 0) (rm3 l Z a0 hw [] c5 T1.heap n0 hz1) hZ (hw _ (List.mem_of_getElem? (i := 25) rfl)) (hw _ (List.mem_of_getElem? (i := 13) rfl)) (by decide) (by decide)) (g := (mkF m 338 #[s0, s1, s2, s3, s4, .val (.int c5), .unset] [(.int c5)])) rfl (by rw [hml]; rfl) (argsL := [(.int c5)]) (rest := []) (lenOf pd1 rfl) rfl (by show 2 * 0 + _ ≤ _; exact Nat.le_of_eq rfl) (hb hby at_338) (fun _ _ => ⟨rfl, rfl, (by decide : 1 + 0 ≤ _), (by decide : 35 + 0 ≤ _)⟩)
      dsimp only [Pt.U, Pt.locs, Pt.cells, Pt.slots] at X3 l3 y3 z3 st3 hQ3
      subst l3 y3 z3
      obtain ⟨rfl, Nq3, eq3⟩ := hQ3
      have N3 := Fr.app N1 Nq3
      refine Go.by st3 ?_
      have hz3 : n0 ≤ T3.heap.size := by rw [eq3]; exact hz1
      show Go _ _ _ _ (T3.setTop (mkF m 341 #[s0, s1, s2, s3, s4, .val (.int c5), .unset] [(.int (f3_0 c5))]))
      by_cases hc341 : (f3_0 c5) = 0
      · refine Go.by (fun t k => XS.ifNo X3.here hx rfl (hb hby at_341) rfl (XT.i0_ne_f hc341) k) ?_
        show Go _ _ _ _ (T3.setTop (mkF m 344 #[s0, s1, s2, s3, s4, .val (.int c5), .unset] []))
        refine Go.by (fun t k => XS.iconst X3.here hx rfl (hb hby at_344) k) ?_
        show Go _ _ _ _ (T3.setTop (mkF m 345 #[s0, s1, s2, s3, s4, .val (.int c5), .unset] [(.int (1 : Int32))]))
        refine Go.by (fun t k => XS.goto X3.here hx rfl (pc0 := 345) (pc' := 349) rfl (hb hby at_345) (by decide) (by decide) k) ?_
        show Go _ _ _ _ (T3.setTop (mkF m 349 #[s0, s1, s2, s3, s4, .val (.int c5), .unset] [(.int (1 : Int32))]))
        refine Go.by (fun t k => XS.istore X3.here hx rfl (hb hby at_349) rfl (l' := #[s0, s1, s2, s3, s4, .val (.int c5), .val (.int (1 : Int32))]) rfl k) ?_
        show Go _ _ _ _ (T3.setTop (mkF m 351 #[s0, s1, s2, s3, s4, .val (.int c5), .val (.int (1 : Int32))] []))
        refine Go.by (fun t k => XS.iload X3.here hx rfl (hb hby at_351) rfl k) ?_
        show Go _ _ _ _ (T3.setTop (mkF m 353 #[s0, s1, s2, s3, s4, .val (.int c5), .val (.int (1 : Int32))] [(.int c5)]))
        obtain ⟨_, _, ⟨T4, L4, k4, n4⟩, -, X4, ⟨Lc4, hQ4, l4, y4, z4⟩, st4⟩ := Jvm.LawKit.callS X3 hx (y := (⟨"com/example/ixel/ixel/util/XmlChars", "isNcNameStartChar", "(I)Z"⟩ : MethodName)) hown (mvT hZ (hw _ (List.mem_of_getElem? (i := 15) rfl))) (mvT hZ (hw _ (List.mem_of_getElem? (i := 16) rfl))) (mvT hZ (hw _ (List.mem_of_getElem? (i := 17) rfl))) (mvT hZ (hw _ (List.mem_of_getElem? (i := 18) rfl))) (by decide) (backOf (W := 0) (rm2 l Z a0 hw [] c5 T3.heap n0 hz3) hZ (hw _ (List.mem_of_getElem? (i := 18) rfl)) (hw _ (List.mem_of_getElem? (i := 17) rfl)) (by decide) (by decide)) (g := (mkF m 353 #[s0, s1, s2, s3, s4, .val (.int c5), .val (.int (1 : Int32))] [(.int c5)])) rfl (by rw [hml]; rfl) (argsL := [(.int c5)]) (rest := []) (lenOf pd1 rfl) rfl (by show 2 * 0 + _ ≤ _; exact Nat.le_of_eq rfl) (hb hby at_353) (fun _ _ => ⟨rfl, rfl, (by decide : 1 + 0 ≤ _), (by decide : 35 + 0 ≤ _)⟩)
        dsimp only [Pt.U, Pt.locs, Pt.cells, Pt.slots] at X4 l4 y4 z4 st4 hQ4
        subst l4 y4 z4
        obtain ⟨rfl, Nq4, eq4⟩ := hQ4
        have N4 := Fr.app N3 Nq4
        refine Go.by st4 ?_
        have hz4 : n0 ≤ T4.heap.size := by rw [eq4]; exact hz3
        show Go _ _ _ _ (T4.setTop (mkF m 356 #[s0, s1, s2, s3, s4, .val (.int c5), .val (.int (1 : Int32))] [(.int (f2_0 c5))]))
        refine Go.by (fun t k => XS.iload X4.here hx rfl (hb hby at_356) rfl k) ?_
        show Go _ _ _ _ (T4.setTop (mkF m 358 #[s0, s1, s2, s3, s4, .val (.int c5), .val (.int (1 : Int32))] [(.int (1 : Int32)), (.int (f2_0 c5))]))
        refine Go.by (fun t k => XS.icmpNo X4.here hx rfl (hb hby at_358) rfl (XT.ii_ne_f (own_yes _ hc333 hc341)) k) ?_
        show Go _ _ _ _ (T4.setTop (mkF m 361 #[s0, s1, s2, s3, s4, .val (.int c5), .val (.int (1 : Int32))] []))
        refine Go.by (fun t k => XS.iconst X4.here hx rfl (hb hby at_361) k) ?_
        show Go _ _ _ _ (T4.setTop (mkF m 362 #[s0, s1, s2, s3, s4, .val (.int c5), .val (.int (1 : Int32))] [(.int (1 : Int32))]))
        refine Go.by (fun t k => XS.goto X4.here hx rfl (pc0 := 362) (pc' := 366) rfl (hb hby at_362) (by decide) (by decide) k) ?_
        show Go _ _ _ _ (T4.setTop (mkF m 366 #[s0, s1, s2, s3, s4, .val (.int c5), .val (.int (1 : Int32))] [(.int (1 : Int32))]))
        exact Go.retZ (Q := Q0 n0) X4 hx hlk Bd.returns (hb hby at_366) ⟨by rfl, N4⟩ (by decide) (by decide)
      · refine Go.by (fun t k => XS.ifYes X3.here hx rfl (pc0 := 341) (pc' := 348) rfl (hb hby at_341) rfl (XT.i0_ne_t hc341) (by decide) (by decide) k) ?_
        show Go _ _ _ _ (T3.setTop (mkF m 348 #[s0, s1, s2, s3, s4, .val (.int c5), .unset] []))
        refine Go.by (fun t k => XS.iconst X3.here hx rfl (hb hby at_348) k) ?_
        show Go _ _ _ _ (T3.setTop (mkF m 349 #[s0, s1, s2, s3, s4, .val (.int c5), .unset] [(.int (0 : Int32))]))
        refine Go.by (fun t k => XS.istore X3.here hx rfl (hb hby at_349) rfl (l' := #[s0, s1, s2, s3, s4, .val (.int c5), .val (.int (0 : Int32))]) rfl k) ?_
        show Go _ _ _ _ (T3.setTop (mkF m 351 #[s0, s1, s2, s3, s4, .val (.int c5), .val (.int (0 : Int32))] []))
        refine Go.by (fun t k => XS.iload X3.here hx rfl (hb hby at_351) rfl k) ?_
        show Go _ _ _ _ (T3.setTop (mkF m 353 #[s0, s1, s2, s3, s4, .val (.int c5), .val (.int (0 : Int32))] [(.int c5)]))
        obtain ⟨_, _, ⟨T5, L5, k5, n5⟩, -, X5, ⟨Lc5, hQ5, l5, y5, z5⟩, st5⟩ := Jvm.LawKit.callS X3 hx (y := (⟨"com/example/ixel/ixel/util/XmlChars", "isNcNameStartChar", "(I)Z"⟩ : MethodName)) hown (mvT hZ (hw _ (List.mem_of_getElem? (i := 15) rfl))) (mvT hZ (hw _ (List.mem_of_getElem? (i := 16) rfl))) (mvT hZ (hw _ (List.mem_of_getElem? (i := 17) rfl))) (mvT hZ (hw _ (List.mem_of_getElem? (i := 18) rfl))) (by decide) (backOf (W := 0) (rm2 l Z a0 hw [] c5 T3.heap n0 hz3) hZ (hw _ (List.mem_of_getElem? (i := 18) rfl)) (hw _ (List.mem_of_getElem? (i := 17) rfl)) (by decide) (by decide)) (g := (mkF m 353 #[s0, s1, s2, s3, s4, .val (.int c5), .val (.int (0 : Int32))] [(.int c5)])) rfl (by rw [hml]; rfl) (argsL := [(.int c5)]) (rest := []) (lenOf pd1 rfl) rfl (by show 2 * 0 + _ ≤ _; exact Nat.le_of_eq rfl) (hb hby at_353) (fun _ _ => ⟨rfl, rfl, (by decide : 1 + 0 ≤ _), (by decide : 35 + 0 ≤ _)⟩)
        dsimp only [Pt.U, Pt.locs, Pt.cells, Pt.slots] at X5 l5 y5 z5 st5 hQ5
        subst l5 y5 z5
        obtain ⟨rfl, Nq5, eq5⟩ := hQ5
        have N5 := Fr.app N3 Nq5
        refine Go.by st5 ?_
        have hz5 : n0 ≤ T5.heap.size := by rw [eq5]; exact hz3
        show Go _ _ _ _ (T5.setTop (mkF m 356 #[s0, s1, s2, s3, s4, .val (.int c5), .val (.int (0 : Int32))] [(.int (f2_0 c5))]))
        refine Go.by (fun t k => XS.iload X5.here hx rfl (hb hby at_356) rfl k) ?_
        show Go _ _ _ _ (T5.setTop (mkF m 358 #[s0, s1, s2, s3, s4, .val (.int c5), .val (.int (0 : Int32))] [(.int (0 : Int32)), (.int (f2_0 c5))]))
        refine Go.by (fun t k => XS.icmpNo X5.here hx rfl (hb hby at_358) rfl (XT.ii_ne_f (by first | exact own_no1 _ hc333 | exact own_no2 _ hc341)) k) ?_
        show Go _ _ _ _ (T5.setTop (mkF m 361 #[s0, s1, s2, s3, s4, .val (.int c5), .val (.int (0 : Int32))] []))
        refine Go.by (fun t k => XS.iconst X5.here hx rfl (hb hby at_361) k) ?_
        show Go _ _ _ _ (T5.setTop (mkF m 362 #[s0, s1, s2, s3, s4, .val (.int c5), .val (.int (0 : Int32))] [(.int (1 : Int32))]))
        refine Go.by (fun t k => XS.goto X5.here hx rfl (pc0 := 362) (pc' := 366) rfl (hb hby at_362) (by decide) (by decide) k) ?_
        show Go _ _ _ _ (T5.setTop (mkF m 366 #[s0, s1, s2, s3, s4, .val (.int c5), .val (.int (0 : Int32))] [(.int (1 : Int32))]))
        exact Go.retZ (Q := Q0 n0) X5 hx hlk Bd.returns (hb hby at_366) ⟨by rfl, N5⟩ (by decide) (by decide)
  show Go _ _ _ _ (s₁.setTop (mkF m 0 #[.val (.int p0), .val (.int p1), .val (.int p2), .unset, .unset, .unset, .unset] []))
  refine Go.by (fun t k => XS.bipush X0.here hx rfl (hb hby at_0) k) ?_
  show Go _ _ _ _ (s₁.setTop (mkF m 2 #[.val (.int p0), .val (.int p1), .val (.int p2), .unset, .unset, .unset, .unset] [(.int (35 : Int32))]))
  refine Go.newI X0 hx hZ (hw _ (List.mem_of_getElem? (i := 0) rfl)) hz0 (g := (mkF m 2 #[.val (.int p0), .val (.int p1), .val (.int p2), .unset, .unset, .unset, .unset] [(.int (35 : Int32))])) rfl rfl (hb hby at_2) (by decide) (cap := 35) (by decide) (by decide) (by decide) (by decide) fun T6 b6 X6 hz6 g6 A6 => ?_
  show Go _ _ _ _ (T6.setTop (mkF m 4 #[.val (.int p0), .val (.int p1), .val (.int p2), .unset, .unset, .unset, .unset] [(.ref b6)]))
  refine Go.by (fun t k => XS.dup X6.here hx rfl (hb hby at_4) rfl rfl k) ?_
  show Go _ _ _ _ (T6.setTop (mkF m 5 #[.val (.int p0), .val (.int p1), .val (.int p2), .unset, .unset, .unset, .unset] [(.ref b6), (.ref b6)]))
  refine Go.by (fun t k => XS.iconst X6.here hx rfl (hb hby at_5) k) ?_
  show Go _ _ _ _ (T6.setTop (mkF m 6 #[.val (.int p0), .val (.int p1), .val (.int p2), .unset, .unset, .unset, .unset] [(.int (0 : Int32)), (.ref b6), (.ref b6)]))
  refine Go.by (fun t k => XS.bipush X6.here hx rfl (hb hby at_6) k) ?_
  show Go _ _ _ _ (T6.setTop (mkF m 8 #[.val (.int p0), .val (.int p1), .val (.int p2), .unset, .unset, .unset, .unset] [(.int (58 : Int32)), (.int (0 : Int32)), (.ref b6), (.ref b6)]))
  refine Go.stIA X6 hx hZ A6 N0 hz6 g6 (j := (0 : Int32)) (by decide) (g := (mkF m 8 #[.val (.int p0), .val (.int p1), .val (.int p2), .unset, .unset, .unset, .unset] [(.int (58 : Int32)), (.int (0 : Int32)), (.ref b6), (.ref b6)])) rfl rfl (hb hby at_8) fun T7 lc7 X7 N7 hz7 A7 => ?_
  show Go _ _ _ _ (T7.setTop (mkF m 9 #[.val (.int p0), .val (.int p1), .val (.int p2), .unset, .unset, .unset, .unset] [(.ref b6)]))
  refine Go.by (fun t k => XS.dup X7.here hx rfl (hb hby at_9) rfl rfl k) ?_
  show Go _ _ _ _ (T7.setTop (mkF m 10 #[.val (.int p0), .val (.int p1), .val (.int p2), .unset, .unset, .unset, .unset] [(.ref b6), (.ref b6)]))
  refine Go.by (fun t k => XS.iconst X7.here hx rfl (hb hby at_10) k) ?_
  show Go _ _ _ _ (T7.setTop (mkF m 11 #[.val (.int p0), .val (.int p1), .val (.int p2), .unset, .unset, .unset, .unset] [(.int (1 : Int32)), (.ref b6), (.ref b6)]))
  refine Go.by (fun t k => XS.bipush X7.here hx rfl (hb hby at_11) k) ?_
  show Go _ _ _ _ (T7.setTop (mkF m 13 #[.val (.int p0), .val (.int p1), .val (.int p2), .unset, .unset, .unset, .unset] [(.int (65 : Int32)), (.int (1 : Int32)), (.ref b6), (.ref b6)]))
  refine Go.stIA X7 hx hZ A7 N7 hz7 g6 (j := (1 : Int32)) (by decide) (g := (mkF m 13 #[.val (.int p0), .val (.int p1), .val (.int p2), .unset, .unset, .unset, .unset] [(.int (65 : Int32)), (.int (1 : Int32)), (.ref b6), (.ref b6)])) rfl rfl (hb hby at_13) fun T8 lc8 X8 N8 hz8 A8 => ?_
  show Go _ _ _ _ (T8.setTop (mkF m 14 #[.val (.int p0), .val (.int p1), .val (.int p2), .unset, .unset, .unset, .unset] [(.ref b6)]))
  refine Go.by (fun t k => XS.dup X8.here hx rfl (hb hby at_14) rfl rfl k) ?_
  show Go _ _ _ _ (T8.setTop (mkF m 15 #[.val (.int p0), .val (.int p1), .val (.int p2), .unset, .unset, .unset, .unset] [(.ref b6), (.ref b6)]))
  refine Go.by (fun t k => XS.iconst X8.here hx rfl (hb hby at_15) k) ?_
  show Go _ _ _ _ (T8.setTop (mkF m 16 #[.val (.int p0), .val (.int p1), .val (.int p2), .unset, .unset, .unset, .unset] [(.int (2 : Int32)), (.ref b6), (.ref b6)]))
  refine Go.by (fun t k => XS.bipush X8.here hx rfl (hb hby at_16) k) ?_
  show Go _ _ _ _ (T8.setTop (mkF m 18 #[.val (.int p0), .val (.int p1), .val (.int p2), .unset, .unset, .unset, .unset] [(.int (90 : Int32)), (.int (2 : Int32)), (.ref b6), (.ref b6)]))
  refine Go.stIA X8 hx hZ A8 N8 hz8 g6 (j := (2 : Int32)) (by decide) (g := (mkF m 18 #[.val (.int p0), .val (.int p1), .val (.int p2), .unset, .unset, .unset, .unset] [(.int (90 : Int32)), (.int (2 : Int32)), (.ref b6), (.ref b6)])) rfl rfl (hb hby at_18) fun T9 lc9 X9 N9 hz9 A9 => ?_
  show Go _ _ _ _ (T9.setTop (mkF m 19 #[.val (.int p0), .val (.int p1), .val (.int p2), .unset, .unset, .unset, .unset] [(.ref b6)]))
  refine Go.by (fun t k => XS.dup X9.here hx rfl (hb hby at_19) rfl rfl k) ?_
  show Go _ _ _ _ (T9.setTop (mkF m 20 #[.val (.int p0), .val (.int p1), .val (.int p2), .unset, .unset, .unset, .unset] [(.ref b6), (.ref b6)]))
  refine Go.by (fun t k => XS.iconst X9.here hx rfl (hb hby at_20) k) ?_
  show Go _ _ _ _ (T9.setTop (mkF m 21 #[.val (.int p0), .val (.int p1), .val (.int p2), .unset, .unset, .unset, .unset] [(.int (3 : Int32)), (.ref b6), (.ref b6)]))
  refine Go.by (fun t k => XS.bipush X9.here hx rfl (hb hby at_21) k) ?_
  show Go _ _ _ _ (T9.setTop (mkF m 23 #[.val (.int p0), .val (.int p1), .val (.int p2), .unset, .unset, .unset, .unset] [(.int (95 : Int32)), (.int (3 : Int32)), (.ref b6), (.ref b6)]))
  refine Go.stIA X9 hx hZ A9 N9 hz9 g6 (j := (3 : Int32)) (by decide) (g := (mkF m 23 #[.val (.int p0), .val (.int p1), .val (.int p2), .unset, .unset, .unset, .unset] [(.int (95 : Int32)), (.int (3 : Int32)), (.ref b6), (.ref b6)])) rfl rfl (hb hby at_23) fun T10 lc10 X10 N10 hz10 A10 => ?_
  show Go _ _ _ _ (T10.setTop (mkF m 24 #[.val (.int p0), .val (.int p1), .val (.int p2), .unset, .unset, .unset, .unset] [(.ref b6)]))
  refine Go.by (fun t k => XS.dup X10.here hx rfl (hb hby at_24) rfl rfl k) ?_
  show Go _ _ _ _ (T10.setTop (mkF m 25 #[.val (.int p0), .val (.int p1), .val (.int p2), .unset, .unset, .unset, .unset] [(.ref b6), (.ref b6)]))
  refine Go.by (fun t k => XS.iconst X10.here hx rfl (hb hby at_25) k) ?_
  show Go _ _ _ _ (T10.setTop (mkF m 26 #[.val (.int p0), .val (.int p1), .val (.int p2), .unset, .unset, .unset, .unset] [(.int (4 : Int32)), (.ref b6), (.ref b6)]))
  refine Go.by (fun t k => XS.bipush X10.here hx rfl (hb hby at_26) k) ?_
  show Go _ _ _ _ (T10.setTop (mkF m 28 #[.val (.int p0), .val (.int p1), .val (.int p2), .unset, .unset, .unset, .unset] [(.int (97 : Int32)), (.int (4 : Int32)), (.ref b6), (.ref b6)]))
  refine Go.stIA X10 hx hZ A10 N10 hz10 g6 (j := (4 : Int32)) (by decide) (g := (mkF m 28 #[.val (.int p0), .val (.int p1), .val (.int p2), .unset, .unset, .unset, .unset] [(.int (97 : Int32)), (.int (4 : Int32)), (.ref b6), (.ref b6)])) rfl rfl (hb hby at_28) fun T11 lc11 X11 N11 hz11 A11 => ?_
  show Go _ _ _ _ (T11.setTop (mkF m 29 #[.val (.int p0), .val (.int p1), .val (.int p2), .unset, .unset, .unset, .unset] [(.ref b6)]))
  refine Go.by (fun t k => XS.dup X11.here hx rfl (hb hby at_29) rfl rfl k) ?_
  show Go _ _ _ _ (T11.setTop (mkF m 30 #[.val (.int p0), .val (.int p1), .val (.int p2), .unset, .unset, .unset, .unset] [(.ref b6), (.ref b6)]))
  refine Go.by (fun t k => XS.iconst X11.here hx rfl (hb hby at_30) k) ?_
  show Go _ _ _ _ (T11.setTop (mkF m 31 #[.val (.int p0), .val (.int p1), .val (.int p2), .unset, .unset, .unset, .unset] [(.int (5 : Int32)), (.ref b6), (.ref b6)]))
  refine Go.by (fun t k => XS.bipush X11.here hx rfl (hb hby at_31) k) ?_
  show Go _ _ _ _ (T11.setTop (mkF m 33 #[.val (.int p0), .val (.int p1), .val (.int p2), .unset, .unset, .unset, .unset] [(.int (122 : Int32)), (.int (5 : Int32)), (.ref b6), (.ref b6)]))
  refine Go.stIA X11 hx hZ A11 N11 hz11 g6 (j := (5 : Int32)) (by decide) (g := (mkF m 33 #[.val (.int p0), .val (.int p1), .val (.int p2), .unset, .unset, .unset, .unset] [(.int (122 : Int32)), (.int (5 : Int32)), (.ref b6), (.ref b6)])) rfl rfl (hb hby at_33) fun T12 lc12 X12 N12 hz12 A12 => ?_
  show Go _ _ _ _ (T12.setTop (mkF m 34 #[.val (.int p0), .val (.int p1), .val (.int p2), .unset, .unset, .unset, .unset] [(.ref b6)]))
  refine Go.by (fun t k => XS.dup X12.here hx rfl (hb hby at_34) rfl rfl k) ?_
  show Go _ _ _ _ (T12.setTop (mkF m 35 #[.val (.int p0), .val (.int p1), .val (.int p2), .unset, .unset, .unset, .unset] [(.ref b6), (.ref b6)]))
  refine Go.by (fun t k => XS.bipush X12.here hx rfl (hb hby at_35) k) ?_
  show Go _ _ _ _ (T12.setTop (mkF m 37 #[.val (.int p0), .val (.int p1), .val (.int p2), .unset, .unset, .unset, .unset] [(.int (6 : Int32)), (.ref b6), (.ref b6)]))
  refine Go.by (fun t k => XS.sipush X12.here hx rfl (hb hby at_37) k) ?_
  show Go _ _ _ _ (T12.setTop (mkF m 40 #[.val (.int p0), .val (.int p1), .val (.int p2), .unset, .unset, .unset, .unset] [(.int (128 : Int32)), (.int (6 : Int32)), (.ref b6), (.ref b6)]))
  refine Go.stIA X12 hx hZ A12 N12 hz12 g6 (j := (6 : Int32)) (by decide) (g := (mkF m 40 #[.val (.int p0), .val (.int p1), .val (.int p2), .unset, .unset, .unset, .unset] [(.int (128 : Int32)), (.int (6 : Int32)), (.ref b6), (.ref b6)])) rfl rfl (hb hby at_40) fun T13 lc13 X13 N13 hz13 A13 => ?_
  show Go _ _ _ _ (T13.setTop (mkF m 41 #[.val (.int p0), .val (.int p1), .val (.int p2), .unset, .unset, .unset, .unset] [(.ref b6)]))
  refine Go.by (fun t k => XS.dup X13.here hx rfl (hb hby at_41) rfl rfl k) ?_
  show Go _ _ _ _ (T13.setTop (mkF m 42 #[.val (.int p0), .val (.int p1), .val (.int p2), .unset, .unset, .unset, .unset] [(.ref b6), (.ref b6)]))
  refine Go.by (fun t k => XS.bipush X13.here hx rfl (hb hby at_42) k) ?_
  show Go _ _ _ _ (T13.setTop (mkF m 44 #[.val (.int p0), .val (.int p1), .val (.int p2), .unset, .unset, .unset, .unset] [(.int (7 : Int32)), (.ref b6), (.ref b6)]))
  refine Go.by (fun t k => XS.sipush X13.here hx rfl (hb hby at_44) k) ?_
  show Go _ _ _ _ (T13.setTop (mkF m 47 #[.val (.int p0), .val (.int p1), .val (.int p2), .unset, .unset, .unset, .unset] [(.int (183 : Int32)), (.int (7 : Int32)), (.ref b6), (.ref b6)]))
  refine Go.stIA X13 hx hZ A13 N13 hz13 g6 (j := (7 : Int32)) (by decide) (g := (mkF m 47 #[.val (.int p0), .val (.int p1), .val (.int p2), .unset, .unset, .unset, .unset] [(.int (183 : Int32)), (.int (7 : Int32)), (.ref b6), (.ref b6)])) rfl rfl (hb hby at_47) fun T14 lc14 X14 N14 hz14 A14 => ?_
  show Go _ _ _ _ (T14.setTop (mkF m 48 #[.val (.int p0), .val (.int p1), .val (.int p2), .unset, .unset, .unset, .unset] [(.ref b6)]))
  refine Go.by (fun t k => XS.dup X14.here hx rfl (hb hby at_48) rfl rfl k) ?_
  show Go _ _ _ _ (T14.setTop (mkF m 49 #[.val (.int p0), .val (.int p1), .val (.int p2), .unset, .unset, .unset, .unset] [(.ref b6), (.ref b6)]))
  refine Go.by (fun t k => XS.bipush X14.here hx rfl (hb hby at_49) k) ?_
  show Go _ _ _ _ (T14.setTop (mkF m 51 #[.val (.int p0), .val (.int p1), .val (.int p2), .unset, .unset, .unset, .unset] [(.int (8 : Int32)), (.ref b6), (.ref b6)]))
  refine Go.by (fun t k => XS.sipush X14.here hx rfl (hb hby at_51) k) ?_
  show Go _ _ _ _ (T14.setTop (mkF m 54 #[.val (.int p0), .val (.int p1), .val (.int p2), .unset, .unset, .unset, .unset] [(.int (192 : Int32)), (.int (8 : Int32)), (.ref b6), (.ref b6)]))
  refine Go.stIA X14 hx hZ A14 N14 hz14 g6 (j := (8 : Int32)) (by decide) (g := (mkF m 54 #[.val (.int p0), .val (.int p1), .val (.int p2), .unset, .unset, .unset, .unset] [(.int (192 : Int32)), (.int (8 : Int32)), (.ref b6), (.ref b6)])) rfl rfl (hb hby at_54) fun T15 lc15 X15 N15 hz15 A15 => ?_
  show Go _ _ _ _ (T15.setTop (mkF m 55 #[.val (.int p0), .val (.int p1), .val (.int p2), .unset, .unset, .unset, .unset] [(.ref b6)]))
  refine Go.by (fun t k => XS.dup X15.here hx rfl (hb hby at_55) rfl rfl k) ?_
  show Go _ _ _ _ (T15.setTop (mkF m 56 #[.val (.int p0), .val (.int p1), .val (.int p2), .unset, .unset, .unset, .unset] [(.ref b6), (.ref b6)]))
  refine Go.by (fun t k => XS.bipush X15.here hx rfl (hb hby at_56) k) ?_
  show Go _ _ _ _ (T15.setTop (mkF m 58 #[.val (.int p0), .val (.int p1), .val (.int p2), .unset, .unset, .unset, .unset] [(.int (9 : Int32)), (.ref b6), (.ref b6)]))
  refine Go.by (fun t k => XS.sipush X15.here hx rfl (hb hby at_58) k) ?_
  show Go _ _ _ _ (T15.setTop (mkF m 61 #[.val (.int p0), .val (.int p1), .val (.int p2), .unset, .unset, .unset, .unset] [(.int (214 : Int32)), (.int (9 : Int32)), (.ref b6), (.ref b6)]))
  refine Go.stIA X15 hx hZ A15 N15 hz15 g6 (j := (9 : Int32)) (by decide) (g := (mkF m 61 #[.val (.int p0), .val (.int p1), .val (.int p2), .unset, .unset, .unset, .unset] [(.int (214 : Int32)), (.int (9 : Int32)), (.ref b6), (.ref b6)])) rfl rfl (hb hby at_61) fun T16 lc16 X16 N16 hz16 A16 => ?_
  show Go _ _ _ _ (T16.setTop (mkF m 62 #[.val (.int p0), .val (.int p1), .val (.int p2), .unset, .unset, .unset, .unset] [(.ref b6)]))
  refine Go.by (fun t k => XS.dup X16.here hx rfl (hb hby at_62) rfl rfl k) ?_
  show Go _ _ _ _ (T16.setTop (mkF m 63 #[.val (.int p0), .val (.int p1), .val (.int p2), .unset, .unset, .unset, .unset] [(.ref b6), (.ref b6)]))
  refine Go.by (fun t k => XS.bipush X16.here hx rfl (hb hby at_63) k) ?_
  show Go _ _ _ _ (T16.setTop (mkF m 65 #[.val (.int p0), .val (.int p1), .val (.int p2), .unset, .unset, .unset, .unset] [(.int (10 : Int32)), (.ref b6), (.ref b6)]))
  refine Go.by (fun t k => XS.sipush X16.here hx rfl (hb hby at_65) k) ?_
  show Go _ _ _ _ (T16.setTop (mkF m 68 #[.val (.int p0), .val (.int p1), .val (.int p2), .unset, .unset, .unset, .unset] [(.int (216 : Int32)), (.int (10 : Int32)), (.ref b6), (.ref b6)]))
  refine Go.stIA X16 hx hZ A16 N16 hz16 g6 (j := (10 : Int32)) (by decide) (g := (mkF m 68 #[.val (.int p0), .val (.int p1), .val (.int p2), .unset, .unset, .unset, .unset] [(.int (216 : Int32)), (.int (10 : Int32)), (.ref b6), (.ref b6)])) rfl rfl (hb hby at_68) fun T17 lc17 X17 N17 hz17 A17 => ?_
  show Go _ _ _ _ (T17.setTop (mkF m 69 #[.val (.int p0), .val (.int p1), .val (.int p2), .unset, .unset, .unset, .unset] [(.ref b6)]))
  refine Go.by (fun t k => XS.dup X17.here hx rfl (hb hby at_69) rfl rfl k) ?_
  show Go _ _ _ _ (T17.setTop (mkF m 70 #[.val (.int p0), .val (.int p1), .val (.int p2), .unset, .unset, .unset, .unset] [(.ref b6), (.ref b6)]))
  refine Go.by (fun t k => XS.bipush X17.here hx rfl (hb hby at_70) k) ?_
  show Go _ _ _ _ (T17.setTop (mkF m 72 #[.val (.int p0), .val (.int p1), .val (.int p2), .unset, .unset, .unset, .unset] [(.int (11 : Int32)), (.ref b6), (.ref b6)]))
  refine Go.by (fun t k => XS.sipush X17.here hx rfl (hb hby at_72) k) ?_
  show Go _ _ _ _ (T17.setTop (mkF m 75 #[.val (.int p0), .val (.int p1), .val (.int p2), .unset, .unset, .unset, .unset] [(.int (246 : Int32)), (.int (11 : Int32)), (.ref b6), (.ref b6)]))
  refine Go.stIA X17 hx hZ A17 N17 hz17 g6 (j := (11 : Int32)) (by decide) (g := (mkF m 75 #[.val (.int p0), .val (.int p1), .val (.int p2), .unset, .unset, .unset, .unset] [(.int (246 : Int32)), (.int (11 : Int32)), (.ref b6), (.ref b6)])) rfl rfl (hb hby at_75) fun T18 lc18 X18 N18 hz18 A18 => ?_
  show Go _ _ _ _ (T18.setTop (mkF m 76 #[.val (.int p0), .val (.int p1), .val (.int p2), .unset, .unset, .unset, .unset] [(.ref b6)]))
  refine Go.by (fun t k => XS.dup X18.here hx rfl (hb hby at_76) rfl rfl k) ?_
  show Go _ _ _ _ (T18.setTop (mkF m 77 #[.val (.int p0), .val (.int p1), .val (.int p2), .unset, .unset, .unset, .unset] [(.ref b6), (.ref b6)]))
  refine Go.by (fun t k => XS.bipush X18.here hx rfl (hb hby at_77) k) ?_
  show Go _ _ _ _ (T18.setTop (mkF m 79 #[.val (.int p0), .val (.int p1), .val (.int p2), .unset, .unset, .unset, .unset] [(.int (12 : Int32)), (.ref b6), (.ref b6)]))
  refine Go.by (fun t k => XS.sipush X18.here hx rfl (hb hby at_79) k) ?_
  show Go _ _ _ _ (T18.setTop (mkF m 82 #[.val (.int p0), .val (.int p1), .val (.int p2), .unset, .unset, .unset, .unset] [(.int (248 : Int32)), (.int (12 : Int32)), (.ref b6), (.ref b6)]))
  refine Go.stIA X18 hx hZ A18 N18 hz18 g6 (j := (12 : Int32)) (by decide) (g := (mkF m 82 #[.val (.int p0), .val (.int p1), .val (.int p2), .unset, .unset, .unset, .unset] [(.int (248 : Int32)), (.int (12 : Int32)), (.ref b6), (.ref b6)])) rfl rfl (hb hby at_82) fun T19 lc19 X19 N19 hz19 A19 => ?_
  show Go _ _ _ _ (T19.setTop (mkF m 83 #[.val (.int p0), .val (.int p1), .val (.int p2), .unset, .unset, .unset, .unset] [(.ref b6)]))
  refine Go.by (fun t k => XS.dup X19.here hx rfl (hb hby at_83) rfl rfl k) ?_
  show Go _ _ _ _ (T19.setTop (mkF m 84 #[.val (.int p0), .val (.int p1), .val (.int p2), .unset, .unset, .unset, .unset] [(.ref b6), (.ref b6)]))
  refine Go.by (fun t k => XS.bipush X19.here hx rfl (hb hby at_84) k) ?_
  show Go _ _ _ _ (T19.setTop (mkF m 86 #[.val (.int p0), .val (.int p1), .val (.int p2), .unset, .unset, .unset, .unset] [(.int (13 : Int32)), (.ref b6), (.ref b6)]))
  refine Go.by (fun t k => XS.sipush X19.here hx rfl (hb hby at_86) k) ?_
  show Go _ _ _ _ (T19.setTop (mkF m 89 #[.val (.int p0), .val (.int p1), .val (.int p2), .unset, .unset, .unset, .unset] [(.int (767 : Int32)), (.int (13 : Int32)), (.ref b6), (.ref b6)]))
  refine Go.stIA X19 hx hZ A19 N19 hz19 g6 (j := (13 : Int32)) (by decide) (g := (mkF m 89 #[.val (.int p0), .val (.int p1), .val (.int p2), .unset, .unset, .unset, .unset] [(.int (767 : Int32)), (.int (13 : Int32)), (.ref b6), (.ref b6)])) rfl rfl (hb hby at_89) fun T20 lc20 X20 N20 hz20 A20 => ?_
  show Go _ _ _ _ (T20.setTop (mkF m 90 #[.val (.int p0), .val (.int p1), .val (.int p2), .unset, .unset, .unset, .unset] [(.ref b6)]))
  refine Go.by (fun t k => XS.dup X20.here hx rfl (hb hby at_90) rfl rfl k) ?_
  show Go _ _ _ _ (T20.setTop (mkF m 91 #[.val (.int p0), .val (.int p1), .val (.int p2), .unset, .unset, .unset, .unset] [(.ref b6), (.ref b6)]))
  refine Go.by (fun t k => XS.bipush X20.here hx rfl (hb hby at_91) k) ?_
  show Go _ _ _ _ (T20.setTop (mkF m 93 #[.val (.int p0), .val (.int p1), .val (.int p2), .unset, .unset, .unset, .unset] [(.int (14 : Int32)), (.ref b6), (.ref b6)]))
  refine Go.by (fun t k => XS.sipush X20.here hx rfl (hb hby at_93) k) ?_
  show Go _ _ _ _ (T20.setTop (mkF m 96 #[.val (.int p0), .val (.int p1), .val (.int p2), .unset, .unset, .unset, .unset] [(.int (880 : Int32)), (.int (14 : Int32)), (.ref b6), (.ref b6)]))
  refine Go.stIA X20 hx hZ A20 N20 hz20 g6 (j := (14 : Int32)) (by decide) (g := (mkF m 96 #[.val (.int p0), .val (.int p1), .val (.int p2), .unset, .unset, .unset, .unset] [(.int (880 : Int32)), (.int (14 : Int32)), (.ref b6), (.ref b6)])) rfl rfl (hb hby at_96) fun T21 lc21 X21 N21 hz21 A21 => ?_
  show Go _ _ _ _ (T21.setTop (mkF m 97 #[.val (.int p0), .val (.int p1), .val (.int p2), .unset, .unset, .unset, .unset] [(.ref b6)]))
  refine Go.by (fun t k => XS.dup X21.here hx rfl (hb hby at_97) rfl rfl k) ?_
  show Go _ _ _ _ (T21.setTop (mkF m 98 #[.val (.int p0), .val (.int p1), .val (.int p2), .unset, .unset, .unset, .unset] [(.ref b6), (.ref b6)]))
  refine Go.by (fun t k => XS.bipush X21.here hx rfl (hb hby at_98) k) ?_
  show Go _ _ _ _ (T21.setTop (mkF m 100 #[.val (.int p0), .val (.int p1), .val (.int p2), .unset, .unset, .unset, .unset] [(.int (15 : Int32)), (.ref b6), (.ref b6)]))
  refine Go.by (fun t k => XS.sipush X21.here hx rfl (hb hby at_100) k) ?_
  show Go _ _ _ _ (T21.setTop (mkF m 103 #[.val (.int p0), .val (.int p1), .val (.int p2), .unset, .unset, .unset, .unset] [(.int (893 : Int32)), (.int (15 : Int32)), (.ref b6), (.ref b6)]))
  refine Go.stIA X21 hx hZ A21 N21 hz21 g6 (j := (15 : Int32)) (by decide) (g := (mkF m 103 #[.val (.int p0), .val (.int p1), .val (.int p2), .unset, .unset, .unset, .unset] [(.int (893 : Int32)), (.int (15 : Int32)), (.ref b6), (.ref b6)])) rfl rfl (hb hby at_103) fun T22 lc22 X22 N22 hz22 A22 => ?_
  show Go _ _ _ _ (T22.setTop (mkF m 104 #[.val (.int p0), .val (.int p1), .val (.int p2), .unset, .unset, .unset, .unset] [(.ref b6)]))
  refine Go.by (fun t k => XS.dup X22.here hx rfl (hb hby at_104) rfl rfl k) ?_
  show Go _ _ _ _ (T22.setTop (mkF m 105 #[.val (.int p0), .val (.int p1), .val (.int p2), .unset, .unset, .unset, .unset] [(.ref b6), (.ref b6)]))
  refine Go.by (fun t k => XS.bipush X22.here hx rfl (hb hby at_105) k) ?_
  show Go _ _ _ _ (T22.setTop (mkF m 107 #[.val (.int p0), .val (.int p1), .val (.int p2), .unset, .unset, .unset, .unset] [(.int (16 : Int32)), (.ref b6), (.ref b6)]))
  refine Go.by (fun t k => XS.sipush X22.here hx rfl (hb hby at_107) k) ?_
  show Go _ _ _ _ (T22.setTop (mkF m 110 #[.val (.int p0), .val (.int p1), .val (.int p2), .unset, .unset, .unset, .unset] [(.int (895 : Int32)), (.int (16 : Int32)), (.ref b6), (.ref b6)]))
  refine Go.stIA X22 hx hZ A22 N22 hz22 g6 (j := (16 : Int32)) (by decide) (g := (mkF m 110 #[.val (.int p0), .val (.int p1), .val (.int p2), .unset, .unset, .unset, .unset] [(.int (895 : Int32)), (.int (16 : Int32)), (.ref b6), (.ref b6)])) rfl rfl (hb hby at_110) fun T23 lc23 X23 N23 hz23 A23 => ?_
  show Go _ _ _ _ (T23.setTop (mkF m 111 #[.val (.int p0), .val (.int p1), .val (.int p2), .unset, .unset, .unset, .unset] [(.ref b6)]))
  refine Go.by (fun t k => XS.dup X23.here hx rfl (hb hby at_111) rfl rfl k) ?_
  show Go _ _ _ _ (T23.setTop (mkF m 112 #[.val (.int p0), .val (.int p1), .val (.int p2), .unset, .unset, .unset, .unset] [(.ref b6), (.ref b6)]))
  refine Go.by (fun t k => XS.bipush X23.here hx rfl (hb hby at_112) k) ?_
  show Go _ _ _ _ (T23.setTop (mkF m 114 #[.val (.int p0), .val (.int p1), .val (.int p2), .unset, .unset, .unset, .unset] [(.int (17 : Int32)), (.ref b6), (.ref b6)]))
  refine Go.by (fun t k => XS.sipush X23.here hx rfl (hb hby at_114) k) ?_
  show Go _ _ _ _ (T23.setTop (mkF m 117 #[.val (.int p0), .val (.int p1), .val (.int p2), .unset, .unset, .unset, .unset] [(.int (8191 : Int32)), (.int (17 : Int32)), (.ref b6), (.ref b6)]))
  refine Go.stIA X23 hx hZ A23 N23 hz23 g6 (j := (17 : Int32)) (by decide) (g := (mkF m 117 #[.val (.int p0), .val (.int p1), .val (.int p2), .unset, .unset, .unset, .unset] [(.int (8191 : Int32)), (.int (17 : Int32)), (.ref b6), (.ref b6)])) rfl rfl (hb hby at_117) fun T24 lc24 X24 N24 hz24 A24 => ?_
  show Go _ _ _ _ (T24.setTop (mkF m 118 #[.val (.int p0), .val (.int p1), .val (.int p2), .unset, .unset, .unset, .unset] [(.ref b6)]))
  refine Go.by (fun t k => XS.dup X24.here hx rfl (hb hby at_118) rfl rfl k) ?_
  show Go _ _ _ _ (T24.setTop (mkF m 119 #[.val (.int p0), .val (.int p1), .val (.int p2), .unset, .unset, .unset, .unset] [(.ref b6), (.ref b6)]))
  refine Go.by (fun t k => XS.bipush X24.here hx rfl (hb hby at_119) k) ?_
  show Go _ _ _ _ (T24.setTop (mkF m 121 #[.val (.int p0), .val (.int p1), .val (.int p2), .unset, .unset, .unset, .unset] [(.int (18 : Int32)), (.ref b6), (.ref b6)]))
  refine Go.by (fun t k => XS.sipush X24.here hx rfl (hb hby at_121) k) ?_
  show Go _ _ _ _ (T24.setTop (mkF m 124 #[.val (.int p0), .val (.int p1), .val (.int p2), .unset, .unset, .unset, .unset] [(.int (8204 : Int32)), (.int (18 : Int32)), (.ref b6), (.ref b6)]))
  refine Go.stIA X24 hx hZ A24 N24 hz24 g6 (j := (18 : Int32)) (by decide) (g := (mkF m 124 #[.val (.int p0), .val (.int p1), .val (.int p2), .unset, .unset, .unset, .unset] [(.int (8204 : Int32)), (.int (18 : Int32)), (.ref b6), (.ref b6)])) rfl rfl (hb hby at_124) fun T25 lc25 X25 N25 hz25 A25 => ?_
  show Go _ _ _ _ (T25.setTop (mkF m 125 #[.val (.int p0), .val (.int p1), .val (.int p2), .unset, .unset, .unset, .unset] [(.ref b6)]))
  refine Go.by (fun t k => XS.dup X25.here hx rfl (hb hby at_125) rfl rfl k) ?_
  show Go _ _ _ _ (T25.setTop (mkF m 126 #[.val (.int p0), .val (.int p1), .val (.int p2), .unset, .unset, .unset, .unset] [(.ref b6), (.ref b6)]))
  refine Go.by (fun t k => XS.bipush X25.here hx rfl (hb hby at_126) k) ?_
  show Go _ _ _ _ (T25.setTop (mkF m 128 #[.val (.int p0), .val (.int p1), .val (.int p2), .unset, .unset, .unset, .unset] [(.int (19 : Int32)), (.ref b6), (.ref b6)]))
  refine Go.by (fun t k => XS.sipush X25.here hx rfl (hb hby at_128) k) ?_
  show Go _ _ _ _ (T25.setTop (mkF m 131 #[.val (.int p0), .val (.int p1), .val (.int p2), .unset, .unset, .unset, .unset] [(.int (8205 : Int32)), (.int (19 : Int32)), (.ref b6), (.ref b6)]))
  refine Go.stIA X25 hx hZ A25 N25 hz25 g6 (j := (19 : Int32)) (by decide) (g := (mkF m 131 #[.val (.int p0), .val (.int p1), .val (.int p2), .unset, .unset, .unset, .unset] [(.int (8205 : Int32)), (.int (19 : Int32)), (.ref b6), (.ref b6)])) rfl rfl (hb hby at_131) fun T26 lc26 X26 N26 hz26 A26 => ?_
  show Go _ _ _ _ (T26.setTop (mkF m 132 #[.val (.int p0), .val (.int p1), .val (.int p2), .unset, .unset, .unset, .unset] [(.ref b6)]))
  refine Go.by (fun t k => XS.dup X26.here hx rfl (hb hby at_132) rfl rfl k) ?_
  show Go _ _ _ _ (T26.setTop (mkF m 133 #[.val (.int p0), .val (.int p1), .val (.int p2), .unset, .unset, .unset, .unset] [(.ref b6), (.ref b6)]))
  refine Go.by (fun t k => XS.bipush X26.here hx rfl (hb hby at_133) k) ?_
  show Go _ _ _ _ (T26.setTop (mkF m 135 #[.val (.int p0), .val (.int p1), .val (.int p2), .unset, .unset, .unset, .unset] [(.int (20 : Int32)), (.ref b6), (.ref b6)]))
  refine Go.by (fun t k => XS.sipush X26.here hx rfl (hb hby at_135) k) ?_
  show Go _ _ _ _ (T26.setTop (mkF m 138 #[.val (.int p0), .val (.int p1), .val (.int p2), .unset, .unset, .unset, .unset] [(.int (8304 : Int32)), (.int (20 : Int32)), (.ref b6), (.ref b6)]))
  refine Go.stIA X26 hx hZ A26 N26 hz26 g6 (j := (20 : Int32)) (by decide) (g := (mkF m 138 #[.val (.int p0), .val (.int p1), .val (.int p2), .unset, .unset, .unset, .unset] [(.int (8304 : Int32)), (.int (20 : Int32)), (.ref b6), (.ref b6)])) rfl rfl (hb hby at_138) fun T27 lc27 X27 N27 hz27 A27 => ?_
  show Go _ _ _ _ (T27.setTop (mkF m 139 #[.val (.int p0), .val (.int p1), .val (.int p2), .unset, .unset, .unset, .unset] [(.ref b6)]))
  refine Go.by (fun t k => XS.dup X27.here hx rfl (hb hby at_139) rfl rfl k) ?_
  show Go _ _ _ _ (T27.setTop (mkF m 140 #[.val (.int p0), .val (.int p1), .val (.int p2), .unset, .unset, .unset, .unset] [(.ref b6), (.ref b6)]))
  refine Go.by (fun t k => XS.bipush X27.here hx rfl (hb hby at_140) k) ?_
  show Go _ _ _ _ (T27.setTop (mkF m 142 #[.val (.int p0), .val (.int p1), .val (.int p2), .unset, .unset, .unset, .unset] [(.int (21 : Int32)), (.ref b6), (.ref b6)]))
  refine Go.by (fun t k => XS.sipush X27.here hx rfl (hb hby at_142) k) ?_
  show Go _ _ _ _ (T27.setTop (mkF m 145 #[.val (.int p0), .val (.int p1), .val (.int p2), .unset, .unset, .unset, .unset] [(.int (8591 : Int32)), (.int (21 : Int32)), (.ref b6), (.ref b6)]))
  refine Go.stIA X27 hx hZ A27 N27 hz27 g6 (j := (21 : Int32)) (by decide) (g := (mkF m 145 #[.val (.int p0), .val (.int p1), .val (.int p2), .unset, .unset, .unset, .unset] [(.int (8591 : Int32)), (.int (21 : Int32)), (.ref b6), (.ref b6)])) rfl rfl (hb hby at_145) fun T28 lc28 X28 N28 hz28 A28 => ?_
  show Go _ _ _ _ (T28.setTop (mkF m 146 #[.val (.int p0), .val (.int p1), .val (.int p2), .unset, .unset, .unset, .unset] [(.ref b6)]))
  refine Go.by (fun t k => XS.dup X28.here hx rfl (hb hby at_146) rfl rfl k) ?_
  show Go _ _ _ _ (T28.setTop (mkF m 147 #[.val (.int p0), .val (.int p1), .val (.int p2), .unset, .unset, .unset, .unset] [(.ref b6), (.ref b6)]))
  refine Go.by (fun t k => XS.bipush X28.here hx rfl (hb hby at_147) k) ?_
  show Go _ _ _ _ (T28.setTop (mkF m 149 #[.val (.int p0), .val (.int p1), .val (.int p2), .unset, .unset, .unset, .unset] [(.int (22 : Int32)), (.ref b6), (.ref b6)]))
  refine Go.by (fun t k => XS.sipush X28.here hx rfl (hb hby at_149) k) ?_
  show Go _ _ _ _ (T28.setTop (mkF m 152 #[.val (.int p0), .val (.int p1), .val (.int p2), .unset, .unset, .unset, .unset] [(.int (11264 : Int32)), (.int (22 : Int32)), (.ref b6), (.ref b6)]))
  refine Go.stIA X28 hx hZ A28 N28 hz28 g6 (j := (22 : Int32)) (by decide) (g := (mkF m 152 #[.val (.int p0), .val (.int p1), .val (.int p2), .unset, .unset, .unset, .unset] [(.int (11264 : Int32)), (.int (22 : Int32)), (.ref b6), (.ref b6)])) rfl rfl (hb hby at_152) fun T29 lc29 X29 N29 hz29 A29 => ?_
  show Go _ _ _ _ (T29.setTop (mkF m 153 #[.val (.int p0), .val (.int p1), .val (.int p2), .unset, .unset, .unset, .unset] [(.ref b6)]))
  refine Go.by (fun t k => XS.dup X29.here hx rfl (hb hby at_153) rfl rfl k) ?_
  show Go _ _ _ _ (T29.setTop (mkF m 154 #[.val (.int p0), .val (.int p1), .val (.int p2), .unset, .unset, .unset, .unset] [(.ref b6), (.ref b6)]))
  refine Go.by (fun t k => XS.bipush X29.here hx rfl (hb hby at_154) k) ?_
  show Go _ _ _ _ (T29.setTop (mkF m 156 #[.val (.int p0), .val (.int p1), .val (.int p2), .unset, .unset, .unset, .unset] [(.int (23 : Int32)), (.ref b6), (.ref b6)]))
  refine Go.by (fun t k => XS.sipush X29.here hx rfl (hb hby at_156) k) ?_
  show Go _ _ _ _ (T29.setTop (mkF m 159 #[.val (.int p0), .val (.int p1), .val (.int p2), .unset, .unset, .unset, .unset] [(.int (12271 : Int32)), (.int (23 : Int32)), (.ref b6), (.ref b6)]))
  refine Go.stIA X29 hx hZ A29 N29 hz29 g6 (j := (23 : Int32)) (by decide) (g := (mkF m 159 #[.val (.int p0), .val (.int p1), .val (.int p2), .unset, .unset, .unset, .unset] [(.int (12271 : Int32)), (.int (23 : Int32)), (.ref b6), (.ref b6)])) rfl rfl (hb hby at_159) fun T30 lc30 X30 N30 hz30 A30 => ?_
  show Go _ _ _ _ (T30.setTop (mkF m 160 #[.val (.int p0), .val (.int p1), .val (.int p2), .unset, .unset, .unset, .unset] [(.ref b6)]))
  refine Go.by (fun t k => XS.dup X30.here hx rfl (hb hby at_160) rfl rfl k) ?_
  show Go _ _ _ _ (T30.setTop (mkF m 161 #[.val (.int p0), .val (.int p1), .val (.int p2), .unset, .unset, .unset, .unset] [(.ref b6), (.ref b6)]))
  refine Go.by (fun t k => XS.bipush X30.here hx rfl (hb hby at_161) k) ?_
  show Go _ _ _ _ (T30.setTop (mkF m 163 #[.val (.int p0), .val (.int p1), .val (.int p2), .unset, .unset, .unset, .unset] [(.int (24 : Int32)), (.ref b6), (.ref b6)]))
  refine Go.by (fun t k => XS.sipush X30.here hx rfl (hb hby at_163) k) ?_
  show Go _ _ _ _ (T30.setTop (mkF m 166 #[.val (.int p0), .val (.int p1), .val (.int p2), .unset, .unset, .unset, .unset] [(.int (12289 : Int32)), (.int (24 : Int32)), (.ref b6), (.ref b6)]))
  refine Go.stIA X30 hx hZ A30 N30 hz30 g6 (j := (24 : Int32)) (by decide) (g := (mkF m 166 #[.val (.int p0), .val (.int p1), .val (.int p2), .unset, .unset, .unset, .unset] [(.int (12289 : Int32)), (.int (24 : Int32)), (.ref b6), (.ref b6)])) rfl rfl (hb hby at_166) fun T31 lc31 X31 N31 hz31 A31 => ?_
  show Go _ _ _ _ (T31.setTop (mkF m 167 #[.val (.int p0), .val (.int p1), .val (.int p2), .unset, .unset, .unset, .unset] [(.ref b6)]))
  refine Go.by (fun t k => XS.dup X31.here hx rfl (hb hby at_167) rfl rfl k) ?_
  show Go _ _ _ _ (T31.setTop (mkF m 168 #[.val (.int p0), .val (.int p1), .val (.int p2), .unset, .unset, .unset, .unset] [(.ref b6), (.ref b6)]))
  refine Go.by (fun t k => XS.bipush X31.here hx rfl (hb hby at_168) k) ?_
  show Go _ _ _ _ (T31.setTop (mkF m 170 #[.val (.int p0), .val (.int p1), .val (.int p2), .unset, .unset, .unset, .unset] [(.int (25 : Int32)), (.ref b6), (.ref b6)]))
  refine Go.by (fun t k => X31.ldcI hx hown (mvT hZ (hw _ (List.mem_of_getElem? (i := 1) rfl))) (g := (mkF m 170 #[.val (.int p0), .val (.int p1), .val (.int p2), .unset, .unset, .unset, .unset] [(.int (25 : Int32)), (.ref b6), (.ref b6)])) rfl (hb hby at_170) k) ?_
  show Go _ _ _ _ (T31.setTop (mkF m 172 #[.val (.int p0), .val (.int p1), .val (.int p2), .unset, .unset, .unset, .unset] [(.int (55295 : Int32)), (.int (25 : Int32)), (.ref b6), (.ref b6)]))
  refine Go.stIA X31 hx hZ A31 N31 hz31 g6 (j := (25 : Int32)) (by decide) (g := (mkF m 172 #[.val (.int p0), .val (.int p1), .val (.int p2), .unset, .unset, .unset, .unset] [(.int (55295 : Int32)), (.int (25 : Int32)), (.ref b6), (.ref b6)])) rfl rfl (hb hby at_172) fun T32 lc32 X32 N32 hz32 A32 => ?_
  show Go _ _ _ _ (T32.setTop (mkF m 173 #[.val (.int p0), .val (.int p1), .val (.int p2), .unset, .unset, .unset, .unset] [(.ref b6)]))
  refine Go.by (fun t k => XS.dup X32.here hx rfl (hb hby at_173) rfl rfl k) ?_
  show Go _ _ _ _ (T32.setTop (mkF m 174 #[.val (.int p0), .val (.int p1), .val (.int p2), .unset, .unset, .unset, .unset] [(.ref b6), (.ref b6)]))
  refine Go.by (fun t k => XS.bipush X32.here hx rfl (hb hby at_174) k) ?_
  show Go _ _ _ _ (T32.setTop (mkF m 176 #[.val (.int p0), .val (.int p1), .val (.int p2), .unset, .unset, .unset, .unset] [(.int (26 : Int32)), (.ref b6), (.ref b6)]))
  refine Go.by (fun t k => X32.ldcI hx hown (mvT hZ (hw _ (List.mem_of_getElem? (i := 2) rfl))) (g := (mkF m 176 #[.val (.int p0), .val (.int p1), .val (.int p2), .unset, .unset, .unset, .unset] [(.int (26 : Int32)), (.ref b6), (.ref b6)])) rfl (hb hby at_176) k) ?_
  show Go _ _ _ _ (T32.setTop (mkF m 178 #[.val (.int p0), .val (.int p1), .val (.int p2), .unset, .unset, .unset, .unset] [(.int (63744 : Int32)), (.int (26 : Int32)), (.ref b6), (.ref b6)]))
  refine Go.stIA X32 hx hZ A32 N32 hz32 g6 (j := (26 : Int32)) (by decide) (g := (mkF m 178 #[.val (.int p0), .val (.int p1), .val (.int p2), .unset, .unset, .unset, .unset] [(.int (63744 : Int32)), (.int (26 : Int32)), (.ref b6), (.ref b6)])) rfl rfl (hb hby at_178) fun T33 lc33 X33 N33 hz33 A33 => ?_
  show Go _ _ _ _ (T33.setTop (mkF m 179 #[.val (.int p0), .val (.int p1), .val (.int p2), .unset, .unset, .unset, .unset] [(.ref b6)]))
  refine Go.by (fun t k => XS.dup X33.here hx rfl (hb hby at_179) rfl rfl k) ?_
  show Go _ _ _ _ (T33.setTop (mkF m 180 #[.val (.int p0), .val (.int p1), .val (.int p2), .unset, .unset, .unset, .unset] [(.ref b6), (.ref b6)]))
  refine Go.by (fun t k => XS.bipush X33.here hx rfl (hb hby at_180) k) ?_
  show Go _ _ _ _ (T33.setTop (mkF m 182 #[.val (.int p0), .val (.int p1), .val (.int p2), .unset, .unset, .unset, .unset] [(.int (27 : Int32)), (.ref b6), (.ref b6)]))
  refine Go.by (fun t k => X33.ldcI hx hown (mvT hZ (hw _ (List.mem_of_getElem? (i := 3) rfl))) (g := (mkF m 182 #[.val (.int p0), .val (.int p1), .val (.int p2), .unset, .unset, .unset, .unset] [(.int (27 : Int32)), (.ref b6), (.ref b6)])) rfl (hb hby at_182) k) ?_
  show Go _ _ _ _ (T33.setTop (mkF m 184 #[.val (.int p0), .val (.int p1), .val (.int p2), .unset, .unset, .unset, .unset] [(.int (64975 : Int32)), (.int (27 : Int32)), (.ref b6), (.ref b6)]))
  refine Go.stIA X33 hx hZ A33 N33 hz33 g6 (j := (27 : Int32)) (by decide) (g := (mkF m 184 #[.val (.int p0), .val (.int p1), .val (.int p2), .unset, .unset, .unset, .unset] [(.int (64975 : Int32)), (.int (27 : Int32)), (.ref b6), (.ref b6)])) rfl rfl (hb hby at_184) fun T34 lc34 X34 N34 hz34 A34 => ?_
  show Go _ _ _ _ (T34.setTop (mkF m 185 #[.val (.int p0), .val (.int p1), .val (.int p2), .unset, .unset, .unset, .unset] [(.ref b6)]))
  refine Go.by (fun t k => XS.dup X34.here hx rfl (hb hby at_185) rfl rfl k) ?_
  show Go _ _ _ _ (T34.setTop (mkF m 186 #[.val (.int p0), .val (.int p1), .val (.int p2), .unset, .unset, .unset, .unset] [(.ref b6), (.ref b6)]))
  refine Go.by (fun t k => XS.bipush X34.here hx rfl (hb hby at_186) k) ?_
  show Go _ _ _ _ (T34.setTop (mkF m 188 #[.val (.int p0), .val (.int p1), .val (.int p2), .unset, .unset, .unset, .unset] [(.int (28 : Int32)), (.ref b6), (.ref b6)]))
  refine Go.by (fun t k => X34.ldcI hx hown (mvT hZ (hw _ (List.mem_of_getElem? (i := 4) rfl))) (g := (mkF m 188 #[.val (.int p0), .val (.int p1), .val (.int p2), .unset, .unset, .unset, .unset] [(.int (28 : Int32)), (.ref b6), (.ref b6)])) rfl (hb hby at_188) k) ?_
  show Go _ _ _ _ (T34.setTop (mkF m 190 #[.val (.int p0), .val (.int p1), .val (.int p2), .unset, .unset, .unset, .unset] [(.int (65008 : Int32)), (.int (28 : Int32)), (.ref b6), (.ref b6)]))
  refine Go.stIA X34 hx hZ A34 N34 hz34 g6 (j := (28 : Int32)) (by decide) (g := (mkF m 190 #[.val (.int p0), .val (.int p1), .val (.int p2), .unset, .unset, .unset, .unset] [(.int (65008 : Int32)), (.int (28 : Int32)), (.ref b6), (.ref b6)])) rfl rfl (hb hby at_190) fun T35 lc35 X35 N35 hz35 A35 => ?_
  show Go _ _ _ _ (T35.setTop (mkF m 191 #[.val (.int p0), .val (.int p1), .val (.int p2), .unset, .unset, .unset, .unset] [(.ref b6)]))
  refine Go.by (fun t k => XS.dup X35.here hx rfl (hb hby at_191) rfl rfl k) ?_
  show Go _ _ _ _ (T35.setTop (mkF m 192 #[.val (.int p0), .val (.int p1), .val (.int p2), .unset, .unset, .unset, .unset] [(.ref b6), (.ref b6)]))
  refine Go.by (fun t k => XS.bipush X35.here hx rfl (hb hby at_192) k) ?_
  show Go _ _ _ _ (T35.setTop (mkF m 194 #[.val (.int p0), .val (.int p1), .val (.int p2), .unset, .unset, .unset, .unset] [(.int (29 : Int32)), (.ref b6), (.ref b6)]))
  refine Go.by (fun t k => X35.ldcI hx hown (mvT hZ (hw _ (List.mem_of_getElem? (i := 5) rfl))) (g := (mkF m 194 #[.val (.int p0), .val (.int p1), .val (.int p2), .unset, .unset, .unset, .unset] [(.int (29 : Int32)), (.ref b6), (.ref b6)])) rfl (hb hby at_194) k) ?_
  show Go _ _ _ _ (T35.setTop (mkF m 196 #[.val (.int p0), .val (.int p1), .val (.int p2), .unset, .unset, .unset, .unset] [(.int (65533 : Int32)), (.int (29 : Int32)), (.ref b6), (.ref b6)]))
  refine Go.stIA X35 hx hZ A35 N35 hz35 g6 (j := (29 : Int32)) (by decide) (g := (mkF m 196 #[.val (.int p0), .val (.int p1), .val (.int p2), .unset, .unset, .unset, .unset] [(.int (65533 : Int32)), (.int (29 : Int32)), (.ref b6), (.ref b6)])) rfl rfl (hb hby at_196) fun T36 lc36 X36 N36 hz36 A36 => ?_
  show Go _ _ _ _ (T36.setTop (mkF m 197 #[.val (.int p0), .val (.int p1), .val (.int p2), .unset, .unset, .unset, .unset] [(.ref b6)]))
  refine Go.by (fun t k => XS.dup X36.here hx rfl (hb hby at_197) rfl rfl k) ?_
  show Go _ _ _ _ (T36.setTop (mkF m 198 #[.val (.int p0), .val (.int p1), .val (.int p2), .unset, .unset, .unset, .unset] [(.ref b6), (.ref b6)]))
  refine Go.by (fun t k => XS.bipush X36.here hx rfl (hb hby at_198) k) ?_
  show Go _ _ _ _ (T36.setTop (mkF m 200 #[.val (.int p0), .val (.int p1), .val (.int p2), .unset, .unset, .unset, .unset] [(.int (30 : Int32)), (.ref b6), (.ref b6)]))
  refine Go.by (fun t k => X36.ldcI hx hown (mvT hZ (hw _ (List.mem_of_getElem? (i := 6) rfl))) (g := (mkF m 200 #[.val (.int p0), .val (.int p1), .val (.int p2), .unset, .unset, .unset, .unset] [(.int (30 : Int32)), (.ref b6), (.ref b6)])) rfl (hb hby at_200) k) ?_
  show Go _ _ _ _ (T36.setTop (mkF m 202 #[.val (.int p0), .val (.int p1), .val (.int p2), .unset, .unset, .unset, .unset] [(.int (65536 : Int32)), (.int (30 : Int32)), (.ref b6), (.ref b6)]))
  refine Go.stIA X36 hx hZ A36 N36 hz36 g6 (j := (30 : Int32)) (by decide) (g := (mkF m 202 #[.val (.int p0), .val (.int p1), .val (.int p2), .unset, .unset, .unset, .unset] [(.int (65536 : Int32)), (.int (30 : Int32)), (.ref b6), (.ref b6)])) rfl rfl (hb hby at_202) fun T37 lc37 X37 N37 hz37 A37 => ?_
  show Go _ _ _ _ (T37.setTop (mkF m 203 #[.val (.int p0), .val (.int p1), .val (.int p2), .unset, .unset, .unset, .unset] [(.ref b6)]))
  refine Go.by (fun t k => XS.dup X37.here hx rfl (hb hby at_203) rfl rfl k) ?_
  show Go _ _ _ _ (T37.setTop (mkF m 204 #[.val (.int p0), .val (.int p1), .val (.int p2), .unset, .unset, .unset, .unset] [(.ref b6), (.ref b6)]))
  refine Go.by (fun t k => XS.bipush X37.here hx rfl (hb hby at_204) k) ?_
  show Go _ _ _ _ (T37.setTop (mkF m 206 #[.val (.int p0), .val (.int p1), .val (.int p2), .unset, .unset, .unset, .unset] [(.int (31 : Int32)), (.ref b6), (.ref b6)]))
  refine Go.by (fun t k => X37.ldcI hx hown (mvT hZ (hw _ (List.mem_of_getElem? (i := 7) rfl))) (g := (mkF m 206 #[.val (.int p0), .val (.int p1), .val (.int p2), .unset, .unset, .unset, .unset] [(.int (31 : Int32)), (.ref b6), (.ref b6)])) rfl (hb hby at_206) k) ?_
  show Go _ _ _ _ (T37.setTop (mkF m 208 #[.val (.int p0), .val (.int p1), .val (.int p2), .unset, .unset, .unset, .unset] [(.int (983039 : Int32)), (.int (31 : Int32)), (.ref b6), (.ref b6)]))
  refine Go.stIA X37 hx hZ A37 N37 hz37 g6 (j := (31 : Int32)) (by decide) (g := (mkF m 208 #[.val (.int p0), .val (.int p1), .val (.int p2), .unset, .unset, .unset, .unset] [(.int (983039 : Int32)), (.int (31 : Int32)), (.ref b6), (.ref b6)])) rfl rfl (hb hby at_208) fun T38 lc38 X38 N38 hz38 A38 => ?_
  show Go _ _ _ _ (T38.setTop (mkF m 209 #[.val (.int p0), .val (.int p1), .val (.int p2), .unset, .unset, .unset, .unset] [(.ref b6)]))
  refine Go.by (fun t k => XS.dup X38.here hx rfl (hb hby at_209) rfl rfl k) ?_
  show Go _ _ _ _ (T38.setTop (mkF m 210 #[.val (.int p0), .val (.int p1), .val (.int p2), .unset, .unset, .unset, .unset] [(.ref b6), (.ref b6)]))
  refine Go.by (fun t k => XS.bipush X38.here hx rfl (hb hby at_210) k) ?_
  show Go _ _ _ _ (T38.setTop (mkF m 212 #[.val (.int p0), .val (.int p1), .val (.int p2), .unset, .unset, .unset, .unset] [(.int (32 : Int32)), (.ref b6), (.ref b6)]))
  refine Go.by (fun t k => XS.iconst X38.here hx rfl (hb hby at_212) k) ?_
  show Go _ _ _ _ (T38.setTop (mkF m 213 #[.val (.int p0), .val (.int p1), .val (.int p2), .unset, .unset, .unset, .unset] [(.int (0 : Int32)), (.int (32 : Int32)), (.ref b6), (.ref b6)]))
  refine Go.stIA X38 hx hZ A38 N38 hz38 g6 (j := (32 : Int32)) (by decide) (g := (mkF m 213 #[.val (.int p0), .val (.int p1), .val (.int p2), .unset, .unset, .unset, .unset] [(.int (0 : Int32)), (.int (32 : Int32)), (.ref b6), (.ref b6)])) rfl rfl (hb hby at_213) fun T39 lc39 X39 N39 hz39 A39 => ?_
  show Go _ _ _ _ (T39.setTop (mkF m 214 #[.val (.int p0), .val (.int p1), .val (.int p2), .unset, .unset, .unset, .unset] [(.ref b6)]))
  refine Go.by (fun t k => XS.dup X39.here hx rfl (hb hby at_214) rfl rfl k) ?_
  show Go _ _ _ _ (T39.setTop (mkF m 215 #[.val (.int p0), .val (.int p1), .val (.int p2), .unset, .unset, .unset, .unset] [(.ref b6), (.ref b6)]))
  refine Go.by (fun t k => XS.bipush X39.here hx rfl (hb hby at_215) k) ?_
  show Go _ _ _ _ (T39.setTop (mkF m 217 #[.val (.int p0), .val (.int p1), .val (.int p2), .unset, .unset, .unset, .unset] [(.int (33 : Int32)), (.ref b6), (.ref b6)]))
  refine Go.by (fun t k => X39.ldcI hx hown (mvT hZ (hw _ (List.mem_of_getElem? (i := 8) rfl))) (g := (mkF m 217 #[.val (.int p0), .val (.int p1), .val (.int p2), .unset, .unset, .unset, .unset] [(.int (33 : Int32)), (.ref b6), (.ref b6)])) rfl (hb hby at_217) k) ?_
  show Go _ _ _ _ (T39.setTop (mkF m 219 #[.val (.int p0), .val (.int p1), .val (.int p2), .unset, .unset, .unset, .unset] [(.int (-2147483644 : Int32)), (.int (33 : Int32)), (.ref b6), (.ref b6)]))
  refine Go.stIA X39 hx hZ A39 N39 hz39 g6 (j := (33 : Int32)) (by decide) (g := (mkF m 219 #[.val (.int p0), .val (.int p1), .val (.int p2), .unset, .unset, .unset, .unset] [(.int (-2147483644 : Int32)), (.int (33 : Int32)), (.ref b6), (.ref b6)])) rfl rfl (hb hby at_219) fun T40 lc40 X40 N40 hz40 A40 => ?_
  show Go _ _ _ _ (T40.setTop (mkF m 220 #[.val (.int p0), .val (.int p1), .val (.int p2), .unset, .unset, .unset, .unset] [(.ref b6)]))
  refine Go.by (fun t k => XS.dup X40.here hx rfl (hb hby at_220) rfl rfl k) ?_
  show Go _ _ _ _ (T40.setTop (mkF m 221 #[.val (.int p0), .val (.int p1), .val (.int p2), .unset, .unset, .unset, .unset] [(.ref b6), (.ref b6)]))
  refine Go.by (fun t k => XS.bipush X40.here hx rfl (hb hby at_221) k) ?_
  show Go _ _ _ _ (T40.setTop (mkF m 223 #[.val (.int p0), .val (.int p1), .val (.int p2), .unset, .unset, .unset, .unset] [(.int (34 : Int32)), (.ref b6), (.ref b6)]))
  refine Go.by (fun t k => X40.ldcI hx hown (mvT hZ (hw _ (List.mem_of_getElem? (i := 9) rfl))) (g := (mkF m 223 #[.val (.int p0), .val (.int p1), .val (.int p2), .unset, .unset, .unset, .unset] [(.int (34 : Int32)), (.ref b6), (.ref b6)])) rfl (hb hby at_223) k) ?_
  show Go _ _ _ _ (T40.setTop (mkF m 225 #[.val (.int p0), .val (.int p1), .val (.int p2), .unset, .unset, .unset, .unset] [(.int (2147483643 : Int32)), (.int (34 : Int32)), (.ref b6), (.ref b6)]))
  refine Go.stIA X40 hx hZ A40 N40 hz40 g6 (j := (34 : Int32)) (by decide) (g := (mkF m 225 #[.val (.int p0), .val (.int p1), .val (.int p2), .unset, .unset, .unset, .unset] [(.int (2147483643 : Int32)), (.int (34 : Int32)), (.ref b6), (.ref b6)])) rfl rfl (hb hby at_225) fun T41 lc41 X41 N41 hz41 A41 => ?_
  show Go _ _ _ _ (T41.setTop (mkF m 226 #[.val (.int p0), .val (.int p1), .val (.int p2), .unset, .unset, .unset, .unset] [(.ref b6)]))
  refine Go.by (fun t k => XS.astoreN X41.here hx rfl (hb hby at_226) rfl rfl (l' := #[.val (.int p0), .val (.int p1), .val (.int p2), .val (.ref b6), .unset, .unset, .unset]) rfl k) ?_
  show Go _ _ _ _ (T41.setTop (mkF m 227 #[.val (.int p0), .val (.int p1), .val (.int p2), .val (.ref b6), .unset, .unset, .unset] []))
  refine Go.by (fun t k => XS.iloadN X41.here hx rfl (hb hby at_227) rfl k) ?_
  show Go _ _ _ _ (T41.setTop (mkF m 228 #[.val (.int p0), .val (.int p1), .val (.int p2), .val (.ref b6), .unset, .unset, .unset] [(.int p1)]))
  refine Go.by (fun t k => XS.bipush X41.here hx rfl (hb hby at_228) k) ?_
  show Go _ _ _ _ (T41.setTop (mkF m 230 #[.val (.int p0), .val (.int p1), .val (.int p2), .val (.ref b6), .unset, .unset, .unset] [(.int (7 : Int32)), (.int p1)]))
  refine Go.by (fun t k => XS.iand X41.here hx rfl (hb hby at_230) rfl k) ?_
  show Go _ _ _ _ (T41.setTop (mkF m 231 #[.val (.int p0), .val (.int p1), .val (.int p2), .val (.ref b6), .unset, .unset, .unset] [(.int (p1 &&& (7 : Int32)))]))
  refine Go.by (fun t k => XS.istore X41.here hx rfl (hb hby at_231) rfl (l' := #[.val (.int p0), .val (.int p1), .val (.int p2), .val (.ref b6), .val (.int (p1 &&& (7 : Int32))), .unset, .unset]) rfl k) ?_
  show Go _ _ _ _ (T41.setTop (mkF m 233 #[.val (.int p0), .val (.int p1), .val (.int p2), .val (.ref b6), .val (.int (p1 &&& (7 : Int32))), .unset, .unset] []))
  refine Go.by (fun t k => XS.iload X41.here hx rfl (hb hby at_233) rfl k) ?_
  show Go _ _ _ _ (T41.setTop (mkF m 235 #[.val (.int p0), .val (.int p1), .val (.int p2), .val (.ref b6), .val (.int (p1 &&& (7 : Int32))), .unset, .unset] [(.int (p1 &&& (7 : Int32)))]))
  by_cases hc235 : (p1 &&& (7 : Int32)) = 0
  · refine Go.by (fun t k => XS.ifNo X41.here hx rfl (hb hby at_235) rfl (XT.i0_ne_f hc235) k) ?_
    show Go _ _ _ _ (T41.setTop (mkF m 238 #[.val (.int p0), .val (.int p1), .val (.int p2), .val (.ref b6), .val (.int (p1 &&& (7 : Int32))), .unset, .unset] []))
    refine Go.by (fun t k => XS.iloadN X41.here hx rfl (hb hby at_238) rfl k) ?_
    show Go _ _ _ _ (T41.setTop (mkF m 239 #[.val (.int p0), .val (.int p1), .val (.int p2), .val (.ref b6), .val (.int (p1 &&& (7 : Int32))), .unset, .unset] [(.int p0)]))
    refine Go.by (fun t k => XS.istore X41.here hx rfl (hb hby at_239) rfl (l' := #[.val (.int p0), .val (.int p1), .val (.int p2), .val (.ref b6), .val (.int (p1 &&& (7 : Int32))), .val (.int p0), .unset]) rfl k) ?_
    show Go _ _ _ _ (T41.setTop (mkF m 241 #[.val (.int p0), .val (.int p1), .val (.int p2), .val (.ref b6), .val (.int (p1 &&& (7 : Int32))), .val (.int p0), .unset] []))
    refine Go.by (fun t k => XS.goto X41.here hx rfl (pc0 := 241) (pc' := 324) rfl (hb hby at_241) (by decide) (by decide) k) ?_
    exact J324 T41 _ X41 N41 hz41 _ _ _ _ _ p0
  · refine Go.by (fun t k => XS.ifYes X41.here hx rfl (pc0 := 235) (pc' := 244) rfl (hb hby at_235) rfl (XT.i0_ne_t hc235) (by decide) (by decide) k) ?_
    show Go _ _ _ _ (T41.setTop (mkF m 244 #[.val (.int p0), .val (.int p1), .val (.int p2), .val (.ref b6), .val (.int (p1 &&& (7 : Int32))), .unset, .unset] []))
    refine Go.by (fun t k => XS.iload X41.here hx rfl (hb hby at_244) rfl k) ?_
    show Go _ _ _ _ (T41.setTop (mkF m 246 #[.val (.int p0), .val (.int p1), .val (.int p2), .val (.ref b6), .val (.int (p1 &&& (7 : Int32))), .unset, .unset] [(.int (p1 &&& (7 : Int32)))]))
    refine Go.by (fun t k => XS.iconst X41.here hx rfl (hb hby at_246) k) ?_
    show Go _ _ _ _ (T41.setTop (mkF m 247 #[.val (.int p0), .val (.int p1), .val (.int p2), .val (.ref b6), .val (.int (p1 &&& (7 : Int32))), .unset, .unset] [(.int (1 : Int32)), (.int (p1 &&& (7 : Int32)))]))
    by_cases hc247 : (p1 &&& (7 : Int32)) = (1 : Int32)
    · refine Go.by (fun t k => XS.icmpNo X41.here hx rfl (hb hby at_247) rfl (XT.ii_ne_f hc247) k) ?_
      show Go _ _ _ _ (T41.setTop (mkF m 250 #[.val (.int p0), .val (.int p1), .val (.int p2), .val (.ref b6), .val (.int (p1 &&& (7 : Int32))), .unset, .unset] []))
      refine Go.by (fun t k => XS.iloadN X41.here hx rfl (hb hby at_250) rfl k) ?_
      show Go _ _ _ _ (T41.setTop (mkF m 251 #[.val (.int p0), .val (.int p1), .val (.int p2), .val (.ref b6), .val (.int (p1 &&& (7 : Int32))), .unset, .unset] [(.int p0)]))
      refine Go.by (fun t k => XS.sipush X41.here hx rfl (hb hby at_251) k) ?_
      show Go _ _ _ _ (T41.setTop (mkF m 254 #[.val (.int p0), .val (.int p1), .val (.int p2), .val (.ref b6), .val (.int (p1 &&& (7 : Int32))), .unset, .unset] [(.int (255 : Int32)), (.int p0)]))
      refine Go.by (fun t k => XS.iand X41.here hx rfl (hb hby at_254) rfl k) ?_
      show Go _ _ _ _ (T41.setTop (mkF m 255 #[.val (.int p0), .val (.int p1), .val (.int p2), .val (.ref b6), .val (.int (p1 &&& (7 : Int32))), .unset, .unset] [(.int (p0 &&& (255 : Int32)))]))
      refine Go.by (fun t k => XS.istore X41.here hx rfl (hb hby at_255) rfl (l' := #[.val (.int p0), .val (.int p1), .val (.int p2), .val (.ref b6), .val (.int (p1 &&& (7 : Int32))), .val (.int (p0 &&& (255 : Int32))), .unset]) rfl k) ?_
      show Go _ _ _ _ (T41.setTop (mkF m 257 #[.val (.int p0), .val (.int p1), .val (.int p2), .val (.ref b6), .val (.int (p1 &&& (7 : Int32))), .val (.int (p0 &&& (255 : Int32))), .unset] []))
      refine Go.by (fun t k => XS.goto X41.here hx rfl (pc0 := 257) (pc' := 324) rfl (hb hby at_257) (by decide) (by decide) k) ?_
      exact J324 T41 _ X41 N41 hz41 _ _ _ _ _ (p0 &&& (255 : Int32))
    · refine Go.by (fun t k => XS.icmpYes X41.here hx rfl (pc0 := 247) (pc' := 260) rfl (hb hby at_247) rfl (XT.ii_ne_t hc247) (by decide) (by decide) k) ?_
      show Go _ _ _ _ (T41.setTop (mkF m 260 #[.val (.int p0), .val (.int p1), .val (.int p2), .val (.ref b6), .val (.int (p1 &&& (7 : Int32))), .unset, .unset] []))
      refine Go.by (fun t k => XS.iload X41.here hx rfl (hb hby at_260) rfl k) ?_
      show Go _ _ _ _ (T41.setTop (mkF m 262 #[.val (.int p0), .val (.int p1), .val (.int p2), .val (.ref b6), .val (.int (p1 &&& (7 : Int32))), .unset, .unset] [(.int (p1 &&& (7 : Int32)))]))
      refine Go.by (fun t k => XS.iconst X41.here hx rfl (hb hby at_262) k) ?_
      show Go _ _ _ _ (T41.setTop (mkF m 263 #[.val (.int p0), .val (.int p1), .val (.int p2), .val (.ref b6), .val (.int (p1 &&& (7 : Int32))), .unset, .unset] [(.int (2 : Int32)), (.int (p1 &&& (7 : Int32)))]))
      by_cases hc263 : (p1 &&& (7 : Int32)) = (2 : Int32)
      · refine Go.by (fun t k => XS.icmpNo X41.here hx rfl (hb hby at_263) rfl (XT.ii_ne_f hc263) k) ?_
        show Go _ _ _ _ (T41.setTop (mkF m 266 #[.val (.int p0), .val (.int p1), .val (.int p2), .val (.ref b6), .val (.int (p1 &&& (7 : Int32))), .unset, .unset] []))
        refine Go.by (fun t k => XS.iloadN X41.here hx rfl (hb hby at_266) rfl k) ?_
        show Go _ _ _ _ (T41.setTop (mkF m 267 #[.val (.int p0), .val (.int p1), .val (.int p2), .val (.ref b6), .val (.int (p1 &&& (7 : Int32))), .unset, .unset] [(.int p0)]))
        refine Go.by (fun t k => XS.sipush X41.here hx rfl (hb hby at_267) k) ?_
        show Go _ _ _ _ (T41.setTop (mkF m 270 #[.val (.int p0), .val (.int p1), .val (.int p2), .val (.ref b6), .val (.int (p1 &&& (7 : Int32))), .unset, .unset] [(.int (16383 : Int32)), (.int p0)]))
        refine Go.by (fun t k => XS.iand X41.here hx rfl (hb hby at_270) rfl k) ?_
        show Go _ _ _ _ (T41.setTop (mkF m 271 #[.val (.int p0), .val (.int p1), .val (.int p2), .val (.ref b6), .val (.int (p1 &&& (7 : Int32))), .unset, .unset] [(.int (p0 &&& (16383 : Int32)))]))
        refine Go.by (fun t k => XS.istore X41.here hx rfl (hb hby at_271) rfl (l' := #[.val (.int p0), .val (.int p1), .val (.int p2), .val (.ref b6), .val (.int (p1 &&& (7 : Int32))), .val (.int (p0 &&& (16383 : Int32))), .unset]) rfl k) ?_
        show Go _ _ _ _ (T41.setTop (mkF m 273 #[.val (.int p0), .val (.int p1), .val (.int p2), .val (.ref b6), .val (.int (p1 &&& (7 : Int32))), .val (.int (p0 &&& (16383 : Int32))), .unset] []))
        refine Go.by (fun t k => XS.goto X41.here hx rfl (pc0 := 273) (pc' := 324) rfl (hb hby at_273) (by decide) (by decide) k) ?_
        exact J324 T41 _ X41 N41 hz41 _ _ _ _ _ (p0 &&& (16383 : Int32))
      · refine Go.by (fun t k => XS.icmpYes X41.here hx rfl (pc0 := 263) (pc' := 276) rfl (hb hby at_263) rfl (XT.ii_ne_t hc263) (by decide) (by decide) k) ?_
        show Go _ _ _ _ (T41.setTop (mkF m 276 #[.val (.int p0), .val (.int p1), .val (.int p2), .val (.ref b6), .val (.int (p1 &&& (7 : Int32))), .unset, .unset] []))
        refine Go.by (fun t k => XS.iload X41.here hx rfl (hb hby at_276) rfl k) ?_
        show Go _ _ _ _ (T41.setTop (mkF m 278 #[.val (.int p0), .val (.int p1), .val (.int p2), .val (.ref b6), .val (.int (p1 &&& (7 : Int32))), .unset, .unset] [(.int (p1 &&& (7 : Int32)))]))
        refine Go.by (fun t k => XS.iconst X41.here hx rfl (hb hby at_278) k) ?_
        show Go _ _ _ _ (T41.setTop (mkF m 279 #[.val (.int p0), .val (.int p1), .val (.int p2), .val (.ref b6), .val (.int (p1 &&& (7 : Int32))), .unset, .unset] [(.int (3 : Int32)), (.int (p1 &&& (7 : Int32)))]))
        by_cases hc279 : (p1 &&& (7 : Int32)) = (3 : Int32)
        · refine Go.by (fun t k => XS.icmpNo X41.here hx rfl (hb hby at_279) rfl (XT.ii_ne_f hc279) k) ?_
          show Go _ _ _ _ (T41.setTop (mkF m 282 #[.val (.int p0), .val (.int p1), .val (.int p2), .val (.ref b6), .val (.int (p1 &&& (7 : Int32))), .unset, .unset] []))
          refine Go.by (fun t k => XS.iloadN X41.here hx rfl (hb hby at_282) rfl k) ?_
          show Go _ _ _ _ (T41.setTop (mkF m 283 #[.val (.int p0), .val (.int p1), .val (.int p2), .val (.ref b6), .val (.int (p1 &&& (7 : Int32))), .unset, .unset] [(.int p0)]))
          refine Go.by (fun t k => X41.ldcI hx hown (mvT hZ (hw _ (List.mem_of_getElem? (i := 10) rfl))) (g := (mkF m 283 #[.val (.int p0), .val (.int p1), .val (.int p2), .val (.ref b6), .val (.int (p1 &&& (7 : Int32))), .unset, .unset] [(.int p0)])) rfl (hb hby at_283) k) ?_
          show Go _ _ _ _ (T41.setTop (mkF m 285 #[.val (.int p0), .val (.int p1), .val (.int p2), .val (.ref b6), .val (.int (p1 &&& (7 : Int32))), .unset, .unset] [(.int (65535 : Int32)), (.int p0)]))
          refine Go.by (fun t k => XS.iand X41.here hx rfl (hb hby at_285) rfl k) ?_
          show Go _ _ _ _ (T41.setTop (mkF m 286 #[.val (.int p0), .val (.int p1), .val (.int p2), .val (.ref b6), .val (.int (p1 &&& (7 : Int32))), .unset, .unset] [(.int (p0 &&& (65535 : Int32)))]))
          refine Go.by (fun t k => XS.istore X41.here hx rfl (hb hby at_286) rfl (l' := #[.val (.int p0), .val (.int p1), .val (.int p2), .val (.ref b6), .val (.int (p1 &&& (7 : Int32))), .val (.int (p0 &&& (65535 : Int32))), .unset]) rfl k) ?_
          show Go _ _ _ _ (T41.setTop (mkF m 288 #[.val (.int p0), .val (.int p1), .val (.int p2), .val (.ref b6), .val (.int (p1 &&& (7 : Int32))), .val (.int (p0 &&& (65535 : Int32))), .unset] []))
          refine Go.by (fun t k => XS.goto X41.here hx rfl (pc0 := 288) (pc' := 324) rfl (hb hby at_288) (by decide) (by decide) k) ?_
          exact J324 T41 _ X41 N41 hz41 _ _ _ _ _ (p0 &&& (65535 : Int32))
        · refine Go.by (fun t k => XS.icmpYes X41.here hx rfl (pc0 := 279) (pc' := 291) rfl (hb hby at_279) rfl (XT.ii_ne_t hc279) (by decide) (by decide) k) ?_
          show Go _ _ _ _ (T41.setTop (mkF m 291 #[.val (.int p0), .val (.int p1), .val (.int p2), .val (.ref b6), .val (.int (p1 &&& (7 : Int32))), .unset, .unset] []))
          refine Go.by (fun t k => XS.iload X41.here hx rfl (hb hby at_291) rfl k) ?_
          show Go _ _ _ _ (T41.setTop (mkF m 293 #[.val (.int p0), .val (.int p1), .val (.int p2), .val (.ref b6), .val (.int (p1 &&& (7 : Int32))), .unset, .unset] [(.int (p1 &&& (7 : Int32)))]))
          refine Go.by (fun t k => XS.iconst X41.here hx rfl (hb hby at_293) k) ?_
          show Go _ _ _ _ (T41.setTop (mkF m 294 #[.val (.int p0), .val (.int p1), .val (.int p2), .val (.ref b6), .val (.int (p1 &&& (7 : Int32))), .unset, .unset] [(.int (4 : Int32)), (.int (p1 &&& (7 : Int32)))]))
          by_cases hc294 : (p1 &&& (7 : Int32)) = (4 : Int32)
          · refine Go.by (fun t k => XS.icmpNo X41.here hx rfl (hb hby at_294) rfl (XT.ii_ne_f hc294) k) ?_
            show Go _ _ _ _ (T41.setTop (mkF m 297 #[.val (.int p0), .val (.int p1), .val (.int p2), .val (.ref b6), .val (.int (p1 &&& (7 : Int32))), .unset, .unset] []))
            refine Go.by (fun t k => XS.iloadN X41.here hx rfl (hb hby at_297) rfl k) ?_
            show Go _ _ _ _ (T41.setTop (mkF m 298 #[.val (.int p0), .val (.int p1), .val (.int p2), .val (.ref b6), .val (.int (p1 &&& (7 : Int32))), .unset, .unset] [(.int p0)]))
            refine Go.by (fun t k => X41.ldcI hx hown (mvT hZ (hw _ (List.mem_of_getElem? (i := 22) rfl))) (g := (mkF m 298 #[.val (.int p0), .val (.int p1), .val (.int p2), .val (.ref b6), .val (.int (p1 &&& (7 : Int32))), .unset, .unset] [(.int p0)])) rfl (hb hby at_298) k) ?_
            show Go _ _ _ _ (T41.setTop (mkF m 300 #[.val (.int p0), .val (.int p1), .val (.int p2), .val (.ref b6), .val (.int (p1 &&& (7 : Int32))), .unset, .unset] [(.int (1048575 : Int32)), (.int p0)]))
            refine Go.by (fun t k => XS.iand X41.here hx rfl (hb hby at_300) rfl k) ?_
            show Go _ _ _ _ (T41.setTop (mkF m 301 #[.val (.int p0), .val (.int p1), .val (.int p2), .val (.ref b6), .val (.int (p1 &&& (7 : Int32))), .unset, .unset] [(.int (p0 &&& (1048575 : Int32)))]))
            refine Go.by (fun t k => XS.istore X41.here hx rfl (hb hby at_301) rfl (l' := #[.val (.int p0), .val (.int p1), .val (.int p2), .val (.ref b6), .val (.int (p1 &&& (7 : Int32))), .val (.int (p0 &&& (1048575 : Int32))), .unset]) rfl k) ?_
            show Go _ _ _ _ (T41.setTop (mkF m 303 #[.val (.int p0), .val (.int p1), .val (.int p2), .val (.ref b6), .val (.int (p1 &&& (7 : Int32))), .val (.int (p0 &&& (1048575 : Int32))), .unset] []))
            refine Go.by (fun t k => XS.goto X41.here hx rfl (pc0 := 303) (pc' := 324) rfl (hb hby at_303) (by decide) (by decide) k) ?_
            exact J324 T41 _ X41 N41 hz41 _ _ _ _ _ (p0 &&& (1048575 : Int32))
          · refine Go.by (fun t k => XS.icmpYes X41.here hx rfl (pc0 := 294) (pc' := 306) rfl (hb hby at_294) rfl (XT.ii_ne_t hc294) (by decide) (by decide) k) ?_
            show Go _ _ _ _ (T41.setTop (mkF m 306 #[.val (.int p0), .val (.int p1), .val (.int p2), .val (.ref b6), .val (.int (p1 &&& (7 : Int32))), .unset, .unset] []))
            refine Go.by (fun t k => XS.aloadN X41.here hx rfl (hb hby at_306) rfl rfl k) ?_
            show Go _ _ _ _ (T41.setTop (mkF m 307 #[.val (.int p0), .val (.int p1), .val (.int p2), .val (.ref b6), .val (.int (p1 &&& (7 : Int32))), .unset, .unset] [(.ref b6)]))
            refine Go.by (fun t k => XS.iloadN X41.here hx rfl (hb hby at_307) rfl k) ?_
            show Go _ _ _ _ (T41.setTop (mkF m 308 #[.val (.int p0), .val (.int p1), .val (.int p2), .val (.ref b6), .val (.int (p1 &&& (7 : Int32))), .unset, .unset] [(.int p2), (.ref b6)]))
            refine Go.by (fun t k => X41.ldcI hx hown (mvT hZ (hw _ (List.mem_of_getElem? (i := 30) rfl))) (g := (mkF m 308 #[.val (.int p0), .val (.int p1), .val (.int p2), .val (.ref b6), .val (.int (p1 &&& (7 : Int32))), .unset, .unset] [(.int p2), (.ref b6)])) rfl (hb hby at_308) k) ?_
            show Go _ _ _ _ (T41.setTop (mkF m 310 #[.val (.int p0), .val (.int p1), .val (.int p2), .val (.ref b6), .val (.int (p1 &&& (7 : Int32))), .unset, .unset] [(.int (2147483647 : Int32)), (.int p2), (.ref b6)]))
            refine Go.by (fun t k => XS.iand X41.here hx rfl (hb hby at_310) rfl k) ?_
            show Go _ _ _ _ (T41.setTop (mkF m 311 #[.val (.int p0), .val (.int p1), .val (.int p2), .val (.ref b6), .val (.int (p1 &&& (7 : Int32))), .unset, .unset] [(.int (p2 &&& (2147483647 : Int32))), (.ref b6)]))
            refine Go.by (fun t k => XS.aloadN X41.here hx rfl (hb hby at_311) rfl rfl k) ?_
            show Go _ _ _ _ (T41.setTop (mkF m 312 #[.val (.int p0), .val (.int p1), .val (.int p2), .val (.ref b6), .val (.int (p1 &&& (7 : Int32))), .unset, .unset] [(.ref b6), (.int (p2 &&& (2147483647 : Int32))), (.ref b6)]))
            refine Go.lenIA X41 hx hZ A41 (z := (35 : Int32)) rfl (g := (mkF m 312 #[.val (.int p0), .val (.int p1), .val (.int p2), .val (.ref b6), .val (.int (p1 &&& (7 : Int32))), .unset, .unset] [(.ref b6), (.int (p2 &&& (2147483647 : Int32))), (.ref b6)])) rfl rfl (hb hby at_312) ?_
            show Go _ _ _ _ (T41.setTop (mkF m 313 #[.val (.int p0), .val (.int p1), .val (.int p2), .val (.ref b6), .val (.int (p1 &&& (7 : Int32))), .unset, .unset] [(.int (35 : Int32)), (.int (p2 &&& (2147483647 : Int32))), (.ref b6)]))
            refine Go.by (fun t k => XS.irem X41.here hx rfl (hb hby at_313) rfl (by decide) k) ?_
            show Go _ _ _ _ (T41.setTop (mkF m 314 #[.val (.int p0), .val (.int p1), .val (.int p2), .val (.ref b6), .val (.int (p1 &&& (7 : Int32))), .unset, .unset] [(.int ((p2 &&& (2147483647 : Int32)) - ((p2 &&& (2147483647 : Int32)) / (35 : Int32)) * (35 : Int32))), (.ref b6)]))
            refine Go.ldIA X41 hx hZ A41 (j := ((p2 &&& (2147483647 : Int32)) - ((p2 &&& (2147483647 : Int32)) / (35 : Int32)) * (35 : Int32))) (own_idx (n := 35) (d := 35) rfl rfl (by decide) (own_mask _)) (g := (mkF m 314 #[.val (.int p0), .val (.int p1), .val (.int p2), .val (.ref b6), .val (.int (p1 &&& (7 : Int32))), .unset, .unset] [(.int ((p2 &&& (2147483647 : Int32)) - ((p2 &&& (2147483647 : Int32)) / (35 : Int32)) * (35 : Int32))), (.ref b6)])) rfl rfl (hb hby at_314) fun w42 => ?_
            show Go _ _ _ _ (T41.setTop (mkF m 315 #[.val (.int p0), .val (.int p1), .val (.int p2), .val (.ref b6), .val (.int (p1 &&& (7 : Int32))), .unset, .unset] [(.int w42)]))
            refine Go.by (fun t k => XS.iloadN X41.here hx rfl (hb hby at_315) rfl k) ?_
            show Go _ _ _ _ (T41.setTop (mkF m 316 #[.val (.int p0), .val (.int p1), .val (.int p2), .val (.ref b6), .val (.int (p1 &&& (7 : Int32))), .unset, .unset] [(.int p0), (.int w42)]))
            refine Go.by (fun t k => XS.bipush X41.here hx rfl (hb hby at_316) k) ?_
            show Go _ _ _ _ (T41.setTop (mkF m 318 #[.val (.int p0), .val (.int p1), .val (.int p2), .val (.ref b6), .val (.int (p1 &&& (7 : Int32))), .unset, .unset] [(.int (7 : Int32)), (.int p0), (.int w42)]))
            refine Go.by (fun t k => XS.iand X41.here hx rfl (hb hby at_318) rfl k) ?_
            show Go _ _ _ _ (T41.setTop (mkF m 319 #[.val (.int p0), .val (.int p1), .val (.int p2), .val (.ref b6), .val (.int (p1 &&& (7 : Int32))), .unset, .unset] [(.int (p0 &&& (7 : Int32))), (.int w42)]))
            refine Go.by (fun t k => XS.iconst X41.here hx rfl (hb hby at_319) k) ?_
            show Go _ _ _ _ (T41.setTop (mkF m 320 #[.val (.int p0), .val (.int p1), .val (.int p2), .val (.ref b6), .val (.int (p1 &&& (7 : Int32))), .unset, .unset] [(.int (4 : Int32)), (.int (p0 &&& (7 : Int32))), (.int w42)]))
            refine Go.by (fun t k => XS.isub X41.here hx rfl (hb hby at_320) rfl k) ?_
            show Go _ _ _ _ (T41.setTop (mkF m 321 #[.val (.int p0), .val (.int p1), .val (.int p2), .val (.ref b6), .val (.int (p1 &&& (7 : Int32))), .unset, .unset] [(.int ((p0 &&& (7 : Int32)) - (4 : Int32))), (.int w42)]))
            refine Go.by (fun t k => XS.iadd X41.here hx rfl (hb hby at_321) rfl k) ?_
            show Go _ _ _ _ (T41.setTop (mkF m 322 #[.val (.int p0), .val (.int p1), .val (.int p2), .val (.ref b6), .val (.int (p1 &&& (7 : Int32))), .unset, .unset] [(.int (w42 + ((p0 &&& (7 : Int32)) - (4 : Int32))))]))
            refine Go.by (fun t k => XS.istore X41.here hx rfl (hb hby at_322) rfl (l' := #[.val (.int p0), .val (.int p1), .val (.int p2), .val (.ref b6), .val (.int (p1 &&& (7 : Int32))), .val (.int (w42 + ((p0 &&& (7 : Int32)) - (4 : Int32)))), .unset]) rfl k) ?_
            exact J324 T41 _ X41 N41 hz41 _ _ _ _ _ (w42 + ((p0 &&& (7 : Int32)) - (4 : Int32)))
set_option maxRecDepth 65536 in
set_option maxHeartbeats 40000000 in
theorem comes_1 {Post : Tables → Env → Array Value → State → Outcome → State → Prop} (hpost : ∀ tb e args s v u, (limb_1_1.after args s (.returned v) u = true ∧ limb_1_2.after args s (.returned v) u = true) → FrameEnd s (.returned v) u (Jvm.fieldLocs frame_1_writes args s ++ Jvm.arrayLocs frame_1_arrays args s ++ Jvm.staticLocs frame_1_statics s) 16 192 → Post tb e args s (.returned v) u) :
    ArmFor flags0 classFile x code maxLocals ret World_1 tables_1 room_1 Calls_1 rest_1 Pre_1 Post := by
  intro l hfl _ _ p e ha hc hk s m args below hf hA hF happ hP
  obtain ⟨hcalls, hrest, hpre⟩ := hP
  obtain ⟨-, -, -, hnamed, -, -, -, hat⟩ := (Spec.applies_iff hf).mp happ
  obtain ⟨hg, hn⟩ := and_e (Cond.before_iff.mp (show (Jvm.Cond.and given_1 narrow_1).before args s = true from hpre))
  obtain ⟨ga1, gb1⟩ := and_e hg
  obtain ⟨ga2, gb2⟩ := and_e gb1
  obtain ⟨ga3, gb3⟩ := and_e gb2
  obtain ⟨w0, w1, w2, rfl⟩ : ∃ w0 w1 w2 : Value, args = #[w0, w1, w2] := by
    have hs : args.size = 3 := by simpa [Cond.value, given_1] using ga1
    obtain ⟨L⟩ := args
    match L, hs with
    | [w0, w1, w2], _ => exact ⟨w0, w1, w2, rfl⟩
  have hw := fun d (hd : d ∈ tables_1) => atoms_spec (ws := Jvm.Cond.code x code maxLocals ret :: tables_1) hat d (List.mem_cons_of_mem _ hd)
  obtain ⟨i0, ei0⟩ := is_v ga2
  obtain rfl : w0 = (.int i0) := Option.some.inj ei0
  obtain ⟨i1, ei1⟩ := is_v ga3
  obtain rfl : w1 = (.int i1) := Option.some.inj ei1
  obtain ⟨i2, ei2⟩ := is_v gb3
  obtain rfl : w2 = (.int i2) := Option.some.inj ei2
  obtain ⟨n, o, h1, h2, h3, _, L, rfl, ⟨rfl, N⟩, hq⟩ := rm0 l s _ hw tables_1 i0 i1 i2 s.heap s.heap.size (Nat.le_refl _) p e ha hc hk s m _ below hf ((Spec.applies_iff_loose hf).mp happ).1 ⟨rfl, State.Warmed39.refl s, rfl⟩ trivial
  refine ⟨n, _, h1, h2, h3, hpost _ _ _ _ _ _ ⟨Cond.after_iff.mpr rfl, Cond.after_iff.mpr (eq_i res_at (Term.int_eval (1)) rfl)⟩ ⟨hq.1, hq.2.1, (hq.2.2.sift fun y hy => Or.inr (N y hy)).mono (by decide) (by decide)⟩⟩
theorem main_1_1 : Claimed_1_1 := comes_1 fun _ _ _ _ _ _ h hF => ⟨h.1, hF⟩
theorem main_1_2 : Claimed_1_2 := comes_1 fun _ _ _ _ _ _ h hF => ⟨h.2, hF⟩
end Jvm.Pilot.@@N@@
namespace Jvm.Pilot.@@N@@
open Jvm Jvm.ClassFile Sem Op Lib Jvm.Free Jvm.Stand Jvm.Pilot.@@N@@.Jvm.D
/-! MADE BY PROGRAM (witnessworld.py) out of the Statement's table words and the real class files: 9 classes; the members and pool entries that the words name. The judged class is class 1, her method 3. -/
namespace start1
open Jvm.ClassFile
def u (s : String) : CpInfo := .utf8 (stringToUtf16 s)
/-- a pool by its gaps: so many unusable entries, then the entry; so many at the end -/
def gap : Nat → List CpInfo → List CpInfo
  | 0, r => r
  | n + 1, r => .unusable :: gap n r
def poolList (es : List (Nat × CpInfo)) (last : Nat) : List CpInfo := es.foldr (fun e r => gap e.1 (e.2 :: r)) (gap last [])
def pool (es : List (Nat × CpInfo)) (last : Nat) : Array CpInfo := ⟨poolList es last⟩
def fileOf (pool : Array CpInfo) (this : Nat) (attrs : Array Attribute := #[]) (ms : Array MethodInfo := #[]) (fl : Nat := 33) (sup : Nat := 0) (ifs : Array Nat := #[]) (fds : Array FieldInfo := #[]) : ClassFile where
  minorVersion := 0
  majorVersion := 65
  constantPool := pool
  accessFlags := fl
  thisClass := this
  superClass := sup
  interfaces := ifs
  fields := fds
  methods := ms
  attributes := attrs
def plain (name : String) (sup : Option ClassId) : Class where
  name := name
  kind := .ordinary
  loader := none
  accessFlags := 33
  super := sup
  interfaces := #[]
  cf := none
  fields := #[]
  methods := #[]
  instanceTypes := #[]
  staticTypes := #[]
  resolved := #[]
  callSites := []
  init := .initialized
  statics := none
  mirror := none

def pool0 : Array CpInfo := pool [(5, u "<init>"), (0, u "()V"), (1, .class_ 10), (1, u "java/lang/Object")] 113

def k0m0 : Method := { name := "<init>", desc := "()V", sig := { parameters := [], returnType := none }, accessFlags := 1, code := none }
/-- java/lang/Object -/
def k0 : Class := { plain "java/lang/Object" none with
  accessFlags := 33
  interfaces := #[]
  cf := some (fileOf pool0 8 #[] #[{ accessFlags := 1, nameIndex := 5, descriptorIndex := 6, attributes := #[] }] 33 0 #[] #[])
  fields := #[]
  methods := #[k0m0]
  instanceTypes := #[]
  staticTypes := #[]
  resolved := Array.replicate 124 none
  statics := none }

def pool1 : Array CpInfo := pool [(2, .class_ 4), (1, u "java/lang/Object"), (0, u "<init>"), (0, u "()V"), (0, .methodref 8 9), (0, .class_ 10), (0, .nameAndType 11 12), (0, u "com/example/ixel/ixel/util/XmlCharsIsNcNameStartCharPinLaw"), (0, u "in"), (0, u "(III)Z"), (0, .integer 55296), (0, .integer 63743), (0, .integer 64976), (0, .integer 65007), (0, .integer 65534), (0, .integer 65535), (0, .integer 55295), (0, .integer 63744), (0, .integer 64975), (0, .integer 65008), (0, .integer 65533), (0, .integer 65536), (0, .integer 983039), (2, .integer 2147483652), (0, .integer 2147483643), (0, .integer 1048575), (0, .integer 2147483647), (0, .methodref 8 33), (0, .nameAndType 34 35), (0, u "excluded"), (0, u "(I)Z"), (0, .methodref 37 38), (0, .class_ 39), (0, .nameAndType 40 35), (0, u "com/example/ixel/ixel/util/XmlChars"), (0, u "isNcNameStartChar"), (3, u "law")] 4

def k1m0 : Method := { name := "<init>", desc := "()V", sig := { parameters := [], returnType := none }, accessFlags := 1, code := none }
def k1c1 : Code := { maxStack := 2, maxLocals := 3, code := method_2_code, exceptionTable := #[], attributes := #[] }
def k1m1 : Method := { name := "in", desc := "(III)Z", sig := { parameters := [.int, .int, .int], returnType := some .boolean }, accessFlags := 10, code := some k1c1 }
def k1c2 : Code := { maxStack := 3, maxLocals := 1, code := method_3_code, exceptionTable := #[], attributes := #[] }
def k1m2 : Method := { name := "excluded", desc := "(I)Z", sig := { parameters := [.int], returnType := some .boolean }, accessFlags := 10, code := some k1c2 }
def k1c3 : Code := { maxStack := 4, maxLocals := 7, code := code, exceptionTable := #[], attributes := #[] }
def k1m3 : Method := { name := "law", desc := "(III)Z", sig := { parameters := [.int, .int, .int], returnType := some .boolean }, accessFlags := 9, code := some k1c3 }
/-- com/example/ixel/ixel/util/XmlCharsIsNcNameStartCharPinLaw -/
def k1 : Class := { plain "com/example/ixel/ixel/util/XmlCharsIsNcNameStartCharPinLaw" (some 0) with
  accessFlags := 49
  interfaces := #[]
  cf := some (fileOf pool1 8 #[] #[{ accessFlags := 1, nameIndex := 5, descriptorIndex := 6, attributes := #[] }, { accessFlags := 10, nameIndex := 11, descriptorIndex := 12, attributes := #[] }, { accessFlags := 10, nameIndex := 34, descriptorIndex := 35, attributes := #[] }, { accessFlags := 9, nameIndex := 44, descriptorIndex := 12, attributes := #[] }] 49 2 #[] #[])
  fields := #[]
  methods := #[k1m0, k1m1, k1m2, k1m3]
  instanceTypes := #[]
  staticTypes := #[]
  resolved := Array.replicate 49 none
  statics := none }

def pool2 : Array CpInfo := pool [(2, .class_ 4), (1, u "java/lang/Object"), (0, u "<init>"), (0, u "()V"), (11, .class_ 20), (1, u "com/example/ixel/ixel/util/XmlChars"), (19, .integer 55295), (0, .integer 63744), (0, .integer 64975), (0, .integer 65008), (0, .integer 65533), (0, .integer 65536), (0, .integer 983039), (2, u "isNcNameStartChar"), (0, u "(I)Z")] 35

def k2m0 : Method := { name := "<init>", desc := "()V", sig := { parameters := [], returnType := none }, accessFlags := 2, code := none }
def k2c1 : Code := { maxStack := 2, maxLocals := 1, code := prog_110_method_5_code, exceptionTable := #[], attributes := #[] }
def k2m1 : Method := { name := "isNcNameStartChar", desc := "(I)Z", sig := { parameters := [.int], returnType := some .boolean }, accessFlags := 9, code := some k2c1 }
/-- com/example/ixel/ixel/util/XmlChars -/
def k2 : Class := { plain "com/example/ixel/ixel/util/XmlChars" (some 0) with
  accessFlags := 49
  interfaces := #[]
  cf := some (fileOf pool2 18 #[] #[{ accessFlags := 2, nameIndex := 5, descriptorIndex := 6, attributes := #[] }, { accessFlags := 9, nameIndex := 49, descriptorIndex := 50, attributes := #[] }] 49 2 #[] #[])
  fields := #[]
  methods := #[k2m0, k2m1]
  instanceTypes := #[]
  staticTypes := #[]
  resolved := Array.replicate 86 none
  statics := none }

def pool3 : Array CpInfo := pool [(1, u "java/lang/Cloneable"), (0, .class_ 1), (0, u "java/lang/Object"), (0, .class_ 3)] 3

/-- java/lang/Cloneable -/
def k3 : Class := { plain "java/lang/Cloneable" (some 0) with
  accessFlags := 1537
  interfaces := #[]
  cf := some (fileOf pool3 2 #[] #[] 1537 4 #[] #[])
  fields := #[]
  methods := #[]
  instanceTypes := #[]
  staticTypes := #[]
  resolved := Array.replicate 8 none
  statics := none }

def pool4 : Array CpInfo := pool [(1, u "java/io/Serializable"), (0, .class_ 1), (0, u "java/lang/Object"), (0, .class_ 3)] 3

/-- java/io/Serializable -/
def k4 : Class := { plain "java/io/Serializable" (some 0) with
  accessFlags := 1537
  interfaces := #[]
  cf := some (fileOf pool4 2 #[] #[] 1537 4 #[] #[])
  fields := #[]
  methods := #[]
  instanceTypes := #[]
  staticTypes := #[]
  resolved := Array.replicate 8 none
  statics := none }

/-- the primitive byte -/
def k5 : Class := { plain "byte" none with kind := .primitive 'B', accessFlags := 0x411 }
/-- [B -/
def k6 : Class := { plain "[B" (some 0) with kind := .array 5 .byte, interfaces := #[3, 4], accessFlags := 1041 }

/-- the primitive int -/
def k7 : Class := { plain "int" none with kind := .primitive 'I', accessFlags := 0x411 }
/-- [I -/
def k8 : Class := { plain "[I" (some 0) with kind := .array 7 .int, interfaces := #[3, 4], accessFlags := 1041 }

def heap : Heap := #[]
def classes : Array Class := #[k0, k1, k2, k3, k4, k5, k6, k7, k8]
def interned : List (Array UInt16 × Addr) := []
def slotsUsed : Nat := 0
def theMethod : MethodId := ⟨1, 3⟩
def args0 : Array Value := #[.int 5, .int 6, .int 7]
def aboutOver (below : List Frame) : State where
  vm := { classes := classes, interned := interned.toArray }
  heap := heap
  slotsUsed := slotsUsed
  threads := #[{ frames := .invoking theMethod args0 :: below }]
def below0 : List Frame := [.native { method := ⟨0, 0⟩, args := #[] }]
def about1 : State := aboutOver below0
def p0 : Program := .bare "" "" ""
def e0 : Env := launch0.env 0 0 0
theorem w_frames : about1.frames = Frame.invoking theMethod args0 :: below0 := rfl
set_option maxRecDepth 65536 in
theorem w_args : argsFit about1.vm theMethod args0 = true := by decide +kernel
set_option maxRecDepth 65536 in
theorem w_heap : heapFits about1 = true := by decide +kernel
set_option maxRecDepth 65536 in
theorem w_runnable : about1.curStatus? = some .runnable := by decide +kernel
set_option maxRecDepth 65536 in
theorem w_alone : about1.alone = true := by decide +kernel
set_option maxRecDepth 65536 in
theorem w_named : about1.methodNamed? x = some theMethod := by decide +kernel
set_option maxRecDepth 65536 in
theorem w_hears : about1.hears theMethod below0 = true := by decide +kernel
set_option maxRecDepth 65536 in
theorem w_ripe : about1.ripe theMethod args0 below0 = true := by decide +kernel
theorem w_running : about1.status = .running := rfl
set_option maxRecDepth 65536 in
theorem w_room : about1.hasRoom e0.platform room_1 = true :=
  launch0.hasRoom_least _ room_1 (by decide +kernel) (by decide +kernel) (by decide +kernel) (by decide +kernel) (by decide +kernel) (by decide +kernel)
theorem allAtoms_all (ts : List Jvm.Cond) (a : Array Jvm.Value) (st : Jvm.State) : (allAtoms ts).before a st = ts.all (fun c => c.before a st) := by
  induction ts with
  | nil => rfl
  | cons c t ih =>
    show (Jvm.Cond.and c (allAtoms t)).before a st = _
    rw [Jvm.Cond.before_and, ih, List.all_cons]
def words1 : List Jvm.Cond := Jvm.Cond.code x code maxLocals ret :: tables_1
/-- a 'code' word, met by the world's own term for the bytes: nothing is compared byte by byte -/
theorem code_word {y : MethodName} {bytes : ByteArray} {mx : Nat} {rt : Option FieldType} {a : Array Value} {s : State} {m : MethodId} {meth : Method} {c : Code} (h1 : s.methodNamed? y = some m) (h2 : s.vm.method? m = some meth) (h3 : meth.code = some c) (h4 : c.code = bytes)
    (h5 : (c.maxLocals == mx && c.exceptionTable.isEmpty && decide (c.maxStack ≤ mostOperands) && decide (meth.sig.returnType = rt) && !meth.locks && decide (parseMethodDescriptor y.desc = some meth.sig)) = true) : (Jvm.Cond.code y bytes mx rt).before a s = true := by
  simp only [Bool.and_eq_true, beq_iff_eq, Bool.not_eq_true', decide_eq_true_eq] at h5
  obtain ⟨⟨⟨⟨⟨g1, g2⟩, g3⟩, g4⟩, g5⟩, g6⟩ := h5
  simp [Cond.before, Cond.holds, Cond.value, h1, h2, h3, h4, g1, g2, g3, g4, g5, g6]
def isCode : Jvm.Cond → Bool
  | .code _ _ _ _ => true
  | _ => false
theorem all_split {L : List Jvm.Cond} {P : Jvm.Cond → Bool} (h1 : L.all (fun c => isCode c || P c) = true) (h2 : ∀ c ∈ L.filter isCode, P c = true) : L.all P = true := by
  refine List.all_eq_true.mpr fun c hc => ?_
  have h := List.all_eq_true.mp h1 c hc
  rcases Bool.eq_false_or_eq_true (isCode c) with hi | hi
  · exact h2 c (List.mem_filter.mpr ⟨hc, hi⟩)
  · simpa [hi] using h
set_option maxRecDepth 65536 in
theorem w_c0 : (Jvm.Cond.code x code maxLocals ret).before args0 about1 = true := code_word (m := ⟨1, 3⟩) (meth := k1m3) (c := k1c3) (by decide +kernel) rfl rfl rfl (by decide +kernel)
set_option maxRecDepth 65536 in
theorem w_c1 : (Jvm.Cond.code ({ cls := "com/example/ixel/ixel/util/XmlCharsIsNcNameStartCharPinLaw", name := "in", desc := "(III)Z" } : Jvm.MethodName) method_2_code (3 : Nat) (Option.some Jvm.ClassFile.FieldType.boolean)).before args0 about1 = true := code_word (m := ⟨1, 1⟩) (meth := k1m1) (c := k1c1) (by decide +kernel) rfl rfl rfl (by decide +kernel)
set_option maxRecDepth 65536 in
theorem w_c2 : (Jvm.Cond.code ({ cls := "com/example/ixel/ixel/util/XmlChars", name := "isNcNameStartChar", desc := "(I)Z" } : Jvm.MethodName) prog_110_method_5_code (1 : Nat) (Option.some Jvm.ClassFile.FieldType.boolean)).before args0 about1 = true := code_word (m := ⟨2, 1⟩) (meth := k2m1) (c := k2c1) (by decide +kernel) rfl rfl rfl (by decide +kernel)
set_option maxRecDepth 65536 in
theorem w_c3 : (Jvm.Cond.code ({ cls := "com/example/ixel/ixel/util/XmlCharsIsNcNameStartCharPinLaw", name := "excluded", desc := "(I)Z" } : Jvm.MethodName) method_3_code (1 : Nat) (Option.some Jvm.ClassFile.FieldType.boolean)).before args0 about1 = true := code_word (m := ⟨1, 2⟩) (meth := k1m2) (c := k1c2) (by decide +kernel) rfl rfl rfl (by decide +kernel)
def codes1 : List Jvm.Cond := [Jvm.Cond.code x code maxLocals ret, Jvm.Cond.code ({ cls := "com/example/ixel/ixel/util/XmlCharsIsNcNameStartCharPinLaw", name := "in", desc := "(III)Z" } : Jvm.MethodName) method_2_code (3 : Nat) (Option.some Jvm.ClassFile.FieldType.boolean), Jvm.Cond.code ({ cls := "com/example/ixel/ixel/util/XmlChars", name := "isNcNameStartChar", desc := "(I)Z" } : Jvm.MethodName) prog_110_method_5_code (1 : Nat) (Option.some Jvm.ClassFile.FieldType.boolean), Jvm.Cond.code ({ cls := "com/example/ixel/ixel/util/XmlCharsIsNcNameStartCharPinLaw", name := "excluded", desc := "(I)Z" } : Jvm.MethodName) method_3_code (1 : Nat) (Option.some Jvm.ClassFile.FieldType.boolean)]
set_option maxRecDepth 65536 in
theorem codes_eq : words1.filter isCode = codes1 := rfl
theorem w_codes : ∀ c ∈ words1.filter isCode, c.before args0 about1 = true := by
  rw [codes_eq]
  intro c hc
  simp only [codes1, List.mem_cons, List.not_mem_nil, or_false] at hc
  rcases hc with rfl | rfl | rfl | rfl
  · exact w_c0
  · exact w_c1
  · exact w_c2
  · exact w_c3
set_option maxRecDepth 65536 in
theorem w_t1 : (words1.take 24).all (fun c => isCode c || c.before args0 about1) = true := by decide +kernel
set_option maxRecDepth 65536 in
theorem w_t2 : (words1.drop 24).all (fun c => isCode c || c.before args0 about1) = true := by decide +kernel
theorem w_tables : (allAtoms (Jvm.Cond.code x code maxLocals ret :: tables_1)).before args0 about1 = true := by
  rw [allAtoms_all]
  show words1.all (fun c => c.before args0 about1) = true
  refine all_split ?_ w_codes
  rw [← List.take_append_drop 24 words1, List.all_append, w_t1, w_t2]
  rfl
set_option maxRecDepth 65536 in
theorem w_case : (Jvm.Cond.and given_1 narrow_1).before args0 about1 = true := by decide +kernel
theorem w_applies : (headSpec (Jvm.Cond.code x code maxLocals ret :: tables_1) room_1).applies x e0.platform about1 = true :=
  (Spec.applies_iff w_frames).mpr ⟨w_running, w_runnable, w_alone, w_named, w_hears, w_ripe, w_room, w_tables⟩
theorem atStart : AtStart classFile x code maxLocals ret World_1 tables_1 room_1 Calls_1 rest_1 Pre_1 launch0 p0 e0 about1 theMethod args0 below0 :=
  ⟨lists_1, trivial, launch0.admits_env _ _ _, launch0.least_env, fairChoices_fair.cas, fairChoices_fair.clock, w_frames, w_args, w_heap, w_applies, trivial, trivial, w_case⟩
end start1
theorem witness_1 : WitnessClaimed_1 := ⟨start1.p0, start1.e0, start1.about1, start1.theMethod, start1.args0, start1.below0, start1.atStart⟩
end Jvm.Pilot.@@N@@
