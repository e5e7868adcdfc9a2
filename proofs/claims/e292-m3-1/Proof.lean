import JvmDerived
import JvmDerived.Pilot.@@N@@Statement
import JvmDerived.Pilot.@@N@@Code
set_option linter.unusedVariables false
set_option linter.unusedSimpArgs false
namespace Jvm.Pilot.@@N@@
open Jvm Jvm.ClassFile Sem Op Lib Jvm.Free Jvm.Stand Jvm.LawKit Jvm.RoadKit Bundle Jvm.Pilot.@@N@@.Jvm.D
/-! the goal of a walk: from the state a the run comes to an end that F allows -/
def Go (tb : Tables) (e : Env) (below : List Frame) (F : State → Outcome → Prop) (a : State) : Prop := ∃ s₂ o, Steps tb e below a s₂ ∧ s₂.status = .running ∧ Ended s₂ below o ∧ F s₂ o
theorem Go.by {tb : Tables} {e : Env} {below : List Frame} {F : State → Outcome → Prop} {a b : State} (h : ∀ t, Steps tb e below b t → Steps tb e below a t) (k : Go tb e below F b) : Go tb e below F a := by
  obtain ⟨s₂, o, h1, h2⟩ := k
  exact ⟨s₂, o, h _ h1, h2⟩
theorem Go.tr {tb : Tables} {e : Env} {below : List Frame} {F : State → Outcome → Prop} {a b : State} (h : Steps tb e below a b) (k : Go tb e below F b) : Go tb e below F a := Go.by (fun _ q => h.trans q) k
section Ret
variable {p : Program} {l : Launch} {e : Env} {R : Room} {s : State} {m : MethodId} {args : Array Value} {below : List Frame} {meth : Method} {c : Code} {T : State} {locs : List Loc} {cells slots rc rs pc : Nat} {Ls : Array Slot} {rest : List Value} {Q : Option Value → Heap → List Loc → Prop}
theorem Go.retZ {z : Int32} (X : Stand p l e R s m args below meth c T locs cells slots) (hx : p.tables.exec = Jvm.exec) (hlk : meth.locks = false) (hret : meth.sig.returnType = some .boolean) (hd : decode c.code pc = .ok (.ireturn, 1)) (hQ : Q (some (.int (nar .boolean z))) T.heap locs) (hc : cells ≤ rc) (hs : slots ≤ rs) :
    Go p.tables e below (fun t o => ∃ v L, o = .returned v ∧ Q v t.heap L ∧ FrameEnd s o t L rc rs) (T.setTop (mkF m pc Ls (.int z :: rest))) := by
  obtain ⟨fs, hr, hrun, hended, hW, hsame⟩ := X.leave (v := some (.int (nar .boolean z))) (fun h => by rw [hret] at h; cases h) hlk
  exact ⟨_, _, retN X hx (t := .boolean) hret (by simp) hd hr, hrun, hended, _, _, rfl, hQ, ⟨_, rfl⟩, hW, hsame.mono hc hs⟩
theorem Go.retI {z : Int32} (X : Stand p l e R s m args below meth c T locs cells slots) (hx : p.tables.exec = Jvm.exec) (hlk : meth.locks = false) (hret : meth.sig.returnType = some .int) (hd : decode c.code pc = .ok (.ireturn, 1)) (hQ : Q (some (.int z)) T.heap locs) (hc : cells ≤ rc) (hs : slots ≤ rs) :
    Go p.tables e below (fun t o => ∃ v L, o = .returned v ∧ Q v t.heap L ∧ FrameEnd s o t L rc rs) (T.setTop (mkF m pc Ls (.int z :: rest))) := by
  obtain ⟨fs, hr, hrun, hended, hW, hsame⟩ := X.leave (v := some (.int z)) (fun h => by rw [hret] at h; cases h) hlk
  exact ⟨_, _, retOut X hx (t := .int) (i := .ireturn) hret rfl (Or.inl ⟨rfl, Or.inl rfl, _, rfl⟩) hd hr, hrun, hended, _, _, rfl, hQ, ⟨_, rfl⟩, hW, hsame.mono hc hs⟩
theorem Go.retJ {z : Int64} (X : Stand p l e R s m args below meth c T locs cells slots) (hx : p.tables.exec = Jvm.exec) (hlk : meth.locks = false) (hret : meth.sig.returnType = some .long) (hd : decode c.code pc = .ok (.lreturn, 1)) (hQ : Q (some (.long z)) T.heap locs) (hc : cells ≤ rc) (hs : slots ≤ rs) :
    Go p.tables e below (fun t o => ∃ v L, o = .returned v ∧ Q v t.heap L ∧ FrameEnd s o t L rc rs) (T.setTop (mkF m pc Ls (.long z :: rest))) := by
  obtain ⟨fs, hr, hrun, hended, hW, hsame⟩ := X.leave (v := some (.long z)) (fun h => by rw [hret] at h; cases h) hlk
  exact ⟨_, _, retOut X hx (t := .long) (i := .lreturn) hret rfl (Or.inr (Or.inl ⟨rfl, rfl, _, rfl⟩)) hd hr, hrun, hended, _, _, rfl, hQ, ⟨_, rfl⟩, hW, hsame.mono hc hs⟩
theorem Go.retV (X : Stand p l e R s m args below meth c T locs cells slots) (hx : p.tables.exec = Jvm.exec) (hlk : meth.locks = false) (hret : meth.sig.returnType = none) (hd : decode c.code pc = .ok (.return_, 1)) (hQ : Q none T.heap locs) (hc : cells ≤ rc) (hs : slots ≤ rs) :
    Go p.tables e below (fun t o => ∃ v L, o = .returned v ∧ Q v t.heap L ∧ FrameEnd s o t L rc rs) (T.setTop (mkF m pc Ls [])) := by
  obtain ⟨fs, hr, hrun, hended, hW, hsame⟩ := X.leave (v := none) (fun _ => rfl) hlk
  exact ⟨_, _, X.returnOut hx hret hd hr, hrun, hended, _, _, rfl, hQ, ⟨_, rfl⟩, hW, hsame.mono hc hs⟩
end Ret

theorem d1_0 : decode prog_110_method_2_code 0 = .ok (.iload_n 0, 1) := by decide +kernel
theorem d1_1 : decode prog_110_method_2_code 1 = .ok (.bipush 32, 2) := by decide +kernel
theorem d1_3 : decode prog_110_method_2_code 3 = .ok (.if_icmp .eq 21, 3) := by decide +kernel
theorem d1_6 : decode prog_110_method_2_code 6 = .ok (.iload_n 0, 1) := by decide +kernel
theorem d1_7 : decode prog_110_method_2_code 7 = .ok (.bipush 9, 2) := by decide +kernel
theorem d1_9 : decode prog_110_method_2_code 9 = .ok (.if_icmp .eq 15, 3) := by decide +kernel
theorem d1_12 : decode prog_110_method_2_code 12 = .ok (.iload_n 0, 1) := by decide +kernel
theorem d1_13 : decode prog_110_method_2_code 13 = .ok (.bipush 13, 2) := by decide +kernel
theorem d1_15 : decode prog_110_method_2_code 15 = .ok (.if_icmp .eq 9, 3) := by decide +kernel
theorem d1_18 : decode prog_110_method_2_code 18 = .ok (.iload_n 0, 1) := by decide +kernel
theorem d1_19 : decode prog_110_method_2_code 19 = .ok (.bipush 10, 2) := by decide +kernel
theorem d1_21 : decode prog_110_method_2_code 21 = .ok (.if_icmp .ne 7, 3) := by decide +kernel
theorem d1_24 : decode prog_110_method_2_code 24 = .ok (.iconst 1, 1) := by decide +kernel
theorem d1_25 : decode prog_110_method_2_code 25 = .ok (.goto 4, 3) := by decide +kernel
theorem d1_28 : decode prog_110_method_2_code 28 = .ok (.iconst 0, 1) := by decide +kernel
theorem d1_29 : decode prog_110_method_2_code 29 = .ok (.ireturn, 1) := by decide +kernel
theorem pn_1 : plainName "com/example/ixel/ixel/util/XmlChars" = true := by first | (simp [plainName, overriddenIn]; done) | decide +kernel
theorem ef_1 (m : MethodId) (p0 : Int32) : entryFrame m #[(.int p0)] 1 = mkF m 0 #[.val (.int p0)] [] := by first | (simp [entryFrame, mkF, argsToLocals, Value.category]; done) | rfl
def f1_24 (p0 : Int32) : Int32 := (1 : Int32)
def f1_0 (p0 : Int32) : Int32 := if p0 = (32 : Int32) then f1_24 p0 else if p0 = (9 : Int32) then f1_24 p0 else if p0 = (13 : Int32) then f1_24 p0 else if p0 = (10 : Int32) then f1_24 p0 else (0 : Int32)
def Q1 (p0 : Int32) (h0 : Heap) (n0 : Nat) (v : Option Value) (h : Heap) (L : List Loc) : Prop := v = some (.int (f1_0 p0)) ∧ Fr n0 L ∧ h = h0
set_option maxRecDepth 65536 in
set_option maxHeartbeats 40000000 in
theorem rm1 (l : Launch) (Z : State) (a0 : Array Value) (hw : ∀ d ∈ tables_1, d.before a0 Z = true) (ws : List Jvm.Cond) (p0 : Int32)  (h0 : Heap) (n0 : Nat) (Z0 : n0 ≤ h0.size)  :
    MetFree l (⟨"com/example/ixel/ixel/util/XmlChars", "isWhitespace", "(C)Z"⟩ : MethodName) (head1 (Jvm.Cond.code (⟨"com/example/ixel/ixel/util/XmlChars", "isWhitespace", "(C)Z"⟩ : MethodName) prog_110_method_2_code 1 (some .boolean) :: ws) ({ frames := 0, cells := 0, slots := 0, locals := 0 } : Room)) (fun a U => a = #[(.int p0)] ∧ Z.Warmed39 U.vm ∧ U.heap = h0) (fun _ _ _ _ _ => True) (fun _ U o U' => ∃ v L, o = .returned v ∧ (Q1 p0 h0 n0) v U'.heap L ∧ FrameEnd U o U' L ({ frames := 0, cells := 0, slots := 0, locals := 0 } : Room).cells ({ frames := 0, cells := 0, slots := 0, locals := 0 } : Room).slots) := by
  refine MetFree.of_bodySF (plainFor_of_name pn_1) hisR ?_
  intro p e s m args below meth c s₁ Bd hml0 hP hK
  obtain ⟨rfl, hZ, hh⟩ := hP
  have hx := Bd.exec
  have hby := Bd.bytes
  have hml : c.maxLocals = 1 := hml0
  have hown : s.vm.findClass "com/example/ixel/ixel/util/XmlChars" = some m.cls := findClass_of_methodNamed Bd.named
  have hnm := (name_of_methodNamed Bd.named Bd.method).1
  have hlk : meth.locks = false := Bd.notSynchronized
  have X0 : Stand p l e ({ frames := 0, cells := 0, slots := 0, locals := 0 } : Room) s m #[(.int p0)] below meth c s₁ [] 0 0 := Stand.of_body Bd
  have e0 : s₁.heap = h0 := by rw [← hh, Bd.state]; rfl
  have N0 := Fr.nil n0
  refine Go.by (tb := p.tables) (e := e) (below := below) (F := fun t o => ∃ v L, o = .returned v ∧ (Q1 p0 h0 n0) v t.heap L ∧ FrameEnd s o t L ({ frames := 0, cells := 0, slots := 0, locals := 0 } : Room).cells ({ frames := 0, cells := 0, slots := 0, locals := 0 } : Room).slots) (fun t k => castTop (ef_1 m p0) k) ?_
  have J24 : ∀ (T : State) (locs : List Loc) (X : Stand p l e ({ frames := 0, cells := 0, slots := 0, locals := 0 } : Room) s m #[(.int p0)] below meth c T locs 0 0), T.heap = h0 → Fr n0 locs → f1_0 p0 = f1_24 p0 → Go p.tables e below (fun t o => ∃ v L, o = .returned v ∧ (Q1 p0 h0 n0) v t.heap L ∧ FrameEnd s o t L ({ frames := 0, cells := 0, slots := 0, locals := 0 } : Room).cells ({ frames := 0, cells := 0, slots := 0, locals := 0 } : Room).slots) (T.setTop (mkF m 24 #[.val (.int p0)] [])) := by
    intro T locs X eT N hv
    replace hv : f1_0 p0 = (1 : Int32) := hv
    show Go _ _ _ _ (T.setTop (mkF m 24 #[.val (.int p0)] []))
    refine Go.by (fun t k => XS.iconst X.here hx rfl (hb hby d1_24) k) ?_
    show Go _ _ _ _ (T.setTop (mkF m 25 #[.val (.int p0)] [(.int (1 : Int32))]))
    refine Go.by (fun t k => XS.goto X.here hx rfl (pc0 := 25) (pc' := 29) rfl (hb hby d1_25) (by decide) (by decide) k) ?_
    show Go _ _ _ _ (T.setTop (mkF m 29 #[.val (.int p0)] [(.int (1 : Int32))]))
    exact Go.retZ (Q := Q1 p0 h0 n0) X hx hlk Bd.returns (hb hby d1_29) ⟨by rw [hv]; rfl, N, eT⟩ (by decide) (by decide)
  have hv : f1_0 p0 = if p0 = (32 : Int32) then f1_24 p0 else if p0 = (9 : Int32) then f1_24 p0 else if p0 = (13 : Int32) then f1_24 p0 else if p0 = (10 : Int32) then f1_24 p0 else (0 : Int32) := rfl
  show Go _ _ _ _ (s₁.setTop (mkF m 0 #[.val (.int p0)] []))
  refine Go.by (fun t k => XS.iloadN X0.here hx rfl (hb hby d1_0) rfl k) ?_
  show Go _ _ _ _ (s₁.setTop (mkF m 1 #[.val (.int p0)] [(.int p0)]))
  refine Go.by (fun t k => XS.bipush X0.here hx rfl (hb hby d1_1) k) ?_
  show Go _ _ _ _ (s₁.setTop (mkF m 3 #[.val (.int p0)] [(.int (32 : Int32)), (.int p0)]))
  by_cases hc3 : p0 = (32 : Int32)
  · have hv := hv.trans (if_pos hc3)
    refine Go.by (fun t k => XS.icmpYes X0.here hx rfl (pc0 := 3) (pc' := 24) rfl (hb hby d1_3) rfl (XT.ii_eq_t hc3) (by decide) (by decide) k) ?_
    exact J24 s₁ _ X0 e0 N0 hv
  · have hv := hv.trans (if_neg hc3)
    refine Go.by (fun t k => XS.icmpNo X0.here hx rfl (hb hby d1_3) rfl (XT.ii_eq_f hc3) k) ?_
    show Go _ _ _ _ (s₁.setTop (mkF m 6 #[.val (.int p0)] []))
    refine Go.by (fun t k => XS.iloadN X0.here hx rfl (hb hby d1_6) rfl k) ?_
    show Go _ _ _ _ (s₁.setTop (mkF m 7 #[.val (.int p0)] [(.int p0)]))
    refine Go.by (fun t k => XS.bipush X0.here hx rfl (hb hby d1_7) k) ?_
    show Go _ _ _ _ (s₁.setTop (mkF m 9 #[.val (.int p0)] [(.int (9 : Int32)), (.int p0)]))
    by_cases hc9 : p0 = (9 : Int32)
    · have hv := hv.trans (if_pos hc9)
      refine Go.by (fun t k => XS.icmpYes X0.here hx rfl (pc0 := 9) (pc' := 24) rfl (hb hby d1_9) rfl (XT.ii_eq_t hc9) (by decide) (by decide) k) ?_
      exact J24 s₁ _ X0 e0 N0 hv
    · have hv := hv.trans (if_neg hc9)
      refine Go.by (fun t k => XS.icmpNo X0.here hx rfl (hb hby d1_9) rfl (XT.ii_eq_f hc9) k) ?_
      show Go _ _ _ _ (s₁.setTop (mkF m 12 #[.val (.int p0)] []))
      refine Go.by (fun t k => XS.iloadN X0.here hx rfl (hb hby d1_12) rfl k) ?_
      show Go _ _ _ _ (s₁.setTop (mkF m 13 #[.val (.int p0)] [(.int p0)]))
      refine Go.by (fun t k => XS.bipush X0.here hx rfl (hb hby d1_13) k) ?_
      show Go _ _ _ _ (s₁.setTop (mkF m 15 #[.val (.int p0)] [(.int (13 : Int32)), (.int p0)]))
      by_cases hc15 : p0 = (13 : Int32)
      · have hv := hv.trans (if_pos hc15)
        refine Go.by (fun t k => XS.icmpYes X0.here hx rfl (pc0 := 15) (pc' := 24) rfl (hb hby d1_15) rfl (XT.ii_eq_t hc15) (by decide) (by decide) k) ?_
        exact J24 s₁ _ X0 e0 N0 hv
      · have hv := hv.trans (if_neg hc15)
        refine Go.by (fun t k => XS.icmpNo X0.here hx rfl (hb hby d1_15) rfl (XT.ii_eq_f hc15) k) ?_
        show Go _ _ _ _ (s₁.setTop (mkF m 18 #[.val (.int p0)] []))
        refine Go.by (fun t k => XS.iloadN X0.here hx rfl (hb hby d1_18) rfl k) ?_
        show Go _ _ _ _ (s₁.setTop (mkF m 19 #[.val (.int p0)] [(.int p0)]))
        refine Go.by (fun t k => XS.bipush X0.here hx rfl (hb hby d1_19) k) ?_
        show Go _ _ _ _ (s₁.setTop (mkF m 21 #[.val (.int p0)] [(.int (10 : Int32)), (.int p0)]))
        by_cases hc21 : p0 = (10 : Int32)
        · have hv := hv.trans (if_pos hc21)
          refine Go.by (fun t k => XS.icmpNo X0.here hx rfl (hb hby d1_21) rfl (XT.ii_ne_f hc21) k) ?_
          exact J24 s₁ _ X0 e0 N0 hv
        · have hv := hv.trans (if_neg hc21)
          refine Go.by (fun t k => XS.icmpYes X0.here hx rfl (pc0 := 21) (pc' := 28) rfl (hb hby d1_21) rfl (XT.ii_ne_t hc21) (by decide) (by decide) k) ?_
          show Go _ _ _ _ (s₁.setTop (mkF m 28 #[.val (.int p0)] []))
          refine Go.by (fun t k => XS.iconst X0.here hx rfl (hb hby d1_28) k) ?_
          show Go _ _ _ _ (s₁.setTop (mkF m 29 #[.val (.int p0)] [(.int (0 : Int32))]))
          exact Go.retZ (Q := Q1 p0 h0 n0) X0 hx hlk Bd.returns (hb hby d1_29) ⟨by rw [hv]; rfl, N0, e0⟩ (by decide) (by decide)

/-! the plain law: below 64 by looking at each, from 64 on none of the four -/
theorem own_small : ∀ k : Fin 64, f1_0 (Int32.ofNat k.val) = if ((XT.ushrL (4294977024 : Int64) (Int32.ofNat k.val)) &&& (1 : Int64)) = (0 : Int64) then 0 else 1 := by decide +kernel
theorem own_of (c : Int32) (h0 : 0 ≤ c.toInt) (h1 : c.toInt < 64) : ∃ k : Fin 64, c = Int32.ofNat k.val := by
  refine ⟨⟨c.toInt.toNat, by omega⟩, Int32.toInt_inj.mp ?_⟩
  rw [Int32.toInt_ofNat_of_lt (by show c.toInt.toNat < 2 ^ 31; omega)]
  show c.toInt = ((c.toInt.toNat : Nat) : Int)
  omega
theorem own_big (c : Int32) (h : ¬ c < 64) : f1_0 c = 0 := by
  have h9 : ¬ c = 9 := fun q => h (by subst q; decide)
  have h10 : ¬ c = 10 := fun q => h (by subst q; decide)
  have h13 : ¬ c = 13 := fun q => h (by subst q; decide)
  have h32 : ¬ c = 32 := fun q => h (by subst q; decide)
  simp [f1_0, h9, h10, h13, h32]
theorem own_lt64 {c : Int32} (h : c < (64 : Int32)) : c.toInt < 64 := by
  rw [Int32.lt_iff_toInt_lt] at h
  exact h
theorem own_w1 (p0 : Int32) (h : (p0.toUInt32.toUInt16.toUInt32.toInt32) < (64 : Int32)) (g : ¬ ((XT.ushrL (4294977024 : Int64) (p0.toUInt32.toUInt16.toUInt32.toInt32)) &&& (1 : Int64)) = (0 : Int64)) : f1_0 (p0.toUInt32.toUInt16.toUInt32.toInt32) = (1 : Int32) := by
  obtain ⟨k, hk⟩ := own_of (p0.toUInt32.toUInt16.toUInt32.toInt32) (c_i2c p0).2.1 (own_lt64 h)
  rw [hk] at g ⊢
  rw [own_small k, if_neg g]
theorem own_w0b (p0 : Int32) (h : (p0.toUInt32.toUInt16.toUInt32.toInt32) < (64 : Int32)) (g : ((XT.ushrL (4294977024 : Int64) (p0.toUInt32.toUInt16.toUInt32.toInt32)) &&& (1 : Int64)) = (0 : Int64)) : f1_0 (p0.toUInt32.toUInt16.toUInt32.toInt32) = (0 : Int32) := by
  obtain ⟨k, hk⟩ := own_of (p0.toUInt32.toUInt16.toUInt32.toInt32) (c_i2c p0).2.1 (own_lt64 h)
  rw [hk] at g ⊢
  rw [own_small k, if_pos g]
theorem own_w0a (p0 : Int32) (h : ¬ (p0.toUInt32.toUInt16.toUInt32.toInt32) < (64 : Int32)) : f1_0 (p0.toUInt32.toUInt16.toUInt32.toInt32) = (0 : Int32) := own_big (p0.toUInt32.toUInt16.toUInt32.toInt32) h

theorem pd0 : parseMethodDescriptor "(C)Z" = some ⟨[.char], some .boolean⟩ := by decide +kernel
theorem pn_0 : plainName "com/example/ixel/ixel/util/XmlCharsIsWhitespacePinLaw" = true := by first | (simp [plainName, overriddenIn]; done) | decide +kernel
theorem ef_0 (m : MethodId) (p0 : Int32) : entryFrame m #[(.int p0)] maxLocals = mkF m 0 #[.val (.int p0), .unset, .unset, .unset, .unset, .unset] [] := by first | (simp [entryFrame, mkF, argsToLocals, Value.category, maxLocals]; done) | rfl
def Q0 (n0 : Nat) (v : Option Value) (h : Heap) (L : List Loc) : Prop := v = some (.int 1) ∧ Fr n0 L
set_option maxRecDepth 65536 in
set_option maxHeartbeats 40000000 in
theorem rm0 (l : Launch) (Z : State) (a0 : Array Value) (hw : ∀ d ∈ tables_1, d.before a0 Z = true) (ws : List Jvm.Cond) (p0 : Int32)  (h0 : Heap) (n0 : Nat) (Z0 : n0 ≤ h0.size)  :
    MetFree l x (head1 (Jvm.Cond.code x code maxLocals ret :: ws) room_1) (fun a U => a = #[(.int p0)] ∧ Z.Warmed39 U.vm ∧ U.heap = h0) (fun _ _ _ _ _ => True) (fun _ U o U' => ∃ v L, o = .returned v ∧ (Q0 n0) v U'.heap L ∧ FrameEnd U o U' L room_1.cells room_1.slots) := by
  refine MetFree.of_bodySF (plainFor_of_name pn_0) hisR ?_
  intro p e s m args below meth c s₁ Bd hml0 hP hK
  obtain ⟨rfl, hZ, hh⟩ := hP
  have hx := Bd.exec
  have hby := Bd.bytes
  have hml : c.maxLocals = 6 := hml0
  have hown : s.vm.findClass "com/example/ixel/ixel/util/XmlCharsIsWhitespacePinLaw" = some m.cls := findClass_of_methodNamed Bd.named
  have hnm := (name_of_methodNamed Bd.named Bd.method).1
  have hlk : meth.locks = false := Bd.notSynchronized
  have X0 : Stand p l e room_1 s m #[(.int p0)] below meth c s₁ [] 0 0 := Stand.of_body Bd
  have e0 : s₁.heap = h0 := by rw [← hh, Bd.state]; rfl
  have N0 := Fr.nil n0
  refine Go.by (tb := p.tables) (e := e) (below := below) (F := fun t o => ∃ v L, o = .returned v ∧ (Q0 n0) v t.heap L ∧ FrameEnd s o t L room_1.cells room_1.slots) (fun t k => castTop (ef_0 m p0) k) ?_
  have hz0 : n0 ≤ s₁.heap.size := by rw [e0]; exact Z0
  show Go _ _ _ _ (s₁.setTop (mkF m 0 #[.val (.int p0), .unset, .unset, .unset, .unset, .unset] []))
  refine Go.by (fun t k => XS.iloadN X0.here hx rfl (hb hby at_0) rfl k) ?_
  show Go _ _ _ _ (s₁.setTop (mkF m 1 #[.val (.int p0), .unset, .unset, .unset, .unset, .unset] [(.int p0)]))
  refine Go.by (fun t k => XT.i2c X0.here hx rfl (hb hby at_1) rfl k) ?_
  show Go _ _ _ _ (s₁.setTop (mkF m 2 #[.val (.int p0), .unset, .unset, .unset, .unset, .unset] [(.int (p0.toUInt32.toUInt16.toUInt32.toInt32))]))
  refine Go.by (fun t k => XS.istoreN X0.here hx rfl (hb hby at_2) rfl (l' := #[.val (.int p0), .val (.int (p0.toUInt32.toUInt16.toUInt32.toInt32)), .unset, .unset, .unset, .unset]) rfl k) ?_
  show Go _ _ _ _ (s₁.setTop (mkF m 3 #[.val (.int p0), .val (.int (p0.toUInt32.toUInt16.toUInt32.toInt32)), .unset, .unset, .unset, .unset] []))
  refine Go.by (fun t k => XS.iloadN X0.here hx rfl (hb hby at_3) rfl k) ?_
  show Go _ _ _ _ (s₁.setTop (mkF m 4 #[.val (.int p0), .val (.int (p0.toUInt32.toUInt16.toUInt32.toInt32)), .unset, .unset, .unset, .unset] [(.int (p0.toUInt32.toUInt16.toUInt32.toInt32))]))
  refine Go.by (fun t k => XS.istoreN X0.here hx rfl (hb hby at_4) rfl (l' := #[.val (.int p0), .val (.int (p0.toUInt32.toUInt16.toUInt32.toInt32)), .val (.int (p0.toUInt32.toUInt16.toUInt32.toInt32)), .unset, .unset, .unset]) rfl k) ?_
  show Go _ _ _ _ (s₁.setTop (mkF m 5 #[.val (.int p0), .val (.int (p0.toUInt32.toUInt16.toUInt32.toInt32)), .val (.int (p0.toUInt32.toUInt16.toUInt32.toInt32)), .unset, .unset, .unset] []))
  refine Go.by (fun t k => X0.ldc2J hx hown (mvT hZ (hw _ (List.mem_of_getElem? (i := 0) rfl))) (g := (mkF m 5 #[.val (.int p0), .val (.int (p0.toUInt32.toUInt16.toUInt32.toInt32)), .val (.int (p0.toUInt32.toUInt16.toUInt32.toInt32)), .unset, .unset, .unset] [])) rfl (hb hby at_5) k) ?_
  show Go _ _ _ _ (s₁.setTop (mkF m 8 #[.val (.int p0), .val (.int (p0.toUInt32.toUInt16.toUInt32.toInt32)), .val (.int (p0.toUInt32.toUInt16.toUInt32.toInt32)), .unset, .unset, .unset] [(.long (4294977024 : Int64))]))
  refine Go.by (fun t k => XT.lstoreN X0.here hx rfl (hb hby at_8) rfl (l' := #[.val (.int p0), .val (.int (p0.toUInt32.toUInt16.toUInt32.toInt32)), .val (.int (p0.toUInt32.toUInt16.toUInt32.toInt32)), .val (.long (4294977024 : Int64)), .second, .unset]) rfl k) ?_
  show Go _ _ _ _ (s₁.setTop (mkF m 9 #[.val (.int p0), .val (.int (p0.toUInt32.toUInt16.toUInt32.toInt32)), .val (.int (p0.toUInt32.toUInt16.toUInt32.toInt32)), .val (.long (4294977024 : Int64)), .second, .unset] []))
  refine Go.by (fun t k => XS.iloadN X0.here hx rfl (hb hby at_9) rfl k) ?_
  show Go _ _ _ _ (s₁.setTop (mkF m 10 #[.val (.int p0), .val (.int (p0.toUInt32.toUInt16.toUInt32.toInt32)), .val (.int (p0.toUInt32.toUInt16.toUInt32.toInt32)), .val (.long (4294977024 : Int64)), .second, .unset] [(.int (p0.toUInt32.toUInt16.toUInt32.toInt32))]))
  refine Go.by (fun t k => XS.bipush X0.here hx rfl (hb hby at_10) k) ?_
  show Go _ _ _ _ (s₁.setTop (mkF m 12 #[.val (.int p0), .val (.int (p0.toUInt32.toUInt16.toUInt32.toInt32)), .val (.int (p0.toUInt32.toUInt16.toUInt32.toInt32)), .val (.long (4294977024 : Int64)), .second, .unset] [(.int (64 : Int32)), (.int (p0.toUInt32.toUInt16.toUInt32.toInt32))]))
  by_cases hc12 : (p0.toUInt32.toUInt16.toUInt32.toInt32) < (64 : Int32)
  · refine Go.by (fun t k => XS.icmpNo X0.here hx rfl (hb hby at_12) rfl (XT.ii_ge_f hc12) k) ?_
    show Go _ _ _ _ (s₁.setTop (mkF m 15 #[.val (.int p0), .val (.int (p0.toUInt32.toUInt16.toUInt32.toInt32)), .val (.int (p0.toUInt32.toUInt16.toUInt32.toInt32)), .val (.long (4294977024 : Int64)), .second, .unset] []))
    refine Go.by (fun t k => XT.lloadN X0.here hx rfl (hb hby at_15) rfl k) ?_
    show Go _ _ _ _ (s₁.setTop (mkF m 16 #[.val (.int p0), .val (.int (p0.toUInt32.toUInt16.toUInt32.toInt32)), .val (.int (p0.toUInt32.toUInt16.toUInt32.toInt32)), .val (.long (4294977024 : Int64)), .second, .unset] [(.long (4294977024 : Int64))]))
    refine Go.by (fun t k => XS.iloadN X0.here hx rfl (hb hby at_16) rfl k) ?_
    show Go _ _ _ _ (s₁.setTop (mkF m 17 #[.val (.int p0), .val (.int (p0.toUInt32.toUInt16.toUInt32.toInt32)), .val (.int (p0.toUInt32.toUInt16.toUInt32.toInt32)), .val (.long (4294977024 : Int64)), .second, .unset] [(.int (p0.toUInt32.toUInt16.toUInt32.toInt32)), (.long (4294977024 : Int64))]))
    refine Go.by (fun t k => XT.lushr X0.here hx rfl (hb hby at_17) rfl k) ?_
    show Go _ _ _ _ (s₁.setTop (mkF m 18 #[.val (.int p0), .val (.int (p0.toUInt32.toUInt16.toUInt32.toInt32)), .val (.int (p0.toUInt32.toUInt16.toUInt32.toInt32)), .val (.long (4294977024 : Int64)), .second, .unset] [(.long (XT.ushrL (4294977024 : Int64) (p0.toUInt32.toUInt16.toUInt32.toInt32)))]))
    refine Go.by (fun t k => XT.lconst X0.here hx rfl (hb hby at_18) k) ?_
    show Go _ _ _ _ (s₁.setTop (mkF m 19 #[.val (.int p0), .val (.int (p0.toUInt32.toUInt16.toUInt32.toInt32)), .val (.int (p0.toUInt32.toUInt16.toUInt32.toInt32)), .val (.long (4294977024 : Int64)), .second, .unset] [(.long (1 : Int64)), (.long (XT.ushrL (4294977024 : Int64) (p0.toUInt32.toUInt16.toUInt32.toInt32)))]))
    refine Go.by (fun t k => XT.land X0.here hx rfl (hb hby at_19) rfl k) ?_
    show Go _ _ _ _ (s₁.setTop (mkF m 20 #[.val (.int p0), .val (.int (p0.toUInt32.toUInt16.toUInt32.toInt32)), .val (.int (p0.toUInt32.toUInt16.toUInt32.toInt32)), .val (.long (4294977024 : Int64)), .second, .unset] [(.long ((XT.ushrL (4294977024 : Int64) (p0.toUInt32.toUInt16.toUInt32.toInt32)) &&& (1 : Int64)))]))
    refine Go.by (fun t k => XT.lconst X0.here hx rfl (hb hby at_20) k) ?_
    show Go _ _ _ _ (s₁.setTop (mkF m 21 #[.val (.int p0), .val (.int (p0.toUInt32.toUInt16.toUInt32.toInt32)), .val (.int (p0.toUInt32.toUInt16.toUInt32.toInt32)), .val (.long (4294977024 : Int64)), .second, .unset] [(.long (0 : Int64)), (.long ((XT.ushrL (4294977024 : Int64) (p0.toUInt32.toUInt16.toUInt32.toInt32)) &&& (1 : Int64)))]))
    refine Go.by (fun t k => XT.lcmp X0.here hx rfl (hb hby at_21) rfl k) ?_
    show Go _ _ _ _ (s₁.setTop (mkF m 22 #[.val (.int p0), .val (.int (p0.toUInt32.toUInt16.toUInt32.toInt32)), .val (.int (p0.toUInt32.toUInt16.toUInt32.toInt32)), .val (.long (4294977024 : Int64)), .second, .unset] [(.int (XT.cmpL ((XT.ushrL (4294977024 : Int64) (p0.toUInt32.toUInt16.toUInt32.toInt32)) &&& (1 : Int64)) (0 : Int64)))]))
    by_cases hc22 : ((XT.ushrL (4294977024 : Int64) (p0.toUInt32.toUInt16.toUInt32.toInt32)) &&& (1 : Int64)) = (0 : Int64)
    · refine Go.by (fun t k => XS.ifYes X0.here hx rfl (pc0 := 22) (pc' := 29) rfl (hb hby at_22) rfl (XT.ll_eq_t hc22) (by decide) (by decide) k) ?_
      show Go _ _ _ _ (s₁.setTop (mkF m 29 #[.val (.int p0), .val (.int (p0.toUInt32.toUInt16.toUInt32.toInt32)), .val (.int (p0.toUInt32.toUInt16.toUInt32.toInt32)), .val (.long (4294977024 : Int64)), .second, .unset] []))
      refine Go.by (fun t k => XS.iconst X0.here hx rfl (hb hby at_29) k) ?_
      show Go _ _ _ _ (s₁.setTop (mkF m 30 #[.val (.int p0), .val (.int (p0.toUInt32.toUInt16.toUInt32.toInt32)), .val (.int (p0.toUInt32.toUInt16.toUInt32.toInt32)), .val (.long (4294977024 : Int64)), .second, .unset] [(.int (0 : Int32))]))
      refine Go.by (fun t k => XS.istore X0.here hx rfl (hb hby at_30) rfl (l' := #[.val (.int p0), .val (.int (p0.toUInt32.toUInt16.toUInt32.toInt32)), .val (.int (p0.toUInt32.toUInt16.toUInt32.toInt32)), .val (.long (4294977024 : Int64)), .second, .val (.int (0 : Int32))]) rfl k) ?_
      show Go _ _ _ _ (s₁.setTop (mkF m 32 #[.val (.int p0), .val (.int (p0.toUInt32.toUInt16.toUInt32.toInt32)), .val (.int (p0.toUInt32.toUInt16.toUInt32.toInt32)), .val (.long (4294977024 : Int64)), .second, .val (.int (0 : Int32))] []))
      refine Go.by (fun t k => XS.iloadN X0.here hx rfl (hb hby at_32) rfl k) ?_
      show Go _ _ _ _ (s₁.setTop (mkF m 33 #[.val (.int p0), .val (.int (p0.toUInt32.toUInt16.toUInt32.toInt32)), .val (.int (p0.toUInt32.toUInt16.toUInt32.toInt32)), .val (.long (4294977024 : Int64)), .second, .val (.int (0 : Int32))] [(.int (p0.toUInt32.toUInt16.toUInt32.toInt32))]))
      obtain ⟨_, _, ⟨T1, L1, k1, n1⟩, -, X1, ⟨Lc1, hQ1, l1, y1, z1⟩, st1⟩ := Jvm.LawKit.callS X0 hx (y := (⟨"com/example/ixel/ixel/util/XmlChars", "isWhitespace", "(C)Z"⟩ : MethodName)) hown (mvT hZ (hw _ (List.mem_of_getElem? (i := 1) rfl))) (mvT hZ (hw _ (List.mem_of_getElem? (i := 2) rfl))) (mvT hZ (hw _ (List.mem_of_getElem? (i := 3) rfl))) (mvT hZ (hw _ (List.mem_of_getElem? (i := 4) rfl))) (by decide) (backOf (W := 0) (rm1 l Z a0 hw [] (p0.toUInt32.toUInt16.toUInt32.toInt32) s₁.heap n0 hz0) hZ (hw _ (List.mem_of_getElem? (i := 4) rfl)) (hw _ (List.mem_of_getElem? (i := 3) rfl)) (by decide) (by decide)) (g := (mkF m 33 #[.val (.int p0), .val (.int (p0.toUInt32.toUInt16.toUInt32.toInt32)), .val (.int (p0.toUInt32.toUInt16.toUInt32.toInt32)), .val (.long (4294977024 : Int64)), .second, .val (.int (0 : Int32))] [(.int (p0.toUInt32.toUInt16.toUInt32.toInt32))])) rfl (by rw [hml]; rfl) (argsL := [(.int (p0.toUInt32.toUInt16.toUInt32.toInt32))]) (rest := []) (lenOf pd0 rfl) rfl (by show 2 * 0 + _ ≤ _; exact Nat.le_of_eq rfl) (hb hby at_33) (fun _ _ => ⟨rfl, rfl, (by decide : 0 + 0 ≤ _), (by decide : 0 + 0 ≤ _)⟩)
      dsimp only [Pt.U, Pt.locs, Pt.cells, Pt.slots] at X1 l1 y1 z1 st1 hQ1
      subst l1 y1 z1
      obtain ⟨rfl, Nq1, eq1⟩ := hQ1
      have N1 := Fr.app N0 Nq1
      refine Go.by st1 ?_
      have hz1 : n0 ≤ T1.heap.size := by rw [eq1]; exact hz0
      show Go _ _ _ _ (T1.setTop (mkF m 36 #[.val (.int p0), .val (.int (p0.toUInt32.toUInt16.toUInt32.toInt32)), .val (.int (p0.toUInt32.toUInt16.toUInt32.toInt32)), .val (.long (4294977024 : Int64)), .second, .val (.int (0 : Int32))] [(.int (f1_0 (p0.toUInt32.toUInt16.toUInt32.toInt32)))]))
      refine Go.by (fun t k => XS.iload X1.here hx rfl (hb hby at_36) rfl k) ?_
      show Go _ _ _ _ (T1.setTop (mkF m 38 #[.val (.int p0), .val (.int (p0.toUInt32.toUInt16.toUInt32.toInt32)), .val (.int (p0.toUInt32.toUInt16.toUInt32.toInt32)), .val (.long (4294977024 : Int64)), .second, .val (.int (0 : Int32))] [(.int (0 : Int32)), (.int (f1_0 (p0.toUInt32.toUInt16.toUInt32.toInt32)))]))
      refine Go.by (fun t k => XS.icmpNo X1.here hx rfl (hb hby at_38) rfl (XT.ii_ne_f (by first | exact own_w0a p0 hc12 | exact own_w0b p0 hc12 hc22)) k) ?_
      show Go _ _ _ _ (T1.setTop (mkF m 41 #[.val (.int p0), .val (.int (p0.toUInt32.toUInt16.toUInt32.toInt32)), .val (.int (p0.toUInt32.toUInt16.toUInt32.toInt32)), .val (.long (4294977024 : Int64)), .second, .val (.int (0 : Int32))] []))
      refine Go.by (fun t k => XS.iconst X1.here hx rfl (hb hby at_41) k) ?_
      show Go _ _ _ _ (T1.setTop (mkF m 42 #[.val (.int p0), .val (.int (p0.toUInt32.toUInt16.toUInt32.toInt32)), .val (.int (p0.toUInt32.toUInt16.toUInt32.toInt32)), .val (.long (4294977024 : Int64)), .second, .val (.int (0 : Int32))] [(.int (1 : Int32))]))
      refine Go.by (fun t k => XS.goto X1.here hx rfl (pc0 := 42) (pc' := 46) rfl (hb hby at_42) (by decide) (by decide) k) ?_
      show Go _ _ _ _ (T1.setTop (mkF m 46 #[.val (.int p0), .val (.int (p0.toUInt32.toUInt16.toUInt32.toInt32)), .val (.int (p0.toUInt32.toUInt16.toUInt32.toInt32)), .val (.long (4294977024 : Int64)), .second, .val (.int (0 : Int32))] [(.int (1 : Int32))]))
      exact Go.retZ (Q := Q0 n0) X1 hx hlk Bd.returns (hb hby at_46) ⟨by rfl, N1⟩ (by decide) (by decide)
    · refine Go.by (fun t k => XS.ifNo X0.here hx rfl (hb hby at_22) rfl (XT.ll_eq_f hc22) k) ?_
      show Go _ _ _ _ (s₁.setTop (mkF m 25 #[.val (.int p0), .val (.int (p0.toUInt32.toUInt16.toUInt32.toInt32)), .val (.int (p0.toUInt32.toUInt16.toUInt32.toInt32)), .val (.long (4294977024 : Int64)), .second, .unset] []))
      refine Go.by (fun t k => XS.iconst X0.here hx rfl (hb hby at_25) k) ?_
      show Go _ _ _ _ (s₁.setTop (mkF m 26 #[.val (.int p0), .val (.int (p0.toUInt32.toUInt16.toUInt32.toInt32)), .val (.int (p0.toUInt32.toUInt16.toUInt32.toInt32)), .val (.long (4294977024 : Int64)), .second, .unset] [(.int (1 : Int32))]))
      refine Go.by (fun t k => XS.goto X0.here hx rfl (pc0 := 26) (pc' := 30) rfl (hb hby at_26) (by decide) (by decide) k) ?_
      show Go _ _ _ _ (s₁.setTop (mkF m 30 #[.val (.int p0), .val (.int (p0.toUInt32.toUInt16.toUInt32.toInt32)), .val (.int (p0.toUInt32.toUInt16.toUInt32.toInt32)), .val (.long (4294977024 : Int64)), .second, .unset] [(.int (1 : Int32))]))
      refine Go.by (fun t k => XS.istore X0.here hx rfl (hb hby at_30) rfl (l' := #[.val (.int p0), .val (.int (p0.toUInt32.toUInt16.toUInt32.toInt32)), .val (.int (p0.toUInt32.toUInt16.toUInt32.toInt32)), .val (.long (4294977024 : Int64)), .second, .val (.int (1 : Int32))]) rfl k) ?_
      show Go _ _ _ _ (s₁.setTop (mkF m 32 #[.val (.int p0), .val (.int (p0.toUInt32.toUInt16.toUInt32.toInt32)), .val (.int (p0.toUInt32.toUInt16.toUInt32.toInt32)), .val (.long (4294977024 : Int64)), .second, .val (.int (1 : Int32))] []))
      refine Go.by (fun t k => XS.iloadN X0.here hx rfl (hb hby at_32) rfl k) ?_
      show Go _ _ _ _ (s₁.setTop (mkF m 33 #[.val (.int p0), .val (.int (p0.toUInt32.toUInt16.toUInt32.toInt32)), .val (.int (p0.toUInt32.toUInt16.toUInt32.toInt32)), .val (.long (4294977024 : Int64)), .second, .val (.int (1 : Int32))] [(.int (p0.toUInt32.toUInt16.toUInt32.toInt32))]))
      obtain ⟨_, _, ⟨T2, L2, k2, n2⟩, -, X2, ⟨Lc2, hQ2, l2, y2, z2⟩, st2⟩ := Jvm.LawKit.callS X0 hx (y := (⟨"com/example/ixel/ixel/util/XmlChars", "isWhitespace", "(C)Z"⟩ : MethodName)) hown (mvT hZ (hw _ (List.mem_of_getElem? (i := 1) rfl))) (mvT hZ (hw _ (List.mem_of_getElem? (i := 2) rfl))) (mvT hZ (hw _ (List.mem_of_getElem? (i := 3) rfl))) (mvT hZ (hw _ (List.mem_of_getElem? (i := 4) rfl))) (by decide) (backOf (W := 0) (rm1 l Z a0 hw [] (p0.toUInt32.toUInt16.toUInt32.toInt32) s₁.heap n0 hz0) hZ (hw _ (List.mem_of_getElem? (i := 4) rfl)) (hw _ (List.mem_of_getElem? (i := 3) rfl)) (by decide) (by decide)) (g := (mkF m 33 #[.val (.int p0), .val (.int (p0.toUInt32.toUInt16.toUInt32.toInt32)), .val (.int (p0.toUInt32.toUInt16.toUInt32.toInt32)), .val (.long (4294977024 : Int64)), .second, .val (.int (1 : Int32))] [(.int (p0.toUInt32.toUInt16.toUInt32.toInt32))])) rfl (by rw [hml]; rfl) (argsL := [(.int (p0.toUInt32.toUInt16.toUInt32.toInt32))]) (rest := []) (lenOf pd0 rfl) rfl (by show 2 * 0 + _ ≤ _; exact Nat.le_of_eq rfl) (hb hby at_33) (fun _ _ => ⟨rfl, rfl, (by decide : 0 + 0 ≤ _), (by decide : 0 + 0 ≤ _)⟩)
      dsimp only [Pt.U, Pt.locs, Pt.cells, Pt.slots] at X2 l2 y2 z2 st2 hQ2
      subst l2 y2 z2
      obtain ⟨rfl, Nq2, eq2⟩ := hQ2
      have N2 := Fr.app N0 Nq2
      refine Go.by st2 ?_
      have hz2 : n0 ≤ T2.heap.size := by rw [eq2]; exact hz0
      show Go _ _ _ _ (T2.setTop (mkF m 36 #[.val (.int p0), .val (.int (p0.toUInt32.toUInt16.toUInt32.toInt32)), .val (.int (p0.toUInt32.toUInt16.toUInt32.toInt32)), .val (.long (4294977024 : Int64)), .second, .val (.int (1 : Int32))] [(.int (f1_0 (p0.toUInt32.toUInt16.toUInt32.toInt32)))]))
      refine Go.by (fun t k => XS.iload X2.here hx rfl (hb hby at_36) rfl k) ?_
      show Go _ _ _ _ (T2.setTop (mkF m 38 #[.val (.int p0), .val (.int (p0.toUInt32.toUInt16.toUInt32.toInt32)), .val (.int (p0.toUInt32.toUInt16.toUInt32.toInt32)), .val (.long (4294977024 : Int64)), .second, .val (.int (1 : Int32))] [(.int (1 : Int32)), (.int (f1_0 (p0.toUInt32.toUInt16.toUInt32.toInt32)))]))
      refine Go.by (fun t k => XS.icmpNo X2.here hx rfl (hb hby at_38) rfl (XT.ii_ne_f (own_w1 p0 hc12 hc22)) k) ?_
      show Go _ _ _ _ (T2.setTop (mkF m 41 #[.val (.int p0), .val (.int (p0.toUInt32.toUInt16.toUInt32.toInt32)), .val (.int (p0.toUInt32.toUInt16.toUInt32.toInt32)), .val (.long (4294977024 : Int64)), .second, .val (.int (1 : Int32))] []))
      refine Go.by (fun t k => XS.iconst X2.here hx rfl (hb hby at_41) k) ?_
      show Go _ _ _ _ (T2.setTop (mkF m 42 #[.val (.int p0), .val (.int (p0.toUInt32.toUInt16.toUInt32.toInt32)), .val (.int (p0.toUInt32.toUInt16.toUInt32.toInt32)), .val (.long (4294977024 : Int64)), .second, .val (.int (1 : Int32))] [(.int (1 : Int32))]))
      refine Go.by (fun t k => XS.goto X2.here hx rfl (pc0 := 42) (pc' := 46) rfl (hb hby at_42) (by decide) (by decide) k) ?_
      show Go _ _ _ _ (T2.setTop (mkF m 46 #[.val (.int p0), .val (.int (p0.toUInt32.toUInt16.toUInt32.toInt32)), .val (.int (p0.toUInt32.toUInt16.toUInt32.toInt32)), .val (.long (4294977024 : Int64)), .second, .val (.int (1 : Int32))] [(.int (1 : Int32))]))
      exact Go.retZ (Q := Q0 n0) X2 hx hlk Bd.returns (hb hby at_46) ⟨by rfl, N2⟩ (by decide) (by decide)
  · refine Go.by (fun t k => XS.icmpYes X0.here hx rfl (pc0 := 12) (pc' := 29) rfl (hb hby at_12) rfl (XT.ii_ge_t hc12) (by decide) (by decide) k) ?_
    show Go _ _ _ _ (s₁.setTop (mkF m 29 #[.val (.int p0), .val (.int (p0.toUInt32.toUInt16.toUInt32.toInt32)), .val (.int (p0.toUInt32.toUInt16.toUInt32.toInt32)), .val (.long (4294977024 : Int64)), .second, .unset] []))
    refine Go.by (fun t k => XS.iconst X0.here hx rfl (hb hby at_29) k) ?_
    show Go _ _ _ _ (s₁.setTop (mkF m 30 #[.val (.int p0), .val (.int (p0.toUInt32.toUInt16.toUInt32.toInt32)), .val (.int (p0.toUInt32.toUInt16.toUInt32.toInt32)), .val (.long (4294977024 : Int64)), .second, .unset] [(.int (0 : Int32))]))
    refine Go.by (fun t k => XS.istore X0.here hx rfl (hb hby at_30) rfl (l' := #[.val (.int p0), .val (.int (p0.toUInt32.toUInt16.toUInt32.toInt32)), .val (.int (p0.toUInt32.toUInt16.toUInt32.toInt32)), .val (.long (4294977024 : Int64)), .second, .val (.int (0 : Int32))]) rfl k) ?_
    show Go _ _ _ _ (s₁.setTop (mkF m 32 #[.val (.int p0), .val (.int (p0.toUInt32.toUInt16.toUInt32.toInt32)), .val (.int (p0.toUInt32.toUInt16.toUInt32.toInt32)), .val (.long (4294977024 : Int64)), .second, .val (.int (0 : Int32))] []))
    refine Go.by (fun t k => XS.iloadN X0.here hx rfl (hb hby at_32) rfl k) ?_
    show Go _ _ _ _ (s₁.setTop (mkF m 33 #[.val (.int p0), .val (.int (p0.toUInt32.toUInt16.toUInt32.toInt32)), .val (.int (p0.toUInt32.toUInt16.toUInt32.toInt32)), .val (.long (4294977024 : Int64)), .second, .val (.int (0 : Int32))] [(.int (p0.toUInt32.toUInt16.toUInt32.toInt32))]))
    obtain ⟨_, _, ⟨T3, L3, k3, n3⟩, -, X3, ⟨Lc3, hQ3, l3, y3, z3⟩, st3⟩ := Jvm.LawKit.callS X0 hx (y := (⟨"com/example/ixel/ixel/util/XmlChars", "isWhitespace", "(C)Z"⟩ : MethodName)) hown (mvT hZ (hw _ (List.mem_of_getElem? (i := 1) rfl))) (mvT hZ (hw _ (List.mem_of_getElem? (i := 2) rfl))) (mvT hZ (hw _ (List.mem_of_getElem? (i := 3) rfl))) (mvT hZ (hw _ (List.mem_of_getElem? (i := 4) rfl))) (by decide) (backOf (W := 0) (rm1 l Z a0 hw [] (p0.toUInt32.toUInt16.toUInt32.toInt32) s₁.heap n0 hz0) hZ (hw _ (List.mem_of_getElem? (i := 4) rfl)) (hw _ (List.mem_of_getElem? (i := 3) rfl)) (by decide) (by decide)) (g := (mkF m 33 #[.val (.int p0), .val (.int (p0.toUInt32.toUInt16.toUInt32.toInt32)), .val (.int (p0.toUInt32.toUInt16.toUInt32.toInt32)), .val (.long (4294977024 : Int64)), .second, .val (.int (0 : Int32))] [(.int (p0.toUInt32.toUInt16.toUInt32.toInt32))])) rfl (by rw [hml]; rfl) (argsL := [(.int (p0.toUInt32.toUInt16.toUInt32.toInt32))]) (rest := []) (lenOf pd0 rfl) rfl (by show 2 * 0 + _ ≤ _; exact Nat.le_of_eq rfl) (hb hby at_33) (fun _ _ => ⟨rfl, rfl, (by decide : 0 + 0 ≤ _), (by decide : 0 + 0 ≤ _)⟩)
    dsimp only [Pt.U, Pt.locs, Pt.cells, Pt.slots] at X3 l3 y3 z3 st3 hQ3
    subst l3 y3 z3
    obtain ⟨rfl, Nq3, eq3⟩ := hQ3
    have N3 := Fr.app N0 Nq3
    refine Go.by st3 ?_
    have hz3 : n0 ≤ T3.heap.size := by rw [eq3]; exact hz0
    show Go _ _ _ _ (T3.setTop (mkF m 36 #[.val (.int p0), .val (.int (p0.toUInt32.toUInt16.toUInt32.toInt32)), .val (.int (p0.toUInt32.toUInt16.toUInt32.toInt32)), .val (.long (4294977024 : Int64)), .second, .val (.int (0 : Int32))] [(.int (f1_0 (p0.toUInt32.toUInt16.toUInt32.toInt32)))]))
    refine Go.by (fun t k => XS.iload X3.here hx rfl (hb hby at_36) rfl k) ?_
    show Go _ _ _ _ (T3.setTop (mkF m 38 #[.val (.int p0), .val (.int (p0.toUInt32.toUInt16.toUInt32.toInt32)), .val (.int (p0.toUInt32.toUInt16.toUInt32.toInt32)), .val (.long (4294977024 : Int64)), .second, .val (.int (0 : Int32))] [(.int (0 : Int32)), (.int (f1_0 (p0.toUInt32.toUInt16.toUInt32.toInt32)))]))
    refine Go.by (fun t k => XS.icmpNo X3.here hx rfl (hb hby at_38) rfl (XT.ii_ne_f (by first | exact own_w0a p0 hc12 | exact own_w0b p0 hc12 hc22)) k) ?_
    show Go _ _ _ _ (T3.setTop (mkF m 41 #[.val (.int p0), .val (.int (p0.toUInt32.toUInt16.toUInt32.toInt32)), .val (.int (p0.toUInt32.toUInt16.toUInt32.toInt32)), .val (.long (4294977024 : Int64)), .second, .val (.int (0 : Int32))] []))
    refine Go.by (fun t k => XS.iconst X3.here hx rfl (hb hby at_41) k) ?_
    show Go _ _ _ _ (T3.setTop (mkF m 42 #[.val (.int p0), .val (.int (p0.toUInt32.toUInt16.toUInt32.toInt32)), .val (.int (p0.toUInt32.toUInt16.toUInt32.toInt32)), .val (.long (4294977024 : Int64)), .second, .val (.int (0 : Int32))] [(.int (1 : Int32))]))
    refine Go.by (fun t k => XS.goto X3.here hx rfl (pc0 := 42) (pc' := 46) rfl (hb hby at_42) (by decide) (by decide) k) ?_
    show Go _ _ _ _ (T3.setTop (mkF m 46 #[.val (.int p0), .val (.int (p0.toUInt32.toUInt16.toUInt32.toInt32)), .val (.int (p0.toUInt32.toUInt16.toUInt32.toInt32)), .val (.long (4294977024 : Int64)), .second, .val (.int (0 : Int32))] [(.int (1 : Int32))]))
    exact Go.retZ (Q := Q0 n0) X3 hx hlk Bd.returns (hb hby at_46) ⟨by rfl, N3⟩ (by decide) (by decide)
set_option maxRecDepth 65536 in
set_option maxHeartbeats 40000000 in
theorem comes_1 {Post : Tables → Env → Array Value → State → Outcome → State → Prop} (hpost : ∀ tb e args s v u, (limb_1_1.after args s (.returned v) u = true ∧ limb_1_2.after args s (.returned v) u = true) → FrameEnd s (.returned v) u (Jvm.fieldLocs frame_1_writes args s ++ Jvm.arrayLocs frame_1_arrays args s ++ Jvm.staticLocs frame_1_statics s) 0 0 → Post tb e args s (.returned v) u) :
    ArmFor flags0 classFile x code maxLocals ret World_1 tables_1 room_1 Calls_1 rest_1 Pre_1 Post := by
  intro l hfl _ _ p e ha hc hk s m args below hf hA hF happ hP
  obtain ⟨hcalls, hrest, hpre⟩ := hP
  obtain ⟨-, -, -, hnamed, -, -, -, hat⟩ := (Spec.applies_iff hf).mp happ
  obtain ⟨hg, hn⟩ := and_e (Cond.before_iff.mp (show (Jvm.Cond.and given_1 narrow_1).before args s = true from hpre))
  obtain ⟨ga1, gb1⟩ := and_e hg
  obtain ⟨w0, rfl⟩ : ∃ w0 : Value, args = #[w0] := by
    have hs : args.size = 1 := by simpa [Cond.value, given_1] using ga1
    obtain ⟨L⟩ := args
    match L, hs with
    | [w0], _ => exact ⟨w0, rfl⟩
  have hw := fun d (hd : d ∈ tables_1) => atoms_spec (ws := Jvm.Cond.code x code maxLocals ret :: tables_1) hat d (List.mem_cons_of_mem _ hd)
  obtain ⟨i0, ei0⟩ := is_v gb1
  obtain rfl : w0 = (.int i0) := Option.some.inj ei0
  obtain ⟨n, o, h1, h2, h3, _, L, rfl, ⟨rfl, N⟩, hq⟩ := rm0 l s _ hw tables_1 i0 s.heap s.heap.size (Nat.le_refl _) p e ha hc hk s m _ below hf ((Spec.applies_iff_loose hf).mp happ).1 ⟨rfl, State.Warmed39.refl s, rfl⟩ trivial
  refine ⟨n, _, h1, h2, h3, hpost _ _ _ _ _ _ ⟨Cond.after_iff.mpr rfl, Cond.after_iff.mpr (eq_i res_at (Term.int_eval (1)) rfl)⟩ ⟨hq.1, hq.2.1, (hq.2.2.sift fun y hy => Or.inr (N y hy)).mono (by decide) (by decide)⟩⟩
theorem main_1_1 : Claimed_1_1 := comes_1 fun _ _ _ _ _ _ h hF => ⟨h.1, hF⟩
theorem main_1_2 : Claimed_1_2 := comes_1 fun _ _ _ _ _ _ h hF => ⟨h.2, hF⟩
end Jvm.Pilot.@@N@@
namespace Jvm.Pilot.@@N@@
open Jvm Jvm.ClassFile Sem Op Lib Jvm.Free Jvm.Stand Jvm.Pilot.@@N@@.Jvm.D
/-! MADE BY PROGRAM (witnessworld.py) out of the Statement's table words and the real class files: 9 classes; the members and pool entries that the words name. The judged class is class 1, her method 1. -/
namespace start1
open Jvm.ClassFile
def u (s : String) : CpInfo := .utf8 (stringToUtf16 s)
/-- a pool by its gaps: so many unusable entries, then the entry; so many at the end -/
def gap : Nat → List CpInfo → List CpInfo
  | 0, r => r
  | n + 1, r => .unusable :: gap n r
def poolList (es : List (Nat × CpInfo)) (last : Nat) : List CpInfo := es.foldr (fun e r => gap e.1 (e.2 :: r)) (gap last [])
def pool (es : List (Nat × CpInfo)) (last : Nat) : Array CpInfo := ⟨poolList es last⟩
def fileOf (pool : Array CpInfo) (this : Nat) (attrs : Array Attribute := #[]) (ms : Array MethodInfo := #[]) (fl : Nat := 33) (sup : Nat := 0) (ifs : Array Nat := #[]) (fds : Array FieldInfo := #[]) : ClassFile where
  minorVersion := 0
  majorVersion := 65
  constantPool := pool
  accessFlags := fl
  thisClass := this
  superClass := sup
  interfaces := ifs
  fields := fds
  methods := ms
  attributes := attrs
def plain (name : String) (sup : Option ClassId) : Class where
  name := name
  kind := .ordinary
  loader := none
  accessFlags := 33
  super := sup
  interfaces := #[]
  cf := none
  fields := #[]
  methods := #[]
  instanceTypes := #[]
  staticTypes := #[]
  resolved := #[]
  callSites := []
  init := .initialized
  statics := none
  mirror := none

def pool0 : Array CpInfo := pool [(5, u "<init>"), (0, u "()V"), (1, .class_ 10), (1, u "java/lang/Object")] 113

def k0m0 : Method := { name := "<init>", desc := "()V", sig := { parameters := [], returnType := none }, accessFlags := 1, code := none }
/-- java/lang/Object -/
def k0 : Class := { plain "java/lang/Object" none with
  accessFlags := 33
  interfaces := #[]
  cf := some (fileOf pool0 8 #[] #[{ accessFlags := 1, nameIndex := 5, descriptorIndex := 6, attributes := #[] }] 33 0 #[] #[])
  fields := #[]
  methods := #[k0m0]
  instanceTypes := #[]
  staticTypes := #[]
  resolved := Array.replicate 124 none
  statics := none }

def pool1 : Array CpInfo := pool [(2, .class_ 4), (1, u "java/lang/Object"), (0, u "<init>"), (0, u "()V"), (0, .long 4294977024), (1, .methodref 10 11), (0, .class_ 12), (0, .nameAndType 13 14), (0, u "com/example/ixel/ixel/util/XmlChars"), (0, u "isWhitespace"), (0, u "(C)Z"), (0, .class_ 16), (0, u "com/example/ixel/ixel/util/XmlCharsIsWhitespacePinLaw"), (2, u "law"), (0, u "(I)Z")] 3

def k1m0 : Method := { name := "<init>", desc := "()V", sig := { parameters := [], returnType := none }, accessFlags := 2, code := none }
def k1c1 : Code := { maxStack := 4, maxLocals := 6, code := code, exceptionTable := #[], attributes := #[] }
def k1m1 : Method := { name := "law", desc := "(I)Z", sig := { parameters := [.int], returnType := some .boolean }, accessFlags := 9, code := some k1c1 }
/-- com/example/ixel/ixel/util/XmlCharsIsWhitespacePinLaw -/
def k1 : Class := { plain "com/example/ixel/ixel/util/XmlCharsIsWhitespacePinLaw" (some 0) with
  accessFlags := 49
  interfaces := #[]
  cf := some (fileOf pool1 15 #[] #[{ accessFlags := 2, nameIndex := 5, descriptorIndex := 6, attributes := #[] }, { accessFlags := 9, nameIndex := 19, descriptorIndex := 20, attributes := #[] }] 49 2 #[] #[])
  fields := #[]
  methods := #[k1m0, k1m1]
  instanceTypes := #[]
  staticTypes := #[]
  resolved := Array.replicate 24 none
  statics := none }

def pool2 : Array CpInfo := pool [(2, .class_ 4), (1, u "java/lang/Object"), (0, u "<init>"), (0, u "()V"), (11, .class_ 20), (1, u "com/example/ixel/ixel/util/XmlChars"), (0, u "isWhitespace"), (0, u "(C)Z")] 63

def k2m0 : Method := { name := "<init>", desc := "()V", sig := { parameters := [], returnType := none }, accessFlags := 2, code := none }
def k2c1 : Code := { maxStack := 2, maxLocals := 1, code := prog_110_method_2_code, exceptionTable := #[], attributes := #[] }
def k2m1 : Method := { name := "isWhitespace", desc := "(C)Z", sig := { parameters := [.char], returnType := some .boolean }, accessFlags := 9, code := some k2c1 }
/-- com/example/ixel/ixel/util/XmlChars -/
def k2 : Class := { plain "com/example/ixel/ixel/util/XmlChars" (some 0) with
  accessFlags := 49
  interfaces := #[]
  cf := some (fileOf pool2 18 #[] #[{ accessFlags := 2, nameIndex := 5, descriptorIndex := 6, attributes := #[] }, { accessFlags := 9, nameIndex := 21, descriptorIndex := 22, attributes := #[] }] 49 2 #[] #[])
  fields := #[]
  methods := #[k2m0, k2m1]
  instanceTypes := #[]
  staticTypes := #[]
  resolved := Array.replicate 86 none
  statics := none }

def pool3 : Array CpInfo := pool [(1, u "java/lang/Cloneable"), (0, .class_ 1), (0, u "java/lang/Object"), (0, .class_ 3)] 3

/-- java/lang/Cloneable -/
def k3 : Class := { plain "java/lang/Cloneable" (some 0) with
  accessFlags := 1537
  interfaces := #[]
  cf := some (fileOf pool3 2 #[] #[] 1537 4 #[] #[])
  fields := #[]
  methods := #[]
  instanceTypes := #[]
  staticTypes := #[]
  resolved := Array.replicate 8 none
  statics := none }

def pool4 : Array CpInfo := pool [(1, u "java/io/Serializable"), (0, .class_ 1), (0, u "java/lang/Object"), (0, .class_ 3)] 3

/-- java/io/Serializable -/
def k4 : Class := { plain "java/io/Serializable" (some 0) with
  accessFlags := 1537
  interfaces := #[]
  cf := some (fileOf pool4 2 #[] #[] 1537 4 #[] #[])
  fields := #[]
  methods := #[]
  instanceTypes := #[]
  staticTypes := #[]
  resolved := Array.replicate 8 none
  statics := none }

/-- the primitive byte -/
def k5 : Class := { plain "byte" none with kind := .primitive 'B', accessFlags := 0x411 }
/-- [B -/
def k6 : Class := { plain "[B" (some 0) with kind := .array 5 .byte, interfaces := #[3, 4], accessFlags := 1041 }

/-- the primitive int -/
def k7 : Class := { plain "int" none with kind := .primitive 'I', accessFlags := 0x411 }
/-- [I -/
def k8 : Class := { plain "[I" (some 0) with kind := .array 7 .int, interfaces := #[3, 4], accessFlags := 1041 }

def heap : Heap := #[]
def classes : Array Class := #[k0, k1, k2, k3, k4, k5, k6, k7, k8]
def interned : List (Array UInt16 × Addr) := []
def slotsUsed : Nat := 0
def theMethod : MethodId := ⟨1, 1⟩
def args0 : Array Value := #[.int 5]
def aboutOver (below : List Frame) : State where
  vm := { classes := classes, interned := interned.toArray }
  heap := heap
  slotsUsed := slotsUsed
  threads := #[{ frames := .invoking theMethod args0 :: below }]
def below0 : List Frame := [.native { method := ⟨0, 0⟩, args := #[] }]
def about1 : State := aboutOver below0
def p0 : Program := .bare "" "" ""
def e0 : Env := launch0.env 0 0 0
theorem w_frames : about1.frames = Frame.invoking theMethod args0 :: below0 := rfl
set_option maxRecDepth 65536 in
theorem w_args : argsFit about1.vm theMethod args0 = true := by decide +kernel
set_option maxRecDepth 65536 in
theorem w_heap : heapFits about1 = true := by decide +kernel
set_option maxRecDepth 65536 in
theorem w_runnable : about1.curStatus? = some .runnable := by decide +kernel
set_option maxRecDepth 65536 in
theorem w_alone : about1.alone = true := by decide +kernel
set_option maxRecDepth 65536 in
theorem w_named : about1.methodNamed? x = some theMethod := by decide +kernel
set_option maxRecDepth 65536 in
theorem w_hears : about1.hears theMethod below0 = true := by decide +kernel
set_option maxRecDepth 65536 in
theorem w_ripe : about1.ripe theMethod args0 below0 = true := by decide +kernel
theorem w_running : about1.status = .running := rfl
set_option maxRecDepth 65536 in
theorem w_room : about1.hasRoom e0.platform room_1 = true :=
  launch0.hasRoom_least _ room_1 (by decide +kernel) (by decide +kernel) (by decide +kernel) (by decide +kernel) (by decide +kernel) (by decide +kernel)
theorem allAtoms_all (ts : List Jvm.Cond) (a : Array Jvm.Value) (st : Jvm.State) : (allAtoms ts).before a st = ts.all (fun c => c.before a st) := by
  induction ts with
  | nil => rfl
  | cons c t ih =>
    show (Jvm.Cond.and c (allAtoms t)).before a st = _
    rw [Jvm.Cond.before_and, ih, List.all_cons]
def words1 : List Jvm.Cond := Jvm.Cond.code x code maxLocals ret :: tables_1
/-- a 'code' word, met by the world's own term for the bytes: nothing is compared byte by byte -/
theorem code_word {y : MethodName} {bytes : ByteArray} {mx : Nat} {rt : Option FieldType} {a : Array Value} {s : State} {m : MethodId} {meth : Method} {c : Code} (h1 : s.methodNamed? y = some m) (h2 : s.vm.method? m = some meth) (h3 : meth.code = some c) (h4 : c.code = bytes)
    (h5 : (c.maxLocals == mx && c.exceptionTable.isEmpty && decide (c.maxStack ≤ mostOperands) && decide (meth.sig.returnType = rt) && !meth.locks && decide (parseMethodDescriptor y.desc = some meth.sig)) = true) : (Jvm.Cond.code y bytes mx rt).before a s = true := by
  simp only [Bool.and_eq_true, beq_iff_eq, Bool.not_eq_true', decide_eq_true_eq] at h5
  obtain ⟨⟨⟨⟨⟨g1, g2⟩, g3⟩, g4⟩, g5⟩, g6⟩ := h5
  simp [Cond.before, Cond.holds, Cond.value, h1, h2, h3, h4, g1, g2, g3, g4, g5, g6]
def isCode : Jvm.Cond → Bool
  | .code _ _ _ _ => true
  | _ => false
theorem all_split {L : List Jvm.Cond} {P : Jvm.Cond → Bool} (h1 : L.all (fun c => isCode c || P c) = true) (h2 : ∀ c ∈ L.filter isCode, P c = true) : L.all P = true := by
  refine List.all_eq_true.mpr fun c hc => ?_
  have h := List.all_eq_true.mp h1 c hc
  rcases Bool.eq_false_or_eq_true (isCode c) with hi | hi
  · exact h2 c (List.mem_filter.mpr ⟨hc, hi⟩)
  · simpa [hi] using h
set_option maxRecDepth 65536 in
theorem w_c0 : (Jvm.Cond.code x code maxLocals ret).before args0 about1 = true := code_word (m := ⟨1, 1⟩) (meth := k1m1) (c := k1c1) (by decide +kernel) rfl rfl rfl (by decide +kernel)
set_option maxRecDepth 65536 in
theorem w_c1 : (Jvm.Cond.code ({ cls := "com/example/ixel/ixel/util/XmlChars", name := "isWhitespace", desc := "(C)Z" } : Jvm.MethodName) prog_110_method_2_code (1 : Nat) (Option.some Jvm.ClassFile.FieldType.boolean)).before args0 about1 = true := code_word (m := ⟨2, 1⟩) (meth := k2m1) (c := k2c1) (by decide +kernel) rfl rfl rfl (by decide +kernel)
def codes1 : List Jvm.Cond := [Jvm.Cond.code x code maxLocals ret, Jvm.Cond.code ({ cls := "com/example/ixel/ixel/util/XmlChars", name := "isWhitespace", desc := "(C)Z" } : Jvm.MethodName) prog_110_method_2_code (1 : Nat) (Option.some Jvm.ClassFile.FieldType.boolean)]
set_option maxRecDepth 65536 in
theorem codes_eq : words1.filter isCode = codes1 := rfl
theorem w_codes : ∀ c ∈ words1.filter isCode, c.before args0 about1 = true := by
  rw [codes_eq]
  intro c hc
  simp only [codes1, List.mem_cons, List.not_mem_nil, or_false] at hc
  rcases hc with rfl | rfl
  · exact w_c0
  · exact w_c1
set_option maxRecDepth 65536 in
theorem w_t1 : words1.all (fun c => isCode c || c.before args0 about1) = true := by decide +kernel
theorem w_tables : (allAtoms (Jvm.Cond.code x code maxLocals ret :: tables_1)).before args0 about1 = true := by
  rw [allAtoms_all]
  show words1.all (fun c => c.before args0 about1) = true
  refine all_split ?_ w_codes
  rw [w_t1]
set_option maxRecDepth 65536 in
theorem w_case : (Jvm.Cond.and given_1 narrow_1).before args0 about1 = true := by decide +kernel
theorem w_applies : (headSpec (Jvm.Cond.code x code maxLocals ret :: tables_1) room_1).applies x e0.platform about1 = true :=
  (Spec.applies_iff w_frames).mpr ⟨w_running, w_runnable, w_alone, w_named, w_hears, w_ripe, w_room, w_tables⟩
theorem atStart : AtStart classFile x code maxLocals ret World_1 tables_1 room_1 Calls_1 rest_1 Pre_1 launch0 p0 e0 about1 theMethod args0 below0 :=
  ⟨lists_1, trivial, launch0.admits_env _ _ _, launch0.least_env, fairChoices_fair.cas, fairChoices_fair.clock, w_frames, w_args, w_heap, w_applies, trivial, trivial, w_case⟩
end start1
theorem witness_1 : WitnessClaimed_1 := ⟨start1.p0, start1.e0, start1.about1, start1.theMethod, start1.args0, start1.below0, start1.atStart⟩
end Jvm.Pilot.@@N@@
