import JvmDerived
import JvmDerived.Pilot.@@N@@Statement
import JvmDerived.Pilot.@@N@@Code
set_option linter.unusedVariables false
set_option linter.unusedSimpArgs false
namespace Jvm.Pilot.@@N@@
open Jvm Jvm.ClassFile Sem Op Lib Jvm.Free Jvm.Stand Jvm.LawKit Jvm.RoadKit Bundle Jvm.Pilot.@@N@@.Jvm.D
/-! the goal of a walk: from the state a the run comes to an end that F allows -/
def Go (tb : Tables) (e : Env) (below : List Frame) (F : State → Outcome → Prop) (a : State) : Prop := ∃ s₂ o, Steps tb e below a s₂ ∧ s₂.status = .running ∧ Ended s₂ below o ∧ F s₂ o
theorem Go.by {tb : Tables} {e : Env} {below : List Frame} {F : State → Outcome → Prop} {a b : State} (h : ∀ t, Steps tb e below b t → Steps tb e below a t) (k : Go tb e below F b) : Go tb e below F a := by
  obtain ⟨s₂, o, h1, h2⟩ := k
  exact ⟨s₂, o, h _ h1, h2⟩
theorem Go.tr {tb : Tables} {e : Env} {below : List Frame} {F : State → Outcome → Prop} {a b : State} (h : Steps tb e below a b) (k : Go tb e below F b) : Go tb e below F a := Go.by (fun _ q => h.trans q) k
section Ret
variable {p : Program} {l : Launch} {e : Env} {R : Room} {s : State} {m : MethodId} {args : Array Value} {below : List Frame} {meth : Method} {c : Code} {T : State} {locs : List Loc} {cells slots rc rs pc : Nat} {Ls : Array Slot} {rest : List Value} {Q : Option Value → Heap → List Loc → Prop}
theorem Go.retZ {z : Int32} (X : Stand p l e R s m args below meth c T locs cells slots) (hx : p.tables.exec = Jvm.exec) (hlk : meth.locks = false) (hret : meth.sig.returnType = some .boolean) (hd : decode c.code pc = .ok (.ireturn, 1)) (hQ : Q (some (.int (nar .boolean z))) T.heap locs) (hc : cells ≤ rc) (hs : slots ≤ rs) :
    Go p.tables e below (fun t o => ∃ v L, o = .returned v ∧ Q v t.heap L ∧ FrameEnd s o t L rc rs) (T.setTop (mkF m pc Ls (.int z :: rest))) := by
  obtain ⟨fs, hr, hrun, hended, hW, hsame⟩ := X.leave (v := some (.int (nar .boolean z))) (fun h => by rw [hret] at h; cases h) hlk
  exact ⟨_, _, retN X hx (t := .boolean) hret (by simp) hd hr, hrun, hended, _, _, rfl, hQ, ⟨_, rfl⟩, hW, hsame.mono hc hs⟩
theorem Go.retI {z : Int32} (X : Stand p l e R s m args below meth c T locs cells slots) (hx : p.tables.exec = Jvm.exec) (hlk : meth.locks = false) (hret : meth.sig.returnType = some .int) (hd : decode c.code pc = .ok (.ireturn, 1)) (hQ : Q (some (.int z)) T.heap locs) (hc : cells ≤ rc) (hs : slots ≤ rs) :
    Go p.tables e below (fun t o => ∃ v L, o = .returned v ∧ Q v t.heap L ∧ FrameEnd s o t L rc rs) (T.setTop (mkF m pc Ls (.int z :: rest))) := by
  obtain ⟨fs, hr, hrun, hended, hW, hsame⟩ := X.leave (v := some (.int z)) (fun h => by rw [hret] at h; cases h) hlk
  exact ⟨_, _, retOut X hx (t := .int) (i := .ireturn) hret rfl (Or.inl ⟨rfl, Or.inl rfl, _, rfl⟩) hd hr, hrun, hended, _, _, rfl, hQ, ⟨_, rfl⟩, hW, hsame.mono hc hs⟩
theorem Go.retJ {z : Int64} (X : Stand p l e R s m args below meth c T locs cells slots) (hx : p.tables.exec = Jvm.exec) (hlk : meth.locks = false) (hret : meth.sig.returnType = some .long) (hd : decode c.code pc = .ok (.lreturn, 1)) (hQ : Q (some (.long z)) T.heap locs) (hc : cells ≤ rc) (hs : slots ≤ rs) :
    Go p.tables e below (fun t o => ∃ v L, o = .returned v ∧ Q v t.heap L ∧ FrameEnd s o t L rc rs) (T.setTop (mkF m pc Ls (.long z :: rest))) := by
  obtain ⟨fs, hr, hrun, hended, hW, hsame⟩ := X.leave (v := some (.long z)) (fun h => by rw [hret] at h; cases h) hlk
  exact ⟨_, _, retOut X hx (t := .long) (i := .lreturn) hret rfl (Or.inr (Or.inl ⟨rfl, rfl, _, rfl⟩)) hd hr, hrun, hended, _, _, rfl, hQ, ⟨_, rfl⟩, hW, hsame.mono hc hs⟩
theorem Go.retV (X : Stand p l e R s m args below meth c T locs cells slots) (hx : p.tables.exec = Jvm.exec) (hlk : meth.locks = false) (hret : meth.sig.returnType = none) (hd : decode c.code pc = .ok (.return_, 1)) (hQ : Q none T.heap locs) (hc : cells ≤ rc) (hs : slots ≤ rs) :
    Go p.tables e below (fun t o => ∃ v L, o = .returned v ∧ Q v t.heap L ∧ FrameEnd s o t L rc rs) (T.setTop (mkF m pc Ls [])) := by
  obtain ⟨fs, hr, hrun, hended, hW, hsame⟩ := X.leave (v := none) (fun _ => rfl) hlk
  exact ⟨_, _, X.returnOut hx hret hd hr, hrun, hended, _, _, rfl, hQ, ⟨_, rfl⟩, hW, hsame.mono hc hs⟩
end Ret
section Calls
variable {p : Program} {l : Launch} {e : Env} {R : Room} {s : State} {m : MethodId} {args : Array Value} {below : List Frame} {meth : Method} {c : Code} {T : State} {locs : List Loc} {cells slots n0 : Nat} {Z : State} {a0 : Array Value} {h : Heap} {F : State → Outcome → Prop} {fr : JFrame} {own C : String} {index W maxL : Nat} {y : MethodName} {bytes : ByteArray} {ret : Option FieldType} {rm : Room} {as' : Array Value} {Q : Option Value → Heap → List Loc → Prop} {argsL rest : List Value}
/-! the three calls by a contract, with what the contract says handed on -/
theorem Go.callS (X : Stand p l e R s m args below meth c T locs cells slots) (hx : p.tables.exec = Jvm.exec) (hZ : Z.Warmed39 s.vm) (hown : s.vm.findClass own = some m.cls) (wl : (Cond.methodLink own index y).before a0 Z = true) (ws : (Cond.static y).before a0 Z = true) (wi : (Cond.initialized y.cls).before a0 Z = true) (wc : (Cond.code y bytes maxL ret).before a0 Z = true) (hy : y.cls ≠ "java/lang/invoke/MethodHandle" ∧ y.cls ≠ "java/lang/invoke/VarHandle")
    (W : Nat) (hM : MetFree l y (head1 [Cond.code y bytes maxL ret] rm) (fun a U => a = as' ∧ Z.Warmed39 U.vm ∧ U.heap = h) (fun _ _ _ _ _ => True) (fun _ U o U' => ∃ v L, o = .returned v ∧ Q v U'.heap L ∧ FrameEnd U o U' L rm.cells rm.slots)) (r0 : Option Value) (Qr : Heap → Prop) (hq : ∀ v h L, Q v h L → v = r0 ∧ Fr n0 L ∧ Qr h)
    (hf : rm.frames + 1 ≤ R.frames) (hl : W + (maxL + 11) + rm.locals ≤ R.locals) (eT : T.heap = h) (N : Fr n0 locs) (hg : fr.method = m) (hsize : fr.locals.size = c.maxLocals) (has : argsL.toArray = as') (hlen : ∀ sig, parseMethodDescriptor y.desc = some sig → argsL.length = sig.parameters.length) (hstack : fr.stack = argsL.reverse ++ rest) (hW : 2 * fr.monitorRoom + (rest.map fun v => v.category).sum ≤ W) (hd : decode c.code fr.pc = .ok (.invokestatic index, 3)) (hc : cells + rm.cells ≤ R.cells) (hs : slots + rm.slots ≤ R.slots)
    (kk : ∀ (T' : State) (locs' : List Loc), Stand p l e R s m args below meth c T' locs' (cells + rm.cells) (slots + rm.slots) → Fr n0 locs' → Qr T'.heap → Go p.tables e below F (T'.setTop { fr with pc := fr.pc + 3, stack := r0.toList ++ rest })) : Go p.tables e below F (T.setTop fr) := by
  obtain ⟨v, vm₁, ⟨T', L', k', n'⟩, -, X', ⟨Lc, hQ, e1, e2, e3⟩, st⟩ := Jvm.LawKit.callS X hx (y := y) hown (mvT hZ wl) (mvT hZ ws) (mvT hZ wi) (mvT hZ wc) hy (backOf (W := W) hM hZ wc wi hf hl) (g := fr) hg hsize (argsL := argsL) (rest := rest) hlen hstack hW hd (fun _ _ => ⟨has, eT, hc, hs⟩)
  dsimp only [Pt.U, Pt.locs, Pt.cells, Pt.slots] at X' e1 e2 e3 st hQ
  subst e1 e2 e3
  obtain ⟨rfl, Nq, q⟩ := hq _ _ _ hQ
  exact Go.by st (kk T' _ X' (Fr.app N Nq) q)
theorem Go.callV (X : Stand p l e R s m args below meth c T locs cells slots) (hx : p.tables.exec = Jvm.exec) (hZ : Z.Warmed39 s.vm) (hown : s.vm.findClass own = some m.cls) (wl : (Cond.methodLink own index y).before a0 Z = true) (wd : (Cond.declares y).before a0 Z = true) (wn : (Cond.instanceMethod y).before a0 Z = true) (wsel : (Cond.selects y.cls y y).before a0 Z = true) (wc : (Cond.code y bytes maxL ret).before a0 Z = true) (wi : (Cond.initialized y.cls).before a0 Z = true) (hy : y.cls ≠ "java/lang/invoke/MethodHandle" ∧ y.cls ≠ "java/lang/invoke/VarHandle")
    (W : Nat) (hM : MetFree l y (head1 [Cond.code y bytes maxL ret] rm) (fun a U => a = as' ∧ Z.Warmed39 U.vm ∧ U.heap = h) (fun _ _ _ _ _ => True) (fun _ U o U' => ∃ v L, o = .returned v ∧ Q v U'.heap L ∧ FrameEnd U o U' L rm.cells rm.slots)) (r0 : Option Value) (Qr : Heap → Prop) (hq : ∀ v h L, Q v h L → v = r0 ∧ Fr n0 L ∧ Qr h)
    (hf : rm.frames + 1 ≤ R.frames) (hl : W + (maxL + 11) + rm.locals ≤ R.locals) (eT : T.heap = h) {b : Addr} (E : Exa Z h b y.cls) (N : Fr n0 locs) (hg : fr.method = m) (hsize : fr.locals.size = c.maxLocals) (has : (.ref b :: argsL).toArray = as') (hlen : ∀ sig, parseMethodDescriptor y.desc = some sig → argsL.length = sig.parameters.length) (hstack : fr.stack = argsL.reverse ++ .ref b :: rest) (hW : 2 * fr.monitorRoom + (rest.map fun v => v.category).sum ≤ W) (hd : decode c.code fr.pc = .ok (.invokevirtual index, 3)) (hc : cells + rm.cells ≤ R.cells) (hs : slots + rm.slots ≤ R.slots)
    (kk : ∀ (T' : State) (locs' : List Loc), Stand p l e R s m args below meth c T' locs' (cells + rm.cells) (slots + rm.slots) → Fr n0 locs' → Qr T'.heap → Go p.tables e below F (T'.setTop { fr with pc := fr.pc + 3, stack := r0.toList ++ rest })) : Go p.tables e below F (T.setTop fr) := by
  obtain ⟨cq, kq, qa, qb, qc⟩ := isOf hZ eT E
  obtain ⟨v, vm₁, ⟨T', L', k', n'⟩, -, X', ⟨Lc, hQ, e1, e2, e3⟩, st⟩ := X.virtualBack hx (y := y) (z := y) hown (mvT hZ wl) (mvT hZ wd) (notFace_of_selects (args := #[]) (mvT hZ wsel)) (mvT hZ wsel) (mvT hZ wn) hy (backOf (W := W) hM hZ wc wi hf hl) qa qc (g := fr) hg hsize (Steps.refl _) (argsL := argsL) (rest := rest) hlen hstack hW hd (fun _ _ => ⟨has, eT, hc, hs⟩)
  dsimp only [Pt.U, Pt.locs, Pt.cells, Pt.slots] at X' e1 e2 e3 st hQ
  subst e1 e2 e3
  obtain ⟨rfl, Nq, q⟩ := hq _ _ _ hQ
  exact Go.tr st (kk T' _ X' (Fr.app N Nq) q)
theorem Go.callI (X : Stand p l e R s m args below meth c T locs cells slots) (hx : p.tables.exec = Jvm.exec) (hZ : Z.Warmed39 s.vm) (hy1 : y.name = "<init>") (hown : s.vm.findClass own = some m.cls) (wl : (Cond.methodLink own index y).before a0 Z = true) (wn : (Cond.instanceMethod y).before a0 Z = true) (wc : (Cond.code y bytes maxL none).before a0 Z = true) (wi : (Cond.initialized y.cls).before a0 Z = true) (hy : y.cls ≠ "java/lang/invoke/MethodHandle" ∧ y.cls ≠ "java/lang/invoke/VarHandle")
    (W : Nat) (hM : MetFree l y (head1 [Cond.code y bytes maxL none] rm) (fun a U => a = as' ∧ Z.Warmed39 U.vm ∧ U.heap = h) (fun _ _ _ _ _ => True) (fun _ U o U' => ∃ v L, o = .returned v ∧ Q v U'.heap L ∧ FrameEnd U o U' L rm.cells rm.slots)) (r0 : Option Value) (Qr : Heap → Prop) (hq : ∀ v h L, Q v h L → v = r0 ∧ Fr n0 L ∧ Qr h)
    (hf : rm.frames + 1 ≤ R.frames) (hl : W + (maxL + 11) + rm.locals ≤ R.locals) (eT : T.heap = h) {b : Addr} (N : Fr n0 locs) (hg : fr.method = m) (hsize : fr.locals.size = c.maxLocals) (has : (.ref b :: argsL).toArray = as') (hlen : ∀ sig, parseMethodDescriptor y.desc = some sig → argsL.length = sig.parameters.length) (hstack : fr.stack = argsL.reverse ++ .ref b :: rest) (hW : 2 * fr.monitorRoom + (rest.map fun v => v.category).sum ≤ W) (hd : decode c.code fr.pc = .ok (.invokespecial index, 3)) (hc : cells + rm.cells ≤ R.cells) (hs : slots + rm.slots ≤ R.slots)
    (kk : ∀ (T' : State) (locs' : List Loc), Stand p l e R s m args below meth c T' locs' (cells + rm.cells) (slots + rm.slots) → Fr n0 locs' → Qr T'.heap → Go p.tables e below F (T'.setTop { fr with pc := fr.pc + 3, stack := r0.toList ++ rest })) : Go p.tables e below F (T.setTop fr) := by
  obtain ⟨v, vm₁, ⟨T', L', k', n'⟩, -, X', ⟨Lc, hQ, e1, e2, e3⟩, st⟩ := X.specialBack hx (y := y) hy1 hown (mvT hZ wl) (mvT hZ wn) (mvT hZ wc) hy (backOf (W := W) hM hZ wc wi hf hl) (g := fr) hg hsize (Steps.refl _) (a := b) (argsL := argsL) (rest := rest) hlen hstack hW hd (fun _ _ => ⟨has, eT, hc, hs⟩)
  dsimp only [Pt.U, Pt.locs, Pt.cells, Pt.slots] at X' e1 e2 e3 st hQ
  subst e1 e2 e3
  obtain ⟨rfl, Nq, q⟩ := hq _ _ _ hQ
  exact Go.tr st (kk T' _ X' (Fr.app N Nq) q)
end Calls

/-! the bits of an int -/
def tb (x : Int32) (j : Nat) : Bool := x.toBitVec.getLsbD j
def mk (v f : Int32) : Int32 := ((((2 : Int64) <<< (v.toInt64 &&& 63)) - (1 : Int64)).toInt32) <<< ((f &&& (31 : Int32)) &&& 31)
theorem tb_or (x y : Int32) (j : Nat) : tb (x ||| y) j = (tb x j || tb y j) := by simp [tb]
theorem tb_zero (j : Nat) : tb 0 j = false := by simp [tb]
theorem own_nat32 (x : Int32) (h : 0 ≤ x.toInt) : x = Int32.ofNat x.toInt.toNat := by
  apply Int32.toInt_inj.mp
  have := x.toInt_lt
  rw [Int32.toInt_ofNat_of_lt (by omega)]
  omega
theorem own_m31 (f : Int32) (h : 0 ≤ f.toInt) : ((f &&& (31 : Int32)) &&& 31) = Int32.ofNat (f.toInt.toNat % 32) := by
  have e1 := c_mask f 31 5 (by decide) (by decide)
  have e2 := c_mask (f &&& 31) 31 5 (by decide) (by decide)
  have e3 : (((f &&& (31 : Int32)) &&& 31)).toInt = ((f.toInt.toNat % 32 : Nat) : Int) := by rw [e2, e1]; omega
  rw [own_nat32 ((f &&& (31 : Int32)) &&& 31) (by rw [e3]; omega), e3]
  rfl
theorem own_tbM : ∀ k : Fin 32, ∀ j : Fin 32, tb ((((2 : Int64) <<< ((Int32.ofNat k.val).toInt64 &&& 63)) - (1 : Int64)).toInt32) j.val = decide (j.val ≤ k.val) := by decide +kernel
theorem own_smod : ∀ k : Fin 32, ((Int32.ofNat k.val).toBitVec.smod 32).toNat = k.val := by decide +kernel
theorem tb_shl (x : Int32) {k j : Nat} (hk : k < 32) (hj : j < 32) : tb (x <<< Int32.ofNat k) j = (decide (k ≤ j) && tb x (j - k)) := by
  unfold tb
  rw [Int32.toBitVec_shiftLeft, BitVec.shiftLeft_eq', own_smod ⟨k, hk⟩, BitVec.getLsbD_shiftLeft]
  by_cases h : k ≤ j
  · have h' : ¬ j < k := by omega
    simp [h, h', hj]
  · have h' : j < k := by omega
    simp [h, h', hj]
theorem tb_mk {v f : Int32} {k a : Nat} (hv : v.toInt = k) (hk : k < 32) (hf : f.toInt = a) {j : Nat} (hj : j < 32) : tb (mk v f) j = (decide (a % 32 ≤ j) && decide (j - a % 32 ≤ k)) := by
  unfold mk
  rw [own_m31 f (by omega), hf, show ((a : Int).toNat % 32) = a % 32 from rfl, tb_shl _ (by omega) hj]
  have e : v = Int32.ofNat k := by rw [own_nat32 v (by omega), hv]; first | done | rfl
  rw [e, own_tbM ⟨k, hk⟩ ⟨j - a % 32, by omega⟩]
theorem own_ush : ∀ k : Fin 32, ((Int32.ofNat k.val).toUInt32.toBitVec % 32).toNat = k.val := by decide +kernel
theorem tb_and1 (y : Int32) : (y &&& (1 : Int32)) = if tb y 0 then 1 else 0 := by
  apply Int32.toBitVec_inj.mp
  apply BitVec.eq_of_getLsbD_eq
  intro i hi
  rw [Int32.toBitVec_and, BitVec.getLsbD_and]
  have e1 : (1 : Int32).toBitVec = 1#32 := rfl
  rw [e1, BitVec.getLsbD_one]
  by_cases h : i = 0
  · subst h
    unfold tb
    cases hb : y.toBitVec.getLsbD 0
    · simp
    · simp [hb, e1]
  · unfold tb
    cases hb : y.toBitVec.getLsbD 0
    · simp [h]
    · simp [h, e1, BitVec.getLsbD_one]
theorem tb_ushr (x b : Int32) {a : Nat} (hb : b.toInt = a) : ((XT.ushr x (b &&& (31 : Int32))) &&& (1 : Int32)) = if tb x (a % 32) then 1 else 0 := by
  rw [tb_and1]
  have e : tb (XT.ushr x (b &&& (31 : Int32))) 0 = tb x (a % 32) := by
    unfold tb XT.ushr
    rw [own_m31 b (by omega), hb, show ((a : Int).toNat % 32) = a % 32 from rfl]
    have hu := own_ush ⟨a % 32, Nat.mod_lt _ (by decide)⟩
    show (x.toBitVec >>> ((Int32.ofNat (a % 32)).toUInt32.toBitVec % 32)).getLsbD 0 = _
    rw [BitVec.ushiftRight_eq', BitVec.getLsbD_ushiftRight, hu]
    rfl
  rw [e]

/-! arrays of ints by what they hold -/
def updI (g : Nat → Int32) (j : Nat) (x : Int32) : Nat → Int32 := fun i => if i = j then x else g i
def IV (Z : State) (h : Heap) (b : Addr) (n : Nat) (g : Nat → Int32) : Prop := ∃ c : Cell, Arr Z h b c .int ∧ c.slots.size = n ∧ ∀ i, i < n → c.slots[i]? = some (.int (g i))
section IVs
variable {Z : State} {h h' : Heap} {a b : Addr} {n j : Nat} {g g' : Nat → Int32} {x : Int32} {v : Value} {ws : List Addr}
theorem IV.new {k : ClassId} {z : Int32} (A : Arr Z h a (newA k .int z) .int) (hz : z.toNatClampNeg = n) : IV Z h a n fun _ => 0 :=
  ⟨_, A, (sz_new _ _ _).trans hz, fun i hi => by
    have e : (newA k .int z).slots[i]? = some (defaultValue .int) := by simp [newA, hz, hi]
    exact e⟩
theorem IV.st (A : IV Z h b n g) (W : Wr h h' b j (.int x)) : IV Z h' b n (updI g j x) := by
  obtain ⟨c, Ar, S, V⟩ := A
  refine ⟨_, Ar.same W, by rw [sz_set]; exact S, fun i hi => ?_⟩
  by_cases q : j = i
  · subst q; simp [Cell.setSlot, S, hi, updI]
  · have q' : ¬ i = j := fun z => q z.symm
    simp only [Cell.setSlot, updI, q', if_false]
    rw [Array.getElem?_setIfInBounds_ne q]; exact V i hi
theorem IV.other (A : IV Z h b n g) (W : Wr h h' a j v) (q : b ≠ a) : IV Z h' b n g := by
  obtain ⟨c, Ar, r⟩ := A
  exact ⟨c, Ar.other W q, r⟩
theorem IV.ext (A : IV Z h b n g) (E : Ext h h') : IV Z h' b n g := by
  obtain ⟨c, Ar, r⟩ := A
  exact ⟨c, Ar.ext E, r⟩
theorem IV.keep (A : IV Z h b n g) (K : Keep h h' ws) (q : b ∉ ws) : IV Z h' b n g := by
  obtain ⟨c, Ar, r⟩ := A
  exact ⟨c, ⟨K.2.1 b c Ar.1 q, Ar.2⟩, r⟩
theorem IV.lt (A : IV Z h b n g) : b < h.size := by obtain ⟨c, Ar, -⟩ := A; exact Ar.lt
theorem IV.congr (A : IV Z h b n g) (q : ∀ i, i < n → g' i = g i) : IV Z h b n g' := by
  obtain ⟨c, Ar, S, V⟩ := A
  exact ⟨c, Ar, S, fun i hi => by rw [q i hi]; exact V i hi⟩
theorem own_inN {j : Int32} {i : Nat} {cl : Cell} (S : cl.slots.size = n) (hj : j.toInt = i) (hi : i < n) : ¬ (j < 0 ∨ cl.slots.size ≤ j.toNatClampNeg) ∧ j.toNatClampNeg = i := by
  have e : j.toNatClampNeg = i := by show j.toInt.toNat = i; omega
  refine ⟨fun q => q.elim (fun q => ?_) fun q => by omega, e⟩
  rw [Int32.lt_iff_toInt_lt] at q
  have z : (0 : Int32).toInt = 0 := rfl
  omega
end IVs
section Steps6
variable {p : Program} {l : Launch} {e : Env} {R : Room} {s : State} {m : MethodId} {args : Array Value} {below : List Frame} {meth : Method} {c : Code} {T : State} {locs : List Loc} {cells slots n0 : Nat} {Z : State} {a0 : Array Value} {F : State → Outcome → Prop} {fr : JFrame} {rest : List Value} {h : Heap} {a b : Addr} {n : Nat} {g : Nat → Int32}
theorem Go.gf (X : Stand p l e R s m args below meth c T locs cells slots) (hx : p.tables.exec = Jvm.exec) (hZ : Z.Warmed39 s.vm) {own R0 nm d : String} {index : Nat} {v : Value} (hown : s.vm.findClass own = some m.cls) (w : (Cond.fieldLink own index R0 nm d).before a0 Z = true) (eT : T.heap = h) (Fl : Fld Z h a R0 nm d v) (hg : fr.method = m) (hs : fr.stack = .ref a :: rest) (hd : decode c.code fr.pc = .ok (.getfield index, 3))
    (kk : ∀ T' : State, Stand p l e R s m args below meth c T' locs cells slots → T'.heap = h → Go p.tables e below F (T'.setTop { fr with pc := fr.pc + 3, stack := v :: rest })) : Go p.tables e below F (T.setTop fr) := by
  obtain ⟨T', X', e', st⟩ := getF X hx hZ hown (host := "") (Or.inl w) Via.refl eT Fl hg hs hd
  exact Go.by st (kk T' X' e')
theorem Go.ldIV (X : Stand p l e R s m args below meth c T locs cells slots) (hx : p.tables.exec = Jvm.exec) (hZ : Z.Warmed39 s.vm) (eT : T.heap = h) (A : IV Z h b n g) {j : Int32} {i : Nat} (hj : j.toInt = i) (hi : i < n) (hg : fr.method = m) (hs : fr.stack = .int j :: .ref b :: rest) (hd : decode c.code fr.pc = .ok (.iaload, 1))
    (kk : Go p.tables e below F (T.setTop { fr with pc := fr.pc + 1, stack := .int (g i) :: rest })) : Go p.tables e below F (T.setTop fr) := by
  obtain ⟨cl, Ar, S, V⟩ := A
  obtain ⟨hin, en⟩ := own_inN S hj hi
  exact Go.by (fun t q => X.iaload hx (j := j) (v := (.int (g i))) (by rw [eT]; exact Ar.1) (State.isArrayOf_alike hZ.alike Ar.2.1) Ar.2.2 hin (by rw [en]; exact V i hi) hg hs hd t q) kk
theorem Go.stIV (X : Stand p l e R s m args below meth c T locs cells slots) (hx : p.tables.exec = Jvm.exec) (hZ : Z.Warmed39 s.vm) (eT : T.heap = h) (A : IV Z h b n g) (N : Fr n0 locs) (gb : n0 ≤ b) {j x : Int32} {i : Nat} (hj : j.toInt = i) (hi : i < n) (hg : fr.method = m) (hs : fr.stack = .int x :: .int j :: .ref b :: rest) (hd : decode c.code fr.pc = .ok (.iastore, 1))
    (kk : ∀ (T' : State) (h' : Heap) (locs' : List Loc), Stand p l e R s m args below meth c T' locs' cells slots → T'.heap = h' → Fr n0 locs' → Wr h h' b i (.int x) → Go p.tables e below F (T'.setTop { fr with pc := fr.pc + 1, stack := rest })) : Go p.tables e below F (T.setTop fr) := by
  obtain ⟨cl, Ar, S, V⟩ := A
  obtain ⟨hin, en⟩ := own_inN S hj hi
  obtain ⟨T', h', X', e', W, st⟩ := stI X hx hZ eT Ar hin hg hs hd
  rw [en] at W
  exact Go.by st (kk T' h' _ X' e' (Fr.snoc X' N gb) W)
theorem Go.lenIV (X : Stand p l e R s m args below meth c T locs cells slots) (hx : p.tables.exec = Jvm.exec) (hZ : Z.Warmed39 s.vm) (eT : T.heap = h) (A : IV Z h b n g) {z : Int32} (hn : n.toInt32 = z) (hg : fr.method = m) (hs : fr.stack = .ref b :: rest) (hd : decode c.code fr.pc = .ok (.arraylength, 1))
    (kk : Go p.tables e below F (T.setTop { fr with pc := fr.pc + 1, stack := .int z :: rest })) : Go p.tables e below F (T.setTop fr) := by
  obtain ⟨cl, Ar, S, V⟩ := A
  refine Go.by (fun t q => X.arraylength hx (by rw [eT]; exact Ar.1) (State.isArrayOf_alike hZ.alike Ar.2.1) hg hs hd t q) ?_
  rw [S, hn]; exact kk
end Steps6
/-! the layout, once it is made -/
def RL (Z : State) (h : Heap) (a bp ba : Addr) (P A : Nat → Int32) (BI RI : Int32) : Prop :=
  Exa Z h a "com/example/isolens/isolens/checker/RowLayout" ∧ Fld Z h a "com/example/isolens/isolens/checker/RowLayout" "places" "[I" (.ref bp) ∧ Fld Z h a "com/example/isolens/isolens/checker/RowLayout" "at" "[I" (.ref ba) ∧ Fld Z h a "com/example/isolens/isolens/checker/RowLayout" "bitInts" "I" (.int BI) ∧ Fld Z h a "com/example/isolens/isolens/checker/RowLayout" "rowInts" "I" (.int RI) ∧ IV Z h bp 3 P ∧ IV Z h ba 3 A
theorem RL.keep {Z : State} {h h' : Heap} {a bp ba bx : Addr} {P A : Nat → Int32} {BI RI : Int32} (H : RL Z h a bp ba P A BI RI) (K : Keep h h' [bx]) (q1 : a ≠ bx) (q2 : bp ≠ bx) (q3 : ba ≠ bx) : RL Z h' a bp ba P A BI RI := by
  obtain ⟨h1, h2, h3, h4, h5, h6, h7⟩ := H
  have n1 : a ∉ [bx] := ninS q1 nin0
  exact ⟨h1.keep K, h2.keep K n1, h3.keep K n1, h4.keep K n1, h5.keep K n1, h6.keep K (ninS q2 nin0), h7.keep K (ninS q3 nin0)⟩

theorem own_half {v : Int32} {i : Nat} (h : v.toInt = i) (h0 : 0 < i) (hi : i < 16) : ((v - (1 : Int32)) / (2 : Int32)).toInt = ((i - 1) / 2 : Nat) := by
  have e1 := c_isub v 1
  have z1 : (1 : Int32).toInt = 1 := rfl
  have b1 := (v - (1 : Int32)).le_toInt; have b2 := (v - (1 : Int32)).toInt_lt
  have e2 := (c_idiv (v - (1 : Int32)) 2 2 rfl (by decide)).1 (by omega)
  rw [e2]; omega
theorem own_pos {v : Int32} {i : Nat} (h : v.toInt = i) : 0 < v ↔ 0 < i := by
  rw [Int32.lt_iff_toInt_lt]; have z : (0 : Int32).toInt = 0 := rfl
  rw [z]; omega
theorem own_inc {v : Int32} {i : Nat} (h : v.toInt = i) (hi : i < 1000) : (v + (1 : Int32)).toInt = (i + 1 : Nat) := by
  have e1 := c_iadd v 1
  have z1 : (1 : Int32).toInt = 1 := rfl
  have b1 := (v + (1 : Int32)).le_toInt; have b2 := (v + (1 : Int32)).toInt_lt
  omega
theorem own_dec {v : Int32} {i : Nat} (h : v.toInt = i) (h0 : 0 < i) (hi : i < 1000) : (v - (1 : Int32)).toInt = (i - 1 : Nat) := by
  have e1 := c_isub v 1
  have z1 : (1 : Int32).toInt = 1 := rfl
  have b1 := (v - (1 : Int32)).le_toInt; have b2 := (v - (1 : Int32)).toInt_lt
  omega
theorem own_dbl {v : Int32} {i : Nat} (h : v.toInt = i) (hi : i < 1000) : (((2 : Int32) * v) + (1 : Int32)).toInt = (2 * i + 1 : Nat) := by
  have e0 := c_imul 2 v
  have e1 := c_iadd ((2 : Int32) * v) 1
  have z1 : (1 : Int32).toInt = 1 := rfl
  have z2 : (2 : Int32).toInt = 2 := rfl
  have b1 := ((2 : Int32) * v).le_toInt; have b2 := ((2 : Int32) * v).toInt_lt
  have b3 := (((2 : Int32) * v) + (1 : Int32)).le_toInt; have b4 := (((2 : Int32) * v) + (1 : Int32)).toInt_lt
  rw [z2] at e0
  omega
theorem own_ltN {v w : Int32} {i j : Nat} (h : v.toInt = i) (k : w.toInt = j) : v < w ↔ i < j := by rw [Int32.lt_iff_toInt_lt]; omega

theorem pd0 : parseMethodDescriptor "(III)V" = some ⟨[.int, .int, .int], none⟩ := by decide +kernel
theorem pd1 : parseMethodDescriptor "([IIII)V" = some ⟨[(.array .int), .int, .int, .int], none⟩ := by decide +kernel
theorem pd2 : parseMethodDescriptor "([II)V" = some ⟨[(.array .int), .int], none⟩ := by decide +kernel
theorem pd3 : parseMethodDescriptor "(II)I" = some ⟨[.int, .int], some .int⟩ := by decide +kernel
theorem pd4 : parseMethodDescriptor "(JI)J" = some ⟨[.long, .int], some .long⟩ := by decide +kernel
theorem pd5 : parseMethodDescriptor "([III)[I" = some ⟨[(.array .int), .int, .int], some (.array .int)⟩ := by decide +kernel
theorem pd6 : parseMethodDescriptor "([III)V" = some ⟨[(.array .int), .int, .int], none⟩ := by decide +kernel
theorem pd7 : parseMethodDescriptor "(Lcom/example/isolens/isolens/checker/RowLayout;[IIIII)I" = some ⟨[(.object "com/example/isolens/isolens/checker/RowLayout"), (.array .int), .int, .int, .int, .int], some .int⟩ := by decide +kernel
theorem pd8 : parseMethodDescriptor "([IIII)Z" = some ⟨[(.array .int), .int, .int, .int], some .boolean⟩ := by decide +kernel
theorem d12_0 : decode jdk_29_method_65_code 0 = .ok (.iload_n 0, 1) := by decide +kernel
theorem d12_1 : decode jdk_29_method_65_code 1 = .ok (.iload_n 1, 1) := by decide +kernel
theorem d12_2 : decode jdk_29_method_65_code 2 = .ok (.if_icmp .lt 7, 3) := by decide +kernel
theorem d12_5 : decode jdk_29_method_65_code 5 = .ok (.iload_n 0, 1) := by decide +kernel
theorem d12_6 : decode jdk_29_method_65_code 6 = .ok (.goto 4, 3) := by decide +kernel
theorem d12_9 : decode jdk_29_method_65_code 9 = .ok (.iload_n 1, 1) := by decide +kernel
theorem d12_10 : decode jdk_29_method_65_code 10 = .ok (.ireturn, 1) := by decide +kernel
theorem ef_12 (m : MethodId) (p0 : Int32) (p1 : Int32) : entryFrame m #[(.int p0), (.int p1)] 2 = mkF m 0 #[.val (.int p0), .val (.int p1)] [] := by first | (simp [entryFrame, mkF, argsToLocals, Value.category]; done) | rfl
def f12_0 (p0 : Int32) (p1 : Int32) : Int32 := if p0 < p1 then p1 else p0
def Q12 (p0 : Int32) (p1 : Int32) (h0 : Heap) (n0 : Nat) (v : Option Value) (h : Heap) (L : List Loc) : Prop := v = some (.int (f12_0 p0 p1)) ∧ Fr n0 L ∧ h = h0
set_option maxRecDepth 65536 in
set_option maxHeartbeats 40000000 in
theorem rm12 (l : Launch) (Z : State) (a0 : Array Value) (hw : ∀ d ∈ tables_1, d.before a0 Z = true) (ws : List Jvm.Cond) (p0 : Int32) (p1 : Int32)  (h0 : Heap) (n0 : Nat) (Z0 : n0 ≤ h0.size)  :
    MetFree l (⟨"java/lang/Math", "max", "(II)I"⟩ : MethodName) (head1 (Jvm.Cond.code (⟨"java/lang/Math", "max", "(II)I"⟩ : MethodName) jdk_29_method_65_code 2 (some .int) :: ws) ({ frames := 0, cells := 0, slots := 0, locals := 0 } : Room)) (fun a U => a = #[(.int p0), (.int p1)] ∧ Z.Warmed39 U.vm ∧ U.heap = h0) (fun _ _ _ _ _ => True) (fun _ U o U' => ∃ v L, o = .returned v ∧ (Q12 p0 p1 h0 n0) v U'.heap L ∧ FrameEnd U o U' L ({ frames := 0, cells := 0, slots := 0, locals := 0 } : Room).cells ({ frames := 0, cells := 0, slots := 0, locals := 0 } : Room).slots) := by
  refine MetFree.of_bodySF (Jvm.Free.JP.mathPlain rfl (by decide +kernel)) hisR ?_
  intro p e s m args below meth c s₁ Bd hml0 hP hK
  obtain ⟨rfl, hZ, hh⟩ := hP
  have hx := Bd.exec
  have hby := Bd.bytes
  have hml : c.maxLocals = 2 := hml0
  have hown : s.vm.findClass "java/lang/Math" = some m.cls := findClass_of_methodNamed Bd.named
  have hnm := (name_of_methodNamed Bd.named Bd.method).1
  have hlk : meth.locks = false := Bd.notSynchronized
  have X0 : Stand p l e ({ frames := 0, cells := 0, slots := 0, locals := 0 } : Room) s m #[(.int p0), (.int p1)] below meth c s₁ [] 0 0 := Stand.of_body Bd
  have e0 : s₁.heap = h0 := by rw [← hh, Bd.state]; rfl
  have N0 := Fr.nil n0
  refine Go.by (tb := p.tables) (e := e) (below := below) (F := fun t o => ∃ v L, o = .returned v ∧ (Q12 p0 p1 h0 n0) v t.heap L ∧ FrameEnd s o t L ({ frames := 0, cells := 0, slots := 0, locals := 0 } : Room).cells ({ frames := 0, cells := 0, slots := 0, locals := 0 } : Room).slots) (fun t k => castTop (ef_12 m p0 p1) k) ?_
  have hv : f12_0 p0 p1 = if p0 < p1 then p1 else p0 := rfl
  show Go _ _ _ _ (s₁.setTop (mkF m 0 #[.val (.int p0), .val (.int p1)] []))
  refine Go.by (fun t9 k9 => XS.iloadN X0.here hx rfl (hb hby d12_0) rfl k9) ?_
  show Go _ _ _ _ (s₁.setTop (mkF m 1 #[.val (.int p0), .val (.int p1)] [(.int p0)]))
  refine Go.by (fun t9 k9 => XS.iloadN X0.here hx rfl (hb hby d12_1) rfl k9) ?_
  show Go _ _ _ _ (s₁.setTop (mkF m 2 #[.val (.int p0), .val (.int p1)] [(.int p1), (.int p0)]))
  by_cases hc2 : p0 < p1
  · have hv := hv.trans (if_pos hc2)
    refine Go.by (fun t9 k9 => XS.icmpYes X0.here hx rfl (pc0 := 2) (pc' := 9) rfl (hb hby d12_2) rfl (XT.ii_lt_t hc2) (by decide) (by decide) k9) ?_
    show Go _ _ _ _ (s₁.setTop (mkF m 9 #[.val (.int p0), .val (.int p1)] []))
    refine Go.by (fun t9 k9 => XS.iloadN X0.here hx rfl (hb hby d12_9) rfl k9) ?_
    show Go _ _ _ _ (s₁.setTop (mkF m 10 #[.val (.int p0), .val (.int p1)] [(.int p1)]))
    exact Go.retI (Q := Q12 p0 p1 h0 n0) X0 hx hlk Bd.returns (hb hby d12_10) ⟨by rw [hv], N0, e0⟩ (by decide) (by decide)
  · have hv := hv.trans (if_neg hc2)
    refine Go.by (fun t9 k9 => XS.icmpNo X0.here hx rfl (hb hby d12_2) rfl (XT.ii_lt_f hc2) k9) ?_
    show Go _ _ _ _ (s₁.setTop (mkF m 5 #[.val (.int p0), .val (.int p1)] []))
    refine Go.by (fun t9 k9 => XS.iloadN X0.here hx rfl (hb hby d12_5) rfl k9) ?_
    show Go _ _ _ _ (s₁.setTop (mkF m 6 #[.val (.int p0), .val (.int p1)] [(.int p0)]))
    refine Go.by (fun t9 k9 => XS.goto X0.here hx rfl (pc0 := 6) (pc' := 10) rfl (hb hby d12_6) (by decide) (by decide) k9) ?_
    show Go _ _ _ _ (s₁.setTop (mkF m 10 #[.val (.int p0), .val (.int p1)] [(.int p0)]))
    exact Go.retI (Q := Q12 p0 p1 h0 n0) X0 hx hlk Bd.returns (hb hby d12_10) ⟨by rw [hv], N0, e0⟩ (by decide) (by decide)
theorem d4_0 : decode prog_75_method_2_code 0 = .ok (.lload_n 0, 1) := by decide +kernel
theorem d4_1 : decode prog_75_method_2_code 1 = .ok (.ldc2_w 44, 3) := by decide +kernel
theorem d4_4 : decode prog_75_method_2_code 4 = .ok (.lrem, 1) := by decide +kernel
theorem d4_5 : decode prog_75_method_2_code 5 = .ok (.lstore_n 3, 1) := by decide +kernel
theorem d4_6 : decode prog_75_method_2_code 6 = .ok (.lload_n 3, 1) := by decide +kernel
theorem d4_7 : decode prog_75_method_2_code 7 = .ok (.iload_n 2, 1) := by decide +kernel
theorem d4_8 : decode prog_75_method_2_code 8 = .ok (.i2l, 1) := by decide +kernel
theorem d4_9 : decode prog_75_method_2_code 9 = .ok (.ladd, 1) := by decide +kernel
theorem d4_10 : decode prog_75_method_2_code 10 = .ok (.ldc2_w 44, 3) := by decide +kernel
theorem d4_13 : decode prog_75_method_2_code 13 = .ok (.lcmp, 1) := by decide +kernel
theorem d4_14 : decode prog_75_method_2_code 14 = .ok (.ifCond .le 13, 3) := by decide +kernel
theorem d4_17 : decode prog_75_method_2_code 17 = .ok (.lload_n 0, 1) := by decide +kernel
theorem d4_18 : decode prog_75_method_2_code 18 = .ok (.lload_n 3, 1) := by decide +kernel
theorem d4_19 : decode prog_75_method_2_code 19 = .ok (.lsub, 1) := by decide +kernel
theorem d4_20 : decode prog_75_method_2_code 20 = .ok (.ldc2_w 44, 3) := by decide +kernel
theorem d4_23 : decode prog_75_method_2_code 23 = .ok (.ladd, 1) := by decide +kernel
theorem d4_24 : decode prog_75_method_2_code 24 = .ok (.goto 4, 3) := by decide +kernel
theorem d4_27 : decode prog_75_method_2_code 27 = .ok (.lload_n 0, 1) := by decide +kernel
theorem d4_28 : decode prog_75_method_2_code 28 = .ok (.lreturn, 1) := by decide +kernel
theorem pn_4 : plainName "com/example/isolens/isolens/checker/RowLayout" = true := by first | (simp [plainName, overriddenIn]; done) | decide +kernel
theorem ef_4 (m : MethodId) (q0 : Int64) (p1 : Int32) : entryFrame m #[(.long q0), (.int p1)] 5 = mkF m 0 #[.val (.long q0), .second, .val (.int p1), .unset, .unset] [] := by first | (simp [entryFrame, mkF, argsToLocals, Value.category]; done) | rfl
def f4_0 (q0 : Int64) (p1 : Int32) : Int64 := if (32 : Int64) < ((q0 - (q0 / (32 : Int64)) * (32 : Int64)) + (p1.toInt64)) then ((q0 - (q0 - (q0 / (32 : Int64)) * (32 : Int64))) + (32 : Int64)) else q0
def Q4 (q0 : Int64) (p1 : Int32) (h0 : Heap) (n0 : Nat) (v : Option Value) (h : Heap) (L : List Loc) : Prop := v = some (.long (f4_0 q0 p1)) ∧ Fr n0 L ∧ h = h0
set_option maxRecDepth 65536 in
set_option maxHeartbeats 40000000 in
theorem rm4 (l : Launch) (Z : State) (a0 : Array Value) (hw : ∀ d ∈ tables_1, d.before a0 Z = true) (ws : List Jvm.Cond) (q0 : Int64) (p1 : Int32)  (h0 : Heap) (n0 : Nat) (Z0 : n0 ≤ h0.size)  :
    MetFree l (⟨"com/example/isolens/isolens/checker/RowLayout", "placed", "(JI)J"⟩ : MethodName) (head1 (Jvm.Cond.code (⟨"com/example/isolens/isolens/checker/RowLayout", "placed", "(JI)J"⟩ : MethodName) prog_75_method_2_code 5 (some .long) :: ws) ({ frames := 0, cells := 0, slots := 0, locals := 0 } : Room)) (fun a U => a = #[(.long q0), (.int p1)] ∧ Z.Warmed39 U.vm ∧ U.heap = h0) (fun _ _ _ _ _ => True) (fun _ U o U' => ∃ v L, o = .returned v ∧ (Q4 q0 p1 h0 n0) v U'.heap L ∧ FrameEnd U o U' L ({ frames := 0, cells := 0, slots := 0, locals := 0 } : Room).cells ({ frames := 0, cells := 0, slots := 0, locals := 0 } : Room).slots) := by
  refine MetFree.of_bodySF (plainFor_of_name pn_4) hisR ?_
  intro p e s m args below meth c s₁ Bd hml0 hP hK
  obtain ⟨rfl, hZ, hh⟩ := hP
  have hx := Bd.exec
  have hby := Bd.bytes
  have hml : c.maxLocals = 5 := hml0
  have hown : s.vm.findClass "com/example/isolens/isolens/checker/RowLayout" = some m.cls := findClass_of_methodNamed Bd.named
  have hnm := (name_of_methodNamed Bd.named Bd.method).1
  have hlk : meth.locks = false := Bd.notSynchronized
  have X0 : Stand p l e ({ frames := 0, cells := 0, slots := 0, locals := 0 } : Room) s m #[(.long q0), (.int p1)] below meth c s₁ [] 0 0 := Stand.of_body Bd
  have e0 : s₁.heap = h0 := by rw [← hh, Bd.state]; rfl
  have N0 := Fr.nil n0
  refine Go.by (tb := p.tables) (e := e) (below := below) (F := fun t o => ∃ v L, o = .returned v ∧ (Q4 q0 p1 h0 n0) v t.heap L ∧ FrameEnd s o t L ({ frames := 0, cells := 0, slots := 0, locals := 0 } : Room).cells ({ frames := 0, cells := 0, slots := 0, locals := 0 } : Room).slots) (fun t k => castTop (ef_4 m q0 p1) k) ?_
  have hv : f4_0 q0 p1 = if (32 : Int64) < ((q0 - (q0 / (32 : Int64)) * (32 : Int64)) + (p1.toInt64)) then ((q0 - (q0 - (q0 / (32 : Int64)) * (32 : Int64))) + (32 : Int64)) else q0 := rfl
  show Go _ _ _ _ (s₁.setTop (mkF m 0 #[.val (.long q0), .second, .val (.int p1), .unset, .unset] []))
  refine Go.by (fun t9 k9 => XT.lloadN X0.here hx rfl (hb hby d4_0) rfl k9) ?_
  show Go _ _ _ _ (s₁.setTop (mkF m 1 #[.val (.long q0), .second, .val (.int p1), .unset, .unset] [(.long q0)]))
  refine Go.by (fun t9 k9 => X0.ldc2J hx hown (mvT hZ (hw _ (List.mem_of_getElem? (i := 32) rfl))) rfl (hb hby d4_1) k9) ?_
  show Go _ _ _ _ (s₁.setTop (mkF m 4 #[.val (.long q0), .second, .val (.int p1), .unset, .unset] [(.long (32 : Int64)), (.long q0)]))
  refine Go.by (fun t9 k9 => XT.lrem X0.here hx rfl (hb hby d4_4) rfl (by decide) k9) ?_
  show Go _ _ _ _ (s₁.setTop (mkF m 5 #[.val (.long q0), .second, .val (.int p1), .unset, .unset] [(.long (q0 - (q0 / (32 : Int64)) * (32 : Int64)))]))
  refine Go.by (fun t9 k9 => XT.lstoreN X0.here hx rfl (hb hby d4_5) rfl (l' := #[.val (.long q0), .second, .val (.int p1), .val (.long (q0 - (q0 / (32 : Int64)) * (32 : Int64))), .second]) rfl k9) ?_
  show Go _ _ _ _ (s₁.setTop (mkF m 6 #[.val (.long q0), .second, .val (.int p1), .val (.long (q0 - (q0 / (32 : Int64)) * (32 : Int64))), .second] []))
  refine Go.by (fun t9 k9 => XT.lloadN X0.here hx rfl (hb hby d4_6) rfl k9) ?_
  show Go _ _ _ _ (s₁.setTop (mkF m 7 #[.val (.long q0), .second, .val (.int p1), .val (.long (q0 - (q0 / (32 : Int64)) * (32 : Int64))), .second] [(.long (q0 - (q0 / (32 : Int64)) * (32 : Int64)))]))
  refine Go.by (fun t9 k9 => XS.iloadN X0.here hx rfl (hb hby d4_7) rfl k9) ?_
  show Go _ _ _ _ (s₁.setTop (mkF m 8 #[.val (.long q0), .second, .val (.int p1), .val (.long (q0 - (q0 / (32 : Int64)) * (32 : Int64))), .second] [(.int p1), (.long (q0 - (q0 / (32 : Int64)) * (32 : Int64)))]))
  refine Go.by (fun t9 k9 => XT.i2l X0.here hx rfl (hb hby d4_8) rfl k9) ?_
  show Go _ _ _ _ (s₁.setTop (mkF m 9 #[.val (.long q0), .second, .val (.int p1), .val (.long (q0 - (q0 / (32 : Int64)) * (32 : Int64))), .second] [(.long (p1.toInt64)), (.long (q0 - (q0 / (32 : Int64)) * (32 : Int64)))]))
  refine Go.by (fun t9 k9 => XT.ladd X0.here hx rfl (hb hby d4_9) rfl k9) ?_
  show Go _ _ _ _ (s₁.setTop (mkF m 10 #[.val (.long q0), .second, .val (.int p1), .val (.long (q0 - (q0 / (32 : Int64)) * (32 : Int64))), .second] [(.long ((q0 - (q0 / (32 : Int64)) * (32 : Int64)) + (p1.toInt64)))]))
  refine Go.by (fun t9 k9 => X0.ldc2J hx hown (mvT hZ (hw _ (List.mem_of_getElem? (i := 32) rfl))) rfl (hb hby d4_10) k9) ?_
  show Go _ _ _ _ (s₁.setTop (mkF m 13 #[.val (.long q0), .second, .val (.int p1), .val (.long (q0 - (q0 / (32 : Int64)) * (32 : Int64))), .second] [(.long (32 : Int64)), (.long ((q0 - (q0 / (32 : Int64)) * (32 : Int64)) + (p1.toInt64)))]))
  refine Go.by (fun t9 k9 => XT.lcmp X0.here hx rfl (hb hby d4_13) rfl k9) ?_
  show Go _ _ _ _ (s₁.setTop (mkF m 14 #[.val (.long q0), .second, .val (.int p1), .val (.long (q0 - (q0 / (32 : Int64)) * (32 : Int64))), .second] [(.int (XT.cmpL ((q0 - (q0 / (32 : Int64)) * (32 : Int64)) + (p1.toInt64)) (32 : Int64)))]))
  by_cases hc14 : (32 : Int64) < ((q0 - (q0 / (32 : Int64)) * (32 : Int64)) + (p1.toInt64))
  · have hv := hv.trans (if_pos hc14)
    refine Go.by (fun t9 k9 => XS.ifNo X0.here hx rfl (hb hby d4_14) rfl (XT.ll_le_f hc14) k9) ?_
    show Go _ _ _ _ (s₁.setTop (mkF m 17 #[.val (.long q0), .second, .val (.int p1), .val (.long (q0 - (q0 / (32 : Int64)) * (32 : Int64))), .second] []))
    refine Go.by (fun t9 k9 => XT.lloadN X0.here hx rfl (hb hby d4_17) rfl k9) ?_
    show Go _ _ _ _ (s₁.setTop (mkF m 18 #[.val (.long q0), .second, .val (.int p1), .val (.long (q0 - (q0 / (32 : Int64)) * (32 : Int64))), .second] [(.long q0)]))
    refine Go.by (fun t9 k9 => XT.lloadN X0.here hx rfl (hb hby d4_18) rfl k9) ?_
    show Go _ _ _ _ (s₁.setTop (mkF m 19 #[.val (.long q0), .second, .val (.int p1), .val (.long (q0 - (q0 / (32 : Int64)) * (32 : Int64))), .second] [(.long (q0 - (q0 / (32 : Int64)) * (32 : Int64))), (.long q0)]))
    refine Go.by (fun t9 k9 => XT.lsub X0.here hx rfl (hb hby d4_19) rfl k9) ?_
    show Go _ _ _ _ (s₁.setTop (mkF m 20 #[.val (.long q0), .second, .val (.int p1), .val (.long (q0 - (q0 / (32 : Int64)) * (32 : Int64))), .second] [(.long (q0 - (q0 - (q0 / (32 : Int64)) * (32 : Int64))))]))
    refine Go.by (fun t9 k9 => X0.ldc2J hx hown (mvT hZ (hw _ (List.mem_of_getElem? (i := 32) rfl))) rfl (hb hby d4_20) k9) ?_
    show Go _ _ _ _ (s₁.setTop (mkF m 23 #[.val (.long q0), .second, .val (.int p1), .val (.long (q0 - (q0 / (32 : Int64)) * (32 : Int64))), .second] [(.long (32 : Int64)), (.long (q0 - (q0 - (q0 / (32 : Int64)) * (32 : Int64))))]))
    refine Go.by (fun t9 k9 => XT.ladd X0.here hx rfl (hb hby d4_23) rfl k9) ?_
    show Go _ _ _ _ (s₁.setTop (mkF m 24 #[.val (.long q0), .second, .val (.int p1), .val (.long (q0 - (q0 / (32 : Int64)) * (32 : Int64))), .second] [(.long ((q0 - (q0 - (q0 / (32 : Int64)) * (32 : Int64))) + (32 : Int64)))]))
    refine Go.by (fun t9 k9 => XS.goto X0.here hx rfl (pc0 := 24) (pc' := 28) rfl (hb hby d4_24) (by decide) (by decide) k9) ?_
    show Go _ _ _ _ (s₁.setTop (mkF m 28 #[.val (.long q0), .second, .val (.int p1), .val (.long (q0 - (q0 / (32 : Int64)) * (32 : Int64))), .second] [(.long ((q0 - (q0 - (q0 / (32 : Int64)) * (32 : Int64))) + (32 : Int64)))]))
    exact Go.retJ (Q := Q4 q0 p1 h0 n0) X0 hx hlk Bd.returns (hb hby d4_28) ⟨by rw [hv], N0, e0⟩ (by decide) (by decide)
  · have hv := hv.trans (if_neg hc14)
    refine Go.by (fun t9 k9 => XS.ifYes X0.here hx rfl (pc0 := 14) (pc' := 27) rfl (hb hby d4_14) rfl (XT.ll_le_t hc14) (by decide) (by decide) k9) ?_
    show Go _ _ _ _ (s₁.setTop (mkF m 27 #[.val (.long q0), .second, .val (.int p1), .val (.long (q0 - (q0 / (32 : Int64)) * (32 : Int64))), .second] []))
    refine Go.by (fun t9 k9 => XT.lloadN X0.here hx rfl (hb hby d4_27) rfl k9) ?_
    show Go _ _ _ _ (s₁.setTop (mkF m 28 #[.val (.long q0), .second, .val (.int p1), .val (.long (q0 - (q0 / (32 : Int64)) * (32 : Int64))), .second] [(.long q0)]))
    exact Go.retJ (Q := Q4 q0 p1 h0 n0) X0 hx hlk Bd.returns (hb hby d4_28) ⟨by rw [hv], N0, e0⟩ (by decide) (by decide)
theorem d7_0 : decode jdk_65_method_30_code 0 = .ok (.iload_n 1, 1) := by decide +kernel
theorem d7_1 : decode jdk_65_method_30_code 1 = .ok (.iload_n 2, 1) := by decide +kernel
theorem d7_2 : decode jdk_65_method_30_code 2 = .ok (.if_icmp .le 44, 3) := by decide +kernel
theorem d7_46 : decode jdk_65_method_30_code 46 = .ok (.iload_n 1, 1) := by decide +kernel
theorem d7_47 : decode jdk_65_method_30_code 47 = .ok (.ifCond .ge 12, 3) := by decide +kernel
theorem d7_59 : decode jdk_65_method_30_code 59 = .ok (.iload_n 2, 1) := by decide +kernel
theorem d7_60 : decode jdk_65_method_30_code 60 = .ok (.iload_n 0, 1) := by decide +kernel
theorem d7_61 : decode jdk_65_method_30_code 61 = .ok (.if_icmp .le 12, 3) := by decide +kernel
theorem d7_73 : decode jdk_65_method_30_code 73 = .ok (.return_, 1) := by decide +kernel
theorem pn_7 : plainName "java/util/Arrays" = true := by first | (simp [plainName, overriddenIn]; done) | decide +kernel
theorem ef_7 (m : MethodId) (p0 : Int32) (p1 : Int32) (p2 : Int32) : entryFrame m #[(.int p0), (.int p1), (.int p2)] 3 = mkF m 0 #[.val (.int p0), .val (.int p1), .val (.int p2)] [] := by first | (simp [entryFrame, mkF, argsToLocals, Value.category]; done) | rfl
def Q7 (h0 : Heap) (n0 : Nat) (v : Option Value) (h : Heap) (L : List Loc) : Prop := v = none ∧ Fr n0 L ∧ h = h0
set_option maxRecDepth 65536 in
set_option maxHeartbeats 40000000 in
theorem rm7 (l : Launch) (Z : State) (a0 : Array Value) (hw : ∀ d ∈ tables_1, d.before a0 Z = true) (ws : List Jvm.Cond) (p0 : Int32) (p1 : Int32) (p2 : Int32)  (h0 : Heap) (n0 : Nat) (Z0 : n0 ≤ h0.size) (h1 : ¬ p2 < p1) (h2 : ¬ p1 < 0) (h3 : ¬ p0 < p2) :
    MetFree l (⟨"java/util/Arrays", "rangeCheck", "(III)V"⟩ : MethodName) (head1 (Jvm.Cond.code (⟨"java/util/Arrays", "rangeCheck", "(III)V"⟩ : MethodName) jdk_65_method_30_code 3 none :: ws) ({ frames := 0, cells := 0, slots := 0, locals := 0 } : Room)) (fun a U => a = #[(.int p0), (.int p1), (.int p2)] ∧ Z.Warmed39 U.vm ∧ U.heap = h0) (fun _ _ _ _ _ => True) (fun _ U o U' => ∃ v L, o = .returned v ∧ (Q7 h0 n0) v U'.heap L ∧ FrameEnd U o U' L ({ frames := 0, cells := 0, slots := 0, locals := 0 } : Room).cells ({ frames := 0, cells := 0, slots := 0, locals := 0 } : Room).slots) := by
  refine MetFree.of_bodySF (plainFor_of_name pn_7) hisR ?_
  intro p e s m args below meth c s₁ Bd hml0 hP hK
  obtain ⟨rfl, hZ, hh⟩ := hP
  have hx := Bd.exec
  have hby := Bd.bytes
  have hml : c.maxLocals = 3 := hml0
  have hown : s.vm.findClass "java/util/Arrays" = some m.cls := findClass_of_methodNamed Bd.named
  have hnm := (name_of_methodNamed Bd.named Bd.method).1
  have hlk : meth.locks = false := Bd.notSynchronized
  have X0 : Stand p l e ({ frames := 0, cells := 0, slots := 0, locals := 0 } : Room) s m #[(.int p0), (.int p1), (.int p2)] below meth c s₁ [] 0 0 := Stand.of_body Bd
  have e0 : s₁.heap = h0 := by rw [← hh, Bd.state]; rfl
  have N0 := Fr.nil n0
  refine Go.by (tb := p.tables) (e := e) (below := below) (F := fun t o => ∃ v L, o = .returned v ∧ (Q7 h0 n0) v t.heap L ∧ FrameEnd s o t L ({ frames := 0, cells := 0, slots := 0, locals := 0 } : Room).cells ({ frames := 0, cells := 0, slots := 0, locals := 0 } : Room).slots) (fun t k => castTop (ef_7 m p0 p1 p2) k) ?_
  show Go _ _ _ _ (s₁.setTop (mkF m 0 #[.val (.int p0), .val (.int p1), .val (.int p2)] []))
  refine Go.by (fun t9 k9 => XS.iloadN X0.here hx rfl (hb hby d7_0) rfl k9) ?_
  show Go _ _ _ _ (s₁.setTop (mkF m 1 #[.val (.int p0), .val (.int p1), .val (.int p2)] [(.int p1)]))
  refine Go.by (fun t9 k9 => XS.iloadN X0.here hx rfl (hb hby d7_1) rfl k9) ?_
  show Go _ _ _ _ (s₁.setTop (mkF m 2 #[.val (.int p0), .val (.int p1), .val (.int p2)] [(.int p2), (.int p1)]))
  refine Go.by (fun t9 k9 => XS.icmpYes X0.here hx rfl (pc0 := 2) (pc' := 46) rfl (hb hby d7_2) rfl (XT.ii_le_t h1) (by decide) (by decide) k9) ?_
  show Go _ _ _ _ (s₁.setTop (mkF m 46 #[.val (.int p0), .val (.int p1), .val (.int p2)] []))
  refine Go.by (fun t9 k9 => XS.iloadN X0.here hx rfl (hb hby d7_46) rfl k9) ?_
  show Go _ _ _ _ (s₁.setTop (mkF m 47 #[.val (.int p0), .val (.int p1), .val (.int p2)] [(.int p1)]))
  refine Go.by (fun t9 k9 => XS.ifYes X0.here hx rfl (pc0 := 47) (pc' := 59) rfl (hb hby d7_47) rfl (XT.i0_ge_t h2) (by decide) (by decide) k9) ?_
  show Go _ _ _ _ (s₁.setTop (mkF m 59 #[.val (.int p0), .val (.int p1), .val (.int p2)] []))
  refine Go.by (fun t9 k9 => XS.iloadN X0.here hx rfl (hb hby d7_59) rfl k9) ?_
  show Go _ _ _ _ (s₁.setTop (mkF m 60 #[.val (.int p0), .val (.int p1), .val (.int p2)] [(.int p2)]))
  refine Go.by (fun t9 k9 => XS.iloadN X0.here hx rfl (hb hby d7_60) rfl k9) ?_
  show Go _ _ _ _ (s₁.setTop (mkF m 61 #[.val (.int p0), .val (.int p1), .val (.int p2)] [(.int p0), (.int p2)]))
  refine Go.by (fun t9 k9 => XS.icmpYes X0.here hx rfl (pc0 := 61) (pc' := 73) rfl (hb hby d7_61) rfl (XT.ii_le_t h3) (by decide) (by decide) k9) ?_
  show Go _ _ _ _ (s₁.setTop (mkF m 73 #[.val (.int p0), .val (.int p1), .val (.int p2)] []))
  exact Go.retV (Q := Q7 h0 n0) X0 hx hlk Bd.returns (hb hby d7_73) ⟨rfl, N0, e0⟩ (by decide) (by decide)
theorem own_fill (g : Nat → Int32) {x : Int32} {lo j : Nat} (h : lo ≤ j) : ∀ i, i < 8 → (fun i => if lo ≤ i ∧ i < j + 1 then x else g i) i = (updI (fun i => if lo ≤ i ∧ i < j then x else g i) j x) i := fun i _ => by
  unfold updI
  by_cases q : i = j
  · subst q; simp [h]
  · have e : (lo ≤ i ∧ i < j + 1) ↔ (lo ≤ i ∧ i < j) := by omega
    simp only [q, if_false, e]
theorem own_fill0 (g : Nat → Int32) {x : Int32} {lo : Nat} : ∀ i, i < 8 → (fun i => if lo ≤ i ∧ i < lo then x else g i) i = g i := fun i _ => by
  have e : ¬ (lo ≤ i ∧ i < lo) := by omega
  simp only [e, if_false]
theorem own_nlt {v w : Int32} {i j : Nat} (h : v.toInt = i) (k : w.toInt = j) (q : i ≤ j) : ¬ w < v := by rw [Int32.lt_iff_toInt_lt]; omega
theorem own_nlt0 {v : Int32} {i : Nat} (h : v.toInt = i) : ¬ v < 0 := by rw [Int32.lt_iff_toInt_lt]; have z : (0 : Int32).toInt = 0 := rfl; omega
theorem own_addN {v w : Int32} {i j : Nat} (h : v.toInt = i) (k : w.toInt = j) (q : i + j < 100000) : (v + w).toInt = (i + j : Nat) := by
  have e1 := c_iadd v w
  have b1 := (v + w).le_toInt; have b2 := (v + w).toInt_lt
  omega
theorem d6_0 : decode jdk_65_method_104_code 0 = .ok (.aload_n 0, 1) := by decide +kernel
theorem d6_1 : decode jdk_65_method_104_code 1 = .ok (.arraylength, 1) := by decide +kernel
theorem d6_2 : decode jdk_65_method_104_code 2 = .ok (.iload_n 1, 1) := by decide +kernel
theorem d6_3 : decode jdk_65_method_104_code 3 = .ok (.iload_n 2, 1) := by decide +kernel
theorem d6_4 : decode jdk_65_method_104_code 4 = .ok (.invokestatic 13, 3) := by decide +kernel
theorem d6_7 : decode jdk_65_method_104_code 7 = .ok (.iload_n 1, 1) := by decide +kernel
theorem d6_8 : decode jdk_65_method_104_code 8 = .ok (.istore 4, 2) := by decide +kernel
theorem d6_10 : decode jdk_65_method_104_code 10 = .ok (.iload 4, 2) := by decide +kernel
theorem d6_12 : decode jdk_65_method_104_code 12 = .ok (.iload_n 2, 1) := by decide +kernel
theorem d6_13 : decode jdk_65_method_104_code 13 = .ok (.if_icmp .ge 14, 3) := by decide +kernel
theorem d6_16 : decode jdk_65_method_104_code 16 = .ok (.aload_n 0, 1) := by decide +kernel
theorem d6_17 : decode jdk_65_method_104_code 17 = .ok (.iload 4, 2) := by decide +kernel
theorem d6_19 : decode jdk_65_method_104_code 19 = .ok (.iload_n 3, 1) := by decide +kernel
theorem d6_20 : decode jdk_65_method_104_code 20 = .ok (.iastore, 1) := by decide +kernel
theorem d6_21 : decode jdk_65_method_104_code 21 = .ok (.iinc 4 1, 3) := by decide +kernel
theorem d6_24 : decode jdk_65_method_104_code 24 = .ok (.goto (-14), 3) := by decide +kernel
theorem d6_27 : decode jdk_65_method_104_code 27 = .ok (.return_, 1) := by decide +kernel
theorem pn_6 : plainName "java/util/Arrays" = true := by first | (simp [plainName, overriddenIn]; done) | decide +kernel
theorem ef_6 (m : MethodId) (o0 : Addr) (p1 : Int32) (p2 : Int32) (p3 : Int32) : entryFrame m #[(.ref o0), (.int p1), (.int p2), (.int p3)] 5 = mkF m 0 #[.val (.ref o0), .val (.int p1), .val (.int p2), .val (.int p3), .unset] [] := by first | (simp [entryFrame, mkF, argsToLocals, Value.category]; done) | rfl
def Q6 (Z : State) (o0 : Addr) (g : Nat → Int32) (lo hi : Nat) (p3 : Int32) (h0 : Heap) (n0 : Nat) (v : Option Value) (h : Heap) (L : List Loc) : Prop := v = none ∧ Fr n0 L ∧ Keep h0 h [o0] ∧ IV Z h o0 8 (fun i => if lo ≤ i ∧ i < hi then p3 else g i)
set_option maxRecDepth 65536 in
set_option maxHeartbeats 40000000 in
theorem rm6 (l : Launch) (Z : State) (a0 : Array Value) (hw : ∀ d ∈ tables_1, d.before a0 Z = true) (ws : List Jvm.Cond) (o0 : Addr) (p1 : Int32) (p2 : Int32) (p3 : Int32) (g : Nat → Int32) (lo hi : Nat) (h0 : Heap) (n0 : Nat) (Z0 : n0 ≤ h0.size) (A : IV Z h0 o0 8 g) (h1 : p1.toInt = lo) (h2 : p2.toInt = hi) (hlo : lo ≤ hi) (hhi : hi ≤ 8) (ga : n0 ≤ o0) :
    MetFree l (⟨"java/util/Arrays", "fill", "([IIII)V"⟩ : MethodName) (head1 (Jvm.Cond.code (⟨"java/util/Arrays", "fill", "([IIII)V"⟩ : MethodName) jdk_65_method_104_code 5 none :: ws) ({ frames := 1, cells := 0, slots := 0, locals := 14 } : Room)) (fun a U => a = #[(.ref o0), (.int p1), (.int p2), (.int p3)] ∧ Z.Warmed39 U.vm ∧ U.heap = h0) (fun _ _ _ _ _ => True) (fun _ U o U' => ∃ v L, o = .returned v ∧ (Q6 Z o0 g lo hi p3 h0 n0) v U'.heap L ∧ FrameEnd U o U' L ({ frames := 1, cells := 0, slots := 0, locals := 14 } : Room).cells ({ frames := 1, cells := 0, slots := 0, locals := 14 } : Room).slots) := by
  refine MetFree.of_bodySF (plainFor_of_name pn_6) hisR ?_
  intro p e s m args below meth c s₁ Bd hml0 hP hK
  obtain ⟨rfl, hZ, hh⟩ := hP
  have hx := Bd.exec
  have hby := Bd.bytes
  have hml : c.maxLocals = 5 := hml0
  have hown : s.vm.findClass "java/util/Arrays" = some m.cls := findClass_of_methodNamed Bd.named
  have hnm := (name_of_methodNamed Bd.named Bd.method).1
  have hlk : meth.locks = false := Bd.notSynchronized
  have X0 : Stand p l e ({ frames := 1, cells := 0, slots := 0, locals := 14 } : Room) s m #[(.ref o0), (.int p1), (.int p2), (.int p3)] below meth c s₁ [] 0 0 := Stand.of_body Bd
  have e0 : s₁.heap = h0 := by rw [← hh, Bd.state]; rfl
  have N0 := Fr.nil n0
  refine Go.by (tb := p.tables) (e := e) (below := below) (F := fun t o => ∃ v L, o = .returned v ∧ (Q6 Z o0 g lo hi p3 h0 n0) v t.heap L ∧ FrameEnd s o t L ({ frames := 1, cells := 0, slots := 0, locals := 14 } : Room).cells ({ frames := 1, cells := 0, slots := 0, locals := 14 } : Room).slots) (fun t k => castTop (ef_6 m o0 p1 p2 p3) k) ?_
  have J10 : ∀ (f : Nat) (T : State) (locs : List Loc) (h : Heap) (X : Stand p l e ({ frames := 1, cells := 0, slots := 0, locals := 14 } : Room) s m #[(.ref o0), (.int p1), (.int p2), (.int p3)] below meth c T locs 0 0) (eT : T.heap = h) (N : Fr n0 locs) (K : Keep h0 h [o0]) (v4 : Int32) (j : Nat) (hv4 : v4.toInt = j) (hj1 : lo ≤ j) (hj2 : j ≤ hi) (hf : hi ≤ j + f) (A' : IV Z h o0 8 (fun i => if lo ≤ i ∧ i < j then p3 else g i)), Go p.tables e below (fun t o => ∃ v L, o = .returned v ∧ (Q6 Z o0 g lo hi p3 h0 n0) v t.heap L ∧ FrameEnd s o t L ({ frames := 1, cells := 0, slots := 0, locals := 14 } : Room).cells ({ frames := 1, cells := 0, slots := 0, locals := 14 } : Room).slots) (T.setTop (mkF m 10 #[.val (.ref o0), .val (.int p1), .val (.int p2), .val (.int p3), .val (.int v4)] [])) := by
    intro f
    induction f with
    | zero =>
      intro T locs h X eT N K v4 j hv4 hj1 hj2 hf A'
      show Go _ _ _ _ (T.setTop (mkF m 10 #[.val (.ref o0), .val (.int p1), .val (.int p2), .val (.int p3), .val (.int v4)] []))
      refine Go.by (fun t9 k9 => XS.iload X.here hx rfl (hb hby d6_10) rfl k9) ?_
      show Go _ _ _ _ (T.setTop (mkF m 12 #[.val (.ref o0), .val (.int p1), .val (.int p2), .val (.int p3), .val (.int v4)] [(.int v4)]))
      refine Go.by (fun t9 k9 => XS.iloadN X.here hx rfl (hb hby d6_12) rfl k9) ?_
      show Go _ _ _ _ (T.setTop (mkF m 13 #[.val (.ref o0), .val (.int p1), .val (.int p2), .val (.int p3), .val (.int v4)] [(.int p2), (.int v4)]))
      refine Go.by (fun t9 k9 => XS.icmpYes X.here hx rfl (pc0 := 13) (pc' := 27) rfl (hb hby d6_13) rfl (XT.ii_ge_t (fun q => by have := (own_ltN hv4 h2).mp q; omega)) (by decide) (by decide) k9) ?_
      show Go _ _ _ _ (T.setTop (mkF m 27 #[.val (.ref o0), .val (.int p1), .val (.int p2), .val (.int p3), .val (.int v4)] []))
      have ej : j = hi := by omega
      subst ej
      exact Go.retV (Q := Q6 Z o0 g lo j p3 h0 n0) X hx hlk Bd.returns (hb hby d6_27) (by rw [eT]; exact ⟨rfl, N, K, A'⟩) (by decide) (by decide)
    | succ f ih =>
      intro T locs h X eT N K v4 j hv4 hj1 hj2 hf A'
      show Go _ _ _ _ (T.setTop (mkF m 10 #[.val (.ref o0), .val (.int p1), .val (.int p2), .val (.int p3), .val (.int v4)] []))
      refine Go.by (fun t9 k9 => XS.iload X.here hx rfl (hb hby d6_10) rfl k9) ?_
      show Go _ _ _ _ (T.setTop (mkF m 12 #[.val (.ref o0), .val (.int p1), .val (.int p2), .val (.int p3), .val (.int v4)] [(.int v4)]))
      refine Go.by (fun t9 k9 => XS.iloadN X.here hx rfl (hb hby d6_12) rfl k9) ?_
      show Go _ _ _ _ (T.setTop (mkF m 13 #[.val (.ref o0), .val (.int p1), .val (.int p2), .val (.int p3), .val (.int v4)] [(.int p2), (.int v4)]))
      by_cases hc13 : v4 < p2
      · have hjh := (own_ltN hv4 h2).mp hc13
        refine Go.by (fun t9 k9 => XS.icmpNo X.here hx rfl (hb hby d6_13) rfl (XT.ii_ge_f hc13) k9) ?_
        show Go _ _ _ _ (T.setTop (mkF m 16 #[.val (.ref o0), .val (.int p1), .val (.int p2), .val (.int p3), .val (.int v4)] []))
        refine Go.by (fun t9 k9 => XS.aloadN X.here hx rfl (hb hby d6_16) rfl rfl k9) ?_
        show Go _ _ _ _ (T.setTop (mkF m 17 #[.val (.ref o0), .val (.int p1), .val (.int p2), .val (.int p3), .val (.int v4)] [(.ref o0)]))
        refine Go.by (fun t9 k9 => XS.iload X.here hx rfl (hb hby d6_17) rfl k9) ?_
        show Go _ _ _ _ (T.setTop (mkF m 19 #[.val (.ref o0), .val (.int p1), .val (.int p2), .val (.int p3), .val (.int v4)] [(.int v4), (.ref o0)]))
        refine Go.by (fun t9 k9 => XS.iloadN X.here hx rfl (hb hby d6_19) rfl k9) ?_
        show Go _ _ _ _ (T.setTop (mkF m 20 #[.val (.ref o0), .val (.int p1), .val (.int p2), .val (.int p3), .val (.int v4)] [(.int p3), (.int v4), (.ref o0)]))
        refine Go.stIV X hx hZ eT A' N ga (i := j) hv4 (by omega) rfl rfl (hb hby d6_20) fun T1 h1 lc1 X1 e1 N1 W1 => ?_
        have K1 : Keep h0 h1 [o0] := K.wr W1 (Or.inl (List.mem_cons_self ..))
        have A1 := A'.st W1
        show Go _ _ _ _ (T1.setTop (mkF m 21 #[.val (.ref o0), .val (.int p1), .val (.int p2), .val (.int p3), .val (.int v4)] []))
        refine Go.by (fun t9 k9 => XS.iinc X1.here hx rfl (hb hby d6_21) rfl (l' := #[.val (.ref o0), .val (.int p1), .val (.int p2), .val (.int p3), .val (.int (v4 + (1 : Int32)))]) rfl k9) ?_
        show Go _ _ _ _ (T1.setTop (mkF m 24 #[.val (.ref o0), .val (.int p1), .val (.int p2), .val (.int p3), .val (.int (v4 + (1 : Int32)))] []))
        refine Go.by (fun t9 k9 => XS.goto X1.here hx rfl (pc0 := 24) (pc' := 10) rfl (hb hby d6_24) (by decide) (by decide) k9) ?_
        exact ih T1 _ _ X1 e1 N1 K1 _ (j + 1) (own_inc hv4 (by omega)) (by omega) (by omega) (by omega) (A1.congr (own_fill g hj1))
      · have hjh : ¬ (j < hi) := fun q => hc13 ((own_ltN hv4 h2).mpr q)
        refine Go.by (fun t9 k9 => XS.icmpYes X.here hx rfl (pc0 := 13) (pc' := 27) rfl (hb hby d6_13) rfl (XT.ii_ge_t hc13) (by decide) (by decide) k9) ?_
        show Go _ _ _ _ (T.setTop (mkF m 27 #[.val (.ref o0), .val (.int p1), .val (.int p2), .val (.int p3), .val (.int v4)] []))
        have ej : j = hi := by omega
        subst ej
        exact Go.retV (Q := Q6 Z o0 g lo j p3 h0 n0) X hx hlk Bd.returns (hb hby d6_27) (by rw [eT]; exact ⟨rfl, N, K, A'⟩) (by decide) (by decide)
  show Go _ _ _ _ (s₁.setTop (mkF m 0 #[.val (.ref o0), .val (.int p1), .val (.int p2), .val (.int p3), .unset] []))
  refine Go.by (fun t9 k9 => XS.aloadN X0.here hx rfl (hb hby d6_0) rfl rfl k9) ?_
  show Go _ _ _ _ (s₁.setTop (mkF m 1 #[.val (.ref o0), .val (.int p1), .val (.int p2), .val (.int p3), .unset] [(.ref o0)]))
  refine Go.lenIV X0 hx hZ e0 A (z := (8 : Int32)) rfl rfl rfl (hb hby d6_1) ?_
  show Go _ _ _ _ (s₁.setTop (mkF m 2 #[.val (.ref o0), .val (.int p1), .val (.int p2), .val (.int p3), .unset] [(.int (8 : Int32))]))
  refine Go.by (fun t9 k9 => XS.iloadN X0.here hx rfl (hb hby d6_2) rfl k9) ?_
  show Go _ _ _ _ (s₁.setTop (mkF m 3 #[.val (.ref o0), .val (.int p1), .val (.int p2), .val (.int p3), .unset] [(.int p1), (.int (8 : Int32))]))
  refine Go.by (fun t9 k9 => XS.iloadN X0.here hx rfl (hb hby d6_3) rfl k9) ?_
  show Go _ _ _ _ (s₁.setTop (mkF m 4 #[.val (.ref o0), .val (.int p1), .val (.int p2), .val (.int p3), .unset] [(.int p2), (.int p1), (.int (8 : Int32))]))
  obtain ⟨_, _, ⟨T2, L2, k2, n2⟩, -, X2, ⟨Lc2, hQ2, l2, y2, z2⟩, st2⟩ := Jvm.LawKit.callS X0 hx (y := (⟨"java/util/Arrays", "rangeCheck", "(III)V"⟩ : MethodName)) hown (mvT hZ (hw _ (List.mem_of_getElem? (i := 49) rfl))) (mvT hZ (hw _ (List.mem_of_getElem? (i := 50) rfl))) (mvT hZ (hw _ (List.mem_of_getElem? (i := 14) rfl))) (mvT hZ (hw _ (List.mem_of_getElem? (i := 51) rfl))) (by decide) (backOf (W := 0) (rm7 l Z a0 hw [] (8 : Int32) p1 p2 h0 n0 Z0 (own_nlt h1 h2 (by omega)) (own_nlt0 h1) (own_nlt h2 (rfl : (8 : Int32).toInt = ((8 : Nat) : Int)) hhi)) hZ (hw _ (List.mem_of_getElem? (i := 51) rfl)) (hw _ (List.mem_of_getElem? (i := 14) rfl)) (by decide) (by decide)) (g := (mkF m 4 #[.val (.ref o0), .val (.int p1), .val (.int p2), .val (.int p3), .unset] [(.int p2), (.int p1), (.int (8 : Int32))])) rfl (by rw [hml]; rfl) (argsL := [(.int (8 : Int32)), (.int p1), (.int p2)]) (rest := []) (lenOf pd0 rfl) rfl (by show 2 * 0 + _ ≤ _; exact Nat.le_of_eq rfl) (hb hby d6_4) (fun _ _ => ⟨rfl, e0, (by decide : 0 + 0 ≤ _), (by decide : 0 + 0 ≤ _)⟩)
  dsimp only [Pt.U, Pt.locs, Pt.cells, Pt.slots] at X2 l2 y2 z2 st2 hQ2
  subst l2 y2 z2
  obtain ⟨rfl, Nq2, eq2⟩ := hQ2
  have N2 := Fr.app N0 Nq2
  refine Go.by st2 ?_
  show Go _ _ _ _ (T2.setTop (mkF m 7 #[.val (.ref o0), .val (.int p1), .val (.int p2), .val (.int p3), .unset] []))
  refine Go.by (fun t9 k9 => XS.iloadN X2.here hx rfl (hb hby d6_7) rfl k9) ?_
  show Go _ _ _ _ (T2.setTop (mkF m 8 #[.val (.ref o0), .val (.int p1), .val (.int p2), .val (.int p3), .unset] [(.int p1)]))
  refine Go.by (fun t9 k9 => XS.istore X2.here hx rfl (hb hby d6_8) rfl (l' := #[.val (.ref o0), .val (.int p1), .val (.int p2), .val (.int p3), .val (.int p1)]) rfl k9) ?_
  exact J10 (hi - lo) T2 _ _ X2 eq2 N2 (Keep.refl h0 [o0]) _ lo h1 (Nat.le_refl _) hlo (by omega) (A.congr (own_fill0 g))
theorem d8_0 : decode prog_75_method_23_code 0 = .ok (.aload_n 1, 1) := by decide +kernel
theorem d8_1 : decode prog_75_method_23_code 1 = .ok (.iload_n 2, 1) := by decide +kernel
theorem d8_2 : decode prog_75_method_23_code 2 = .ok (.aload_n 0, 1) := by decide +kernel
theorem d8_3 : decode prog_75_method_23_code 3 = .ok (.getfield 35, 3) := by decide +kernel
theorem d8_6 : decode prog_75_method_23_code 6 = .ok (.iadd, 1) := by decide +kernel
theorem d8_7 : decode prog_75_method_23_code 7 = .ok (.iload_n 2, 1) := by decide +kernel
theorem d8_8 : decode prog_75_method_23_code 8 = .ok (.aload_n 0, 1) := by decide +kernel
theorem d8_9 : decode prog_75_method_23_code 9 = .ok (.getfield 41, 3) := by decide +kernel
theorem d8_12 : decode prog_75_method_23_code 12 = .ok (.iadd, 1) := by decide +kernel
theorem d8_13 : decode prog_75_method_23_code 13 = .ok (.iconst (-1), 1) := by decide +kernel
theorem d8_14 : decode prog_75_method_23_code 14 = .ok (.invokestatic 90, 3) := by decide +kernel
theorem d8_17 : decode prog_75_method_23_code 17 = .ok (.return_, 1) := by decide +kernel
theorem pn_8 : plainName "com/example/isolens/isolens/checker/RowLayout" = true := by first | (simp [plainName, overriddenIn]; done) | decide +kernel
theorem ef_8 (m : MethodId) (o0 : Addr) (o1 : Addr) (p2 : Int32) : entryFrame m #[(.ref o0), (.ref o1), (.int p2)] 3 = mkF m 0 #[.val (.ref o0), .val (.ref o1), .val (.int p2)] [] := by first | (simp [entryFrame, mkF, argsToLocals, Value.category]; done) | rfl
def Q8 (Z : State) (o1 : Addr) (g : Nat → Int32) (r bi ri : Nat) (h0 : Heap) (n0 : Nat) (v : Option Value) (h : Heap) (L : List Loc) : Prop := v = none ∧ Fr n0 L ∧ Keep h0 h [o1] ∧ IV Z h o1 8 (fun i => if r + bi ≤ i ∧ i < r + ri then (-1 : Int32) else g i)
set_option maxRecDepth 65536 in
set_option maxHeartbeats 40000000 in
theorem rm8 (l : Launch) (Z : State) (a0 : Array Value) (hw : ∀ d ∈ tables_1, d.before a0 Z = true) (ws : List Jvm.Cond) (o0 : Addr) (o1 : Addr) (p2 : Int32) (bp ba : Addr) (P A : Nat → Int32) (BI RI : Int32) (g : Nat → Int32) (r bi ri : Nat) (h0 : Heap) (n0 : Nat) (Z0 : n0 ≤ h0.size) (H : RL Z h0 o0 bp ba P A BI RI) (G : IV Z h0 o1 8 g) (hr : p2.toInt = r) (hbi : BI.toInt = bi) (hri : RI.toInt = ri) (h1 : bi ≤ ri) (h2 : r + ri ≤ 8) (g1 : n0 ≤ o1) :
    MetFree l (⟨"com/example/isolens/isolens/checker/RowLayout", "clearZeroed", "([II)V"⟩ : MethodName) (head1 (Jvm.Cond.code (⟨"com/example/isolens/isolens/checker/RowLayout", "clearZeroed", "([II)V"⟩ : MethodName) prog_75_method_23_code 3 none :: ws) ({ frames := 2, cells := 0, slots := 0, locals := 30 } : Room)) (fun a U => a = #[(.ref o0), (.ref o1), (.int p2)] ∧ Z.Warmed39 U.vm ∧ U.heap = h0) (fun _ _ _ _ _ => True) (fun _ U o U' => ∃ v L, o = .returned v ∧ (Q8 Z o1 g r bi ri h0 n0) v U'.heap L ∧ FrameEnd U o U' L ({ frames := 2, cells := 0, slots := 0, locals := 30 } : Room).cells ({ frames := 2, cells := 0, slots := 0, locals := 30 } : Room).slots) := by
  refine MetFree.of_bodySF (plainFor_of_name pn_8) hisR ?_
  intro p e s m args below meth c s₁ Bd hml0 hP hK
  obtain ⟨rfl, hZ, hh⟩ := hP
  have hx := Bd.exec
  have hby := Bd.bytes
  have hml : c.maxLocals = 3 := hml0
  have hown : s.vm.findClass "com/example/isolens/isolens/checker/RowLayout" = some m.cls := findClass_of_methodNamed Bd.named
  have hnm := (name_of_methodNamed Bd.named Bd.method).1
  have hlk : meth.locks = false := Bd.notSynchronized
  have X0 : Stand p l e ({ frames := 2, cells := 0, slots := 0, locals := 30 } : Room) s m #[(.ref o0), (.ref o1), (.int p2)] below meth c s₁ [] 0 0 := Stand.of_body Bd
  have e0 : s₁.heap = h0 := by rw [← hh, Bd.state]; rfl
  have N0 := Fr.nil n0
  refine Go.by (tb := p.tables) (e := e) (below := below) (F := fun t o => ∃ v L, o = .returned v ∧ (Q8 Z o1 g r bi ri h0 n0) v t.heap L ∧ FrameEnd s o t L ({ frames := 2, cells := 0, slots := 0, locals := 30 } : Room).cells ({ frames := 2, cells := 0, slots := 0, locals := 30 } : Room).slots) (fun t k => castTop (ef_8 m o0 o1 p2) k) ?_
  show Go _ _ _ _ (s₁.setTop (mkF m 0 #[.val (.ref o0), .val (.ref o1), .val (.int p2)] []))
  refine Go.by (fun t9 k9 => XS.aloadN X0.here hx rfl (hb hby d8_0) rfl rfl k9) ?_
  show Go _ _ _ _ (s₁.setTop (mkF m 1 #[.val (.ref o0), .val (.ref o1), .val (.int p2)] [(.ref o1)]))
  refine Go.by (fun t9 k9 => XS.iloadN X0.here hx rfl (hb hby d8_1) rfl k9) ?_
  show Go _ _ _ _ (s₁.setTop (mkF m 2 #[.val (.ref o0), .val (.ref o1), .val (.int p2)] [(.int p2), (.ref o1)]))
  refine Go.by (fun t9 k9 => XS.aloadN X0.here hx rfl (hb hby d8_2) rfl rfl k9) ?_
  show Go _ _ _ _ (s₁.setTop (mkF m 3 #[.val (.ref o0), .val (.ref o1), .val (.int p2)] [(.ref o0), (.int p2), (.ref o1)]))
  refine Go.gf X0 hx hZ hown (hw _ (List.mem_of_getElem? (i := 35) rfl)) e0 H.2.2.2.1 rfl rfl (hb hby d8_3) fun T1 X1 e1 => ?_
  show Go _ _ _ _ (T1.setTop (mkF m 6 #[.val (.ref o0), .val (.ref o1), .val (.int p2)] [(.int BI), (.int p2), (.ref o1)]))
  refine Go.by (fun t9 k9 => XS.iadd X1.here hx rfl (hb hby d8_6) rfl k9) ?_
  show Go _ _ _ _ (T1.setTop (mkF m 7 #[.val (.ref o0), .val (.ref o1), .val (.int p2)] [(.int (p2 + BI)), (.ref o1)]))
  refine Go.by (fun t9 k9 => XS.iloadN X1.here hx rfl (hb hby d8_7) rfl k9) ?_
  show Go _ _ _ _ (T1.setTop (mkF m 8 #[.val (.ref o0), .val (.ref o1), .val (.int p2)] [(.int p2), (.int (p2 + BI)), (.ref o1)]))
  refine Go.by (fun t9 k9 => XS.aloadN X1.here hx rfl (hb hby d8_8) rfl rfl k9) ?_
  show Go _ _ _ _ (T1.setTop (mkF m 9 #[.val (.ref o0), .val (.ref o1), .val (.int p2)] [(.ref o0), (.int p2), (.int (p2 + BI)), (.ref o1)]))
  refine Go.gf X1 hx hZ hown (hw _ (List.mem_of_getElem? (i := 39) rfl)) e1 H.2.2.2.2.1 rfl rfl (hb hby d8_9) fun T2 X2 e2 => ?_
  show Go _ _ _ _ (T2.setTop (mkF m 12 #[.val (.ref o0), .val (.ref o1), .val (.int p2)] [(.int RI), (.int p2), (.int (p2 + BI)), (.ref o1)]))
  refine Go.by (fun t9 k9 => XS.iadd X2.here hx rfl (hb hby d8_12) rfl k9) ?_
  show Go _ _ _ _ (T2.setTop (mkF m 13 #[.val (.ref o0), .val (.ref o1), .val (.int p2)] [(.int (p2 + RI)), (.int (p2 + BI)), (.ref o1)]))
  refine Go.by (fun t9 k9 => XS.iconst X2.here hx rfl (hb hby d8_13) k9) ?_
  show Go _ _ _ _ (T2.setTop (mkF m 14 #[.val (.ref o0), .val (.ref o1), .val (.int p2)] [(.int (-1 : Int32)), (.int (p2 + RI)), (.int (p2 + BI)), (.ref o1)]))
  obtain ⟨_, _, ⟨T3, L3, k3, n3⟩, -, X3, ⟨Lc3, hQ3, l3, y3, z3⟩, st3⟩ := Jvm.LawKit.callS X2 hx (y := (⟨"java/util/Arrays", "fill", "([IIII)V"⟩ : MethodName)) hown (mvT hZ (hw _ (List.mem_of_getElem? (i := 46) rfl))) (mvT hZ (hw _ (List.mem_of_getElem? (i := 47) rfl))) (mvT hZ (hw _ (List.mem_of_getElem? (i := 14) rfl))) (mvT hZ (hw _ (List.mem_of_getElem? (i := 48) rfl))) (by decide) (backOf (W := 0) (rm6 l Z a0 hw [] o1 (p2 + BI) (p2 + RI) (-1 : Int32) g (r + bi) (r + ri) h0 n0 Z0 G (own_addN hr hbi (by omega)) (own_addN hr hri (by omega)) (by omega) (by omega) g1) hZ (hw _ (List.mem_of_getElem? (i := 48) rfl)) (hw _ (List.mem_of_getElem? (i := 14) rfl)) (by decide) (by decide)) (g := (mkF m 14 #[.val (.ref o0), .val (.ref o1), .val (.int p2)] [(.int (-1 : Int32)), (.int (p2 + RI)), (.int (p2 + BI)), (.ref o1)])) rfl (by rw [hml]; rfl) (argsL := [(.ref o1), (.int (p2 + BI)), (.int (p2 + RI)), (.int (-1 : Int32))]) (rest := []) (lenOf pd1 rfl) rfl (by show 2 * 0 + _ ≤ _; exact Nat.le_of_eq rfl) (hb hby d8_14) (fun _ _ => ⟨rfl, e2, (by decide : 0 + 0 ≤ _), (by decide : 0 + 0 ≤ _)⟩)
  dsimp only [Pt.U, Pt.locs, Pt.cells, Pt.slots] at X3 l3 y3 z3 st3 hQ3
  subst l3 y3 z3
  obtain ⟨rfl, Nq3, K3, A3⟩ := hQ3
  have N3 := Fr.app N0 Nq3
  refine Go.by st3 ?_
  show Go _ _ _ _ (T3.setTop (mkF m 17 #[.val (.ref o0), .val (.ref o1), .val (.int p2)] []))
  exact Go.retV (Q := Q8 Z o1 g r bi ri h0 n0) X3 hx hlk Bd.returns (hb hby d8_17) ⟨rfl, N3, K3, A3⟩ (by decide) (by decide)
theorem d5_0 : decode prog_75_method_22_code 0 = .ok (.aload_n 1, 1) := by decide +kernel
theorem d5_1 : decode prog_75_method_22_code 1 = .ok (.iload_n 2, 1) := by decide +kernel
theorem d5_2 : decode prog_75_method_22_code 2 = .ok (.iload_n 2, 1) := by decide +kernel
theorem d5_3 : decode prog_75_method_22_code 3 = .ok (.aload_n 0, 1) := by decide +kernel
theorem d5_4 : decode prog_75_method_22_code 4 = .ok (.getfield 35, 3) := by decide +kernel
theorem d5_7 : decode prog_75_method_22_code 7 = .ok (.iadd, 1) := by decide +kernel
theorem d5_8 : decode prog_75_method_22_code 8 = .ok (.iconst 0, 1) := by decide +kernel
theorem d5_9 : decode prog_75_method_22_code 9 = .ok (.invokestatic 90, 3) := by decide +kernel
theorem d5_12 : decode prog_75_method_22_code 12 = .ok (.aload_n 0, 1) := by decide +kernel
theorem d5_13 : decode prog_75_method_22_code 13 = .ok (.aload_n 1, 1) := by decide +kernel
theorem d5_14 : decode prog_75_method_22_code 14 = .ok (.iload_n 2, 1) := by decide +kernel
theorem d5_15 : decode prog_75_method_22_code 15 = .ok (.invokevirtual 93, 3) := by decide +kernel
theorem d5_18 : decode prog_75_method_22_code 18 = .ok (.return_, 1) := by decide +kernel
theorem pn_5 : plainName "com/example/isolens/isolens/checker/RowLayout" = true := by first | (simp [plainName, overriddenIn]; done) | decide +kernel
theorem ef_5 (m : MethodId) (o0 : Addr) (o1 : Addr) (p2 : Int32) : entryFrame m #[(.ref o0), (.ref o1), (.int p2)] 3 = mkF m 0 #[.val (.ref o0), .val (.ref o1), .val (.int p2)] [] := by first | (simp [entryFrame, mkF, argsToLocals, Value.category]; done) | rfl
def Q5 (Z : State) (o1 : Addr) (g : Nat → Int32) (r bi ri : Nat) (h0 : Heap) (n0 : Nat) (v : Option Value) (h : Heap) (L : List Loc) : Prop := v = none ∧ Fr n0 L ∧ Keep h0 h [o1] ∧ IV Z h o1 8 (fun i => if r + bi ≤ i ∧ i < r + ri then (-1 : Int32) else (fun i => if r ≤ i ∧ i < r + bi then (0 : Int32) else g i) i)
set_option maxRecDepth 65536 in
set_option maxHeartbeats 40000000 in
theorem rm5 (l : Launch) (Z : State) (a0 : Array Value) (hw : ∀ d ∈ tables_1, d.before a0 Z = true) (ws : List Jvm.Cond) (o0 : Addr) (o1 : Addr) (p2 : Int32) (bp ba : Addr) (P A : Nat → Int32) (BI RI : Int32) (g : Nat → Int32) (r bi ri : Nat) (h0 : Heap) (n0 : Nat) (Z0 : n0 ≤ h0.size) (H : RL Z h0 o0 bp ba P A BI RI) (G : IV Z h0 o1 8 g) (hr : p2.toInt = r) (hbi : BI.toInt = bi) (hri : RI.toInt = ri) (h1 : bi ≤ ri) (h2 : r + ri ≤ 8) (g1 : n0 ≤ o1) (n1 : o0 ≠ o1) (n2 : bp ≠ o1) (n3 : ba ≠ o1) :
    MetFree l (⟨"com/example/isolens/isolens/checker/RowLayout", "clear", "([II)V"⟩ : MethodName) (head1 (Jvm.Cond.code (⟨"com/example/isolens/isolens/checker/RowLayout", "clear", "([II)V"⟩ : MethodName) prog_75_method_22_code 3 none :: ws) ({ frames := 3, cells := 0, slots := 0, locals := 44 } : Room)) (fun a U => a = #[(.ref o0), (.ref o1), (.int p2)] ∧ Z.Warmed39 U.vm ∧ U.heap = h0) (fun _ _ _ _ _ => True) (fun _ U o U' => ∃ v L, o = .returned v ∧ (Q5 Z o1 g r bi ri h0 n0) v U'.heap L ∧ FrameEnd U o U' L ({ frames := 3, cells := 0, slots := 0, locals := 44 } : Room).cells ({ frames := 3, cells := 0, slots := 0, locals := 44 } : Room).slots) := by
  refine MetFree.of_bodySF (plainFor_of_name pn_5) hisR ?_
  intro p e s m args below meth c s₁ Bd hml0 hP hK
  obtain ⟨rfl, hZ, hh⟩ := hP
  have hx := Bd.exec
  have hby := Bd.bytes
  have hml : c.maxLocals = 3 := hml0
  have hown : s.vm.findClass "com/example/isolens/isolens/checker/RowLayout" = some m.cls := findClass_of_methodNamed Bd.named
  have hnm := (name_of_methodNamed Bd.named Bd.method).1
  have hlk : meth.locks = false := Bd.notSynchronized
  have X0 : Stand p l e ({ frames := 3, cells := 0, slots := 0, locals := 44 } : Room) s m #[(.ref o0), (.ref o1), (.int p2)] below meth c s₁ [] 0 0 := Stand.of_body Bd
  have e0 : s₁.heap = h0 := by rw [← hh, Bd.state]; rfl
  have N0 := Fr.nil n0
  refine Go.by (tb := p.tables) (e := e) (below := below) (F := fun t o => ∃ v L, o = .returned v ∧ (Q5 Z o1 g r bi ri h0 n0) v t.heap L ∧ FrameEnd s o t L ({ frames := 3, cells := 0, slots := 0, locals := 44 } : Room).cells ({ frames := 3, cells := 0, slots := 0, locals := 44 } : Room).slots) (fun t k => castTop (ef_5 m o0 o1 p2) k) ?_
  show Go _ _ _ _ (s₁.setTop (mkF m 0 #[.val (.ref o0), .val (.ref o1), .val (.int p2)] []))
  refine Go.by (fun t9 k9 => XS.aloadN X0.here hx rfl (hb hby d5_0) rfl rfl k9) ?_
  show Go _ _ _ _ (s₁.setTop (mkF m 1 #[.val (.ref o0), .val (.ref o1), .val (.int p2)] [(.ref o1)]))
  refine Go.by (fun t9 k9 => XS.iloadN X0.here hx rfl (hb hby d5_1) rfl k9) ?_
  show Go _ _ _ _ (s₁.setTop (mkF m 2 #[.val (.ref o0), .val (.ref o1), .val (.int p2)] [(.int p2), (.ref o1)]))
  refine Go.by (fun t9 k9 => XS.iloadN X0.here hx rfl (hb hby d5_2) rfl k9) ?_
  show Go _ _ _ _ (s₁.setTop (mkF m 3 #[.val (.ref o0), .val (.ref o1), .val (.int p2)] [(.int p2), (.int p2), (.ref o1)]))
  refine Go.by (fun t9 k9 => XS.aloadN X0.here hx rfl (hb hby d5_3) rfl rfl k9) ?_
  show Go _ _ _ _ (s₁.setTop (mkF m 4 #[.val (.ref o0), .val (.ref o1), .val (.int p2)] [(.ref o0), (.int p2), (.int p2), (.ref o1)]))
  refine Go.gf X0 hx hZ hown (hw _ (List.mem_of_getElem? (i := 35) rfl)) e0 H.2.2.2.1 rfl rfl (hb hby d5_4) fun T1 X1 e1 => ?_
  show Go _ _ _ _ (T1.setTop (mkF m 7 #[.val (.ref o0), .val (.ref o1), .val (.int p2)] [(.int BI), (.int p2), (.int p2), (.ref o1)]))
  refine Go.by (fun t9 k9 => XS.iadd X1.here hx rfl (hb hby d5_7) rfl k9) ?_
  show Go _ _ _ _ (T1.setTop (mkF m 8 #[.val (.ref o0), .val (.ref o1), .val (.int p2)] [(.int (p2 + BI)), (.int p2), (.ref o1)]))
  refine Go.by (fun t9 k9 => XS.iconst X1.here hx rfl (hb hby d5_8) k9) ?_
  show Go _ _ _ _ (T1.setTop (mkF m 9 #[.val (.ref o0), .val (.ref o1), .val (.int p2)] [(.int (0 : Int32)), (.int (p2 + BI)), (.int p2), (.ref o1)]))
  obtain ⟨_, _, ⟨T2, L2, k2, n2⟩, -, X2, ⟨Lc2, hQ2, l2, y2, z2⟩, st2⟩ := Jvm.LawKit.callS X1 hx (y := (⟨"java/util/Arrays", "fill", "([IIII)V"⟩ : MethodName)) hown (mvT hZ (hw _ (List.mem_of_getElem? (i := 46) rfl))) (mvT hZ (hw _ (List.mem_of_getElem? (i := 47) rfl))) (mvT hZ (hw _ (List.mem_of_getElem? (i := 14) rfl))) (mvT hZ (hw _ (List.mem_of_getElem? (i := 48) rfl))) (by decide) (backOf (W := 0) (rm6 l Z a0 hw [] o1 p2 (p2 + BI) (0 : Int32) g r (r + bi) h0 n0 Z0 G hr (own_addN hr hbi (by omega)) (by omega) (by omega) g1) hZ (hw _ (List.mem_of_getElem? (i := 48) rfl)) (hw _ (List.mem_of_getElem? (i := 14) rfl)) (by decide) (by decide)) (g := (mkF m 9 #[.val (.ref o0), .val (.ref o1), .val (.int p2)] [(.int (0 : Int32)), (.int (p2 + BI)), (.int p2), (.ref o1)])) rfl (by rw [hml]; rfl) (argsL := [(.ref o1), (.int p2), (.int (p2 + BI)), (.int (0 : Int32))]) (rest := []) (lenOf pd1 rfl) rfl (by show 2 * 0 + _ ≤ _; exact Nat.le_of_eq rfl) (hb hby d5_9) (fun _ _ => ⟨rfl, e1, (by decide : 0 + 0 ≤ _), (by decide : 0 + 0 ≤ _)⟩)
  dsimp only [Pt.U, Pt.locs, Pt.cells, Pt.slots] at X2 l2 y2 z2 st2 hQ2
  subst l2 y2 z2
  obtain ⟨rfl, Nq2, K2, A2⟩ := hQ2
  have N2 := Fr.app N0 Nq2
  refine Go.by st2 ?_
  have H2 := H.keep K2 n1 n2 n3
  show Go _ _ _ _ (T2.setTop (mkF m 12 #[.val (.ref o0), .val (.ref o1), .val (.int p2)] []))
  refine Go.by (fun t9 k9 => XS.aloadN X2.here hx rfl (hb hby d5_12) rfl rfl k9) ?_
  show Go _ _ _ _ (T2.setTop (mkF m 13 #[.val (.ref o0), .val (.ref o1), .val (.int p2)] [(.ref o0)]))
  refine Go.by (fun t9 k9 => XS.aloadN X2.here hx rfl (hb hby d5_13) rfl rfl k9) ?_
  show Go _ _ _ _ (T2.setTop (mkF m 14 #[.val (.ref o0), .val (.ref o1), .val (.int p2)] [(.ref o1), (.ref o0)]))
  refine Go.by (fun t9 k9 => XS.iloadN X2.here hx rfl (hb hby d5_14) rfl k9) ?_
  show Go _ _ _ _ (T2.setTop (mkF m 15 #[.val (.ref o0), .val (.ref o1), .val (.int p2)] [(.int p2), (.ref o1), (.ref o0)]))
  obtain ⟨cq3, kq3, qa3, qb3, qc3⟩ := isOf hZ rfl H2.1
  obtain ⟨_, _, ⟨T3, L3, k3, n3⟩, -, X3, ⟨Lc3, hQ3, l3, y3, z3⟩, st3⟩ := X2.virtualBack hx (y := (⟨"com/example/isolens/isolens/checker/RowLayout", "clearZeroed", "([II)V"⟩ : MethodName)) (z := (⟨"com/example/isolens/isolens/checker/RowLayout", "clearZeroed", "([II)V"⟩ : MethodName)) hown (mvT hZ (hw _ (List.mem_of_getElem? (i := 52) rfl))) (mvT hZ (hw _ (List.mem_of_getElem? (i := 53) rfl))) (notFace_of_selects (args := #[]) (mvT hZ (hw _ (List.mem_of_getElem? (i := 55) rfl)))) (mvT hZ (hw _ (List.mem_of_getElem? (i := 55) rfl))) (mvT hZ (hw _ (List.mem_of_getElem? (i := 54) rfl))) (by decide) (backOf (W := 0) (rm8 l Z a0 hw [] o0 o1 p2 bp ba P A BI RI (fun i => if r ≤ i ∧ i < r + bi then (0 : Int32) else g i) r bi ri T2.heap n0 (Nat.le_trans Z0 K2.1) H2 A2 hr hbi hri h1 h2 g1) hZ (hw _ (List.mem_of_getElem? (i := 56) rfl)) (hw _ (List.mem_of_getElem? (i := 3) rfl)) (by decide) (by decide)) qa3 qc3 (g := (mkF m 15 #[.val (.ref o0), .val (.ref o1), .val (.int p2)] [(.int p2), (.ref o1), (.ref o0)])) rfl (by rw [hml]; rfl) (Steps.refl _) (argsL := [(.ref o1), (.int p2)]) (rest := []) (lenOf pd2 rfl) rfl (by show 2 * 0 + _ ≤ _; exact Nat.le_of_eq rfl) (hb hby d5_15) (fun _ _ => ⟨rfl, rfl, (by decide : 0 + 0 ≤ _), (by decide : 0 + 0 ≤ _)⟩)
  dsimp only [Pt.U, Pt.locs, Pt.cells, Pt.slots] at X3 l3 y3 z3 st3 hQ3
  subst l3 y3 z3
  obtain ⟨rfl, Nq3, K3, A3⟩ := hQ3
  have N3 := Fr.app N2 Nq3
  have KK3 : Keep h0 T3.heap [o1] := K2.trans K3 fun x hx => Or.inl hx
  refine Go.tr st3 ?_
  show Go _ _ _ _ (T3.setTop (mkF m 18 #[.val (.ref o0), .val (.ref o1), .val (.int p2)] []))
  exact Go.retV (Q := Q5 Z o1 g r bi ri h0 n0) X3 hx hlk Bd.returns (hb hby d5_18) ⟨rfl, N3, KK3, A3⟩ (by decide) (by decide)
theorem own_sh5 {v : Int32} {a : Nat} (h : v.toInt = a) : (XT.ushr v (5 : Int32)).toInt = (a / 32 : Nat) := by
  have e : (XT.ushr v (5 : Int32)).toInt = _ := c_iushr v 5 5 rfl (by decide)
  have b1 := v.toInt_lt
  rw [e]; omega
def raiseF (Pn An : Int32) (g : Nat → Int32) (r av : Nat) (x : Int32) : Nat → Int32 := if (32 : Int32) < Pn then updI g (r + av) (f12_0 (g (r + av)) x) else updI g (r + av / 32) (g (r + av / 32) ||| mk x An)
theorem d10_0 : decode prog_75_method_20_code 0 = .ok (.aload_n 0, 1) := by decide +kernel
theorem d10_1 : decode prog_75_method_20_code 1 = .ok (.getfield 25, 3) := by decide +kernel
theorem d10_4 : decode prog_75_method_20_code 4 = .ok (.iload_n 3, 1) := by decide +kernel
theorem d10_5 : decode prog_75_method_20_code 5 = .ok (.iaload, 1) := by decide +kernel
theorem d10_6 : decode prog_75_method_20_code 6 = .ok (.istore 5, 2) := by decide +kernel
theorem d10_8 : decode prog_75_method_20_code 8 = .ok (.aload_n 0, 1) := by decide +kernel
theorem d10_9 : decode prog_75_method_20_code 9 = .ok (.getfield 21, 3) := by decide +kernel
theorem d10_12 : decode prog_75_method_20_code 12 = .ok (.iload_n 3, 1) := by decide +kernel
theorem d10_13 : decode prog_75_method_20_code 13 = .ok (.iaload, 1) := by decide +kernel
theorem d10_14 : decode prog_75_method_20_code 14 = .ok (.bipush 32, 2) := by decide +kernel
theorem d10_16 : decode prog_75_method_20_code 16 = .ok (.if_icmp .le 23, 3) := by decide +kernel
theorem d10_19 : decode prog_75_method_20_code 19 = .ok (.aload_n 1, 1) := by decide +kernel
theorem d10_20 : decode prog_75_method_20_code 20 = .ok (.iload_n 2, 1) := by decide +kernel
theorem d10_21 : decode prog_75_method_20_code 21 = .ok (.iload 5, 2) := by decide +kernel
theorem d10_23 : decode prog_75_method_20_code 23 = .ok (.iadd, 1) := by decide +kernel
theorem d10_24 : decode prog_75_method_20_code 24 = .ok (.aload_n 1, 1) := by decide +kernel
theorem d10_25 : decode prog_75_method_20_code 25 = .ok (.iload_n 2, 1) := by decide +kernel
theorem d10_26 : decode prog_75_method_20_code 26 = .ok (.iload 5, 2) := by decide +kernel
theorem d10_28 : decode prog_75_method_20_code 28 = .ok (.iadd, 1) := by decide +kernel
theorem d10_29 : decode prog_75_method_20_code 29 = .ok (.iaload, 1) := by decide +kernel
theorem d10_30 : decode prog_75_method_20_code 30 = .ok (.iload 4, 2) := by decide +kernel
theorem d10_32 : decode prog_75_method_20_code 32 = .ok (.invokestatic 78, 3) := by decide +kernel
theorem d10_35 : decode prog_75_method_20_code 35 = .ok (.iastore, 1) := by decide +kernel
theorem d10_36 : decode prog_75_method_20_code 36 = .ok (.goto 29, 3) := by decide +kernel
theorem d10_39 : decode prog_75_method_20_code 39 = .ok (.aload_n 1, 1) := by decide +kernel
theorem d10_40 : decode prog_75_method_20_code 40 = .ok (.iload_n 2, 1) := by decide +kernel
theorem d10_41 : decode prog_75_method_20_code 41 = .ok (.iload 5, 2) := by decide +kernel
theorem d10_43 : decode prog_75_method_20_code 43 = .ok (.iconst 5, 1) := by decide +kernel
theorem d10_44 : decode prog_75_method_20_code 44 = .ok (.iushr, 1) := by decide +kernel
theorem d10_45 : decode prog_75_method_20_code 45 = .ok (.iadd, 1) := by decide +kernel
theorem d10_46 : decode prog_75_method_20_code 46 = .ok (.dup2, 1) := by decide +kernel
theorem d10_47 : decode prog_75_method_20_code 47 = .ok (.iaload, 1) := by decide +kernel
theorem d10_48 : decode prog_75_method_20_code 48 = .ok (.ldc2_w 84, 3) := by decide +kernel
theorem d10_51 : decode prog_75_method_20_code 51 = .ok (.iload 4, 2) := by decide +kernel
theorem d10_53 : decode prog_75_method_20_code 53 = .ok (.lshl, 1) := by decide +kernel
theorem d10_54 : decode prog_75_method_20_code 54 = .ok (.lconst 1, 1) := by decide +kernel
theorem d10_55 : decode prog_75_method_20_code 55 = .ok (.lsub, 1) := by decide +kernel
theorem d10_56 : decode prog_75_method_20_code 56 = .ok (.l2i, 1) := by decide +kernel
theorem d10_57 : decode prog_75_method_20_code 57 = .ok (.iload 5, 2) := by decide +kernel
theorem d10_59 : decode prog_75_method_20_code 59 = .ok (.bipush 31, 2) := by decide +kernel
theorem d10_61 : decode prog_75_method_20_code 61 = .ok (.iand, 1) := by decide +kernel
theorem d10_62 : decode prog_75_method_20_code 62 = .ok (.ishl, 1) := by decide +kernel
theorem d10_63 : decode prog_75_method_20_code 63 = .ok (.ior, 1) := by decide +kernel
theorem d10_64 : decode prog_75_method_20_code 64 = .ok (.iastore, 1) := by decide +kernel
theorem d10_65 : decode prog_75_method_20_code 65 = .ok (.return_, 1) := by decide +kernel
theorem pn_10 : plainName "com/example/isolens/isolens/checker/RowLayout" = true := by first | (simp [plainName, overriddenIn]; done) | decide +kernel
theorem ef_10 (m : MethodId) (o0 : Addr) (o1 : Addr) (p2 : Int32) (p3 : Int32) (p4 : Int32) : entryFrame m #[(.ref o0), (.ref o1), (.int p2), (.int p3), (.int p4)] 6 = mkF m 0 #[.val (.ref o0), .val (.ref o1), .val (.int p2), .val (.int p3), .val (.int p4), .unset] [] := by first | (simp [entryFrame, mkF, argsToLocals, Value.category]; done) | rfl
def Q10 (Z : State) (o1 : Addr) (Pn An : Int32) (g : Nat → Int32) (r av : Nat) (x : Int32) (h0 : Heap) (n0 : Nat) (v : Option Value) (h : Heap) (L : List Loc) : Prop := v = none ∧ Fr n0 L ∧ Keep h0 h [o1] ∧ IV Z h o1 8 (raiseF Pn An g r av x)
set_option maxRecDepth 65536 in
set_option maxHeartbeats 40000000 in
theorem rm10 (l : Launch) (Z : State) (a0 : Array Value) (hw : ∀ d ∈ tables_1, d.before a0 Z = true) (ws : List Jvm.Cond) (o0 : Addr) (o1 : Addr) (p2 : Int32) (p3 : Int32) (p4 : Int32) (bp ba : Addr) (P A : Nat → Int32) (BI RI : Int32) (g : Nat → Int32) (r sl av : Nat) (h0 : Heap) (n0 : Nat) (Z0 : n0 ≤ h0.size) (H : RL Z h0 o0 bp ba P A BI RI) (G : IV Z h0 o1 8 g) (hr : p2.toInt = r) (hs : p3.toInt = sl) (hsl : sl < 3) (ha : (A sl).toInt = av) (hI : (32 : Int32) < P sl → r + av < 8) (hB : ¬ (32 : Int32) < P sl → r + av / 32 < 8) (g1 : n0 ≤ o1) :
    MetFree l (⟨"com/example/isolens/isolens/checker/RowLayout", "raise", "([IIII)V"⟩ : MethodName) (head1 (Jvm.Cond.code (⟨"com/example/isolens/isolens/checker/RowLayout", "raise", "([IIII)V"⟩ : MethodName) prog_75_method_20_code 6 none :: ws) ({ frames := 1, cells := 0, slots := 0, locals := 15 } : Room)) (fun a U => a = #[(.ref o0), (.ref o1), (.int p2), (.int p3), (.int p4)] ∧ Z.Warmed39 U.vm ∧ U.heap = h0) (fun _ _ _ _ _ => True) (fun _ U o U' => ∃ v L, o = .returned v ∧ (Q10 Z o1 (P sl) (A sl) g r av p4 h0 n0) v U'.heap L ∧ FrameEnd U o U' L ({ frames := 1, cells := 0, slots := 0, locals := 15 } : Room).cells ({ frames := 1, cells := 0, slots := 0, locals := 15 } : Room).slots) := by
  refine MetFree.of_bodySF (plainFor_of_name pn_10) hisR ?_
  intro p e s m args below meth c s₁ Bd hml0 hP hK
  obtain ⟨rfl, hZ, hh⟩ := hP
  have hx := Bd.exec
  have hby := Bd.bytes
  have hml : c.maxLocals = 6 := hml0
  have hown : s.vm.findClass "com/example/isolens/isolens/checker/RowLayout" = some m.cls := findClass_of_methodNamed Bd.named
  have hnm := (name_of_methodNamed Bd.named Bd.method).1
  have hlk : meth.locks = false := Bd.notSynchronized
  have X0 : Stand p l e ({ frames := 1, cells := 0, slots := 0, locals := 15 } : Room) s m #[(.ref o0), (.ref o1), (.int p2), (.int p3), (.int p4)] below meth c s₁ [] 0 0 := Stand.of_body Bd
  have e0 : s₁.heap = h0 := by rw [← hh, Bd.state]; rfl
  have N0 := Fr.nil n0
  refine Go.by (tb := p.tables) (e := e) (below := below) (F := fun t o => ∃ v L, o = .returned v ∧ (Q10 Z o1 (P sl) (A sl) g r av p4 h0 n0) v t.heap L ∧ FrameEnd s o t L ({ frames := 1, cells := 0, slots := 0, locals := 15 } : Room).cells ({ frames := 1, cells := 0, slots := 0, locals := 15 } : Room).slots) (fun t k => castTop (ef_10 m o0 o1 p2 p3 p4) k) ?_
  show Go _ _ _ _ (s₁.setTop (mkF m 0 #[.val (.ref o0), .val (.ref o1), .val (.int p2), .val (.int p3), .val (.int p4), .unset] []))
  refine Go.by (fun t9 k9 => XS.aloadN X0.here hx rfl (hb hby d10_0) rfl rfl k9) ?_
  show Go _ _ _ _ (s₁.setTop (mkF m 1 #[.val (.ref o0), .val (.ref o1), .val (.int p2), .val (.int p3), .val (.int p4), .unset] [(.ref o0)]))
  refine Go.gf X0 hx hZ hown (hw _ (List.mem_of_getElem? (i := 27) rfl)) e0 H.2.2.1 rfl rfl (hb hby d10_1) fun T1 X1 e1 => ?_
  show Go _ _ _ _ (T1.setTop (mkF m 4 #[.val (.ref o0), .val (.ref o1), .val (.int p2), .val (.int p3), .val (.int p4), .unset] [(.ref ba)]))
  refine Go.by (fun t9 k9 => XS.iloadN X1.here hx rfl (hb hby d10_4) rfl k9) ?_
  show Go _ _ _ _ (T1.setTop (mkF m 5 #[.val (.ref o0), .val (.ref o1), .val (.int p2), .val (.int p3), .val (.int p4), .unset] [(.int p3), (.ref ba)]))
  refine Go.ldIV X1 hx hZ e1 H.2.2.2.2.2.2 (i := sl) hs hsl rfl rfl (hb hby d10_5) ?_
  show Go _ _ _ _ (T1.setTop (mkF m 6 #[.val (.ref o0), .val (.ref o1), .val (.int p2), .val (.int p3), .val (.int p4), .unset] [(.int (A sl))]))
  refine Go.by (fun t9 k9 => XS.istore X1.here hx rfl (hb hby d10_6) rfl (l' := #[.val (.ref o0), .val (.ref o1), .val (.int p2), .val (.int p3), .val (.int p4), .val (.int (A sl))]) rfl k9) ?_
  show Go _ _ _ _ (T1.setTop (mkF m 8 #[.val (.ref o0), .val (.ref o1), .val (.int p2), .val (.int p3), .val (.int p4), .val (.int (A sl))] []))
  refine Go.by (fun t9 k9 => XS.aloadN X1.here hx rfl (hb hby d10_8) rfl rfl k9) ?_
  show Go _ _ _ _ (T1.setTop (mkF m 9 #[.val (.ref o0), .val (.ref o1), .val (.int p2), .val (.int p3), .val (.int p4), .val (.int (A sl))] [(.ref o0)]))
  refine Go.gf X1 hx hZ hown (hw _ (List.mem_of_getElem? (i := 25) rfl)) e1 H.2.1 rfl rfl (hb hby d10_9) fun T2 X2 e2 => ?_
  show Go _ _ _ _ (T2.setTop (mkF m 12 #[.val (.ref o0), .val (.ref o1), .val (.int p2), .val (.int p3), .val (.int p4), .val (.int (A sl))] [(.ref bp)]))
  refine Go.by (fun t9 k9 => XS.iloadN X2.here hx rfl (hb hby d10_12) rfl k9) ?_
  show Go _ _ _ _ (T2.setTop (mkF m 13 #[.val (.ref o0), .val (.ref o1), .val (.int p2), .val (.int p3), .val (.int p4), .val (.int (A sl))] [(.int p3), (.ref bp)]))
  refine Go.ldIV X2 hx hZ e2 H.2.2.2.2.2.1 (i := sl) hs hsl rfl rfl (hb hby d10_13) ?_
  show Go _ _ _ _ (T2.setTop (mkF m 14 #[.val (.ref o0), .val (.ref o1), .val (.int p2), .val (.int p3), .val (.int p4), .val (.int (A sl))] [(.int (P sl))]))
  refine Go.by (fun t9 k9 => XS.bipush X2.here hx rfl (hb hby d10_14) k9) ?_
  show Go _ _ _ _ (T2.setTop (mkF m 16 #[.val (.ref o0), .val (.ref o1), .val (.int p2), .val (.int p3), .val (.int p4), .val (.int (A sl))] [(.int (32 : Int32)), (.int (P sl))]))
  by_cases hc16 : (32 : Int32) < (P sl)
  · refine Go.by (fun t9 k9 => XS.icmpNo X2.here hx rfl (hb hby d10_16) rfl (XT.ii_le_f hc16) k9) ?_
    show Go _ _ _ _ (T2.setTop (mkF m 19 #[.val (.ref o0), .val (.ref o1), .val (.int p2), .val (.int p3), .val (.int p4), .val (.int (A sl))] []))
    refine Go.by (fun t9 k9 => XS.aloadN X2.here hx rfl (hb hby d10_19) rfl rfl k9) ?_
    show Go _ _ _ _ (T2.setTop (mkF m 20 #[.val (.ref o0), .val (.ref o1), .val (.int p2), .val (.int p3), .val (.int p4), .val (.int (A sl))] [(.ref o1)]))
    refine Go.by (fun t9 k9 => XS.iloadN X2.here hx rfl (hb hby d10_20) rfl k9) ?_
    show Go _ _ _ _ (T2.setTop (mkF m 21 #[.val (.ref o0), .val (.ref o1), .val (.int p2), .val (.int p3), .val (.int p4), .val (.int (A sl))] [(.int p2), (.ref o1)]))
    refine Go.by (fun t9 k9 => XS.iload X2.here hx rfl (hb hby d10_21) rfl k9) ?_
    show Go _ _ _ _ (T2.setTop (mkF m 23 #[.val (.ref o0), .val (.ref o1), .val (.int p2), .val (.int p3), .val (.int p4), .val (.int (A sl))] [(.int (A sl)), (.int p2), (.ref o1)]))
    refine Go.by (fun t9 k9 => XS.iadd X2.here hx rfl (hb hby d10_23) rfl k9) ?_
    show Go _ _ _ _ (T2.setTop (mkF m 24 #[.val (.ref o0), .val (.ref o1), .val (.int p2), .val (.int p3), .val (.int p4), .val (.int (A sl))] [(.int (p2 + (A sl))), (.ref o1)]))
    refine Go.by (fun t9 k9 => XS.aloadN X2.here hx rfl (hb hby d10_24) rfl rfl k9) ?_
    show Go _ _ _ _ (T2.setTop (mkF m 25 #[.val (.ref o0), .val (.ref o1), .val (.int p2), .val (.int p3), .val (.int p4), .val (.int (A sl))] [(.ref o1), (.int (p2 + (A sl))), (.ref o1)]))
    refine Go.by (fun t9 k9 => XS.iloadN X2.here hx rfl (hb hby d10_25) rfl k9) ?_
    show Go _ _ _ _ (T2.setTop (mkF m 26 #[.val (.ref o0), .val (.ref o1), .val (.int p2), .val (.int p3), .val (.int p4), .val (.int (A sl))] [(.int p2), (.ref o1), (.int (p2 + (A sl))), (.ref o1)]))
    refine Go.by (fun t9 k9 => XS.iload X2.here hx rfl (hb hby d10_26) rfl k9) ?_
    show Go _ _ _ _ (T2.setTop (mkF m 28 #[.val (.ref o0), .val (.ref o1), .val (.int p2), .val (.int p3), .val (.int p4), .val (.int (A sl))] [(.int (A sl)), (.int p2), (.ref o1), (.int (p2 + (A sl))), (.ref o1)]))
    refine Go.by (fun t9 k9 => XS.iadd X2.here hx rfl (hb hby d10_28) rfl k9) ?_
    show Go _ _ _ _ (T2.setTop (mkF m 29 #[.val (.ref o0), .val (.ref o1), .val (.int p2), .val (.int p3), .val (.int p4), .val (.int (A sl))] [(.int (p2 + (A sl))), (.ref o1), (.int (p2 + (A sl))), (.ref o1)]))
    refine Go.ldIV X2 hx hZ e2 G (i := (r + av)) (own_addN hr ha (by have := hI hc16; omega)) (hI hc16) rfl rfl (hb hby d10_29) ?_
    show Go _ _ _ _ (T2.setTop (mkF m 30 #[.val (.ref o0), .val (.ref o1), .val (.int p2), .val (.int p3), .val (.int p4), .val (.int (A sl))] [(.int (g (r + av))), (.int (p2 + (A sl))), (.ref o1)]))
    refine Go.by (fun t9 k9 => XS.iload X2.here hx rfl (hb hby d10_30) rfl k9) ?_
    show Go _ _ _ _ (T2.setTop (mkF m 32 #[.val (.ref o0), .val (.ref o1), .val (.int p2), .val (.int p3), .val (.int p4), .val (.int (A sl))] [(.int p4), (.int (g (r + av))), (.int (p2 + (A sl))), (.ref o1)]))
    obtain ⟨_, _, ⟨T3, L3, k3, n3⟩, -, X3, ⟨Lc3, hQ3, l3, y3, z3⟩, st3⟩ := Jvm.LawKit.callS X2 hx (y := (⟨"java/lang/Math", "max", "(II)I"⟩ : MethodName)) hown (mvT hZ (hw _ (List.mem_of_getElem? (i := 73) rfl))) (mvT hZ (hw _ (List.mem_of_getElem? (i := 74) rfl))) (mvT hZ (hw _ (List.mem_of_getElem? (i := 75) rfl))) (mvT hZ (hw _ (List.mem_of_getElem? (i := 76) rfl))) (by decide) (backOf (W := 2) (rm12 l Z a0 hw [] (g (r + av)) p4 h0 n0 Z0) hZ (hw _ (List.mem_of_getElem? (i := 76) rfl)) (hw _ (List.mem_of_getElem? (i := 75) rfl)) (by decide) (by decide)) (g := (mkF m 32 #[.val (.ref o0), .val (.ref o1), .val (.int p2), .val (.int p3), .val (.int p4), .val (.int (A sl))] [(.int p4), (.int (g (r + av))), (.int (p2 + (A sl))), (.ref o1)])) rfl (by rw [hml]; rfl) (argsL := [(.int (g (r + av))), (.int p4)]) (rest := [(.int (p2 + (A sl))), (.ref o1)]) (lenOf pd3 rfl) rfl (by show 2 * 0 + _ ≤ _; exact Nat.le_of_eq rfl) (hb hby d10_32) (fun _ _ => ⟨rfl, e2, (by decide : 0 + 0 ≤ _), (by decide : 0 + 0 ≤ _)⟩)
    dsimp only [Pt.U, Pt.locs, Pt.cells, Pt.slots] at X3 l3 y3 z3 st3 hQ3
    subst l3 y3 z3
    obtain ⟨rfl, Nq3, eq3⟩ := hQ3
    have N3 := Fr.app N0 Nq3
    refine Go.by st3 ?_
    show Go _ _ _ _ (T3.setTop (mkF m 35 #[.val (.ref o0), .val (.ref o1), .val (.int p2), .val (.int p3), .val (.int p4), .val (.int (A sl))] [(.int (f12_0 (g (r + av)) p4)), (.int (p2 + (A sl))), (.ref o1)]))
    refine Go.stIV X3 hx hZ eq3 G N3 g1 (i := (r + av)) (own_addN hr ha (by have := hI hc16; omega)) (hI hc16) rfl rfl (hb hby d10_35) fun T4 h4 lc4 X4 e4 N4 W4 => ?_
    have K4 : Keep h0 h4 [o1] := (Keep.refl h0 [o1]).wr W4 (Or.inl (List.mem_cons_self ..))
    have A4 := G.st W4
    show Go _ _ _ _ (T4.setTop (mkF m 36 #[.val (.ref o0), .val (.ref o1), .val (.int p2), .val (.int p3), .val (.int p4), .val (.int (A sl))] []))
    refine Go.by (fun t9 k9 => XS.goto X4.here hx rfl (pc0 := 36) (pc' := 65) rfl (hb hby d10_36) (by decide) (by decide) k9) ?_
    show Go _ _ _ _ (T4.setTop (mkF m 65 #[.val (.ref o0), .val (.ref o1), .val (.int p2), .val (.int p3), .val (.int p4), .val (.int (A sl))] []))
    exact Go.retV (Q := Q10 Z o1 (P sl) (A sl) g r av p4 h0 n0) X4 hx hlk Bd.returns (hb hby d10_65) (by rw [e4]; exact ⟨rfl, N4, K4, by first | (rw [raiseF, if_pos hc16]; exact A4) | (rw [raiseF, if_neg hc16]; exact A4)⟩) (by decide) (by decide)
  · refine Go.by (fun t9 k9 => XS.icmpYes X2.here hx rfl (pc0 := 16) (pc' := 39) rfl (hb hby d10_16) rfl (XT.ii_le_t hc16) (by decide) (by decide) k9) ?_
    show Go _ _ _ _ (T2.setTop (mkF m 39 #[.val (.ref o0), .val (.ref o1), .val (.int p2), .val (.int p3), .val (.int p4), .val (.int (A sl))] []))
    refine Go.by (fun t9 k9 => XS.aloadN X2.here hx rfl (hb hby d10_39) rfl rfl k9) ?_
    show Go _ _ _ _ (T2.setTop (mkF m 40 #[.val (.ref o0), .val (.ref o1), .val (.int p2), .val (.int p3), .val (.int p4), .val (.int (A sl))] [(.ref o1)]))
    refine Go.by (fun t9 k9 => XS.iloadN X2.here hx rfl (hb hby d10_40) rfl k9) ?_
    show Go _ _ _ _ (T2.setTop (mkF m 41 #[.val (.ref o0), .val (.ref o1), .val (.int p2), .val (.int p3), .val (.int p4), .val (.int (A sl))] [(.int p2), (.ref o1)]))
    refine Go.by (fun t9 k9 => XS.iload X2.here hx rfl (hb hby d10_41) rfl k9) ?_
    show Go _ _ _ _ (T2.setTop (mkF m 43 #[.val (.ref o0), .val (.ref o1), .val (.int p2), .val (.int p3), .val (.int p4), .val (.int (A sl))] [(.int (A sl)), (.int p2), (.ref o1)]))
    refine Go.by (fun t9 k9 => XS.iconst X2.here hx rfl (hb hby d10_43) k9) ?_
    show Go _ _ _ _ (T2.setTop (mkF m 44 #[.val (.ref o0), .val (.ref o1), .val (.int p2), .val (.int p3), .val (.int p4), .val (.int (A sl))] [(.int (5 : Int32)), (.int (A sl)), (.int p2), (.ref o1)]))
    refine Go.by (fun t9 k9 => XT.iushr X2.here hx rfl (hb hby d10_44) rfl k9) ?_
    show Go _ _ _ _ (T2.setTop (mkF m 45 #[.val (.ref o0), .val (.ref o1), .val (.int p2), .val (.int p3), .val (.int p4), .val (.int (A sl))] [(.int (XT.ushr (A sl) (5 : Int32))), (.int p2), (.ref o1)]))
    refine Go.by (fun t9 k9 => XS.iadd X2.here hx rfl (hb hby d10_45) rfl k9) ?_
    show Go _ _ _ _ (T2.setTop (mkF m 46 #[.val (.ref o0), .val (.ref o1), .val (.int p2), .val (.int p3), .val (.int p4), .val (.int (A sl))] [(.int (p2 + (XT.ushr (A sl) (5 : Int32)))), (.ref o1)]))
    refine Go.by (fun t9 k9 => XT.dup2 X2.here hx rfl (hb hby d10_46) rfl rfl rfl k9) ?_
    show Go _ _ _ _ (T2.setTop (mkF m 47 #[.val (.ref o0), .val (.ref o1), .val (.int p2), .val (.int p3), .val (.int p4), .val (.int (A sl))] [(.int (p2 + (XT.ushr (A sl) (5 : Int32)))), (.ref o1), (.int (p2 + (XT.ushr (A sl) (5 : Int32)))), (.ref o1)]))
    refine Go.ldIV X2 hx hZ e2 G (i := (r + av / 32)) (own_addN hr (own_sh5 ha) (by have := hB hc16; omega)) (hB hc16) rfl rfl (hb hby d10_47) ?_
    show Go _ _ _ _ (T2.setTop (mkF m 48 #[.val (.ref o0), .val (.ref o1), .val (.int p2), .val (.int p3), .val (.int p4), .val (.int (A sl))] [(.int (g (r + av / 32))), (.int (p2 + (XT.ushr (A sl) (5 : Int32)))), (.ref o1)]))
    refine Go.by (fun t9 k9 => X2.ldc2J hx hown (mvT hZ (hw _ (List.mem_of_getElem? (i := 67) rfl))) rfl (hb hby d10_48) k9) ?_
    show Go _ _ _ _ (T2.setTop (mkF m 51 #[.val (.ref o0), .val (.ref o1), .val (.int p2), .val (.int p3), .val (.int p4), .val (.int (A sl))] [(.long (2 : Int64)), (.int (g (r + av / 32))), (.int (p2 + (XT.ushr (A sl) (5 : Int32)))), (.ref o1)]))
    refine Go.by (fun t9 k9 => XS.iload X2.here hx rfl (hb hby d10_51) rfl k9) ?_
    show Go _ _ _ _ (T2.setTop (mkF m 53 #[.val (.ref o0), .val (.ref o1), .val (.int p2), .val (.int p3), .val (.int p4), .val (.int (A sl))] [(.int p4), (.long (2 : Int64)), (.int (g (r + av / 32))), (.int (p2 + (XT.ushr (A sl) (5 : Int32)))), (.ref o1)]))
    refine Go.by (fun t9 k9 => XT.lshl X2.here hx rfl (hb hby d10_53) rfl k9) ?_
    show Go _ _ _ _ (T2.setTop (mkF m 54 #[.val (.ref o0), .val (.ref o1), .val (.int p2), .val (.int p3), .val (.int p4), .val (.int (A sl))] [(.long ((2 : Int64) <<< (p4.toInt64 &&& 63))), (.int (g (r + av / 32))), (.int (p2 + (XT.ushr (A sl) (5 : Int32)))), (.ref o1)]))
    refine Go.by (fun t9 k9 => XT.lconst X2.here hx rfl (hb hby d10_54) k9) ?_
    show Go _ _ _ _ (T2.setTop (mkF m 55 #[.val (.ref o0), .val (.ref o1), .val (.int p2), .val (.int p3), .val (.int p4), .val (.int (A sl))] [(.long (1 : Int64)), (.long ((2 : Int64) <<< (p4.toInt64 &&& 63))), (.int (g (r + av / 32))), (.int (p2 + (XT.ushr (A sl) (5 : Int32)))), (.ref o1)]))
    refine Go.by (fun t9 k9 => XT.lsub X2.here hx rfl (hb hby d10_55) rfl k9) ?_
    show Go _ _ _ _ (T2.setTop (mkF m 56 #[.val (.ref o0), .val (.ref o1), .val (.int p2), .val (.int p3), .val (.int p4), .val (.int (A sl))] [(.long (((2 : Int64) <<< (p4.toInt64 &&& 63)) - (1 : Int64))), (.int (g (r + av / 32))), (.int (p2 + (XT.ushr (A sl) (5 : Int32)))), (.ref o1)]))
    refine Go.by (fun t9 k9 => XT.l2i X2.here hx rfl (hb hby d10_56) rfl k9) ?_
    show Go _ _ _ _ (T2.setTop (mkF m 57 #[.val (.ref o0), .val (.ref o1), .val (.int p2), .val (.int p3), .val (.int p4), .val (.int (A sl))] [(.int ((((2 : Int64) <<< (p4.toInt64 &&& 63)) - (1 : Int64)).toInt32)), (.int (g (r + av / 32))), (.int (p2 + (XT.ushr (A sl) (5 : Int32)))), (.ref o1)]))
    refine Go.by (fun t9 k9 => XS.iload X2.here hx rfl (hb hby d10_57) rfl k9) ?_
    show Go _ _ _ _ (T2.setTop (mkF m 59 #[.val (.ref o0), .val (.ref o1), .val (.int p2), .val (.int p3), .val (.int p4), .val (.int (A sl))] [(.int (A sl)), (.int ((((2 : Int64) <<< (p4.toInt64 &&& 63)) - (1 : Int64)).toInt32)), (.int (g (r + av / 32))), (.int (p2 + (XT.ushr (A sl) (5 : Int32)))), (.ref o1)]))
    refine Go.by (fun t9 k9 => XS.bipush X2.here hx rfl (hb hby d10_59) k9) ?_
    show Go _ _ _ _ (T2.setTop (mkF m 61 #[.val (.ref o0), .val (.ref o1), .val (.int p2), .val (.int p3), .val (.int p4), .val (.int (A sl))] [(.int (31 : Int32)), (.int (A sl)), (.int ((((2 : Int64) <<< (p4.toInt64 &&& 63)) - (1 : Int64)).toInt32)), (.int (g (r + av / 32))), (.int (p2 + (XT.ushr (A sl) (5 : Int32)))), (.ref o1)]))
    refine Go.by (fun t9 k9 => XS.iand X2.here hx rfl (hb hby d10_61) rfl k9) ?_
    show Go _ _ _ _ (T2.setTop (mkF m 62 #[.val (.ref o0), .val (.ref o1), .val (.int p2), .val (.int p3), .val (.int p4), .val (.int (A sl))] [(.int ((A sl) &&& (31 : Int32))), (.int ((((2 : Int64) <<< (p4.toInt64 &&& 63)) - (1 : Int64)).toInt32)), (.int (g (r + av / 32))), (.int (p2 + (XT.ushr (A sl) (5 : Int32)))), (.ref o1)]))
    refine Go.by (fun t9 k9 => XT.ishl X2.here hx rfl (hb hby d10_62) rfl k9) ?_
    show Go _ _ _ _ (T2.setTop (mkF m 63 #[.val (.ref o0), .val (.ref o1), .val (.int p2), .val (.int p3), .val (.int p4), .val (.int (A sl))] [(.int (((((2 : Int64) <<< (p4.toInt64 &&& 63)) - (1 : Int64)).toInt32) <<< (((A sl) &&& (31 : Int32)) &&& 31))), (.int (g (r + av / 32))), (.int (p2 + (XT.ushr (A sl) (5 : Int32)))), (.ref o1)]))
    refine Go.by (fun t9 k9 => XT.ior X2.here hx rfl (hb hby d10_63) rfl k9) ?_
    show Go _ _ _ _ (T2.setTop (mkF m 64 #[.val (.ref o0), .val (.ref o1), .val (.int p2), .val (.int p3), .val (.int p4), .val (.int (A sl))] [(.int ((g (r + av / 32)) ||| (((((2 : Int64) <<< (p4.toInt64 &&& 63)) - (1 : Int64)).toInt32) <<< (((A sl) &&& (31 : Int32)) &&& 31)))), (.int (p2 + (XT.ushr (A sl) (5 : Int32)))), (.ref o1)]))
    refine Go.stIV X2 hx hZ e2 G N0 g1 (i := (r + av / 32)) (own_addN hr (own_sh5 ha) (by have := hB hc16; omega)) (hB hc16) rfl rfl (hb hby d10_64) fun T5 h5 lc5 X5 e5 N5 W5 => ?_
    have K5 : Keep h0 h5 [o1] := (Keep.refl h0 [o1]).wr W5 (Or.inl (List.mem_cons_self ..))
    have A5 := G.st W5
    show Go _ _ _ _ (T5.setTop (mkF m 65 #[.val (.ref o0), .val (.ref o1), .val (.int p2), .val (.int p3), .val (.int p4), .val (.int (A sl))] []))
    exact Go.retV (Q := Q10 Z o1 (P sl) (A sl) g r av p4 h0 n0) X5 hx hlk Bd.returns (hb hby d10_65) (by rw [e5]; exact ⟨rfl, N5, K5, by first | (rw [raiseF, if_pos hc16]; exact A5) | (rw [raiseF, if_neg hc16]; exact A5)⟩) (by decide) (by decide)
theorem own_nz {n : Int32} (h : 0 < n.toInt ∧ n.toInt ≤ 64) : (n + (1 : Int32)) ≠ 0 := fun q => by
  have e1 := c_iadd n 1
  rw [q] at e1
  have z1 : (1 : Int32).toInt = 1 := rfl
  have z0 : (0 : Int32).toInt = 0 := rfl
  omega
def vv (n e : Int32) : Int32 := (((e &&& (2147483647 : Int32)) - ((e &&& (2147483647 : Int32)) / (n + (1 : Int32))) * (n + (1 : Int32))) - (1 : Int32))
def putV (n e : Int32) : Int32 := if (32 : Int32) < n then f12_0 (-1 : Int32) e else vv n e
def putG (Pn An : Int32) (g : Nat → Int32) (r av : Nat) (n e : Int32) : Nat → Int32 := if (32 : Int32) < n then raiseF Pn An g r av e else if vv n e < 0 then g else raiseF Pn An g r av (vv n e)
theorem d9_0 : decode method_3_code 0 = .ok (.iload 4, 2) := by decide +kernel
theorem d9_2 : decode method_3_code 2 = .ok (.bipush 32, 2) := by decide +kernel
theorem d9_4 : decode method_3_code 4 = .ok (.if_icmp .le 19, 3) := by decide +kernel
theorem d9_7 : decode method_3_code 7 = .ok (.aload_n 0, 1) := by decide +kernel
theorem d9_8 : decode method_3_code 8 = .ok (.aload_n 1, 1) := by decide +kernel
theorem d9_9 : decode method_3_code 9 = .ok (.iload_n 2, 1) := by decide +kernel
theorem d9_10 : decode method_3_code 10 = .ok (.iload_n 3, 1) := by decide +kernel
theorem d9_11 : decode method_3_code 11 = .ok (.iload 5, 2) := by decide +kernel
theorem d9_13 : decode method_3_code 13 = .ok (.invokevirtual 27, 3) := by decide +kernel
theorem d9_16 : decode method_3_code 16 = .ok (.iconst (-1), 1) := by decide +kernel
theorem d9_17 : decode method_3_code 17 = .ok (.iload 5, 2) := by decide +kernel
theorem d9_19 : decode method_3_code 19 = .ok (.invokestatic 31, 3) := by decide +kernel
theorem d9_22 : decode method_3_code 22 = .ok (.ireturn, 1) := by decide +kernel
theorem d9_23 : decode method_3_code 23 = .ok (.iload 5, 2) := by decide +kernel
theorem d9_25 : decode method_3_code 25 = .ok (.ldc 7, 2) := by decide +kernel
theorem d9_27 : decode method_3_code 27 = .ok (.iand, 1) := by decide +kernel
theorem d9_28 : decode method_3_code 28 = .ok (.iload 4, 2) := by decide +kernel
theorem d9_30 : decode method_3_code 30 = .ok (.iconst 1, 1) := by decide +kernel
theorem d9_31 : decode method_3_code 31 = .ok (.iadd, 1) := by decide +kernel
theorem d9_32 : decode method_3_code 32 = .ok (.irem, 1) := by decide +kernel
theorem d9_33 : decode method_3_code 33 = .ok (.iconst 1, 1) := by decide +kernel
theorem d9_34 : decode method_3_code 34 = .ok (.isub, 1) := by decide +kernel
theorem d9_35 : decode method_3_code 35 = .ok (.istore 6, 2) := by decide +kernel
theorem d9_37 : decode method_3_code 37 = .ok (.iload 6, 2) := by decide +kernel
theorem d9_39 : decode method_3_code 39 = .ok (.ifCond .lt 12, 3) := by decide +kernel
theorem d9_42 : decode method_3_code 42 = .ok (.aload_n 0, 1) := by decide +kernel
theorem d9_43 : decode method_3_code 43 = .ok (.aload_n 1, 1) := by decide +kernel
theorem d9_44 : decode method_3_code 44 = .ok (.iload_n 2, 1) := by decide +kernel
theorem d9_45 : decode method_3_code 45 = .ok (.iload_n 3, 1) := by decide +kernel
theorem d9_46 : decode method_3_code 46 = .ok (.iload 6, 2) := by decide +kernel
theorem d9_48 : decode method_3_code 48 = .ok (.invokevirtual 27, 3) := by decide +kernel
theorem d9_51 : decode method_3_code 51 = .ok (.iload 6, 2) := by decide +kernel
theorem d9_53 : decode method_3_code 53 = .ok (.ireturn, 1) := by decide +kernel
theorem pn_9 : plainName "com/example/isolens/isolens/checker/RowLayoutReachesPinLaw" = true := by first | (simp [plainName, overriddenIn]; done) | decide +kernel
theorem ef_9 (m : MethodId) (o0 : Addr) (o1 : Addr) (p2 : Int32) (p3 : Int32) (p4 : Int32) (p5 : Int32) : entryFrame m #[(.ref o0), (.ref o1), (.int p2), (.int p3), (.int p4), (.int p5)] 7 = mkF m 0 #[.val (.ref o0), .val (.ref o1), .val (.int p2), .val (.int p3), .val (.int p4), .val (.int p5), .unset] [] := by first | (simp [entryFrame, mkF, argsToLocals, Value.category]; done) | rfl
def Q9 (Z : State) (o1 : Addr) (Pn An : Int32) (g : Nat → Int32) (r av : Nat) (n e : Int32) (h0 : Heap) (n0 : Nat) (v : Option Value) (h : Heap) (L : List Loc) : Prop := v = some (.int (putV n e)) ∧ Fr n0 L ∧ Keep h0 h [o1] ∧ IV Z h o1 8 (putG Pn An g r av n e)
set_option maxRecDepth 65536 in
set_option maxHeartbeats 40000000 in
theorem rm9 (l : Launch) (Z : State) (a0 : Array Value) (hw : ∀ d ∈ tables_1, d.before a0 Z = true) (ws : List Jvm.Cond) (o0 : Addr) (o1 : Addr) (p2 : Int32) (p3 : Int32) (p4 : Int32) (p5 : Int32) (bp ba : Addr) (P A : Nat → Int32) (BI RI : Int32) (g : Nat → Int32) (r sl av : Nat) (h0 : Heap) (n0 : Nat) (Z0 : n0 ≤ h0.size) (H : RL Z h0 o0 bp ba P A BI RI) (G : IV Z h0 o1 8 g) (hr : p2.toInt = r) (hs : p3.toInt = sl) (hsl : sl < 3) (ha : (A sl).toInt = av) (hI : (32 : Int32) < P sl → r + av < 8) (hB : ¬ (32 : Int32) < P sl → r + av / 32 < 8) (g1 : n0 ≤ o1) (hp : 0 < p4.toInt ∧ p4.toInt ≤ 64) :
    MetFree l (⟨"com/example/isolens/isolens/checker/RowLayoutReachesPinLaw", "put", "(Lcom/example/isolens/isolens/checker/RowLayout;[IIIII)I"⟩ : MethodName) (head1 (Jvm.Cond.code (⟨"com/example/isolens/isolens/checker/RowLayoutReachesPinLaw", "put", "(Lcom/example/isolens/isolens/checker/RowLayout;[IIIII)I"⟩ : MethodName) method_3_code 7 (some .int) :: ws) ({ frames := 2, cells := 0, slots := 0, locals := 32 } : Room)) (fun a U => a = #[(.ref o0), (.ref o1), (.int p2), (.int p3), (.int p4), (.int p5)] ∧ Z.Warmed39 U.vm ∧ U.heap = h0) (fun _ _ _ _ _ => True) (fun _ U o U' => ∃ v L, o = .returned v ∧ (Q9 Z o1 (P sl) (A sl) g r av p4 p5 h0 n0) v U'.heap L ∧ FrameEnd U o U' L ({ frames := 2, cells := 0, slots := 0, locals := 32 } : Room).cells ({ frames := 2, cells := 0, slots := 0, locals := 32 } : Room).slots) := by
  refine MetFree.of_bodySF (plainFor_of_name pn_9) hisR ?_
  intro p e s m args below meth c s₁ Bd hml0 hP hK
  obtain ⟨rfl, hZ, hh⟩ := hP
  have hx := Bd.exec
  have hby := Bd.bytes
  have hml : c.maxLocals = 7 := hml0
  have hown : s.vm.findClass "com/example/isolens/isolens/checker/RowLayoutReachesPinLaw" = some m.cls := findClass_of_methodNamed Bd.named
  have hnm := (name_of_methodNamed Bd.named Bd.method).1
  have hlk : meth.locks = false := Bd.notSynchronized
  have X0 : Stand p l e ({ frames := 2, cells := 0, slots := 0, locals := 32 } : Room) s m #[(.ref o0), (.ref o1), (.int p2), (.int p3), (.int p4), (.int p5)] below meth c s₁ [] 0 0 := Stand.of_body Bd
  have e0 : s₁.heap = h0 := by rw [← hh, Bd.state]; rfl
  have N0 := Fr.nil n0
  refine Go.by (tb := p.tables) (e := e) (below := below) (F := fun t o => ∃ v L, o = .returned v ∧ (Q9 Z o1 (P sl) (A sl) g r av p4 p5 h0 n0) v t.heap L ∧ FrameEnd s o t L ({ frames := 2, cells := 0, slots := 0, locals := 32 } : Room).cells ({ frames := 2, cells := 0, slots := 0, locals := 32 } : Room).slots) (fun t k => castTop (ef_9 m o0 o1 p2 p3 p4 p5) k) ?_
  show Go _ _ _ _ (s₁.setTop (mkF m 0 #[.val (.ref o0), .val (.ref o1), .val (.int p2), .val (.int p3), .val (.int p4), .val (.int p5), .unset] []))
  refine Go.by (fun t9 k9 => XS.iload X0.here hx rfl (hb hby d9_0) rfl k9) ?_
  show Go _ _ _ _ (s₁.setTop (mkF m 2 #[.val (.ref o0), .val (.ref o1), .val (.int p2), .val (.int p3), .val (.int p4), .val (.int p5), .unset] [(.int p4)]))
  refine Go.by (fun t9 k9 => XS.bipush X0.here hx rfl (hb hby d9_2) k9) ?_
  show Go _ _ _ _ (s₁.setTop (mkF m 4 #[.val (.ref o0), .val (.ref o1), .val (.int p2), .val (.int p3), .val (.int p4), .val (.int p5), .unset] [(.int (32 : Int32)), (.int p4)]))
  by_cases hc4 : (32 : Int32) < p4
  · refine Go.by (fun t9 k9 => XS.icmpNo X0.here hx rfl (hb hby d9_4) rfl (XT.ii_le_f hc4) k9) ?_
    show Go _ _ _ _ (s₁.setTop (mkF m 7 #[.val (.ref o0), .val (.ref o1), .val (.int p2), .val (.int p3), .val (.int p4), .val (.int p5), .unset] []))
    refine Go.by (fun t9 k9 => XS.aloadN X0.here hx rfl (hb hby d9_7) rfl rfl k9) ?_
    show Go _ _ _ _ (s₁.setTop (mkF m 8 #[.val (.ref o0), .val (.ref o1), .val (.int p2), .val (.int p3), .val (.int p4), .val (.int p5), .unset] [(.ref o0)]))
    refine Go.by (fun t9 k9 => XS.aloadN X0.here hx rfl (hb hby d9_8) rfl rfl k9) ?_
    show Go _ _ _ _ (s₁.setTop (mkF m 9 #[.val (.ref o0), .val (.ref o1), .val (.int p2), .val (.int p3), .val (.int p4), .val (.int p5), .unset] [(.ref o1), (.ref o0)]))
    refine Go.by (fun t9 k9 => XS.iloadN X0.here hx rfl (hb hby d9_9) rfl k9) ?_
    show Go _ _ _ _ (s₁.setTop (mkF m 10 #[.val (.ref o0), .val (.ref o1), .val (.int p2), .val (.int p3), .val (.int p4), .val (.int p5), .unset] [(.int p2), (.ref o1), (.ref o0)]))
    refine Go.by (fun t9 k9 => XS.iloadN X0.here hx rfl (hb hby d9_10) rfl k9) ?_
    show Go _ _ _ _ (s₁.setTop (mkF m 11 #[.val (.ref o0), .val (.ref o1), .val (.int p2), .val (.int p3), .val (.int p4), .val (.int p5), .unset] [(.int p3), (.int p2), (.ref o1), (.ref o0)]))
    refine Go.by (fun t9 k9 => XS.iload X0.here hx rfl (hb hby d9_11) rfl k9) ?_
    show Go _ _ _ _ (s₁.setTop (mkF m 13 #[.val (.ref o0), .val (.ref o1), .val (.int p2), .val (.int p3), .val (.int p4), .val (.int p5), .unset] [(.int p5), (.int p3), (.int p2), (.ref o1), (.ref o0)]))
    obtain ⟨cq1, kq1, qa1, qb1, qc1⟩ := isOf hZ e0 H.1
    obtain ⟨_, _, ⟨T1, L1, k1, n1⟩, -, X1, ⟨Lc1, hQ1, l1, y1, z1⟩, st1⟩ := X0.virtualBack hx (y := (⟨"com/example/isolens/isolens/checker/RowLayout", "raise", "([IIII)V"⟩ : MethodName)) (z := (⟨"com/example/isolens/isolens/checker/RowLayout", "raise", "([IIII)V"⟩ : MethodName)) hown (mvT hZ (hw _ (List.mem_of_getElem? (i := 62) rfl))) (mvT hZ (hw _ (List.mem_of_getElem? (i := 63) rfl))) (notFace_of_selects (args := #[]) (mvT hZ (hw _ (List.mem_of_getElem? (i := 65) rfl)))) (mvT hZ (hw _ (List.mem_of_getElem? (i := 65) rfl))) (mvT hZ (hw _ (List.mem_of_getElem? (i := 64) rfl))) (by decide) (backOf (W := 0) (rm10 l Z a0 hw [] o0 o1 p2 p3 p5 bp ba P A BI RI g r sl av h0 n0 Z0 H G hr hs hsl ha hI hB g1) hZ (hw _ (List.mem_of_getElem? (i := 66) rfl)) (hw _ (List.mem_of_getElem? (i := 3) rfl)) (by decide) (by decide)) qa1 qc1 (g := (mkF m 13 #[.val (.ref o0), .val (.ref o1), .val (.int p2), .val (.int p3), .val (.int p4), .val (.int p5), .unset] [(.int p5), (.int p3), (.int p2), (.ref o1), (.ref o0)])) rfl (by rw [hml]; rfl) (Steps.refl _) (argsL := [(.ref o1), (.int p2), (.int p3), (.int p5)]) (rest := []) (lenOf pd1 rfl) rfl (by show 2 * 0 + _ ≤ _; exact Nat.le_of_eq rfl) (hb hby d9_13) (fun _ _ => ⟨rfl, e0, (by decide : 0 + 0 ≤ _), (by decide : 0 + 0 ≤ _)⟩)
    dsimp only [Pt.U, Pt.locs, Pt.cells, Pt.slots] at X1 l1 y1 z1 st1 hQ1
    subst l1 y1 z1
    obtain ⟨rfl, Nq1, K1, A1⟩ := hQ1
    have N1 := Fr.app N0 Nq1
    refine Go.tr st1 ?_
    show Go _ _ _ _ (T1.setTop (mkF m 16 #[.val (.ref o0), .val (.ref o1), .val (.int p2), .val (.int p3), .val (.int p4), .val (.int p5), .unset] []))
    refine Go.by (fun t9 k9 => XS.iconst X1.here hx rfl (hb hby d9_16) k9) ?_
    show Go _ _ _ _ (T1.setTop (mkF m 17 #[.val (.ref o0), .val (.ref o1), .val (.int p2), .val (.int p3), .val (.int p4), .val (.int p5), .unset] [(.int (-1 : Int32))]))
    refine Go.by (fun t9 k9 => XS.iload X1.here hx rfl (hb hby d9_17) rfl k9) ?_
    show Go _ _ _ _ (T1.setTop (mkF m 19 #[.val (.ref o0), .val (.ref o1), .val (.int p2), .val (.int p3), .val (.int p4), .val (.int p5), .unset] [(.int p5), (.int (-1 : Int32))]))
    obtain ⟨_, _, ⟨T2, L2, k2, n2⟩, -, X2, ⟨Lc2, hQ2, l2, y2, z2⟩, st2⟩ := Jvm.LawKit.callS X1 hx (y := (⟨"java/lang/Math", "max", "(II)I"⟩ : MethodName)) hown (mvT hZ (hw _ (List.mem_of_getElem? (i := 77) rfl))) (mvT hZ (hw _ (List.mem_of_getElem? (i := 74) rfl))) (mvT hZ (hw _ (List.mem_of_getElem? (i := 75) rfl))) (mvT hZ (hw _ (List.mem_of_getElem? (i := 76) rfl))) (by decide) (backOf (W := 0) (rm12 l Z a0 hw [] (-1 : Int32) p5 T1.heap n0 (Nat.le_trans Z0 K1.1)) hZ (hw _ (List.mem_of_getElem? (i := 76) rfl)) (hw _ (List.mem_of_getElem? (i := 75) rfl)) (by decide) (by decide)) (g := (mkF m 19 #[.val (.ref o0), .val (.ref o1), .val (.int p2), .val (.int p3), .val (.int p4), .val (.int p5), .unset] [(.int p5), (.int (-1 : Int32))])) rfl (by rw [hml]; rfl) (argsL := [(.int (-1 : Int32)), (.int p5)]) (rest := []) (lenOf pd3 rfl) rfl (by show 2 * 0 + _ ≤ _; exact Nat.le_of_eq rfl) (hb hby d9_19) (fun _ _ => ⟨rfl, rfl, (by decide : 0 + 0 ≤ _), (by decide : 0 + 0 ≤ _)⟩)
    dsimp only [Pt.U, Pt.locs, Pt.cells, Pt.slots] at X2 l2 y2 z2 st2 hQ2
    subst l2 y2 z2
    obtain ⟨rfl, Nq2, eq2⟩ := hQ2
    have N2 := Fr.app N1 Nq2
    refine Go.by st2 ?_
    show Go _ _ _ _ (T2.setTop (mkF m 22 #[.val (.ref o0), .val (.ref o1), .val (.int p2), .val (.int p3), .val (.int p4), .val (.int p5), .unset] [(.int (f12_0 (-1 : Int32) p5))]))
    exact Go.retI (Q := Q9 Z o1 (P sl) (A sl) g r av p4 p5 h0 n0) X2 hx hlk Bd.returns (hb hby d9_22) (by rw [eq2]; exact ⟨by rw [putV, if_pos hc4], N2, K1, by rw [putG, if_pos hc4]; exact A1⟩) (by decide) (by decide)
  · refine Go.by (fun t9 k9 => XS.icmpYes X0.here hx rfl (pc0 := 4) (pc' := 23) rfl (hb hby d9_4) rfl (XT.ii_le_t hc4) (by decide) (by decide) k9) ?_
    show Go _ _ _ _ (s₁.setTop (mkF m 23 #[.val (.ref o0), .val (.ref o1), .val (.int p2), .val (.int p3), .val (.int p4), .val (.int p5), .unset] []))
    refine Go.by (fun t9 k9 => XS.iload X0.here hx rfl (hb hby d9_23) rfl k9) ?_
    show Go _ _ _ _ (s₁.setTop (mkF m 25 #[.val (.ref o0), .val (.ref o1), .val (.int p2), .val (.int p3), .val (.int p4), .val (.int p5), .unset] [(.int p5)]))
    refine Go.by (fun t9 k9 => X0.ldcI hx hown (mvT hZ (hw _ (List.mem_of_getElem? (i := 61) rfl))) rfl (hb hby d9_25) k9) ?_
    show Go _ _ _ _ (s₁.setTop (mkF m 27 #[.val (.ref o0), .val (.ref o1), .val (.int p2), .val (.int p3), .val (.int p4), .val (.int p5), .unset] [(.int (2147483647 : Int32)), (.int p5)]))
    refine Go.by (fun t9 k9 => XS.iand X0.here hx rfl (hb hby d9_27) rfl k9) ?_
    show Go _ _ _ _ (s₁.setTop (mkF m 28 #[.val (.ref o0), .val (.ref o1), .val (.int p2), .val (.int p3), .val (.int p4), .val (.int p5), .unset] [(.int (p5 &&& (2147483647 : Int32)))]))
    refine Go.by (fun t9 k9 => XS.iload X0.here hx rfl (hb hby d9_28) rfl k9) ?_
    show Go _ _ _ _ (s₁.setTop (mkF m 30 #[.val (.ref o0), .val (.ref o1), .val (.int p2), .val (.int p3), .val (.int p4), .val (.int p5), .unset] [(.int p4), (.int (p5 &&& (2147483647 : Int32)))]))
    refine Go.by (fun t9 k9 => XS.iconst X0.here hx rfl (hb hby d9_30) k9) ?_
    show Go _ _ _ _ (s₁.setTop (mkF m 31 #[.val (.ref o0), .val (.ref o1), .val (.int p2), .val (.int p3), .val (.int p4), .val (.int p5), .unset] [(.int (1 : Int32)), (.int p4), (.int (p5 &&& (2147483647 : Int32)))]))
    refine Go.by (fun t9 k9 => XS.iadd X0.here hx rfl (hb hby d9_31) rfl k9) ?_
    show Go _ _ _ _ (s₁.setTop (mkF m 32 #[.val (.ref o0), .val (.ref o1), .val (.int p2), .val (.int p3), .val (.int p4), .val (.int p5), .unset] [(.int (p4 + (1 : Int32))), (.int (p5 &&& (2147483647 : Int32)))]))
    refine Go.by (fun t9 k9 => XS.irem X0.here hx rfl (hb hby d9_32) rfl (own_nz hp) k9) ?_
    show Go _ _ _ _ (s₁.setTop (mkF m 33 #[.val (.ref o0), .val (.ref o1), .val (.int p2), .val (.int p3), .val (.int p4), .val (.int p5), .unset] [(.int ((p5 &&& (2147483647 : Int32)) - ((p5 &&& (2147483647 : Int32)) / (p4 + (1 : Int32))) * (p4 + (1 : Int32))))]))
    refine Go.by (fun t9 k9 => XS.iconst X0.here hx rfl (hb hby d9_33) k9) ?_
    show Go _ _ _ _ (s₁.setTop (mkF m 34 #[.val (.ref o0), .val (.ref o1), .val (.int p2), .val (.int p3), .val (.int p4), .val (.int p5), .unset] [(.int (1 : Int32)), (.int ((p5 &&& (2147483647 : Int32)) - ((p5 &&& (2147483647 : Int32)) / (p4 + (1 : Int32))) * (p4 + (1 : Int32))))]))
    refine Go.by (fun t9 k9 => XS.isub X0.here hx rfl (hb hby d9_34) rfl k9) ?_
    show Go _ _ _ _ (s₁.setTop (mkF m 35 #[.val (.ref o0), .val (.ref o1), .val (.int p2), .val (.int p3), .val (.int p4), .val (.int p5), .unset] [(.int (((p5 &&& (2147483647 : Int32)) - ((p5 &&& (2147483647 : Int32)) / (p4 + (1 : Int32))) * (p4 + (1 : Int32))) - (1 : Int32)))]))
    refine Go.by (fun t9 k9 => XS.istore X0.here hx rfl (hb hby d9_35) rfl (l' := #[.val (.ref o0), .val (.ref o1), .val (.int p2), .val (.int p3), .val (.int p4), .val (.int p5), .val (.int (((p5 &&& (2147483647 : Int32)) - ((p5 &&& (2147483647 : Int32)) / (p4 + (1 : Int32))) * (p4 + (1 : Int32))) - (1 : Int32)))]) rfl k9) ?_
    show Go _ _ _ _ (s₁.setTop (mkF m 37 #[.val (.ref o0), .val (.ref o1), .val (.int p2), .val (.int p3), .val (.int p4), .val (.int p5), .val (.int (((p5 &&& (2147483647 : Int32)) - ((p5 &&& (2147483647 : Int32)) / (p4 + (1 : Int32))) * (p4 + (1 : Int32))) - (1 : Int32)))] []))
    refine Go.by (fun t9 k9 => XS.iload X0.here hx rfl (hb hby d9_37) rfl k9) ?_
    show Go _ _ _ _ (s₁.setTop (mkF m 39 #[.val (.ref o0), .val (.ref o1), .val (.int p2), .val (.int p3), .val (.int p4), .val (.int p5), .val (.int (((p5 &&& (2147483647 : Int32)) - ((p5 &&& (2147483647 : Int32)) / (p4 + (1 : Int32))) * (p4 + (1 : Int32))) - (1 : Int32)))] [(.int (((p5 &&& (2147483647 : Int32)) - ((p5 &&& (2147483647 : Int32)) / (p4 + (1 : Int32))) * (p4 + (1 : Int32))) - (1 : Int32)))]))
    by_cases hc39 : (((p5 &&& (2147483647 : Int32)) - ((p5 &&& (2147483647 : Int32)) / (p4 + (1 : Int32))) * (p4 + (1 : Int32))) - (1 : Int32)) < 0
    · refine Go.by (fun t9 k9 => XS.ifYes X0.here hx rfl (pc0 := 39) (pc' := 51) rfl (hb hby d9_39) rfl (XT.i0_lt_t hc39) (by decide) (by decide) k9) ?_
      show Go _ _ _ _ (s₁.setTop (mkF m 51 #[.val (.ref o0), .val (.ref o1), .val (.int p2), .val (.int p3), .val (.int p4), .val (.int p5), .val (.int (((p5 &&& (2147483647 : Int32)) - ((p5 &&& (2147483647 : Int32)) / (p4 + (1 : Int32))) * (p4 + (1 : Int32))) - (1 : Int32)))] []))
      refine Go.by (fun t9 k9 => XS.iload X0.here hx rfl (hb hby d9_51) rfl k9) ?_
      show Go _ _ _ _ (s₁.setTop (mkF m 53 #[.val (.ref o0), .val (.ref o1), .val (.int p2), .val (.int p3), .val (.int p4), .val (.int p5), .val (.int (((p5 &&& (2147483647 : Int32)) - ((p5 &&& (2147483647 : Int32)) / (p4 + (1 : Int32))) * (p4 + (1 : Int32))) - (1 : Int32)))] [(.int (((p5 &&& (2147483647 : Int32)) - ((p5 &&& (2147483647 : Int32)) / (p4 + (1 : Int32))) * (p4 + (1 : Int32))) - (1 : Int32)))]))
      exact Go.retI (Q := Q9 Z o1 (P sl) (A sl) g r av p4 p5 h0 n0) X0 hx hlk Bd.returns (hb hby d9_53) (by rw [e0]; exact ⟨by rw [putV, if_neg hc4]; rfl, N0, (Keep.refl h0 [o1]), by first | (rw [putG, if_neg hc4, if_pos (show vv p4 p5 < 0 from hc39)]; exact G) | (rw [putG, if_neg hc4, if_neg (show ¬ vv p4 p5 < 0 from hc39)]; exact G)⟩) (by decide) (by decide)
    · refine Go.by (fun t9 k9 => XS.ifNo X0.here hx rfl (hb hby d9_39) rfl (XT.i0_lt_f hc39) k9) ?_
      show Go _ _ _ _ (s₁.setTop (mkF m 42 #[.val (.ref o0), .val (.ref o1), .val (.int p2), .val (.int p3), .val (.int p4), .val (.int p5), .val (.int (((p5 &&& (2147483647 : Int32)) - ((p5 &&& (2147483647 : Int32)) / (p4 + (1 : Int32))) * (p4 + (1 : Int32))) - (1 : Int32)))] []))
      refine Go.by (fun t9 k9 => XS.aloadN X0.here hx rfl (hb hby d9_42) rfl rfl k9) ?_
      show Go _ _ _ _ (s₁.setTop (mkF m 43 #[.val (.ref o0), .val (.ref o1), .val (.int p2), .val (.int p3), .val (.int p4), .val (.int p5), .val (.int (((p5 &&& (2147483647 : Int32)) - ((p5 &&& (2147483647 : Int32)) / (p4 + (1 : Int32))) * (p4 + (1 : Int32))) - (1 : Int32)))] [(.ref o0)]))
      refine Go.by (fun t9 k9 => XS.aloadN X0.here hx rfl (hb hby d9_43) rfl rfl k9) ?_
      show Go _ _ _ _ (s₁.setTop (mkF m 44 #[.val (.ref o0), .val (.ref o1), .val (.int p2), .val (.int p3), .val (.int p4), .val (.int p5), .val (.int (((p5 &&& (2147483647 : Int32)) - ((p5 &&& (2147483647 : Int32)) / (p4 + (1 : Int32))) * (p4 + (1 : Int32))) - (1 : Int32)))] [(.ref o1), (.ref o0)]))
      refine Go.by (fun t9 k9 => XS.iloadN X0.here hx rfl (hb hby d9_44) rfl k9) ?_
      show Go _ _ _ _ (s₁.setTop (mkF m 45 #[.val (.ref o0), .val (.ref o1), .val (.int p2), .val (.int p3), .val (.int p4), .val (.int p5), .val (.int (((p5 &&& (2147483647 : Int32)) - ((p5 &&& (2147483647 : Int32)) / (p4 + (1 : Int32))) * (p4 + (1 : Int32))) - (1 : Int32)))] [(.int p2), (.ref o1), (.ref o0)]))
      refine Go.by (fun t9 k9 => XS.iloadN X0.here hx rfl (hb hby d9_45) rfl k9) ?_
      show Go _ _ _ _ (s₁.setTop (mkF m 46 #[.val (.ref o0), .val (.ref o1), .val (.int p2), .val (.int p3), .val (.int p4), .val (.int p5), .val (.int (((p5 &&& (2147483647 : Int32)) - ((p5 &&& (2147483647 : Int32)) / (p4 + (1 : Int32))) * (p4 + (1 : Int32))) - (1 : Int32)))] [(.int p3), (.int p2), (.ref o1), (.ref o0)]))
      refine Go.by (fun t9 k9 => XS.iload X0.here hx rfl (hb hby d9_46) rfl k9) ?_
      show Go _ _ _ _ (s₁.setTop (mkF m 48 #[.val (.ref o0), .val (.ref o1), .val (.int p2), .val (.int p3), .val (.int p4), .val (.int p5), .val (.int (((p5 &&& (2147483647 : Int32)) - ((p5 &&& (2147483647 : Int32)) / (p4 + (1 : Int32))) * (p4 + (1 : Int32))) - (1 : Int32)))] [(.int (((p5 &&& (2147483647 : Int32)) - ((p5 &&& (2147483647 : Int32)) / (p4 + (1 : Int32))) * (p4 + (1 : Int32))) - (1 : Int32))), (.int p3), (.int p2), (.ref o1), (.ref o0)]))
      obtain ⟨cq3, kq3, qa3, qb3, qc3⟩ := isOf hZ e0 H.1
      obtain ⟨_, _, ⟨T3, L3, k3, n3⟩, -, X3, ⟨Lc3, hQ3, l3, y3, z3⟩, st3⟩ := X0.virtualBack hx (y := (⟨"com/example/isolens/isolens/checker/RowLayout", "raise", "([IIII)V"⟩ : MethodName)) (z := (⟨"com/example/isolens/isolens/checker/RowLayout", "raise", "([IIII)V"⟩ : MethodName)) hown (mvT hZ (hw _ (List.mem_of_getElem? (i := 62) rfl))) (mvT hZ (hw _ (List.mem_of_getElem? (i := 63) rfl))) (notFace_of_selects (args := #[]) (mvT hZ (hw _ (List.mem_of_getElem? (i := 65) rfl)))) (mvT hZ (hw _ (List.mem_of_getElem? (i := 65) rfl))) (mvT hZ (hw _ (List.mem_of_getElem? (i := 64) rfl))) (by decide) (backOf (W := 0) (rm10 l Z a0 hw [] o0 o1 p2 p3 (((p5 &&& (2147483647 : Int32)) - ((p5 &&& (2147483647 : Int32)) / (p4 + (1 : Int32))) * (p4 + (1 : Int32))) - (1 : Int32)) bp ba P A BI RI g r sl av h0 n0 Z0 H G hr hs hsl ha hI hB g1) hZ (hw _ (List.mem_of_getElem? (i := 66) rfl)) (hw _ (List.mem_of_getElem? (i := 3) rfl)) (by decide) (by decide)) qa3 qc3 (g := (mkF m 48 #[.val (.ref o0), .val (.ref o1), .val (.int p2), .val (.int p3), .val (.int p4), .val (.int p5), .val (.int (((p5 &&& (2147483647 : Int32)) - ((p5 &&& (2147483647 : Int32)) / (p4 + (1 : Int32))) * (p4 + (1 : Int32))) - (1 : Int32)))] [(.int (((p5 &&& (2147483647 : Int32)) - ((p5 &&& (2147483647 : Int32)) / (p4 + (1 : Int32))) * (p4 + (1 : Int32))) - (1 : Int32))), (.int p3), (.int p2), (.ref o1), (.ref o0)])) rfl (by rw [hml]; rfl) (Steps.refl _) (argsL := [(.ref o1), (.int p2), (.int p3), (.int (((p5 &&& (2147483647 : Int32)) - ((p5 &&& (2147483647 : Int32)) / (p4 + (1 : Int32))) * (p4 + (1 : Int32))) - (1 : Int32)))]) (rest := []) (lenOf pd1 rfl) rfl (by show 2 * 0 + _ ≤ _; exact Nat.le_of_eq rfl) (hb hby d9_48) (fun _ _ => ⟨rfl, e0, (by decide : 0 + 0 ≤ _), (by decide : 0 + 0 ≤ _)⟩)
      dsimp only [Pt.U, Pt.locs, Pt.cells, Pt.slots] at X3 l3 y3 z3 st3 hQ3
      subst l3 y3 z3
      obtain ⟨rfl, Nq3, K3, A3⟩ := hQ3
      have N3 := Fr.app N0 Nq3
      refine Go.tr st3 ?_
      show Go _ _ _ _ (T3.setTop (mkF m 51 #[.val (.ref o0), .val (.ref o1), .val (.int p2), .val (.int p3), .val (.int p4), .val (.int p5), .val (.int (((p5 &&& (2147483647 : Int32)) - ((p5 &&& (2147483647 : Int32)) / (p4 + (1 : Int32))) * (p4 + (1 : Int32))) - (1 : Int32)))] []))
      refine Go.by (fun t9 k9 => XS.iload X3.here hx rfl (hb hby d9_51) rfl k9) ?_
      show Go _ _ _ _ (T3.setTop (mkF m 53 #[.val (.ref o0), .val (.ref o1), .val (.int p2), .val (.int p3), .val (.int p4), .val (.int p5), .val (.int (((p5 &&& (2147483647 : Int32)) - ((p5 &&& (2147483647 : Int32)) / (p4 + (1 : Int32))) * (p4 + (1 : Int32))) - (1 : Int32)))] [(.int (((p5 &&& (2147483647 : Int32)) - ((p5 &&& (2147483647 : Int32)) / (p4 + (1 : Int32))) * (p4 + (1 : Int32))) - (1 : Int32)))]))
      exact Go.retI (Q := Q9 Z o1 (P sl) (A sl) g r av p4 p5 h0 n0) X3 hx hlk Bd.returns (hb hby d9_53) ⟨by rw [putV, if_neg hc4]; rfl, N3, K3, by first | (rw [putG, if_neg hc4, if_pos (show vv p4 p5 < 0 from hc39)]; exact A3) | (rw [putG, if_neg hc4, if_neg (show ¬ vv p4 p5 < 0 from hc39)]; exact A3)⟩ (by decide) (by decide)
def reachF (Pn An : Int32) (g : Nat → Int32) (r av pl : Nat) (x : Int32) : Int32 := if (32 : Int32) < Pn then (if g (r + av) < x then 0 else 1) else if x < Pn then (if ((XT.ushr (g (r + (av + pl) / 32)) ((An + x) &&& (31 : Int32))) &&& (1 : Int32)) = 0 then 0 else 1) else 0
theorem d11_0 : decode prog_75_method_15_code 0 = .ok (.aload_n 0, 1) := by decide +kernel
theorem d11_1 : decode prog_75_method_15_code 1 = .ok (.getfield 21, 3) := by decide +kernel
theorem d11_4 : decode prog_75_method_15_code 4 = .ok (.iload_n 3, 1) := by decide +kernel
theorem d11_5 : decode prog_75_method_15_code 5 = .ok (.iaload, 1) := by decide +kernel
theorem d11_6 : decode prog_75_method_15_code 6 = .ok (.bipush 32, 2) := by decide +kernel
theorem d11_8 : decode prog_75_method_15_code 8 = .ok (.if_icmp .le 24, 3) := by decide +kernel
theorem d11_11 : decode prog_75_method_15_code 11 = .ok (.aload_n 1, 1) := by decide +kernel
theorem d11_12 : decode prog_75_method_15_code 12 = .ok (.iload_n 2, 1) := by decide +kernel
theorem d11_13 : decode prog_75_method_15_code 13 = .ok (.aload_n 0, 1) := by decide +kernel
theorem d11_14 : decode prog_75_method_15_code 14 = .ok (.getfield 25, 3) := by decide +kernel
theorem d11_17 : decode prog_75_method_15_code 17 = .ok (.iload_n 3, 1) := by decide +kernel
theorem d11_18 : decode prog_75_method_15_code 18 = .ok (.iaload, 1) := by decide +kernel
theorem d11_19 : decode prog_75_method_15_code 19 = .ok (.iadd, 1) := by decide +kernel
theorem d11_20 : decode prog_75_method_15_code 20 = .ok (.iaload, 1) := by decide +kernel
theorem d11_21 : decode prog_75_method_15_code 21 = .ok (.iload 4, 2) := by decide +kernel
theorem d11_23 : decode prog_75_method_15_code 23 = .ok (.if_icmp .lt 7, 3) := by decide +kernel
theorem d11_26 : decode prog_75_method_15_code 26 = .ok (.iconst 1, 1) := by decide +kernel
theorem d11_27 : decode prog_75_method_15_code 27 = .ok (.goto 4, 3) := by decide +kernel
theorem d11_30 : decode prog_75_method_15_code 30 = .ok (.iconst 0, 1) := by decide +kernel
theorem d11_31 : decode prog_75_method_15_code 31 = .ok (.ireturn, 1) := by decide +kernel
theorem d11_32 : decode prog_75_method_15_code 32 = .ok (.iload 4, 2) := by decide +kernel
theorem d11_34 : decode prog_75_method_15_code 34 = .ok (.aload_n 0, 1) := by decide +kernel
theorem d11_35 : decode prog_75_method_15_code 35 = .ok (.getfield 21, 3) := by decide +kernel
theorem d11_38 : decode prog_75_method_15_code 38 = .ok (.iload_n 3, 1) := by decide +kernel
theorem d11_39 : decode prog_75_method_15_code 39 = .ok (.iaload, 1) := by decide +kernel
theorem d11_40 : decode prog_75_method_15_code 40 = .ok (.if_icmp .lt 5, 3) := by decide +kernel
theorem d11_43 : decode prog_75_method_15_code 43 = .ok (.iconst 0, 1) := by decide +kernel
theorem d11_44 : decode prog_75_method_15_code 44 = .ok (.ireturn, 1) := by decide +kernel
theorem d11_45 : decode prog_75_method_15_code 45 = .ok (.aload_n 0, 1) := by decide +kernel
theorem d11_46 : decode prog_75_method_15_code 46 = .ok (.getfield 25, 3) := by decide +kernel
theorem d11_49 : decode prog_75_method_15_code 49 = .ok (.iload_n 3, 1) := by decide +kernel
theorem d11_50 : decode prog_75_method_15_code 50 = .ok (.iaload, 1) := by decide +kernel
theorem d11_51 : decode prog_75_method_15_code 51 = .ok (.iload 4, 2) := by decide +kernel
theorem d11_53 : decode prog_75_method_15_code 53 = .ok (.iadd, 1) := by decide +kernel
theorem d11_54 : decode prog_75_method_15_code 54 = .ok (.istore 5, 2) := by decide +kernel
theorem d11_56 : decode prog_75_method_15_code 56 = .ok (.aload_n 1, 1) := by decide +kernel
theorem d11_57 : decode prog_75_method_15_code 57 = .ok (.iload_n 2, 1) := by decide +kernel
theorem d11_58 : decode prog_75_method_15_code 58 = .ok (.iload 5, 2) := by decide +kernel
theorem d11_60 : decode prog_75_method_15_code 60 = .ok (.iconst 5, 1) := by decide +kernel
theorem d11_61 : decode prog_75_method_15_code 61 = .ok (.iushr, 1) := by decide +kernel
theorem d11_62 : decode prog_75_method_15_code 62 = .ok (.iadd, 1) := by decide +kernel
theorem d11_63 : decode prog_75_method_15_code 63 = .ok (.iaload, 1) := by decide +kernel
theorem d11_64 : decode prog_75_method_15_code 64 = .ok (.iload 5, 2) := by decide +kernel
theorem d11_66 : decode prog_75_method_15_code 66 = .ok (.bipush 31, 2) := by decide +kernel
theorem d11_68 : decode prog_75_method_15_code 68 = .ok (.iand, 1) := by decide +kernel
theorem d11_69 : decode prog_75_method_15_code 69 = .ok (.iushr, 1) := by decide +kernel
theorem d11_70 : decode prog_75_method_15_code 70 = .ok (.iconst 1, 1) := by decide +kernel
theorem d11_71 : decode prog_75_method_15_code 71 = .ok (.iand, 1) := by decide +kernel
theorem d11_72 : decode prog_75_method_15_code 72 = .ok (.ifCond .eq 7, 3) := by decide +kernel
theorem d11_75 : decode prog_75_method_15_code 75 = .ok (.iconst 1, 1) := by decide +kernel
theorem d11_76 : decode prog_75_method_15_code 76 = .ok (.goto 4, 3) := by decide +kernel
theorem d11_79 : decode prog_75_method_15_code 79 = .ok (.iconst 0, 1) := by decide +kernel
theorem d11_80 : decode prog_75_method_15_code 80 = .ok (.ireturn, 1) := by decide +kernel
theorem pn_11 : plainName "com/example/isolens/isolens/checker/RowLayout" = true := by first | (simp [plainName, overriddenIn]; done) | decide +kernel
theorem ef_11 (m : MethodId) (o0 : Addr) (o1 : Addr) (p2 : Int32) (p3 : Int32) (p4 : Int32) : entryFrame m #[(.ref o0), (.ref o1), (.int p2), (.int p3), (.int p4)] 6 = mkF m 0 #[.val (.ref o0), .val (.ref o1), .val (.int p2), .val (.int p3), .val (.int p4), .unset] [] := by first | (simp [entryFrame, mkF, argsToLocals, Value.category]; done) | rfl
def Q11 (Pn An : Int32) (g : Nat → Int32) (r av pl : Nat) (x : Int32) (h0 : Heap) (n0 : Nat) (v : Option Value) (h : Heap) (L : List Loc) : Prop := v = some (.int (reachF Pn An g r av pl x)) ∧ Fr n0 L ∧ h = h0
set_option maxRecDepth 65536 in
set_option maxHeartbeats 40000000 in
theorem rm11 (l : Launch) (Z : State) (a0 : Array Value) (hw : ∀ d ∈ tables_1, d.before a0 Z = true) (ws : List Jvm.Cond) (o0 : Addr) (o1 : Addr) (p2 : Int32) (p3 : Int32) (p4 : Int32) (bp ba : Addr) (P A : Nat → Int32) (BI RI : Int32) (g : Nat → Int32) (r sl av : Nat) (pl : Nat) (h0 : Heap) (n0 : Nat) (Z0 : n0 ≤ h0.size) (H : RL Z h0 o0 bp ba P A BI RI) (G : IV Z h0 o1 8 g) (hr : p2.toInt = r) (hs : p3.toInt = sl) (hsl : sl < 3) (ha : (A sl).toInt = av) (hI : (32 : Int32) < P sl → r + av < 8) (hB : ¬ (32 : Int32) < P sl → r + av / 32 < 8) (g1 : n0 ≤ o1) (hpl : p4.toInt = pl) (hav : av < 1000) (hpn : (P sl).toInt ≤ 64) (hBp : ¬ (32 : Int32) < P sl → p4 < P sl → r + (av + pl) / 32 < 8) :
    MetFree l (⟨"com/example/isolens/isolens/checker/RowLayout", "reaches", "([IIII)Z"⟩ : MethodName) (head1 (Jvm.Cond.code (⟨"com/example/isolens/isolens/checker/RowLayout", "reaches", "([IIII)Z"⟩ : MethodName) prog_75_method_15_code 6 (some .boolean) :: ws) ({ frames := 0, cells := 0, slots := 0, locals := 0 } : Room)) (fun a U => a = #[(.ref o0), (.ref o1), (.int p2), (.int p3), (.int p4)] ∧ Z.Warmed39 U.vm ∧ U.heap = h0) (fun _ _ _ _ _ => True) (fun _ U o U' => ∃ v L, o = .returned v ∧ (Q11 (P sl) (A sl) g r av pl p4 h0 n0) v U'.heap L ∧ FrameEnd U o U' L ({ frames := 0, cells := 0, slots := 0, locals := 0 } : Room).cells ({ frames := 0, cells := 0, slots := 0, locals := 0 } : Room).slots) := by
  refine MetFree.of_bodySF (plainFor_of_name pn_11) hisR ?_
  intro p e s m args below meth c s₁ Bd hml0 hP hK
  obtain ⟨rfl, hZ, hh⟩ := hP
  have hx := Bd.exec
  have hby := Bd.bytes
  have hml : c.maxLocals = 6 := hml0
  have hown : s.vm.findClass "com/example/isolens/isolens/checker/RowLayout" = some m.cls := findClass_of_methodNamed Bd.named
  have hnm := (name_of_methodNamed Bd.named Bd.method).1
  have hlk : meth.locks = false := Bd.notSynchronized
  have X0 : Stand p l e ({ frames := 0, cells := 0, slots := 0, locals := 0 } : Room) s m #[(.ref o0), (.ref o1), (.int p2), (.int p3), (.int p4)] below meth c s₁ [] 0 0 := Stand.of_body Bd
  have e0 : s₁.heap = h0 := by rw [← hh, Bd.state]; rfl
  have N0 := Fr.nil n0
  refine Go.by (tb := p.tables) (e := e) (below := below) (F := fun t o => ∃ v L, o = .returned v ∧ (Q11 (P sl) (A sl) g r av pl p4 h0 n0) v t.heap L ∧ FrameEnd s o t L ({ frames := 0, cells := 0, slots := 0, locals := 0 } : Room).cells ({ frames := 0, cells := 0, slots := 0, locals := 0 } : Room).slots) (fun t k => castTop (ef_11 m o0 o1 p2 p3 p4) k) ?_
  show Go _ _ _ _ (s₁.setTop (mkF m 0 #[.val (.ref o0), .val (.ref o1), .val (.int p2), .val (.int p3), .val (.int p4), .unset] []))
  refine Go.by (fun t9 k9 => XS.aloadN X0.here hx rfl (hb hby d11_0) rfl rfl k9) ?_
  show Go _ _ _ _ (s₁.setTop (mkF m 1 #[.val (.ref o0), .val (.ref o1), .val (.int p2), .val (.int p3), .val (.int p4), .unset] [(.ref o0)]))
  refine Go.gf X0 hx hZ hown (hw _ (List.mem_of_getElem? (i := 25) rfl)) e0 H.2.1 rfl rfl (hb hby d11_1) fun T1 X1 e1 => ?_
  show Go _ _ _ _ (T1.setTop (mkF m 4 #[.val (.ref o0), .val (.ref o1), .val (.int p2), .val (.int p3), .val (.int p4), .unset] [(.ref bp)]))
  refine Go.by (fun t9 k9 => XS.iloadN X1.here hx rfl (hb hby d11_4) rfl k9) ?_
  show Go _ _ _ _ (T1.setTop (mkF m 5 #[.val (.ref o0), .val (.ref o1), .val (.int p2), .val (.int p3), .val (.int p4), .unset] [(.int p3), (.ref bp)]))
  refine Go.ldIV X1 hx hZ e1 H.2.2.2.2.2.1 (i := sl) hs hsl rfl rfl (hb hby d11_5) ?_
  show Go _ _ _ _ (T1.setTop (mkF m 6 #[.val (.ref o0), .val (.ref o1), .val (.int p2), .val (.int p3), .val (.int p4), .unset] [(.int (P sl))]))
  refine Go.by (fun t9 k9 => XS.bipush X1.here hx rfl (hb hby d11_6) k9) ?_
  show Go _ _ _ _ (T1.setTop (mkF m 8 #[.val (.ref o0), .val (.ref o1), .val (.int p2), .val (.int p3), .val (.int p4), .unset] [(.int (32 : Int32)), (.int (P sl))]))
  by_cases hc8 : (32 : Int32) < (P sl)
  · refine Go.by (fun t9 k9 => XS.icmpNo X1.here hx rfl (hb hby d11_8) rfl (XT.ii_le_f hc8) k9) ?_
    show Go _ _ _ _ (T1.setTop (mkF m 11 #[.val (.ref o0), .val (.ref o1), .val (.int p2), .val (.int p3), .val (.int p4), .unset] []))
    refine Go.by (fun t9 k9 => XS.aloadN X1.here hx rfl (hb hby d11_11) rfl rfl k9) ?_
    show Go _ _ _ _ (T1.setTop (mkF m 12 #[.val (.ref o0), .val (.ref o1), .val (.int p2), .val (.int p3), .val (.int p4), .unset] [(.ref o1)]))
    refine Go.by (fun t9 k9 => XS.iloadN X1.here hx rfl (hb hby d11_12) rfl k9) ?_
    show Go _ _ _ _ (T1.setTop (mkF m 13 #[.val (.ref o0), .val (.ref o1), .val (.int p2), .val (.int p3), .val (.int p4), .unset] [(.int p2), (.ref o1)]))
    refine Go.by (fun t9 k9 => XS.aloadN X1.here hx rfl (hb hby d11_13) rfl rfl k9) ?_
    show Go _ _ _ _ (T1.setTop (mkF m 14 #[.val (.ref o0), .val (.ref o1), .val (.int p2), .val (.int p3), .val (.int p4), .unset] [(.ref o0), (.int p2), (.ref o1)]))
    refine Go.gf X1 hx hZ hown (hw _ (List.mem_of_getElem? (i := 27) rfl)) e1 H.2.2.1 rfl rfl (hb hby d11_14) fun T2 X2 e2 => ?_
    show Go _ _ _ _ (T2.setTop (mkF m 17 #[.val (.ref o0), .val (.ref o1), .val (.int p2), .val (.int p3), .val (.int p4), .unset] [(.ref ba), (.int p2), (.ref o1)]))
    refine Go.by (fun t9 k9 => XS.iloadN X2.here hx rfl (hb hby d11_17) rfl k9) ?_
    show Go _ _ _ _ (T2.setTop (mkF m 18 #[.val (.ref o0), .val (.ref o1), .val (.int p2), .val (.int p3), .val (.int p4), .unset] [(.int p3), (.ref ba), (.int p2), (.ref o1)]))
    refine Go.ldIV X2 hx hZ e2 H.2.2.2.2.2.2 (i := sl) hs hsl rfl rfl (hb hby d11_18) ?_
    show Go _ _ _ _ (T2.setTop (mkF m 19 #[.val (.ref o0), .val (.ref o1), .val (.int p2), .val (.int p3), .val (.int p4), .unset] [(.int (A sl)), (.int p2), (.ref o1)]))
    refine Go.by (fun t9 k9 => XS.iadd X2.here hx rfl (hb hby d11_19) rfl k9) ?_
    show Go _ _ _ _ (T2.setTop (mkF m 20 #[.val (.ref o0), .val (.ref o1), .val (.int p2), .val (.int p3), .val (.int p4), .unset] [(.int (p2 + (A sl))), (.ref o1)]))
    refine Go.ldIV X2 hx hZ e2 G (i := (r + av)) (own_addN hr ha (by have := hI hc8; omega)) (hI hc8) rfl rfl (hb hby d11_20) ?_
    show Go _ _ _ _ (T2.setTop (mkF m 21 #[.val (.ref o0), .val (.ref o1), .val (.int p2), .val (.int p3), .val (.int p4), .unset] [(.int (g (r + av)))]))
    refine Go.by (fun t9 k9 => XS.iload X2.here hx rfl (hb hby d11_21) rfl k9) ?_
    show Go _ _ _ _ (T2.setTop (mkF m 23 #[.val (.ref o0), .val (.ref o1), .val (.int p2), .val (.int p3), .val (.int p4), .unset] [(.int p4), (.int (g (r + av)))]))
    by_cases hc23 : (g (r + av)) < p4
    · refine Go.by (fun t9 k9 => XS.icmpYes X2.here hx rfl (pc0 := 23) (pc' := 30) rfl (hb hby d11_23) rfl (XT.ii_lt_t hc23) (by decide) (by decide) k9) ?_
      show Go _ _ _ _ (T2.setTop (mkF m 30 #[.val (.ref o0), .val (.ref o1), .val (.int p2), .val (.int p3), .val (.int p4), .unset] []))
      refine Go.by (fun t9 k9 => XS.iconst X2.here hx rfl (hb hby d11_30) k9) ?_
      show Go _ _ _ _ (T2.setTop (mkF m 31 #[.val (.ref o0), .val (.ref o1), .val (.int p2), .val (.int p3), .val (.int p4), .unset] [(.int (0 : Int32))]))
      exact Go.retZ (Q := Q11 (P sl) (A sl) g r av pl p4 h0 n0) X2 hx hlk Bd.returns (hb hby d11_31) (by rw [e2]; exact ⟨by simp only [reachF, *, if_true, if_false]; rfl, N0, rfl⟩) (by decide) (by decide)
    · refine Go.by (fun t9 k9 => XS.icmpNo X2.here hx rfl (hb hby d11_23) rfl (XT.ii_lt_f hc23) k9) ?_
      show Go _ _ _ _ (T2.setTop (mkF m 26 #[.val (.ref o0), .val (.ref o1), .val (.int p2), .val (.int p3), .val (.int p4), .unset] []))
      refine Go.by (fun t9 k9 => XS.iconst X2.here hx rfl (hb hby d11_26) k9) ?_
      show Go _ _ _ _ (T2.setTop (mkF m 27 #[.val (.ref o0), .val (.ref o1), .val (.int p2), .val (.int p3), .val (.int p4), .unset] [(.int (1 : Int32))]))
      refine Go.by (fun t9 k9 => XS.goto X2.here hx rfl (pc0 := 27) (pc' := 31) rfl (hb hby d11_27) (by decide) (by decide) k9) ?_
      show Go _ _ _ _ (T2.setTop (mkF m 31 #[.val (.ref o0), .val (.ref o1), .val (.int p2), .val (.int p3), .val (.int p4), .unset] [(.int (1 : Int32))]))
      exact Go.retZ (Q := Q11 (P sl) (A sl) g r av pl p4 h0 n0) X2 hx hlk Bd.returns (hb hby d11_31) (by rw [e2]; exact ⟨by simp only [reachF, *, if_true, if_false]; rfl, N0, rfl⟩) (by decide) (by decide)
  · refine Go.by (fun t9 k9 => XS.icmpYes X1.here hx rfl (pc0 := 8) (pc' := 32) rfl (hb hby d11_8) rfl (XT.ii_le_t hc8) (by decide) (by decide) k9) ?_
    show Go _ _ _ _ (T1.setTop (mkF m 32 #[.val (.ref o0), .val (.ref o1), .val (.int p2), .val (.int p3), .val (.int p4), .unset] []))
    refine Go.by (fun t9 k9 => XS.iload X1.here hx rfl (hb hby d11_32) rfl k9) ?_
    show Go _ _ _ _ (T1.setTop (mkF m 34 #[.val (.ref o0), .val (.ref o1), .val (.int p2), .val (.int p3), .val (.int p4), .unset] [(.int p4)]))
    refine Go.by (fun t9 k9 => XS.aloadN X1.here hx rfl (hb hby d11_34) rfl rfl k9) ?_
    show Go _ _ _ _ (T1.setTop (mkF m 35 #[.val (.ref o0), .val (.ref o1), .val (.int p2), .val (.int p3), .val (.int p4), .unset] [(.ref o0), (.int p4)]))
    refine Go.gf X1 hx hZ hown (hw _ (List.mem_of_getElem? (i := 25) rfl)) e1 H.2.1 rfl rfl (hb hby d11_35) fun T3 X3 e3 => ?_
    show Go _ _ _ _ (T3.setTop (mkF m 38 #[.val (.ref o0), .val (.ref o1), .val (.int p2), .val (.int p3), .val (.int p4), .unset] [(.ref bp), (.int p4)]))
    refine Go.by (fun t9 k9 => XS.iloadN X3.here hx rfl (hb hby d11_38) rfl k9) ?_
    show Go _ _ _ _ (T3.setTop (mkF m 39 #[.val (.ref o0), .val (.ref o1), .val (.int p2), .val (.int p3), .val (.int p4), .unset] [(.int p3), (.ref bp), (.int p4)]))
    refine Go.ldIV X3 hx hZ e3 H.2.2.2.2.2.1 (i := sl) hs hsl rfl rfl (hb hby d11_39) ?_
    show Go _ _ _ _ (T3.setTop (mkF m 40 #[.val (.ref o0), .val (.ref o1), .val (.int p2), .val (.int p3), .val (.int p4), .unset] [(.int (P sl)), (.int p4)]))
    by_cases hc40 : p4 < (P sl)
    · have hsm : av + pl < 100000 := by rw [Int32.lt_iff_toInt_lt] at hc40; omega
      refine Go.by (fun t9 k9 => XS.icmpYes X3.here hx rfl (pc0 := 40) (pc' := 45) rfl (hb hby d11_40) rfl (XT.ii_lt_t hc40) (by decide) (by decide) k9) ?_
      show Go _ _ _ _ (T3.setTop (mkF m 45 #[.val (.ref o0), .val (.ref o1), .val (.int p2), .val (.int p3), .val (.int p4), .unset] []))
      refine Go.by (fun t9 k9 => XS.aloadN X3.here hx rfl (hb hby d11_45) rfl rfl k9) ?_
      show Go _ _ _ _ (T3.setTop (mkF m 46 #[.val (.ref o0), .val (.ref o1), .val (.int p2), .val (.int p3), .val (.int p4), .unset] [(.ref o0)]))
      refine Go.gf X3 hx hZ hown (hw _ (List.mem_of_getElem? (i := 27) rfl)) e3 H.2.2.1 rfl rfl (hb hby d11_46) fun T4 X4 e4 => ?_
      show Go _ _ _ _ (T4.setTop (mkF m 49 #[.val (.ref o0), .val (.ref o1), .val (.int p2), .val (.int p3), .val (.int p4), .unset] [(.ref ba)]))
      refine Go.by (fun t9 k9 => XS.iloadN X4.here hx rfl (hb hby d11_49) rfl k9) ?_
      show Go _ _ _ _ (T4.setTop (mkF m 50 #[.val (.ref o0), .val (.ref o1), .val (.int p2), .val (.int p3), .val (.int p4), .unset] [(.int p3), (.ref ba)]))
      refine Go.ldIV X4 hx hZ e4 H.2.2.2.2.2.2 (i := sl) hs hsl rfl rfl (hb hby d11_50) ?_
      show Go _ _ _ _ (T4.setTop (mkF m 51 #[.val (.ref o0), .val (.ref o1), .val (.int p2), .val (.int p3), .val (.int p4), .unset] [(.int (A sl))]))
      refine Go.by (fun t9 k9 => XS.iload X4.here hx rfl (hb hby d11_51) rfl k9) ?_
      show Go _ _ _ _ (T4.setTop (mkF m 53 #[.val (.ref o0), .val (.ref o1), .val (.int p2), .val (.int p3), .val (.int p4), .unset] [(.int p4), (.int (A sl))]))
      refine Go.by (fun t9 k9 => XS.iadd X4.here hx rfl (hb hby d11_53) rfl k9) ?_
      show Go _ _ _ _ (T4.setTop (mkF m 54 #[.val (.ref o0), .val (.ref o1), .val (.int p2), .val (.int p3), .val (.int p4), .unset] [(.int ((A sl) + p4))]))
      refine Go.by (fun t9 k9 => XS.istore X4.here hx rfl (hb hby d11_54) rfl (l' := #[.val (.ref o0), .val (.ref o1), .val (.int p2), .val (.int p3), .val (.int p4), .val (.int ((A sl) + p4))]) rfl k9) ?_
      show Go _ _ _ _ (T4.setTop (mkF m 56 #[.val (.ref o0), .val (.ref o1), .val (.int p2), .val (.int p3), .val (.int p4), .val (.int ((A sl) + p4))] []))
      refine Go.by (fun t9 k9 => XS.aloadN X4.here hx rfl (hb hby d11_56) rfl rfl k9) ?_
      show Go _ _ _ _ (T4.setTop (mkF m 57 #[.val (.ref o0), .val (.ref o1), .val (.int p2), .val (.int p3), .val (.int p4), .val (.int ((A sl) + p4))] [(.ref o1)]))
      refine Go.by (fun t9 k9 => XS.iloadN X4.here hx rfl (hb hby d11_57) rfl k9) ?_
      show Go _ _ _ _ (T4.setTop (mkF m 58 #[.val (.ref o0), .val (.ref o1), .val (.int p2), .val (.int p3), .val (.int p4), .val (.int ((A sl) + p4))] [(.int p2), (.ref o1)]))
      refine Go.by (fun t9 k9 => XS.iload X4.here hx rfl (hb hby d11_58) rfl k9) ?_
      show Go _ _ _ _ (T4.setTop (mkF m 60 #[.val (.ref o0), .val (.ref o1), .val (.int p2), .val (.int p3), .val (.int p4), .val (.int ((A sl) + p4))] [(.int ((A sl) + p4)), (.int p2), (.ref o1)]))
      refine Go.by (fun t9 k9 => XS.iconst X4.here hx rfl (hb hby d11_60) k9) ?_
      show Go _ _ _ _ (T4.setTop (mkF m 61 #[.val (.ref o0), .val (.ref o1), .val (.int p2), .val (.int p3), .val (.int p4), .val (.int ((A sl) + p4))] [(.int (5 : Int32)), (.int ((A sl) + p4)), (.int p2), (.ref o1)]))
      refine Go.by (fun t9 k9 => XT.iushr X4.here hx rfl (hb hby d11_61) rfl k9) ?_
      show Go _ _ _ _ (T4.setTop (mkF m 62 #[.val (.ref o0), .val (.ref o1), .val (.int p2), .val (.int p3), .val (.int p4), .val (.int ((A sl) + p4))] [(.int (XT.ushr ((A sl) + p4) (5 : Int32))), (.int p2), (.ref o1)]))
      refine Go.by (fun t9 k9 => XS.iadd X4.here hx rfl (hb hby d11_62) rfl k9) ?_
      show Go _ _ _ _ (T4.setTop (mkF m 63 #[.val (.ref o0), .val (.ref o1), .val (.int p2), .val (.int p3), .val (.int p4), .val (.int ((A sl) + p4))] [(.int (p2 + (XT.ushr ((A sl) + p4) (5 : Int32)))), (.ref o1)]))
      refine Go.ldIV X4 hx hZ e4 G (i := (r + (av + pl) / 32)) (own_addN hr (own_sh5 (own_addN ha hpl hsm)) (by have := hBp hc8 hc40; omega)) (hBp hc8 hc40) rfl rfl (hb hby d11_63) ?_
      show Go _ _ _ _ (T4.setTop (mkF m 64 #[.val (.ref o0), .val (.ref o1), .val (.int p2), .val (.int p3), .val (.int p4), .val (.int ((A sl) + p4))] [(.int (g (r + (av + pl) / 32)))]))
      refine Go.by (fun t9 k9 => XS.iload X4.here hx rfl (hb hby d11_64) rfl k9) ?_
      show Go _ _ _ _ (T4.setTop (mkF m 66 #[.val (.ref o0), .val (.ref o1), .val (.int p2), .val (.int p3), .val (.int p4), .val (.int ((A sl) + p4))] [(.int ((A sl) + p4)), (.int (g (r + (av + pl) / 32)))]))
      refine Go.by (fun t9 k9 => XS.bipush X4.here hx rfl (hb hby d11_66) k9) ?_
      show Go _ _ _ _ (T4.setTop (mkF m 68 #[.val (.ref o0), .val (.ref o1), .val (.int p2), .val (.int p3), .val (.int p4), .val (.int ((A sl) + p4))] [(.int (31 : Int32)), (.int ((A sl) + p4)), (.int (g (r + (av + pl) / 32)))]))
      refine Go.by (fun t9 k9 => XS.iand X4.here hx rfl (hb hby d11_68) rfl k9) ?_
      show Go _ _ _ _ (T4.setTop (mkF m 69 #[.val (.ref o0), .val (.ref o1), .val (.int p2), .val (.int p3), .val (.int p4), .val (.int ((A sl) + p4))] [(.int (((A sl) + p4) &&& (31 : Int32))), (.int (g (r + (av + pl) / 32)))]))
      refine Go.by (fun t9 k9 => XT.iushr X4.here hx rfl (hb hby d11_69) rfl k9) ?_
      show Go _ _ _ _ (T4.setTop (mkF m 70 #[.val (.ref o0), .val (.ref o1), .val (.int p2), .val (.int p3), .val (.int p4), .val (.int ((A sl) + p4))] [(.int (XT.ushr (g (r + (av + pl) / 32)) (((A sl) + p4) &&& (31 : Int32))))]))
      refine Go.by (fun t9 k9 => XS.iconst X4.here hx rfl (hb hby d11_70) k9) ?_
      show Go _ _ _ _ (T4.setTop (mkF m 71 #[.val (.ref o0), .val (.ref o1), .val (.int p2), .val (.int p3), .val (.int p4), .val (.int ((A sl) + p4))] [(.int (1 : Int32)), (.int (XT.ushr (g (r + (av + pl) / 32)) (((A sl) + p4) &&& (31 : Int32))))]))
      refine Go.by (fun t9 k9 => XS.iand X4.here hx rfl (hb hby d11_71) rfl k9) ?_
      show Go _ _ _ _ (T4.setTop (mkF m 72 #[.val (.ref o0), .val (.ref o1), .val (.int p2), .val (.int p3), .val (.int p4), .val (.int ((A sl) + p4))] [(.int ((XT.ushr (g (r + (av + pl) / 32)) (((A sl) + p4) &&& (31 : Int32))) &&& (1 : Int32)))]))
      by_cases hc72 : ((XT.ushr (g (r + (av + pl) / 32)) (((A sl) + p4) &&& (31 : Int32))) &&& (1 : Int32)) = 0
      · refine Go.by (fun t9 k9 => XS.ifYes X4.here hx rfl (pc0 := 72) (pc' := 79) rfl (hb hby d11_72) rfl (XT.i0_eq_t hc72) (by decide) (by decide) k9) ?_
        show Go _ _ _ _ (T4.setTop (mkF m 79 #[.val (.ref o0), .val (.ref o1), .val (.int p2), .val (.int p3), .val (.int p4), .val (.int ((A sl) + p4))] []))
        refine Go.by (fun t9 k9 => XS.iconst X4.here hx rfl (hb hby d11_79) k9) ?_
        show Go _ _ _ _ (T4.setTop (mkF m 80 #[.val (.ref o0), .val (.ref o1), .val (.int p2), .val (.int p3), .val (.int p4), .val (.int ((A sl) + p4))] [(.int (0 : Int32))]))
        exact Go.retZ (Q := Q11 (P sl) (A sl) g r av pl p4 h0 n0) X4 hx hlk Bd.returns (hb hby d11_80) (by rw [e4]; exact ⟨by simp only [reachF, *, if_true, if_false]; rfl, N0, rfl⟩) (by decide) (by decide)
      · refine Go.by (fun t9 k9 => XS.ifNo X4.here hx rfl (hb hby d11_72) rfl (XT.i0_eq_f hc72) k9) ?_
        show Go _ _ _ _ (T4.setTop (mkF m 75 #[.val (.ref o0), .val (.ref o1), .val (.int p2), .val (.int p3), .val (.int p4), .val (.int ((A sl) + p4))] []))
        refine Go.by (fun t9 k9 => XS.iconst X4.here hx rfl (hb hby d11_75) k9) ?_
        show Go _ _ _ _ (T4.setTop (mkF m 76 #[.val (.ref o0), .val (.ref o1), .val (.int p2), .val (.int p3), .val (.int p4), .val (.int ((A sl) + p4))] [(.int (1 : Int32))]))
        refine Go.by (fun t9 k9 => XS.goto X4.here hx rfl (pc0 := 76) (pc' := 80) rfl (hb hby d11_76) (by decide) (by decide) k9) ?_
        show Go _ _ _ _ (T4.setTop (mkF m 80 #[.val (.ref o0), .val (.ref o1), .val (.int p2), .val (.int p3), .val (.int p4), .val (.int ((A sl) + p4))] [(.int (1 : Int32))]))
        exact Go.retZ (Q := Q11 (P sl) (A sl) g r av pl p4 h0 n0) X4 hx hlk Bd.returns (hb hby d11_80) (by rw [e4]; exact ⟨by simp only [reachF, *, if_true, if_false]; rfl, N0, rfl⟩) (by decide) (by decide)
    · refine Go.by (fun t9 k9 => XS.icmpNo X3.here hx rfl (hb hby d11_40) rfl (XT.ii_lt_f hc40) k9) ?_
      show Go _ _ _ _ (T3.setTop (mkF m 43 #[.val (.ref o0), .val (.ref o1), .val (.int p2), .val (.int p3), .val (.int p4), .unset] []))
      refine Go.by (fun t9 k9 => XS.iconst X3.here hx rfl (hb hby d11_43) k9) ?_
      show Go _ _ _ _ (T3.setTop (mkF m 44 #[.val (.ref o0), .val (.ref o1), .val (.int p2), .val (.int p3), .val (.int p4), .unset] [(.int (0 : Int32))]))
      exact Go.retZ (Q := Q11 (P sl) (A sl) g r av pl p4 h0 n0) X3 hx hlk Bd.returns (hb hby d11_44) (by rw [e3]; exact ⟨by simp only [reachF, *, if_true, if_false]; rfl, N0, rfl⟩) (by decide) (by decide)
theorem Go.retR {p : Program} {l : Launch} {e : Env} {R : Room} {s : State} {m : MethodId} {args : Array Value} {below : List Frame} {meth : Method} {c : Code} {T : State} {locs : List Loc} {cells slots rc rs pc : Nat} {Ls : Array Slot} {Q : Option Value → Heap → List Loc → Prop} {w : Value} {t : FieldType} (X : Stand p l e R s m args below meth c T locs cells slots) (hx : p.tables.exec = Jvm.exec) (hlk : meth.locks = false) (hret : meth.sig.returnType = some t) (ht : t.isReference = true) (hw : w.isRef = true) (hd : decode c.code pc = .ok (.areturn, 1)) (hQ : Q (some w) T.heap locs) (hc : cells ≤ rc) (hs : slots ≤ rs) :
    Go p.tables e below (fun t o => ∃ v L, o = .returned v ∧ Q v t.heap L ∧ FrameEnd s o t L rc rs) (T.setTop (mkF m pc Ls [w])) := by
  obtain ⟨fs, hr, hrun, hended, hW, hsame⟩ := X.leave (v := some w) (fun h => by rw [hret] at h; cases h) hlk
  exact ⟨_, _, X.areturnOut hx hw hret ht hd hr, hrun, hended, _, _, rfl, hQ, ⟨_, rfl⟩, hW, hsame.mono hc hs⟩
theorem d3_0 : decode jdk_65_method_136_code 0 = .ok (.iload_n 1, 1) := by decide +kernel
theorem d3_1 : decode jdk_65_method_136_code 1 = .ok (.ifCond .ne 9, 3) := by decide +kernel
theorem d3_4 : decode jdk_65_method_136_code 4 = .ok (.iload_n 2, 1) := by decide +kernel
theorem d3_5 : decode jdk_65_method_136_code 5 = .ok (.aload_n 0, 1) := by decide +kernel
theorem d3_6 : decode jdk_65_method_136_code 6 = .ok (.arraylength, 1) := by decide +kernel
theorem d3_7 : decode jdk_65_method_136_code 7 = .ok (.if_icmp .eq 10, 3) := by decide +kernel
theorem d3_17 : decode jdk_65_method_136_code 17 = .ok (.aload_n 0, 1) := by decide +kernel
theorem d3_18 : decode jdk_65_method_136_code 18 = .ok (.invokevirtual 316, 3) := by decide +kernel
theorem d3_21 : decode jdk_65_method_136_code 21 = .ok (.checkcast 317, 3) := by decide +kernel
theorem d3_24 : decode jdk_65_method_136_code 24 = .ok (.areturn, 1) := by decide +kernel
theorem pn_3 : plainName "java/util/Arrays" = true := by first | (simp [plainName, overriddenIn]; done) | decide +kernel
theorem ef_3 (m : MethodId) (o0 : Addr) (p1 : Int32) (p2 : Int32) : entryFrame m #[(.ref o0), (.int p1), (.int p2)] 3 = mkF m 0 #[.val (.ref o0), .val (.int p1), .val (.int p2)] [] := by first | (simp [entryFrame, mkF, argsToLocals, Value.category]; done) | rfl
def Q3 (Z : State) (g : Nat → Int32) (h0 : Heap) (n0 : Nat) (v : Option Value) (h : Heap) (L : List Loc) : Prop := ∃ b, v = some (.ref b) ∧ Fr n0 L ∧ h0.size ≤ b ∧ Ext h0 h ∧ IV Z h b 3 g
set_option maxRecDepth 65536 in
set_option maxHeartbeats 40000000 in
theorem rm3 (l : Launch) (Z : State) (a0 : Array Value) (hw : ∀ d ∈ tables_1, d.before a0 Z = true) (ws : List Jvm.Cond) (o0 : Addr) (p1 : Int32) (p2 : Int32) (g : Nat → Int32) (h0 : Heap) (n0 : Nat) (Z0 : n0 ≤ h0.size) (G : IV Z h0 o0 3 g) (E0 : Exa Z h0 o0 "[I") (hp1 : p1 = 0) (hp2 : p2 = 3) :
    MetFree l (⟨"java/util/Arrays", "copyOfRange", "([III)[I"⟩ : MethodName) (head1 (Jvm.Cond.code (⟨"java/util/Arrays", "copyOfRange", "([III)[I"⟩ : MethodName) jdk_65_method_136_code 3 (some (.array .int)) :: ws) ({ frames := 1, cells := 1, slots := 3, locals := 14 } : Room)) (fun a U => a = #[(.ref o0), (.int p1), (.int p2)] ∧ Z.Warmed39 U.vm ∧ U.heap = h0) (fun _ _ _ _ _ => True) (fun _ U o U' => ∃ v L, o = .returned v ∧ (Q3 Z g h0 n0) v U'.heap L ∧ FrameEnd U o U' L ({ frames := 1, cells := 1, slots := 3, locals := 14 } : Room).cells ({ frames := 1, cells := 1, slots := 3, locals := 14 } : Room).slots) := by
  refine MetFree.of_bodySF (plainFor_of_name pn_3) hisR ?_
  intro p e s m args below meth c s₁ Bd hml0 hP hK
  obtain ⟨rfl, hZ, hh⟩ := hP
  have hx := Bd.exec
  have hby := Bd.bytes
  have hml : c.maxLocals = 3 := hml0
  have hown : s.vm.findClass "java/util/Arrays" = some m.cls := findClass_of_methodNamed Bd.named
  have hnm := (name_of_methodNamed Bd.named Bd.method).1
  have hlk : meth.locks = false := Bd.notSynchronized
  have X0 : Stand p l e ({ frames := 1, cells := 1, slots := 3, locals := 14 } : Room) s m #[(.ref o0), (.int p1), (.int p2)] below meth c s₁ [] 0 0 := Stand.of_body Bd
  have e0 : s₁.heap = h0 := by rw [← hh, Bd.state]; rfl
  have N0 := Fr.nil n0
  refine Go.by (tb := p.tables) (e := e) (below := below) (F := fun t o => ∃ v L, o = .returned v ∧ (Q3 Z g h0 n0) v t.heap L ∧ FrameEnd s o t L ({ frames := 1, cells := 1, slots := 3, locals := 14 } : Room).cells ({ frames := 1, cells := 1, slots := 3, locals := 14 } : Room).slots) (fun t k => castTop (ef_3 m o0 p1 p2) k) ?_
  show Go _ _ _ _ (s₁.setTop (mkF m 0 #[.val (.ref o0), .val (.int p1), .val (.int p2)] []))
  refine Go.by (fun t9 k9 => XS.iloadN X0.here hx rfl (hb hby d3_0) rfl k9) ?_
  show Go _ _ _ _ (s₁.setTop (mkF m 1 #[.val (.ref o0), .val (.int p1), .val (.int p2)] [(.int p1)]))
  refine Go.by (fun t9 k9 => XS.ifNo X0.here hx rfl (hb hby d3_1) rfl (XT.i0_ne_f hp1) k9) ?_
  show Go _ _ _ _ (s₁.setTop (mkF m 4 #[.val (.ref o0), .val (.int p1), .val (.int p2)] []))
  refine Go.by (fun t9 k9 => XS.iloadN X0.here hx rfl (hb hby d3_4) rfl k9) ?_
  show Go _ _ _ _ (s₁.setTop (mkF m 5 #[.val (.ref o0), .val (.int p1), .val (.int p2)] [(.int p2)]))
  refine Go.by (fun t9 k9 => XS.aloadN X0.here hx rfl (hb hby d3_5) rfl rfl k9) ?_
  show Go _ _ _ _ (s₁.setTop (mkF m 6 #[.val (.ref o0), .val (.int p1), .val (.int p2)] [(.ref o0), (.int p2)]))
  refine Go.lenIV X0 hx hZ e0 G (z := (3 : Int32)) rfl rfl rfl (hb hby d3_6) ?_
  show Go _ _ _ _ (s₁.setTop (mkF m 7 #[.val (.ref o0), .val (.int p1), .val (.int p2)] [(.int (3 : Int32)), (.int p2)]))
  refine Go.by (fun t9 k9 => XS.icmpYes X0.here hx rfl (pc0 := 7) (pc' := 17) rfl (hb hby d3_7) rfl (XT.ii_eq_t hp2) (by decide) (by decide) k9) ?_
  show Go _ _ _ _ (s₁.setTop (mkF m 17 #[.val (.ref o0), .val (.int p1), .val (.int p2)] []))
  refine Go.by (fun t9 k9 => XS.aloadN X0.here hx rfl (hb hby d3_17) rfl rfl k9) ?_
  show Go _ _ _ _ (s₁.setTop (mkF m 18 #[.val (.ref o0), .val (.int p1), .val (.int p2)] [(.ref o0)]))
  obtain ⟨cl, Ar, S, Vs⟩ := G
  have FC : FitC Z cl := fitC_of Ar fun i hi v hv => by rw [Vs i (by omega)] at hv; cases hv; rfl
  obtain ⟨T1, h1, X1, e1, E1, A1, B1, st1⟩ := cloneA X0 hx hZ hown (hw _ (List.mem_of_getElem? (i := 16) rfl)) (hw _ (List.mem_of_getElem? (i := 17) rfl)) (hw _ (List.mem_of_getElem? (i := 21) rfl)) (hw _ (List.mem_of_getElem? (i := 19) rfl)) (hw _ (List.mem_of_getElem? (i := 20) rfl)) (hw _ (List.mem_of_getElem? (i := 22) rfl)) e0 Ar E0 FC (g := (mkF m 18 #[.val (.ref o0), .val (.int p1), .val (.int p2)] [(.ref o0)])) rfl (by rw [hml]; rfl) rfl (hb hby d3_18) (by decide) (W := 0) (cap := 3) (by show 2 * 0 + _ ≤ _; exact Nat.le_of_eq rfl) (by decide) (by omega) (by decide) (by decide)
  refine Go.by st1 ?_
  show Go _ _ _ _ (T1.setTop (mkF m 21 #[.val (.ref o0), .val (.int p1), .val (.int p2)] [(.ref h0.size)]))
  obtain ⟨T2, X2, e2, st2⟩ := castY X1 hx hZ hown (hw _ (List.mem_of_getElem? (i := 23) rfl)) e1 (Ins.self B1) (g := (mkF m 21 #[.val (.ref o0), .val (.int p1), .val (.int p2)] [(.ref h0.size)])) rfl rfl (hb hby d3_21)
  refine Go.by st2 ?_
  show Go _ _ _ _ (T2.setTop (mkF m 24 #[.val (.ref o0), .val (.int p1), .val (.int p2)] [(.ref h0.size)]))
  exact Go.retR (Q := Q3 Z g h0 n0) X2 hx hlk (t := .array .int) Bd.returns rfl rfl (hb hby d3_24) (by rw [e2]; exact ⟨_, rfl, N0, Nat.le_refl _, E1, ⟨cloneOf cl, A1, S, Vs⟩⟩) (by decide) (by decide)
def plN (b n : Nat) : Nat := if 32 < b % 32 + n then b - b % 32 + 32 else b
def bitsN (P : Nat → Nat) : Nat → Nat
  | 0 => 0
  | j + 1 => if 32 < P j then bitsN P j else plN (bitsN P j) (P j) + P j
def cbN (P : Nat → Nat) : Nat → Nat
  | 0 => 0
  | j + 1 => if 32 < P j then cbN P j else cbN P j + 1
def icN (P : Nat → Nat) : Nat → Nat
  | 0 => 0
  | j + 1 => if 32 < P j then icN P j + 1 else icN P j
def biN (P : Nat → Nat) : Nat := (bitsN P 3 + 31) / 32
def riN (P : Nat → Nat) : Nat := biN P + icN P 3
def atN (P : Nat → Nat) (i : Nat) : Nat := if 32 < P i then biN P + icN P i else plN (bitsN P i) (P i)
theorem bitsN_le (P : Nat → Nat) : ∀ j, bitsN P j ≤ 64 * j
  | 0 => Nat.le_refl _
  | j + 1 => by
    have := bitsN_le P j
    unfold bitsN plN
    split
    · omega
    · split <;> omega
theorem cbic (P : Nat → Nat) : ∀ j, cbN P j + icN P j = j
  | 0 => rfl
  | j + 1 => by
    have := cbic P j
    unfold cbN icN
    split <;> omega
theorem icN_mono (P : Nat → Nat) : ∀ j, j < 3 → 32 < P j → icN P j < icN P 3 := by
  intro j hj hp
  have e3 : icN P 3 = if 32 < P 2 then icN P 2 + 1 else icN P 2 := rfl
  have e2 : icN P 2 = if 32 < P 1 then icN P 1 + 1 else icN P 1 := rfl
  have e1 : icN P 1 = if 32 < P 0 then icN P 0 + 1 else icN P 0 := rfl
  have e0 : icN P 0 = 0 := rfl
  rcases (show j = 0 ∨ j = 1 ∨ j = 2 by omega) with rfl | rfl | rfl
  · rw [if_pos hp] at e1; split at e3 <;> split at e2 <;> omega
  · rw [if_pos hp] at e2; split at e3 <;> omega
  · rw [if_pos hp] at e3; omega
theorem own_placed {v p : Int32} {b n : Nat} (hv : v.toInt = b) (hp : p.toInt = n) (hb : b < 1000) (hn : n ≤ 64) : ((f4_0 (v.toInt64) p).toInt32).toInt = (plN b n : Nat) := by
  have e1 := c_i2l v
  have e2 := c_i2l p
  have e3 := (c_lrem v.toInt64 32 32 rfl).1 (by omega)
  have z32 : (32 : Int64).toInt = 32 := rfl
  have e4 := c_ladd (v.toInt64 - (v.toInt64 / (32 : Int64)) * (32 : Int64)) p.toInt64
  have e5 := c_lsub v.toInt64 (v.toInt64 - (v.toInt64 / (32 : Int64)) * (32 : Int64))
  have e6 := c_ladd (v.toInt64 - (v.toInt64 - (v.toInt64 / (32 : Int64)) * (32 : Int64))) 32
  generalize hr : (v.toInt64 - (v.toInt64 / (32 : Int64)) * (32 : Int64)) = rr at *
  have b1 := (rr + p.toInt64).le_toInt; have b2 := (rr + p.toInt64).toInt_lt
  have b3 := (v.toInt64 - rr).le_toInt; have b4 := (v.toInt64 - rr).toInt_lt
  have b5 := (v.toInt64 - rr + 32).le_toInt; have b6 := (v.toInt64 - rr + 32).toInt_lt
  unfold f4_0 plN
  rw [hr]
  simp only [Int64.lt_iff_toInt_lt, z32]
  by_cases h : 32 < b % 32 + n
  · have h' : (32 : Int) < (rr + p.toInt64).toInt := by omega
    rw [if_pos h', if_pos h]
    have e7 := c_l2i (v.toInt64 - rr + 32)
    have b7 := (v.toInt64 - rr + 32).toInt32.le_toInt; have b8 := (v.toInt64 - rr + 32).toInt32.toInt_lt
    omega
  · have h' : ¬ (32 : Int) < (rr + p.toInt64).toInt := by omega
    rw [if_neg h', if_neg h]
    have e7 := c_l2i v.toInt64
    have b7 := v.toInt64.toInt32.le_toInt; have b8 := v.toInt64.toInt32.toInt_lt
    omega
theorem own_bi {v : Int32} {b : Nat} (hv : v.toInt = b) (hb : b < 1000) : (((v + (32 : Int32)) - (1 : Int32)) / (32 : Int32)).toInt = ((b + 31) / 32 : Nat) := by
  have e1 := c_iadd v 32
  have e2 := c_isub (v + 32) 1
  have z1 : (1 : Int32).toInt = 1 := rfl
  have z32 : (32 : Int32).toInt = 32 := rfl
  have b1 := (v + 32).le_toInt; have b2 := (v + 32).toInt_lt
  have b3 := (v + 32 - 1).le_toInt; have b4 := (v + 32 - 1).toInt_lt
  have e3 := (c_idiv (v + 32 - 1) 32 32 rfl (by decide)).1 (by omega)
  rw [e3]; omega
theorem own_subN {v w : Int32} {i j : Nat} (h : v.toInt = i) (k : w.toInt = j) (q : j ≤ i) : (v - w).toInt = (i - j : Nat) := by
  have e1 := c_isub v w
  have b1 := (v - w).le_toInt; have b2 := (v - w).toInt_lt
  have b3 := v.toInt_lt
  omega
theorem own_big {v : Int32} {n : Nat} (h : v.toInt = n) : (32 : Int32) < v ↔ 32 < n := by rw [Int32.lt_iff_toInt_lt]; have z : (32 : Int32).toInt = 32 := rfl; omega
theorem own_ix {v w : Int32} {i b : Nat} (h : v.toInt = (b + i : Nat)) (k : w.toInt = b) : (v - w).toInt = i := by
  have e := own_subN h k (by omega)
  rw [e]; omega
theorem own_small {P : Nat → Int32} {PP : Nat → Nat} (hP : ∀ i, i < 3 → (P i).toInt = PP i ∧ 1 ≤ PP i ∧ PP i ≤ 64) : biN PP ≤ 10 := by
  have := bitsN_le PP 3
  unfold biN; omega
theorem own_at {PP : Nat → Nat} {gA : Nat → Int32} (hA1 : ∀ i, i < 3 → ¬ 32 < PP i → (gA i).toInt = (plN (bitsN PP i) (PP i) : Nat)) (hA2 : ∀ i, i < 3 → 32 < PP i → (gA i).toInt = (biN PP + icN PP i : Nat)) {i : Nat} (hi : i < 3) : (gA i).toInt = (atN PP i : Nat) := by
  unfold atN
  split <;> rename_i h
  · exact hA2 i hi h
  · exact hA1 i hi h
theorem own_A1 {PP : Nat → Nat} {gA : Nat → Int32} {x : Int32} {j : Nat} (hA1 : ∀ i, i < 3 → ¬ 32 < PP i → (gA i).toInt = (plN (bitsN PP i) (PP i) : Nat)) (hb : 32 < PP j) : ∀ i, i < 3 → ¬ 32 < PP i → (updI gA j x i).toInt = (plN (bitsN PP i) (PP i) : Nat) := fun i hi h => by
  have q : ¬ i = j := fun q => h (q ▸ hb)
  unfold updI; rw [if_neg q]; exact hA1 i hi h
theorem own_A2 {PP : Nat → Nat} {gA : Nat → Int32} {x : Int32} {j : Nat} (hA2 : ∀ i, i < j → 32 < PP i → (gA i).toInt = (biN PP + icN PP i : Nat)) (hx : x.toInt = (biN PP + icN PP j : Nat)) : ∀ i, i < j + 1 → 32 < PP i → (updI gA j x i).toInt = (biN PP + icN PP i : Nat) := fun i hi h => by
  unfold updI
  by_cases q : i = j
  · rw [if_pos q, q]; exact hx
  · rw [if_neg q]; exact hA2 i (by omega) h
theorem own_A2' {PP : Nat → Nat} {gA : Nat → Int32} {j : Nat} (hA2 : ∀ i, i < j → 32 < PP i → (gA i).toInt = (biN PP + icN PP i : Nat)) (hb : ¬ 32 < PP j) : ∀ i, i < j + 1 → 32 < PP i → (gA i).toInt = (biN PP + icN PP i : Nat) := fun i hi h => by
  have q : ¬ i = j := fun q => hb (q ▸ h)
  exact hA2 i (by omega) h
theorem own_A0 {PP : Nat → Nat} {gA : Nat → Int32} {j : Nat} (hA0 : ∀ i, i < j → ¬ 32 < PP i → (gA i).toInt = (plN (bitsN PP i) (PP i) : Nat)) (hb : 32 < PP j) : ∀ i, i < j + 1 → ¬ 32 < PP i → (gA i).toInt = (plN (bitsN PP i) (PP i) : Nat) := fun i hi h => by
  have q : ¬ i = j := fun q => h (q ▸ hb)
  exact hA0 i (by omega) h
theorem own_A0' {PP : Nat → Nat} {gA : Nat → Int32} {x : Int32} {j : Nat} (hA0 : ∀ i, i < j → ¬ 32 < PP i → (gA i).toInt = (plN (bitsN PP i) (PP i) : Nat)) (hx : x.toInt = (plN (bitsN PP j) (PP j) : Nat)) : ∀ i, i < j + 1 → ¬ 32 < PP i → (updI gA j x i).toInt = (plN (bitsN PP i) (PP i) : Nat) := fun i hi h => by
  unfold updI
  by_cases q : i = j
  · rw [if_pos q, q]; exact hx
  · rw [if_neg q]; exact hA0 i (by omega) h
def CS (Z : State) (h : Heap) (a : Addr) (vw vp va vs vb vi vr : Value) : Prop := Exa Z h a "com/example/isolens/isolens/checker/RowLayout" ∧ Fld Z h a "com/example/isolens/isolens/checker/RowLayout" "width" "I" vw ∧ Fld Z h a "com/example/isolens/isolens/checker/RowLayout" "places" "[I" vp ∧ Fld Z h a "com/example/isolens/isolens/checker/RowLayout" "at" "[I" va ∧ Fld Z h a "com/example/isolens/isolens/checker/RowLayout" "bitSlots" "I" vs ∧ Fld Z h a "com/example/isolens/isolens/checker/RowLayout" "bitInts" "I" vb ∧ Fld Z h a "com/example/isolens/isolens/checker/RowLayout" "intSlots" "[I" vi ∧ Fld Z h a "com/example/isolens/isolens/checker/RowLayout" "rowInts" "I" vr
theorem CS.ext {Z : State} {h h' : Heap} {a : Addr} {vw vp va vs vb vi vr : Value} (H : CS Z h a vw vp va vs vb vi vr) (E : Ext h h') : CS Z h' a vw vp va vs vb vi vr := ⟨H.1.ext E, H.2.1.ext E, H.2.2.1.ext E, H.2.2.2.1.ext E, H.2.2.2.2.1.ext E, H.2.2.2.2.2.1.ext E, H.2.2.2.2.2.2.1.ext E, H.2.2.2.2.2.2.2.ext E⟩
theorem CS.other {Z : State} {h h' : Heap} {a b : Addr} {vw vp va vs vb vi vr : Value} {j : Nat} {v : Value} (H : CS Z h a vw vp va vs vb vi vr) (W : Wr h h' b j v) (q : a ≠ b) : CS Z h' a vw vp va vs vb vi vr := ⟨H.1.wr W, H.2.1.other W (Or.inl q), H.2.2.1.other W (Or.inl q), H.2.2.2.1.other W (Or.inl q), H.2.2.2.2.1.other W (Or.inl q), H.2.2.2.2.2.1.other W (Or.inl q), H.2.2.2.2.2.2.1.other W (Or.inl q), H.2.2.2.2.2.2.2.other W (Or.inl q)⟩
theorem CS.set_width {Z : State} {h h' : Heap} {a : Addr} {vw vp va vs vb vi vr : Value} {v : Value} {a0 : Array Value} (hw : ∀ d ∈ tables_1, d.before a0 Z = true) (H : CS Z h a vw vp va vs vb vi vr) (W : Wr h h' a (Jvm.RoadKit.slotOf Z "com/example/isolens/isolens/checker/RowLayout" "width" "I") v) : CS Z h' a v vp va vs vb vi vr := ⟨H.1.wr W, H.2.1.same W, H.2.2.1.other W (Or.inr (slot_ne (Or.inr (hw _ (List.mem_of_getElem? (i := 26) rfl))) (Or.inr (hw _ (List.mem_of_getElem? (i := 11) rfl))) (by decide) (t := (.array .int)) (t' := .int) (by decide) (by decide))), H.2.2.2.1.other W (Or.inr (slot_ne (Or.inr (hw _ (List.mem_of_getElem? (i := 28) rfl))) (Or.inr (hw _ (List.mem_of_getElem? (i := 11) rfl))) (by decide) (t := (.array .int)) (t' := .int) (by decide) (by decide))), H.2.2.2.2.1.other W (Or.inr (slot_ne (Or.inr (hw _ (List.mem_of_getElem? (i := 34) rfl))) (Or.inr (hw _ (List.mem_of_getElem? (i := 11) rfl))) (by decide) (t := .int) (t' := .int) (by decide) (by decide))), H.2.2.2.2.2.1.other W (Or.inr (slot_ne (Or.inr (hw _ (List.mem_of_getElem? (i := 36) rfl))) (Or.inr (hw _ (List.mem_of_getElem? (i := 11) rfl))) (by decide) (t := .int) (t' := .int) (by decide) (by decide))), H.2.2.2.2.2.2.1.other W (Or.inr (slot_ne (Or.inr (hw _ (List.mem_of_getElem? (i := 38) rfl))) (Or.inr (hw _ (List.mem_of_getElem? (i := 11) rfl))) (by decide) (t := (.array .int)) (t' := .int) (by decide) (by decide))), H.2.2.2.2.2.2.2.other W (Or.inr (slot_ne (Or.inr (hw _ (List.mem_of_getElem? (i := 40) rfl))) (Or.inr (hw _ (List.mem_of_getElem? (i := 11) rfl))) (by decide) (t := .int) (t' := .int) (by decide) (by decide)))⟩
theorem CS.set_places {Z : State} {h h' : Heap} {a : Addr} {vw vp va vs vb vi vr : Value} {v : Value} {a0 : Array Value} (hw : ∀ d ∈ tables_1, d.before a0 Z = true) (H : CS Z h a vw vp va vs vb vi vr) (W : Wr h h' a (Jvm.RoadKit.slotOf Z "com/example/isolens/isolens/checker/RowLayout" "places" "[I") v) : CS Z h' a vw v va vs vb vi vr := ⟨H.1.wr W, H.2.1.other W (Or.inr (slot_ne (Or.inr (hw _ (List.mem_of_getElem? (i := 11) rfl))) (Or.inr (hw _ (List.mem_of_getElem? (i := 26) rfl))) (by decide) (t := .int) (t' := (.array .int)) (by decide) (by decide))), H.2.2.1.same W, H.2.2.2.1.other W (Or.inr (slot_ne (Or.inr (hw _ (List.mem_of_getElem? (i := 28) rfl))) (Or.inr (hw _ (List.mem_of_getElem? (i := 26) rfl))) (by decide) (t := (.array .int)) (t' := (.array .int)) (by decide) (by decide))), H.2.2.2.2.1.other W (Or.inr (slot_ne (Or.inr (hw _ (List.mem_of_getElem? (i := 34) rfl))) (Or.inr (hw _ (List.mem_of_getElem? (i := 26) rfl))) (by decide) (t := .int) (t' := (.array .int)) (by decide) (by decide))), H.2.2.2.2.2.1.other W (Or.inr (slot_ne (Or.inr (hw _ (List.mem_of_getElem? (i := 36) rfl))) (Or.inr (hw _ (List.mem_of_getElem? (i := 26) rfl))) (by decide) (t := .int) (t' := (.array .int)) (by decide) (by decide))), H.2.2.2.2.2.2.1.other W (Or.inr (slot_ne (Or.inr (hw _ (List.mem_of_getElem? (i := 38) rfl))) (Or.inr (hw _ (List.mem_of_getElem? (i := 26) rfl))) (by decide) (t := (.array .int)) (t' := (.array .int)) (by decide) (by decide))), H.2.2.2.2.2.2.2.other W (Or.inr (slot_ne (Or.inr (hw _ (List.mem_of_getElem? (i := 40) rfl))) (Or.inr (hw _ (List.mem_of_getElem? (i := 26) rfl))) (by decide) (t := .int) (t' := (.array .int)) (by decide) (by decide)))⟩
theorem CS.set_at {Z : State} {h h' : Heap} {a : Addr} {vw vp va vs vb vi vr : Value} {v : Value} {a0 : Array Value} (hw : ∀ d ∈ tables_1, d.before a0 Z = true) (H : CS Z h a vw vp va vs vb vi vr) (W : Wr h h' a (Jvm.RoadKit.slotOf Z "com/example/isolens/isolens/checker/RowLayout" "at" "[I") v) : CS Z h' a vw vp v vs vb vi vr := ⟨H.1.wr W, H.2.1.other W (Or.inr (slot_ne (Or.inr (hw _ (List.mem_of_getElem? (i := 11) rfl))) (Or.inr (hw _ (List.mem_of_getElem? (i := 28) rfl))) (by decide) (t := .int) (t' := (.array .int)) (by decide) (by decide))), H.2.2.1.other W (Or.inr (slot_ne (Or.inr (hw _ (List.mem_of_getElem? (i := 26) rfl))) (Or.inr (hw _ (List.mem_of_getElem? (i := 28) rfl))) (by decide) (t := (.array .int)) (t' := (.array .int)) (by decide) (by decide))), H.2.2.2.1.same W, H.2.2.2.2.1.other W (Or.inr (slot_ne (Or.inr (hw _ (List.mem_of_getElem? (i := 34) rfl))) (Or.inr (hw _ (List.mem_of_getElem? (i := 28) rfl))) (by decide) (t := .int) (t' := (.array .int)) (by decide) (by decide))), H.2.2.2.2.2.1.other W (Or.inr (slot_ne (Or.inr (hw _ (List.mem_of_getElem? (i := 36) rfl))) (Or.inr (hw _ (List.mem_of_getElem? (i := 28) rfl))) (by decide) (t := .int) (t' := (.array .int)) (by decide) (by decide))), H.2.2.2.2.2.2.1.other W (Or.inr (slot_ne (Or.inr (hw _ (List.mem_of_getElem? (i := 38) rfl))) (Or.inr (hw _ (List.mem_of_getElem? (i := 28) rfl))) (by decide) (t := (.array .int)) (t' := (.array .int)) (by decide) (by decide))), H.2.2.2.2.2.2.2.other W (Or.inr (slot_ne (Or.inr (hw _ (List.mem_of_getElem? (i := 40) rfl))) (Or.inr (hw _ (List.mem_of_getElem? (i := 28) rfl))) (by decide) (t := .int) (t' := (.array .int)) (by decide) (by decide)))⟩
theorem CS.set_bitSlots {Z : State} {h h' : Heap} {a : Addr} {vw vp va vs vb vi vr : Value} {v : Value} {a0 : Array Value} (hw : ∀ d ∈ tables_1, d.before a0 Z = true) (H : CS Z h a vw vp va vs vb vi vr) (W : Wr h h' a (Jvm.RoadKit.slotOf Z "com/example/isolens/isolens/checker/RowLayout" "bitSlots" "I") v) : CS Z h' a vw vp va v vb vi vr := ⟨H.1.wr W, H.2.1.other W (Or.inr (slot_ne (Or.inr (hw _ (List.mem_of_getElem? (i := 11) rfl))) (Or.inr (hw _ (List.mem_of_getElem? (i := 34) rfl))) (by decide) (t := .int) (t' := .int) (by decide) (by decide))), H.2.2.1.other W (Or.inr (slot_ne (Or.inr (hw _ (List.mem_of_getElem? (i := 26) rfl))) (Or.inr (hw _ (List.mem_of_getElem? (i := 34) rfl))) (by decide) (t := (.array .int)) (t' := .int) (by decide) (by decide))), H.2.2.2.1.other W (Or.inr (slot_ne (Or.inr (hw _ (List.mem_of_getElem? (i := 28) rfl))) (Or.inr (hw _ (List.mem_of_getElem? (i := 34) rfl))) (by decide) (t := (.array .int)) (t' := .int) (by decide) (by decide))), H.2.2.2.2.1.same W, H.2.2.2.2.2.1.other W (Or.inr (slot_ne (Or.inr (hw _ (List.mem_of_getElem? (i := 36) rfl))) (Or.inr (hw _ (List.mem_of_getElem? (i := 34) rfl))) (by decide) (t := .int) (t' := .int) (by decide) (by decide))), H.2.2.2.2.2.2.1.other W (Or.inr (slot_ne (Or.inr (hw _ (List.mem_of_getElem? (i := 38) rfl))) (Or.inr (hw _ (List.mem_of_getElem? (i := 34) rfl))) (by decide) (t := (.array .int)) (t' := .int) (by decide) (by decide))), H.2.2.2.2.2.2.2.other W (Or.inr (slot_ne (Or.inr (hw _ (List.mem_of_getElem? (i := 40) rfl))) (Or.inr (hw _ (List.mem_of_getElem? (i := 34) rfl))) (by decide) (t := .int) (t' := .int) (by decide) (by decide)))⟩
theorem CS.set_bitInts {Z : State} {h h' : Heap} {a : Addr} {vw vp va vs vb vi vr : Value} {v : Value} {a0 : Array Value} (hw : ∀ d ∈ tables_1, d.before a0 Z = true) (H : CS Z h a vw vp va vs vb vi vr) (W : Wr h h' a (Jvm.RoadKit.slotOf Z "com/example/isolens/isolens/checker/RowLayout" "bitInts" "I") v) : CS Z h' a vw vp va vs v vi vr := ⟨H.1.wr W, H.2.1.other W (Or.inr (slot_ne (Or.inr (hw _ (List.mem_of_getElem? (i := 11) rfl))) (Or.inr (hw _ (List.mem_of_getElem? (i := 36) rfl))) (by decide) (t := .int) (t' := .int) (by decide) (by decide))), H.2.2.1.other W (Or.inr (slot_ne (Or.inr (hw _ (List.mem_of_getElem? (i := 26) rfl))) (Or.inr (hw _ (List.mem_of_getElem? (i := 36) rfl))) (by decide) (t := (.array .int)) (t' := .int) (by decide) (by decide))), H.2.2.2.1.other W (Or.inr (slot_ne (Or.inr (hw _ (List.mem_of_getElem? (i := 28) rfl))) (Or.inr (hw _ (List.mem_of_getElem? (i := 36) rfl))) (by decide) (t := (.array .int)) (t' := .int) (by decide) (by decide))), H.2.2.2.2.1.other W (Or.inr (slot_ne (Or.inr (hw _ (List.mem_of_getElem? (i := 34) rfl))) (Or.inr (hw _ (List.mem_of_getElem? (i := 36) rfl))) (by decide) (t := .int) (t' := .int) (by decide) (by decide))), H.2.2.2.2.2.1.same W, H.2.2.2.2.2.2.1.other W (Or.inr (slot_ne (Or.inr (hw _ (List.mem_of_getElem? (i := 38) rfl))) (Or.inr (hw _ (List.mem_of_getElem? (i := 36) rfl))) (by decide) (t := (.array .int)) (t' := .int) (by decide) (by decide))), H.2.2.2.2.2.2.2.other W (Or.inr (slot_ne (Or.inr (hw _ (List.mem_of_getElem? (i := 40) rfl))) (Or.inr (hw _ (List.mem_of_getElem? (i := 36) rfl))) (by decide) (t := .int) (t' := .int) (by decide) (by decide)))⟩
theorem CS.set_intSlots {Z : State} {h h' : Heap} {a : Addr} {vw vp va vs vb vi vr : Value} {v : Value} {a0 : Array Value} (hw : ∀ d ∈ tables_1, d.before a0 Z = true) (H : CS Z h a vw vp va vs vb vi vr) (W : Wr h h' a (Jvm.RoadKit.slotOf Z "com/example/isolens/isolens/checker/RowLayout" "intSlots" "[I") v) : CS Z h' a vw vp va vs vb v vr := ⟨H.1.wr W, H.2.1.other W (Or.inr (slot_ne (Or.inr (hw _ (List.mem_of_getElem? (i := 11) rfl))) (Or.inr (hw _ (List.mem_of_getElem? (i := 38) rfl))) (by decide) (t := .int) (t' := (.array .int)) (by decide) (by decide))), H.2.2.1.other W (Or.inr (slot_ne (Or.inr (hw _ (List.mem_of_getElem? (i := 26) rfl))) (Or.inr (hw _ (List.mem_of_getElem? (i := 38) rfl))) (by decide) (t := (.array .int)) (t' := (.array .int)) (by decide) (by decide))), H.2.2.2.1.other W (Or.inr (slot_ne (Or.inr (hw _ (List.mem_of_getElem? (i := 28) rfl))) (Or.inr (hw _ (List.mem_of_getElem? (i := 38) rfl))) (by decide) (t := (.array .int)) (t' := (.array .int)) (by decide) (by decide))), H.2.2.2.2.1.other W (Or.inr (slot_ne (Or.inr (hw _ (List.mem_of_getElem? (i := 34) rfl))) (Or.inr (hw _ (List.mem_of_getElem? (i := 38) rfl))) (by decide) (t := .int) (t' := (.array .int)) (by decide) (by decide))), H.2.2.2.2.2.1.other W (Or.inr (slot_ne (Or.inr (hw _ (List.mem_of_getElem? (i := 36) rfl))) (Or.inr (hw _ (List.mem_of_getElem? (i := 38) rfl))) (by decide) (t := .int) (t' := (.array .int)) (by decide) (by decide))), H.2.2.2.2.2.2.1.same W, H.2.2.2.2.2.2.2.other W (Or.inr (slot_ne (Or.inr (hw _ (List.mem_of_getElem? (i := 40) rfl))) (Or.inr (hw _ (List.mem_of_getElem? (i := 38) rfl))) (by decide) (t := .int) (t' := (.array .int)) (by decide) (by decide)))⟩
theorem CS.set_rowInts {Z : State} {h h' : Heap} {a : Addr} {vw vp va vs vb vi vr : Value} {v : Value} {a0 : Array Value} (hw : ∀ d ∈ tables_1, d.before a0 Z = true) (H : CS Z h a vw vp va vs vb vi vr) (W : Wr h h' a (Jvm.RoadKit.slotOf Z "com/example/isolens/isolens/checker/RowLayout" "rowInts" "I") v) : CS Z h' a vw vp va vs vb vi v := ⟨H.1.wr W, H.2.1.other W (Or.inr (slot_ne (Or.inr (hw _ (List.mem_of_getElem? (i := 11) rfl))) (Or.inr (hw _ (List.mem_of_getElem? (i := 40) rfl))) (by decide) (t := .int) (t' := .int) (by decide) (by decide))), H.2.2.1.other W (Or.inr (slot_ne (Or.inr (hw _ (List.mem_of_getElem? (i := 26) rfl))) (Or.inr (hw _ (List.mem_of_getElem? (i := 40) rfl))) (by decide) (t := (.array .int)) (t' := .int) (by decide) (by decide))), H.2.2.2.1.other W (Or.inr (slot_ne (Or.inr (hw _ (List.mem_of_getElem? (i := 28) rfl))) (Or.inr (hw _ (List.mem_of_getElem? (i := 40) rfl))) (by decide) (t := (.array .int)) (t' := .int) (by decide) (by decide))), H.2.2.2.2.1.other W (Or.inr (slot_ne (Or.inr (hw _ (List.mem_of_getElem? (i := 34) rfl))) (Or.inr (hw _ (List.mem_of_getElem? (i := 40) rfl))) (by decide) (t := .int) (t' := .int) (by decide) (by decide))), H.2.2.2.2.2.1.other W (Or.inr (slot_ne (Or.inr (hw _ (List.mem_of_getElem? (i := 36) rfl))) (Or.inr (hw _ (List.mem_of_getElem? (i := 40) rfl))) (by decide) (t := .int) (t' := .int) (by decide) (by decide))), H.2.2.2.2.2.2.1.other W (Or.inr (slot_ne (Or.inr (hw _ (List.mem_of_getElem? (i := 38) rfl))) (Or.inr (hw _ (List.mem_of_getElem? (i := 40) rfl))) (by decide) (t := (.array .int)) (t' := .int) (by decide) (by decide))), H.2.2.2.2.2.2.2.same W⟩
theorem d1_0 : decode prog_75_method_1_code 0 = .ok (.aload_n 0, 1) := by decide +kernel
theorem d1_1 : decode prog_75_method_1_code 1 = .ok (.invokespecial 3, 3) := by decide +kernel
theorem d1_4 : decode prog_75_method_1_code 4 = .ok (.aload_n 0, 1) := by decide +kernel
theorem d1_5 : decode prog_75_method_1_code 5 = .ok (.iload_n 3, 1) := by decide +kernel
theorem d1_6 : decode prog_75_method_1_code 6 = .ok (.putfield 9, 3) := by decide +kernel
theorem d1_9 : decode prog_75_method_1_code 9 = .ok (.aload_n 0, 1) := by decide +kernel
theorem d1_10 : decode prog_75_method_1_code 10 = .ok (.aload_n 1, 1) := by decide +kernel
theorem d1_11 : decode prog_75_method_1_code 11 = .ok (.iload_n 2, 1) := by decide +kernel
theorem d1_12 : decode prog_75_method_1_code 12 = .ok (.iload_n 2, 1) := by decide +kernel
theorem d1_13 : decode prog_75_method_1_code 13 = .ok (.iload_n 3, 1) := by decide +kernel
theorem d1_14 : decode prog_75_method_1_code 14 = .ok (.iadd, 1) := by decide +kernel
theorem d1_15 : decode prog_75_method_1_code 15 = .ok (.invokestatic 15, 3) := by decide +kernel
theorem d1_18 : decode prog_75_method_1_code 18 = .ok (.putfield 21, 3) := by decide +kernel
theorem d1_21 : decode prog_75_method_1_code 21 = .ok (.aload_n 0, 1) := by decide +kernel
theorem d1_22 : decode prog_75_method_1_code 22 = .ok (.iload_n 3, 1) := by decide +kernel
theorem d1_23 : decode prog_75_method_1_code 23 = .ok (.newarray .int, 2) := by decide +kernel
theorem d1_25 : decode prog_75_method_1_code 25 = .ok (.putfield 25, 3) := by decide +kernel
theorem d1_28 : decode prog_75_method_1_code 28 = .ok (.iconst 0, 1) := by decide +kernel
theorem d1_29 : decode prog_75_method_1_code 29 = .ok (.istore 4, 2) := by decide +kernel
theorem d1_31 : decode prog_75_method_1_code 31 = .ok (.iconst 0, 1) := by decide +kernel
theorem d1_32 : decode prog_75_method_1_code 32 = .ok (.istore 5, 2) := by decide +kernel
theorem d1_34 : decode prog_75_method_1_code 34 = .ok (.iconst 0, 1) := by decide +kernel
theorem d1_35 : decode prog_75_method_1_code 35 = .ok (.istore 6, 2) := by decide +kernel
theorem d1_37 : decode prog_75_method_1_code 37 = .ok (.iload 6, 2) := by decide +kernel
theorem d1_39 : decode prog_75_method_1_code 39 = .ok (.iload_n 3, 1) := by decide +kernel
theorem d1_40 : decode prog_75_method_1_code 40 = .ok (.if_icmp .ge 61, 3) := by decide +kernel
theorem d1_43 : decode prog_75_method_1_code 43 = .ok (.aload_n 0, 1) := by decide +kernel
theorem d1_44 : decode prog_75_method_1_code 44 = .ok (.getfield 21, 3) := by decide +kernel
theorem d1_47 : decode prog_75_method_1_code 47 = .ok (.iload 6, 2) := by decide +kernel
theorem d1_49 : decode prog_75_method_1_code 49 = .ok (.iaload, 1) := by decide +kernel
theorem d1_50 : decode prog_75_method_1_code 50 = .ok (.bipush 32, 2) := by decide +kernel
theorem d1_52 : decode prog_75_method_1_code 52 = .ok (.if_icmp .gt 43, 3) := by decide +kernel
theorem d1_55 : decode prog_75_method_1_code 55 = .ok (.iload 4, 2) := by decide +kernel
theorem d1_57 : decode prog_75_method_1_code 57 = .ok (.i2l, 1) := by decide +kernel
theorem d1_58 : decode prog_75_method_1_code 58 = .ok (.aload_n 0, 1) := by decide +kernel
theorem d1_59 : decode prog_75_method_1_code 59 = .ok (.getfield 21, 3) := by decide +kernel
theorem d1_62 : decode prog_75_method_1_code 62 = .ok (.iload 6, 2) := by decide +kernel
theorem d1_64 : decode prog_75_method_1_code 64 = .ok (.iaload, 1) := by decide +kernel
theorem d1_65 : decode prog_75_method_1_code 65 = .ok (.invokestatic 28, 3) := by decide +kernel
theorem d1_68 : decode prog_75_method_1_code 68 = .ok (.l2i, 1) := by decide +kernel
theorem d1_69 : decode prog_75_method_1_code 69 = .ok (.istore 4, 2) := by decide +kernel
theorem d1_71 : decode prog_75_method_1_code 71 = .ok (.aload_n 0, 1) := by decide +kernel
theorem d1_72 : decode prog_75_method_1_code 72 = .ok (.getfield 25, 3) := by decide +kernel
theorem d1_75 : decode prog_75_method_1_code 75 = .ok (.iload 6, 2) := by decide +kernel
theorem d1_77 : decode prog_75_method_1_code 77 = .ok (.iload 4, 2) := by decide +kernel
theorem d1_79 : decode prog_75_method_1_code 79 = .ok (.iastore, 1) := by decide +kernel
theorem d1_80 : decode prog_75_method_1_code 80 = .ok (.iload 4, 2) := by decide +kernel
theorem d1_82 : decode prog_75_method_1_code 82 = .ok (.aload_n 0, 1) := by decide +kernel
theorem d1_83 : decode prog_75_method_1_code 83 = .ok (.getfield 21, 3) := by decide +kernel
theorem d1_86 : decode prog_75_method_1_code 86 = .ok (.iload 6, 2) := by decide +kernel
theorem d1_88 : decode prog_75_method_1_code 88 = .ok (.iaload, 1) := by decide +kernel
theorem d1_89 : decode prog_75_method_1_code 89 = .ok (.iadd, 1) := by decide +kernel
theorem d1_90 : decode prog_75_method_1_code 90 = .ok (.istore 4, 2) := by decide +kernel
theorem d1_92 : decode prog_75_method_1_code 92 = .ok (.iinc 5 1, 3) := by decide +kernel
theorem d1_95 : decode prog_75_method_1_code 95 = .ok (.iinc 6 1, 3) := by decide +kernel
theorem d1_98 : decode prog_75_method_1_code 98 = .ok (.goto (-61), 3) := by decide +kernel
theorem d1_101 : decode prog_75_method_1_code 101 = .ok (.aload_n 0, 1) := by decide +kernel
theorem d1_102 : decode prog_75_method_1_code 102 = .ok (.iload 5, 2) := by decide +kernel
theorem d1_104 : decode prog_75_method_1_code 104 = .ok (.putfield 32, 3) := by decide +kernel
theorem d1_107 : decode prog_75_method_1_code 107 = .ok (.aload_n 0, 1) := by decide +kernel
theorem d1_108 : decode prog_75_method_1_code 108 = .ok (.iload 4, 2) := by decide +kernel
theorem d1_110 : decode prog_75_method_1_code 110 = .ok (.bipush 32, 2) := by decide +kernel
theorem d1_112 : decode prog_75_method_1_code 112 = .ok (.iadd, 1) := by decide +kernel
theorem d1_113 : decode prog_75_method_1_code 113 = .ok (.iconst 1, 1) := by decide +kernel
theorem d1_114 : decode prog_75_method_1_code 114 = .ok (.isub, 1) := by decide +kernel
theorem d1_115 : decode prog_75_method_1_code 115 = .ok (.bipush 32, 2) := by decide +kernel
theorem d1_117 : decode prog_75_method_1_code 117 = .ok (.idiv, 1) := by decide +kernel
theorem d1_118 : decode prog_75_method_1_code 118 = .ok (.putfield 35, 3) := by decide +kernel
theorem d1_121 : decode prog_75_method_1_code 121 = .ok (.aload_n 0, 1) := by decide +kernel
theorem d1_122 : decode prog_75_method_1_code 122 = .ok (.iload_n 3, 1) := by decide +kernel
theorem d1_123 : decode prog_75_method_1_code 123 = .ok (.iload 5, 2) := by decide +kernel
theorem d1_125 : decode prog_75_method_1_code 125 = .ok (.isub, 1) := by decide +kernel
theorem d1_126 : decode prog_75_method_1_code 126 = .ok (.newarray .int, 2) := by decide +kernel
theorem d1_128 : decode prog_75_method_1_code 128 = .ok (.putfield 38, 3) := by decide +kernel
theorem d1_131 : decode prog_75_method_1_code 131 = .ok (.aload_n 0, 1) := by decide +kernel
theorem d1_132 : decode prog_75_method_1_code 132 = .ok (.getfield 35, 3) := by decide +kernel
theorem d1_135 : decode prog_75_method_1_code 135 = .ok (.istore 6, 2) := by decide +kernel
theorem d1_137 : decode prog_75_method_1_code 137 = .ok (.iconst 0, 1) := by decide +kernel
theorem d1_138 : decode prog_75_method_1_code 138 = .ok (.istore 7, 2) := by decide +kernel
theorem d1_140 : decode prog_75_method_1_code 140 = .ok (.iload 7, 2) := by decide +kernel
theorem d1_142 : decode prog_75_method_1_code 142 = .ok (.iload_n 3, 1) := by decide +kernel
theorem d1_143 : decode prog_75_method_1_code 143 = .ok (.if_icmp .ge 47, 3) := by decide +kernel
theorem d1_146 : decode prog_75_method_1_code 146 = .ok (.aload_n 0, 1) := by decide +kernel
theorem d1_147 : decode prog_75_method_1_code 147 = .ok (.getfield 21, 3) := by decide +kernel
theorem d1_150 : decode prog_75_method_1_code 150 = .ok (.iload 7, 2) := by decide +kernel
theorem d1_152 : decode prog_75_method_1_code 152 = .ok (.iaload, 1) := by decide +kernel
theorem d1_153 : decode prog_75_method_1_code 153 = .ok (.bipush 32, 2) := by decide +kernel
theorem d1_155 : decode prog_75_method_1_code 155 = .ok (.if_icmp .le 29, 3) := by decide +kernel
theorem d1_158 : decode prog_75_method_1_code 158 = .ok (.aload_n 0, 1) := by decide +kernel
theorem d1_159 : decode prog_75_method_1_code 159 = .ok (.getfield 38, 3) := by decide +kernel
theorem d1_162 : decode prog_75_method_1_code 162 = .ok (.iload 6, 2) := by decide +kernel
theorem d1_164 : decode prog_75_method_1_code 164 = .ok (.aload_n 0, 1) := by decide +kernel
theorem d1_165 : decode prog_75_method_1_code 165 = .ok (.getfield 35, 3) := by decide +kernel
theorem d1_168 : decode prog_75_method_1_code 168 = .ok (.isub, 1) := by decide +kernel
theorem d1_169 : decode prog_75_method_1_code 169 = .ok (.iload 7, 2) := by decide +kernel
theorem d1_171 : decode prog_75_method_1_code 171 = .ok (.iastore, 1) := by decide +kernel
theorem d1_172 : decode prog_75_method_1_code 172 = .ok (.aload_n 0, 1) := by decide +kernel
theorem d1_173 : decode prog_75_method_1_code 173 = .ok (.getfield 25, 3) := by decide +kernel
theorem d1_176 : decode prog_75_method_1_code 176 = .ok (.iload 7, 2) := by decide +kernel
theorem d1_178 : decode prog_75_method_1_code 178 = .ok (.iload 6, 2) := by decide +kernel
theorem d1_180 : decode prog_75_method_1_code 180 = .ok (.iinc 6 1, 3) := by decide +kernel
theorem d1_183 : decode prog_75_method_1_code 183 = .ok (.iastore, 1) := by decide +kernel
theorem d1_184 : decode prog_75_method_1_code 184 = .ok (.iinc 7 1, 3) := by decide +kernel
theorem d1_187 : decode prog_75_method_1_code 187 = .ok (.goto (-47), 3) := by decide +kernel
theorem d1_190 : decode prog_75_method_1_code 190 = .ok (.aload_n 0, 1) := by decide +kernel
theorem d1_191 : decode prog_75_method_1_code 191 = .ok (.iload 6, 2) := by decide +kernel
theorem d1_193 : decode prog_75_method_1_code 193 = .ok (.putfield 41, 3) := by decide +kernel
theorem d1_196 : decode prog_75_method_1_code 196 = .ok (.return_, 1) := by decide +kernel
theorem pn_1 : plainName "com/example/isolens/isolens/checker/RowLayout" = true := by first | (simp [plainName, overriddenIn]; done) | decide +kernel
theorem ef_1 (m : MethodId) (o0 : Addr) (o1 : Addr) (p2 : Int32) (p3 : Int32) : entryFrame m #[(.ref o0), (.ref o1), (.int p2), (.int p3)] 8 = mkF m 0 #[.val (.ref o0), .val (.ref o1), .val (.int p2), .val (.int p3), .unset, .unset, .unset, .unset] [] := by first | (simp [entryFrame, mkF, argsToLocals, Value.category]; done) | rfl
def Q1 (Z : State) (o0 : Addr) (P : Nat → Int32) (PP : Nat → Nat) (n0 : Nat) (v : Option Value) (h : Heap) (L : List Loc) : Prop := v = none ∧ Fr n0 L ∧ n0 ≤ h.size ∧ ∃ (bp ba : Addr) (A : Nat → Int32) (BI RI : Int32), RL Z h o0 bp ba P A BI RI ∧ (∀ i, i < 3 → (A i).toInt = (atN PP i : Nat)) ∧ BI.toInt = (biN PP : Nat) ∧ RI.toInt = (riN PP : Nat)
set_option maxRecDepth 65536 in
set_option maxHeartbeats 40000000 in
theorem rm1 (l : Launch) (Z : State) (a0 : Array Value) (hw : ∀ d ∈ tables_1, d.before a0 Z = true) (ws : List Jvm.Cond) (o0 : Addr) (o1 : Addr) (p2 : Int32) (p3 : Int32) (P : Nat → Int32) (h0 : Heap) (n0 : Nat) (Z0 : n0 ≤ h0.size) (PP : Nat → Nat) (hP : ∀ i, i < 3 → (P i).toInt = PP i ∧ 1 ≤ PP i ∧ PP i ≤ 64) (G : IV Z h0 o1 3 P) (E1 : Exa Z h0 o1 "[I") (hp2 : p2 = 0) (hp3 : p3 = 3) (C0 : CS Z h0 o0 (.int 0) .null .null (.int 0) (.int 0) .null (.int 0)) (g0 : n0 ≤ o0) (noo0 : o0 ≠ o1) :
    MetFree l (⟨"com/example/isolens/isolens/checker/RowLayout", "<init>", "([III)V"⟩ : MethodName) (head1 (Jvm.Cond.code (⟨"com/example/isolens/isolens/checker/RowLayout", "<init>", "([III)V"⟩ : MethodName) prog_75_method_1_code 8 none :: ws) ({ frames := 2, cells := 4, slots := 12, locals := 40 } : Room)) (fun a U => a = #[(.ref o0), (.ref o1), (.int p2), (.int p3)] ∧ Z.Warmed39 U.vm ∧ U.heap = h0) (fun _ _ _ _ _ => True) (fun _ U o U' => ∃ v L, o = .returned v ∧ (Q1 Z o0 P PP n0) v U'.heap L ∧ FrameEnd U o U' L ({ frames := 2, cells := 4, slots := 12, locals := 40 } : Room).cells ({ frames := 2, cells := 4, slots := 12, locals := 40 } : Room).slots) := by
  refine MetFree.of_bodySF (plainFor_of_name pn_1) hisR ?_
  intro p e s m args below meth c s₁ Bd hml0 hP hK
  obtain ⟨rfl, hZ, hh⟩ := hP
  have hx := Bd.exec
  have hby := Bd.bytes
  have hml : c.maxLocals = 8 := hml0
  have hown : s.vm.findClass "com/example/isolens/isolens/checker/RowLayout" = some m.cls := findClass_of_methodNamed Bd.named
  have hnm := (name_of_methodNamed Bd.named Bd.method).1
  have hlk : meth.locks = false := Bd.notSynchronized
  have X0 : Stand p l e ({ frames := 2, cells := 4, slots := 12, locals := 40 } : Room) s m #[(.ref o0), (.ref o1), (.int p2), (.int p3)] below meth c s₁ [] 0 0 := Stand.of_body Bd
  have e0 : s₁.heap = h0 := by rw [← hh, Bd.state]; rfl
  have N0 := Fr.nil n0
  have hp3' : p3.toInt = ((3 : Nat) : Int) := by rw [hp3]; rfl
  have noo : o0 ≠ o1 := noo0
  refine Go.by (tb := p.tables) (e := e) (below := below) (F := fun t o => ∃ v L, o = .returned v ∧ (Q1 Z o0 P PP n0) v t.heap L ∧ FrameEnd s o t L ({ frames := 2, cells := 4, slots := 12, locals := 40 } : Room).cells ({ frames := 2, cells := 4, slots := 12, locals := 40 } : Room).slots) (fun t k => castTop (ef_1 m o0 o1 p2 p3) k) ?_
  have J140 : ∀ (f : Nat) (T : State) (locs : List Loc) (h : Heap) (X : Stand p l e ({ frames := 2, cells := 4, slots := 12, locals := 40 } : Room) s m #[(.ref o0), (.ref o1), (.int p2), (.int p3)] below meth c T locs 3 9) (eT : T.heap = h) (N : Fr n0 locs) (hz : n0 ≤ h.size) (bp ba bi : Addr) (gA gi : Nat → Int32) (BI v4 v5 v6 v7 : Int32) (vbs : Value) (j : Nat) (gba : n0 ≤ ba) (gbi : n0 ≤ bi) (nab : ba ≠ bp) (nia : bi ≠ ba) (npi : bp ≠ bi) (noa : o0 ≠ ba) (nob : o0 ≠ bp) (noi : o0 ≠ bi) (hBI : BI.toInt = biN PP) (C : CS Z h o0 (.int p3) (.ref bp) (.ref ba) vbs (.int BI) (.ref bi) (.int (0 : Int32))) (Ip : IV Z h bp 3 P) (Ia : IV Z h ba 3 gA) (Ii : IV Z h bi (icN PP 3) gi) (hv7 : v7.toInt = j) (hv6 : v6.toInt = (biN PP + icN PP j : Nat)) (hj : j ≤ 3) (hA1 : ∀ i, i < 3 → ¬ 32 < PP i → (gA i).toInt = (plN (bitsN PP i) (PP i) : Nat)) (hA2 : ∀ i, i < j → 32 < PP i → (gA i).toInt = (biN PP + icN PP i : Nat)) (hf : 3 ≤ j + f), Go p.tables e below (fun t o => ∃ v L, o = .returned v ∧ (Q1 Z o0 P PP n0) v t.heap L ∧ FrameEnd s o t L ({ frames := 2, cells := 4, slots := 12, locals := 40 } : Room).cells ({ frames := 2, cells := 4, slots := 12, locals := 40 } : Room).slots) (T.setTop (mkF m 140 #[.val (.ref o0), .val (.ref o1), .val (.int p2), .val (.int p3), .val (.int v4), .val (.int v5), .val (.int v6), .val (.int v7)] [])) := by
    intro f
    induction f with
    | zero =>
      intro T locs h X eT N hz bp ba bi gA gi BI v4 v5 v6 v7 vbs j gba gbi nab nia npi noa nob noi hBI C Ip Ia Ii hv7 hv6 hj hA1 hA2 hf
      show Go _ _ _ _ (T.setTop (mkF m 140 #[.val (.ref o0), .val (.ref o1), .val (.int p2), .val (.int p3), .val (.int v4), .val (.int v5), .val (.int v6), .val (.int v7)] []))
      refine Go.by (fun t9 k9 => XS.iload X.here hx rfl (hb hby d1_140) rfl k9) ?_
      show Go _ _ _ _ (T.setTop (mkF m 142 #[.val (.ref o0), .val (.ref o1), .val (.int p2), .val (.int p3), .val (.int v4), .val (.int v5), .val (.int v6), .val (.int v7)] [(.int v7)]))
      refine Go.by (fun t9 k9 => XS.iloadN X.here hx rfl (hb hby d1_142) rfl k9) ?_
      show Go _ _ _ _ (T.setTop (mkF m 143 #[.val (.ref o0), .val (.ref o1), .val (.int p2), .val (.int p3), .val (.int v4), .val (.int v5), .val (.int v6), .val (.int v7)] [(.int p3), (.int v7)]))
      refine Go.by (fun t9 k9 => XS.icmpYes X.here hx rfl (pc0 := 143) (pc' := 190) rfl (hb hby d1_143) rfl (XT.ii_ge_t (fun q => by have := (own_ltN hv7 hp3').mp q; omega)) (by decide) (by decide) k9) ?_
      show Go _ _ _ _ (T.setTop (mkF m 190 #[.val (.ref o0), .val (.ref o1), .val (.int p2), .val (.int p3), .val (.int v4), .val (.int v5), .val (.int v6), .val (.int v7)] []))
      refine Go.by (fun t9 k9 => XS.aloadN X.here hx rfl (hb hby d1_190) rfl rfl k9) ?_
      show Go _ _ _ _ (T.setTop (mkF m 191 #[.val (.ref o0), .val (.ref o1), .val (.int p2), .val (.int p3), .val (.int v4), .val (.int v5), .val (.int v6), .val (.int v7)] [(.ref o0)]))
      refine Go.by (fun t9 k9 => XS.iload X.here hx rfl (hb hby d1_191) rfl k9) ?_
      show Go _ _ _ _ (T.setTop (mkF m 193 #[.val (.ref o0), .val (.ref o1), .val (.int p2), .val (.int p3), .val (.int v4), .val (.int v5), .val (.int v6), .val (.int v7)] [(.int v6), (.ref o0)]))
      obtain ⟨T1, h1, X1, e1, W1, st1⟩ := putF X hx hZ hown (host := "") (Or.inl (hw _ (List.mem_of_getElem? (i := 39) rfl))) Via.refl eT C.2.2.2.2.2.2.2 C.1 (Or.inr ⟨(hw _ (List.mem_of_getElem? (i := 40) rfl)), rfl, hnm⟩) (hw _ (List.mem_of_getElem? (i := 2) rfl)) (ty := .int) (by decide) rfl rfl (g := (mkF m 193 #[.val (.ref o0), .val (.ref o1), .val (.int p2), .val (.int p3), .val (.int v4), .val (.int v5), .val (.int v6), .val (.int v7)] [(.int v6), (.ref o0)])) rfl rfl (hb hby d1_193)
      have N1 := Fr.snoc X1 N g0
      have C1 := CS.set_rowInts hw C W1
      have hz1 : n0 ≤ h1.size := by rw [W1.size]; exact hz
      have Ibp_1 := Ip.other W1 (Ne.symm nob)
      have Iba_1 := Ia.other W1 (Ne.symm noa)
      have Ibi_1 := Ii.other W1 (Ne.symm noi)
      refine Go.by st1 ?_
      show Go _ _ _ _ (T1.setTop (mkF m 196 #[.val (.ref o0), .val (.ref o1), .val (.int p2), .val (.int p3), .val (.int v4), .val (.int v5), .val (.int v6), .val (.int v7)] []))
      have ej : j = 3 := by omega
      subst ej
      exact Go.retV (Q := Q1 Z o0 P PP n0) X1 hx hlk Bd.returns (hb hby d1_196) (by rw [e1]; exact ⟨rfl, N1, hz1, bp, ba, gA, BI, v6, ⟨C1.1, C1.2.2.1, C1.2.2.2.1, C1.2.2.2.2.2.1, C1.2.2.2.2.2.2.2, Ibp_1, Iba_1⟩, fun i hi => own_at hA1 hA2 hi, hBI, hv6⟩) (by decide) (by decide)
    | succ f ih =>
      intro T locs h X eT N hz bp ba bi gA gi BI v4 v5 v6 v7 vbs j gba gbi nab nia npi noa nob noi hBI C Ip Ia Ii hv7 hv6 hj hA1 hA2 hf
      show Go _ _ _ _ (T.setTop (mkF m 140 #[.val (.ref o0), .val (.ref o1), .val (.int p2), .val (.int p3), .val (.int v4), .val (.int v5), .val (.int v6), .val (.int v7)] []))
      refine Go.by (fun t9 k9 => XS.iload X.here hx rfl (hb hby d1_140) rfl k9) ?_
      show Go _ _ _ _ (T.setTop (mkF m 142 #[.val (.ref o0), .val (.ref o1), .val (.int p2), .val (.int p3), .val (.int v4), .val (.int v5), .val (.int v6), .val (.int v7)] [(.int v7)]))
      refine Go.by (fun t9 k9 => XS.iloadN X.here hx rfl (hb hby d1_142) rfl k9) ?_
      show Go _ _ _ _ (T.setTop (mkF m 143 #[.val (.ref o0), .val (.ref o1), .val (.int p2), .val (.int p3), .val (.int v4), .val (.int v5), .val (.int v6), .val (.int v7)] [(.int p3), (.int v7)]))
      by_cases hc143 : v7 < p3
      · have hj3 := (own_ltN hv7 hp3').mp hc143
        refine Go.by (fun t9 k9 => XS.icmpNo X.here hx rfl (hb hby d1_143) rfl (XT.ii_ge_f hc143) k9) ?_
        show Go _ _ _ _ (T.setTop (mkF m 146 #[.val (.ref o0), .val (.ref o1), .val (.int p2), .val (.int p3), .val (.int v4), .val (.int v5), .val (.int v6), .val (.int v7)] []))
        refine Go.by (fun t9 k9 => XS.aloadN X.here hx rfl (hb hby d1_146) rfl rfl k9) ?_
        show Go _ _ _ _ (T.setTop (mkF m 147 #[.val (.ref o0), .val (.ref o1), .val (.int p2), .val (.int p3), .val (.int v4), .val (.int v5), .val (.int v6), .val (.int v7)] [(.ref o0)]))
        refine Go.gf X hx hZ hown (hw _ (List.mem_of_getElem? (i := 25) rfl)) eT C.2.2.1 rfl rfl (hb hby d1_147) fun T2 X2 e2 => ?_
        show Go _ _ _ _ (T2.setTop (mkF m 150 #[.val (.ref o0), .val (.ref o1), .val (.int p2), .val (.int p3), .val (.int v4), .val (.int v5), .val (.int v6), .val (.int v7)] [(.ref bp)]))
        refine Go.by (fun t9 k9 => XS.iload X2.here hx rfl (hb hby d1_150) rfl k9) ?_
        show Go _ _ _ _ (T2.setTop (mkF m 152 #[.val (.ref o0), .val (.ref o1), .val (.int p2), .val (.int p3), .val (.int v4), .val (.int v5), .val (.int v6), .val (.int v7)] [(.int v7), (.ref bp)]))
        refine Go.ldIV X2 hx hZ e2 Ip (i := j) hv7 (by omega) rfl rfl (hb hby d1_152) ?_
        show Go _ _ _ _ (T2.setTop (mkF m 153 #[.val (.ref o0), .val (.ref o1), .val (.int p2), .val (.int p3), .val (.int v4), .val (.int v5), .val (.int v6), .val (.int v7)] [(.int (P j))]))
        refine Go.by (fun t9 k9 => XS.bipush X2.here hx rfl (hb hby d1_153) k9) ?_
        show Go _ _ _ _ (T2.setTop (mkF m 155 #[.val (.ref o0), .val (.ref o1), .val (.int p2), .val (.int p3), .val (.int v4), .val (.int v5), .val (.int v6), .val (.int v7)] [(.int (32 : Int32)), (.int (P j))]))
        by_cases hc155 : (32 : Int32) < (P j)
        · have hbig := (own_big (hP j hj3).1).mp hc155
          refine Go.by (fun t9 k9 => XS.icmpNo X2.here hx rfl (hb hby d1_155) rfl (XT.ii_le_f hc155) k9) ?_
          show Go _ _ _ _ (T2.setTop (mkF m 158 #[.val (.ref o0), .val (.ref o1), .val (.int p2), .val (.int p3), .val (.int v4), .val (.int v5), .val (.int v6), .val (.int v7)] []))
          refine Go.by (fun t9 k9 => XS.aloadN X2.here hx rfl (hb hby d1_158) rfl rfl k9) ?_
          show Go _ _ _ _ (T2.setTop (mkF m 159 #[.val (.ref o0), .val (.ref o1), .val (.int p2), .val (.int p3), .val (.int v4), .val (.int v5), .val (.int v6), .val (.int v7)] [(.ref o0)]))
          refine Go.gf X2 hx hZ hown (hw _ (List.mem_of_getElem? (i := 37) rfl)) e2 C.2.2.2.2.2.2.1 rfl rfl (hb hby d1_159) fun T3 X3 e3 => ?_
          show Go _ _ _ _ (T3.setTop (mkF m 162 #[.val (.ref o0), .val (.ref o1), .val (.int p2), .val (.int p3), .val (.int v4), .val (.int v5), .val (.int v6), .val (.int v7)] [(.ref bi)]))
          refine Go.by (fun t9 k9 => XS.iload X3.here hx rfl (hb hby d1_162) rfl k9) ?_
          show Go _ _ _ _ (T3.setTop (mkF m 164 #[.val (.ref o0), .val (.ref o1), .val (.int p2), .val (.int p3), .val (.int v4), .val (.int v5), .val (.int v6), .val (.int v7)] [(.int v6), (.ref bi)]))
          refine Go.by (fun t9 k9 => XS.aloadN X3.here hx rfl (hb hby d1_164) rfl rfl k9) ?_
          show Go _ _ _ _ (T3.setTop (mkF m 165 #[.val (.ref o0), .val (.ref o1), .val (.int p2), .val (.int p3), .val (.int v4), .val (.int v5), .val (.int v6), .val (.int v7)] [(.ref o0), (.int v6), (.ref bi)]))
          refine Go.gf X3 hx hZ hown (hw _ (List.mem_of_getElem? (i := 35) rfl)) e3 C.2.2.2.2.2.1 rfl rfl (hb hby d1_165) fun T4 X4 e4 => ?_
          show Go _ _ _ _ (T4.setTop (mkF m 168 #[.val (.ref o0), .val (.ref o1), .val (.int p2), .val (.int p3), .val (.int v4), .val (.int v5), .val (.int v6), .val (.int v7)] [(.int BI), (.int v6), (.ref bi)]))
          refine Go.by (fun t9 k9 => XS.isub X4.here hx rfl (hb hby d1_168) rfl k9) ?_
          show Go _ _ _ _ (T4.setTop (mkF m 169 #[.val (.ref o0), .val (.ref o1), .val (.int p2), .val (.int p3), .val (.int v4), .val (.int v5), .val (.int v6), .val (.int v7)] [(.int (v6 - BI)), (.ref bi)]))
          refine Go.by (fun t9 k9 => XS.iload X4.here hx rfl (hb hby d1_169) rfl k9) ?_
          show Go _ _ _ _ (T4.setTop (mkF m 171 #[.val (.ref o0), .val (.ref o1), .val (.int p2), .val (.int p3), .val (.int v4), .val (.int v5), .val (.int v6), .val (.int v7)] [(.int v7), (.int (v6 - BI)), (.ref bi)]))
          refine Go.stIV X4 hx hZ e4 Ii N gbi (i := (icN PP j)) (own_ix hv6 hBI) (icN_mono PP j (by omega) hbig) rfl rfl (hb hby d1_171) fun T5 h5 lc5 X5 e5 N5 W5 => ?_
          have C5 := CS.other C W5 noi
          have hz5 : n0 ≤ h5.size := by rw [W5.size]; exact hz
          have Ibp_5 := Ip.other W5 npi
          have Iba_5 := Ia.other W5 (Ne.symm nia)
          have Ibi_5 := Ii.st W5
          show Go _ _ _ _ (T5.setTop (mkF m 172 #[.val (.ref o0), .val (.ref o1), .val (.int p2), .val (.int p3), .val (.int v4), .val (.int v5), .val (.int v6), .val (.int v7)] []))
          refine Go.by (fun t9 k9 => XS.aloadN X5.here hx rfl (hb hby d1_172) rfl rfl k9) ?_
          show Go _ _ _ _ (T5.setTop (mkF m 173 #[.val (.ref o0), .val (.ref o1), .val (.int p2), .val (.int p3), .val (.int v4), .val (.int v5), .val (.int v6), .val (.int v7)] [(.ref o0)]))
          refine Go.gf X5 hx hZ hown (hw _ (List.mem_of_getElem? (i := 27) rfl)) e5 C5.2.2.2.1 rfl rfl (hb hby d1_173) fun T6 X6 e6 => ?_
          show Go _ _ _ _ (T6.setTop (mkF m 176 #[.val (.ref o0), .val (.ref o1), .val (.int p2), .val (.int p3), .val (.int v4), .val (.int v5), .val (.int v6), .val (.int v7)] [(.ref ba)]))
          refine Go.by (fun t9 k9 => XS.iload X6.here hx rfl (hb hby d1_176) rfl k9) ?_
          show Go _ _ _ _ (T6.setTop (mkF m 178 #[.val (.ref o0), .val (.ref o1), .val (.int p2), .val (.int p3), .val (.int v4), .val (.int v5), .val (.int v6), .val (.int v7)] [(.int v7), (.ref ba)]))
          refine Go.by (fun t9 k9 => XS.iload X6.here hx rfl (hb hby d1_178) rfl k9) ?_
          show Go _ _ _ _ (T6.setTop (mkF m 180 #[.val (.ref o0), .val (.ref o1), .val (.int p2), .val (.int p3), .val (.int v4), .val (.int v5), .val (.int v6), .val (.int v7)] [(.int v6), (.int v7), (.ref ba)]))
          refine Go.by (fun t9 k9 => XS.iinc X6.here hx rfl (hb hby d1_180) rfl (l' := #[.val (.ref o0), .val (.ref o1), .val (.int p2), .val (.int p3), .val (.int v4), .val (.int v5), .val (.int (v6 + (1 : Int32))), .val (.int v7)]) rfl k9) ?_
          show Go _ _ _ _ (T6.setTop (mkF m 183 #[.val (.ref o0), .val (.ref o1), .val (.int p2), .val (.int p3), .val (.int v4), .val (.int v5), .val (.int (v6 + (1 : Int32))), .val (.int v7)] [(.int v6), (.int v7), (.ref ba)]))
          refine Go.stIV X6 hx hZ e6 Iba_5 N5 gba (i := j) hv7 (by omega) rfl rfl (hb hby d1_183) fun T7 h7 lc7 X7 e7 N7 W7 => ?_
          have C7 := CS.other C5 W7 noa
          have hz7 : n0 ≤ h7.size := by rw [W7.size]; exact hz5
          have Ibp_7 := Ibp_5.other W7 (Ne.symm nab)
          have Iba_7 := Iba_5.st W7
          have Ibi_7 := Ibi_5.other W7 nia
          show Go _ _ _ _ (T7.setTop (mkF m 184 #[.val (.ref o0), .val (.ref o1), .val (.int p2), .val (.int p3), .val (.int v4), .val (.int v5), .val (.int (v6 + (1 : Int32))), .val (.int v7)] []))
          refine Go.by (fun t9 k9 => XS.iinc X7.here hx rfl (hb hby d1_184) rfl (l' := #[.val (.ref o0), .val (.ref o1), .val (.int p2), .val (.int p3), .val (.int v4), .val (.int v5), .val (.int (v6 + (1 : Int32))), .val (.int (v7 + (1 : Int32)))]) rfl k9) ?_
          show Go _ _ _ _ (T7.setTop (mkF m 187 #[.val (.ref o0), .val (.ref o1), .val (.int p2), .val (.int p3), .val (.int v4), .val (.int v5), .val (.int (v6 + (1 : Int32))), .val (.int (v7 + (1 : Int32)))] []))
          refine Go.by (fun t9 k9 => XS.goto X7.here hx rfl (pc0 := 187) (pc' := 140) rfl (hb hby d1_187) (by decide) (by decide) k9) ?_
          exact ih T7 _ _ X7 e7 N7 hz7 bp ba bi _ _ BI v4 v5 _ _ vbs (j + 1) gba gbi nab nia npi noa nob noi hBI C7 Ibp_7 Iba_7 Ibi_7 (own_inc hv7 (by omega)) (by rw [show icN PP (j + 1) = icN PP j + 1 from if_pos hbig]; exact own_inc (i := biN PP + icN PP j) hv6 (by have := own_small hP; have := cbic PP j; omega)) (by omega) (own_A1 hA1 hbig) (own_A2 hA2 hv6) (by omega)
        · have hbig : ¬ 32 < PP j := fun q => hc155 ((own_big (hP j hj3).1).mpr q)
          refine Go.by (fun t9 k9 => XS.icmpYes X2.here hx rfl (pc0 := 155) (pc' := 184) rfl (hb hby d1_155) rfl (XT.ii_le_t hc155) (by decide) (by decide) k9) ?_
          show Go _ _ _ _ (T2.setTop (mkF m 184 #[.val (.ref o0), .val (.ref o1), .val (.int p2), .val (.int p3), .val (.int v4), .val (.int v5), .val (.int v6), .val (.int v7)] []))
          refine Go.by (fun t9 k9 => XS.iinc X2.here hx rfl (hb hby d1_184) rfl (l' := #[.val (.ref o0), .val (.ref o1), .val (.int p2), .val (.int p3), .val (.int v4), .val (.int v5), .val (.int v6), .val (.int (v7 + (1 : Int32)))]) rfl k9) ?_
          show Go _ _ _ _ (T2.setTop (mkF m 187 #[.val (.ref o0), .val (.ref o1), .val (.int p2), .val (.int p3), .val (.int v4), .val (.int v5), .val (.int v6), .val (.int (v7 + (1 : Int32)))] []))
          refine Go.by (fun t9 k9 => XS.goto X2.here hx rfl (pc0 := 187) (pc' := 140) rfl (hb hby d1_187) (by decide) (by decide) k9) ?_
          exact ih T2 _ _ X2 e2 N hz bp ba bi _ _ BI v4 v5 _ _ vbs (j + 1) gba gbi nab nia npi noa nob noi hBI C Ip Ia Ii (own_inc hv7 (by omega)) (by rw [show icN PP (j + 1) = icN PP j from if_neg hbig]; exact hv6) (by omega) hA1 (own_A2' hA2 hbig) (by omega)
      · have hj3 : ¬ (j < 3) := fun q => hc143 ((own_ltN hv7 hp3').mpr q)
        refine Go.by (fun t9 k9 => XS.icmpYes X.here hx rfl (pc0 := 143) (pc' := 190) rfl (hb hby d1_143) rfl (XT.ii_ge_t hc143) (by decide) (by decide) k9) ?_
        show Go _ _ _ _ (T.setTop (mkF m 190 #[.val (.ref o0), .val (.ref o1), .val (.int p2), .val (.int p3), .val (.int v4), .val (.int v5), .val (.int v6), .val (.int v7)] []))
        refine Go.by (fun t9 k9 => XS.aloadN X.here hx rfl (hb hby d1_190) rfl rfl k9) ?_
        show Go _ _ _ _ (T.setTop (mkF m 191 #[.val (.ref o0), .val (.ref o1), .val (.int p2), .val (.int p3), .val (.int v4), .val (.int v5), .val (.int v6), .val (.int v7)] [(.ref o0)]))
        refine Go.by (fun t9 k9 => XS.iload X.here hx rfl (hb hby d1_191) rfl k9) ?_
        show Go _ _ _ _ (T.setTop (mkF m 193 #[.val (.ref o0), .val (.ref o1), .val (.int p2), .val (.int p3), .val (.int v4), .val (.int v5), .val (.int v6), .val (.int v7)] [(.int v6), (.ref o0)]))
        obtain ⟨T8, h8, X8, e8, W8, st8⟩ := putF X hx hZ hown (host := "") (Or.inl (hw _ (List.mem_of_getElem? (i := 39) rfl))) Via.refl eT C.2.2.2.2.2.2.2 C.1 (Or.inr ⟨(hw _ (List.mem_of_getElem? (i := 40) rfl)), rfl, hnm⟩) (hw _ (List.mem_of_getElem? (i := 2) rfl)) (ty := .int) (by decide) rfl rfl (g := (mkF m 193 #[.val (.ref o0), .val (.ref o1), .val (.int p2), .val (.int p3), .val (.int v4), .val (.int v5), .val (.int v6), .val (.int v7)] [(.int v6), (.ref o0)])) rfl rfl (hb hby d1_193)
        have N8 := Fr.snoc X8 N g0
        have C8 := CS.set_rowInts hw C W8
        have hz8 : n0 ≤ h8.size := by rw [W8.size]; exact hz
        have Ibp_8 := Ip.other W8 (Ne.symm nob)
        have Iba_8 := Ia.other W8 (Ne.symm noa)
        have Ibi_8 := Ii.other W8 (Ne.symm noi)
        refine Go.by st8 ?_
        show Go _ _ _ _ (T8.setTop (mkF m 196 #[.val (.ref o0), .val (.ref o1), .val (.int p2), .val (.int p3), .val (.int v4), .val (.int v5), .val (.int v6), .val (.int v7)] []))
        have ej : j = 3 := by omega
        subst ej
        exact Go.retV (Q := Q1 Z o0 P PP n0) X8 hx hlk Bd.returns (hb hby d1_196) (by rw [e8]; exact ⟨rfl, N8, hz8, bp, ba, gA, BI, v6, ⟨C8.1, C8.2.2.1, C8.2.2.2.1, C8.2.2.2.2.2.1, C8.2.2.2.2.2.2.2, Ibp_8, Iba_8⟩, fun i hi => own_at hA1 hA2 hi, hBI, hv6⟩) (by decide) (by decide)
  have J37 : ∀ (f : Nat) (T : State) (locs : List Loc) (h : Heap) (X : Stand p l e ({ frames := 2, cells := 4, slots := 12, locals := 40 } : Room) s m #[(.ref o0), (.ref o1), (.int p2), (.int p3)] below meth c T locs 2 6) (eT : T.heap = h) (N : Fr n0 locs) (hz : n0 ≤ h.size) (bp ba : Addr) (gA : Nat → Int32) (v4 v5 v6 : Int32) (j : Nat) (gba : n0 ≤ ba) (nab : ba ≠ bp) (noa : o0 ≠ ba) (nob : o0 ≠ bp) (C : CS Z h o0 (.int p3) (.ref bp) (.ref ba) (.int (0 : Int32)) (.int (0 : Int32)) .null (.int (0 : Int32))) (Ip : IV Z h bp 3 P) (Ia : IV Z h ba 3 gA) (hv4 : v4.toInt = bitsN PP j) (hv5 : v5.toInt = cbN PP j) (hv6 : v6.toInt = j) (hj : j ≤ 3) (hA0 : ∀ i, i < j → ¬ 32 < PP i → (gA i).toInt = (plN (bitsN PP i) (PP i) : Nat)) (hf : 3 ≤ j + f), Go p.tables e below (fun t o => ∃ v L, o = .returned v ∧ (Q1 Z o0 P PP n0) v t.heap L ∧ FrameEnd s o t L ({ frames := 2, cells := 4, slots := 12, locals := 40 } : Room).cells ({ frames := 2, cells := 4, slots := 12, locals := 40 } : Room).slots) (T.setTop (mkF m 37 #[.val (.ref o0), .val (.ref o1), .val (.int p2), .val (.int p3), .val (.int v4), .val (.int v5), .val (.int v6), .unset] [])) := by
    intro f
    induction f with
    | zero =>
      intro T locs h X eT N hz bp ba gA v4 v5 v6 j gba nab noa nob C Ip Ia hv4 hv5 hv6 hj hA0 hf
      show Go _ _ _ _ (T.setTop (mkF m 37 #[.val (.ref o0), .val (.ref o1), .val (.int p2), .val (.int p3), .val (.int v4), .val (.int v5), .val (.int v6), .unset] []))
      refine Go.by (fun t9 k9 => XS.iload X.here hx rfl (hb hby d1_37) rfl k9) ?_
      show Go _ _ _ _ (T.setTop (mkF m 39 #[.val (.ref o0), .val (.ref o1), .val (.int p2), .val (.int p3), .val (.int v4), .val (.int v5), .val (.int v6), .unset] [(.int v6)]))
      refine Go.by (fun t9 k9 => XS.iloadN X.here hx rfl (hb hby d1_39) rfl k9) ?_
      show Go _ _ _ _ (T.setTop (mkF m 40 #[.val (.ref o0), .val (.ref o1), .val (.int p2), .val (.int p3), .val (.int v4), .val (.int v5), .val (.int v6), .unset] [(.int p3), (.int v6)]))
      refine Go.by (fun t9 k9 => XS.icmpYes X.here hx rfl (pc0 := 40) (pc' := 101) rfl (hb hby d1_40) rfl (XT.ii_ge_t (fun q => by have := (own_ltN hv6 hp3').mp q; omega)) (by decide) (by decide) k9) ?_
      have ej : j = 3 := by omega
      subst ej
      have hA1 := hA0
      show Go _ _ _ _ (T.setTop (mkF m 101 #[.val (.ref o0), .val (.ref o1), .val (.int p2), .val (.int p3), .val (.int v4), .val (.int v5), .val (.int v6), .unset] []))
      refine Go.by (fun t9 k9 => XS.aloadN X.here hx rfl (hb hby d1_101) rfl rfl k9) ?_
      show Go _ _ _ _ (T.setTop (mkF m 102 #[.val (.ref o0), .val (.ref o1), .val (.int p2), .val (.int p3), .val (.int v4), .val (.int v5), .val (.int v6), .unset] [(.ref o0)]))
      refine Go.by (fun t9 k9 => XS.iload X.here hx rfl (hb hby d1_102) rfl k9) ?_
      show Go _ _ _ _ (T.setTop (mkF m 104 #[.val (.ref o0), .val (.ref o1), .val (.int p2), .val (.int p3), .val (.int v4), .val (.int v5), .val (.int v6), .unset] [(.int v5), (.ref o0)]))
      obtain ⟨T9, h9, X9, e9, W9, st9⟩ := putF X hx hZ hown (host := "") (Or.inl (hw _ (List.mem_of_getElem? (i := 33) rfl))) Via.refl eT C.2.2.2.2.1 C.1 (Or.inr ⟨(hw _ (List.mem_of_getElem? (i := 34) rfl)), rfl, hnm⟩) (hw _ (List.mem_of_getElem? (i := 2) rfl)) (ty := .int) (by decide) rfl rfl (g := (mkF m 104 #[.val (.ref o0), .val (.ref o1), .val (.int p2), .val (.int p3), .val (.int v4), .val (.int v5), .val (.int v6), .unset] [(.int v5), (.ref o0)])) rfl rfl (hb hby d1_104)
      have N9 := Fr.snoc X9 N g0
      have C9 := CS.set_bitSlots hw C W9
      have hz9 : n0 ≤ h9.size := by rw [W9.size]; exact hz
      have Ibp_9 := Ip.other W9 (Ne.symm nob)
      have Iba_9 := Ia.other W9 (Ne.symm noa)
      refine Go.by st9 ?_
      show Go _ _ _ _ (T9.setTop (mkF m 107 #[.val (.ref o0), .val (.ref o1), .val (.int p2), .val (.int p3), .val (.int v4), .val (.int v5), .val (.int v6), .unset] []))
      refine Go.by (fun t9 k9 => XS.aloadN X9.here hx rfl (hb hby d1_107) rfl rfl k9) ?_
      show Go _ _ _ _ (T9.setTop (mkF m 108 #[.val (.ref o0), .val (.ref o1), .val (.int p2), .val (.int p3), .val (.int v4), .val (.int v5), .val (.int v6), .unset] [(.ref o0)]))
      refine Go.by (fun t9 k9 => XS.iload X9.here hx rfl (hb hby d1_108) rfl k9) ?_
      show Go _ _ _ _ (T9.setTop (mkF m 110 #[.val (.ref o0), .val (.ref o1), .val (.int p2), .val (.int p3), .val (.int v4), .val (.int v5), .val (.int v6), .unset] [(.int v4), (.ref o0)]))
      refine Go.by (fun t9 k9 => XS.bipush X9.here hx rfl (hb hby d1_110) k9) ?_
      show Go _ _ _ _ (T9.setTop (mkF m 112 #[.val (.ref o0), .val (.ref o1), .val (.int p2), .val (.int p3), .val (.int v4), .val (.int v5), .val (.int v6), .unset] [(.int (32 : Int32)), (.int v4), (.ref o0)]))
      refine Go.by (fun t9 k9 => XS.iadd X9.here hx rfl (hb hby d1_112) rfl k9) ?_
      show Go _ _ _ _ (T9.setTop (mkF m 113 #[.val (.ref o0), .val (.ref o1), .val (.int p2), .val (.int p3), .val (.int v4), .val (.int v5), .val (.int v6), .unset] [(.int (v4 + (32 : Int32))), (.ref o0)]))
      refine Go.by (fun t9 k9 => XS.iconst X9.here hx rfl (hb hby d1_113) k9) ?_
      show Go _ _ _ _ (T9.setTop (mkF m 114 #[.val (.ref o0), .val (.ref o1), .val (.int p2), .val (.int p3), .val (.int v4), .val (.int v5), .val (.int v6), .unset] [(.int (1 : Int32)), (.int (v4 + (32 : Int32))), (.ref o0)]))
      refine Go.by (fun t9 k9 => XS.isub X9.here hx rfl (hb hby d1_114) rfl k9) ?_
      show Go _ _ _ _ (T9.setTop (mkF m 115 #[.val (.ref o0), .val (.ref o1), .val (.int p2), .val (.int p3), .val (.int v4), .val (.int v5), .val (.int v6), .unset] [(.int ((v4 + (32 : Int32)) - (1 : Int32))), (.ref o0)]))
      refine Go.by (fun t9 k9 => XS.bipush X9.here hx rfl (hb hby d1_115) k9) ?_
      show Go _ _ _ _ (T9.setTop (mkF m 117 #[.val (.ref o0), .val (.ref o1), .val (.int p2), .val (.int p3), .val (.int v4), .val (.int v5), .val (.int v6), .unset] [(.int (32 : Int32)), (.int ((v4 + (32 : Int32)) - (1 : Int32))), (.ref o0)]))
      refine Go.by (fun t9 k9 => XS.idiv X9.here hx rfl (hb hby d1_117) rfl (by decide) k9) ?_
      show Go _ _ _ _ (T9.setTop (mkF m 118 #[.val (.ref o0), .val (.ref o1), .val (.int p2), .val (.int p3), .val (.int v4), .val (.int v5), .val (.int v6), .unset] [(.int (((v4 + (32 : Int32)) - (1 : Int32)) / (32 : Int32))), (.ref o0)]))
      obtain ⟨T10, h10, X10, e10, W10, st10⟩ := putF X9 hx hZ hown (host := "") (Or.inl (hw _ (List.mem_of_getElem? (i := 35) rfl))) Via.refl e9 C9.2.2.2.2.2.1 C9.1 (Or.inr ⟨(hw _ (List.mem_of_getElem? (i := 36) rfl)), rfl, hnm⟩) (hw _ (List.mem_of_getElem? (i := 2) rfl)) (ty := .int) (by decide) rfl rfl (g := (mkF m 118 #[.val (.ref o0), .val (.ref o1), .val (.int p2), .val (.int p3), .val (.int v4), .val (.int v5), .val (.int v6), .unset] [(.int (((v4 + (32 : Int32)) - (1 : Int32)) / (32 : Int32))), (.ref o0)])) rfl rfl (hb hby d1_118)
      have N10 := Fr.snoc X10 N9 g0
      have C10 := CS.set_bitInts hw C9 W10
      have hz10 : n0 ≤ h10.size := by rw [W10.size]; exact hz9
      have Ibp_10 := Ibp_9.other W10 (Ne.symm nob)
      have Iba_10 := Iba_9.other W10 (Ne.symm noa)
      refine Go.by st10 ?_
      show Go _ _ _ _ (T10.setTop (mkF m 121 #[.val (.ref o0), .val (.ref o1), .val (.int p2), .val (.int p3), .val (.int v4), .val (.int v5), .val (.int v6), .unset] []))
      refine Go.by (fun t9 k9 => XS.aloadN X10.here hx rfl (hb hby d1_121) rfl rfl k9) ?_
      show Go _ _ _ _ (T10.setTop (mkF m 122 #[.val (.ref o0), .val (.ref o1), .val (.int p2), .val (.int p3), .val (.int v4), .val (.int v5), .val (.int v6), .unset] [(.ref o0)]))
      refine Go.by (fun t9 k9 => XS.iloadN X10.here hx rfl (hb hby d1_122) rfl k9) ?_
      show Go _ _ _ _ (T10.setTop (mkF m 123 #[.val (.ref o0), .val (.ref o1), .val (.int p2), .val (.int p3), .val (.int v4), .val (.int v5), .val (.int v6), .unset] [(.int p3), (.ref o0)]))
      refine Go.by (fun t9 k9 => XS.iload X10.here hx rfl (hb hby d1_123) rfl k9) ?_
      show Go _ _ _ _ (T10.setTop (mkF m 125 #[.val (.ref o0), .val (.ref o1), .val (.int p2), .val (.int p3), .val (.int v4), .val (.int v5), .val (.int v6), .unset] [(.int v5), (.int p3), (.ref o0)]))
      refine Go.by (fun t9 k9 => XS.isub X10.here hx rfl (hb hby d1_125) rfl k9) ?_
      show Go _ _ _ _ (T10.setTop (mkF m 126 #[.val (.ref o0), .val (.ref o1), .val (.int p2), .val (.int p3), .val (.int v4), .val (.int v5), .val (.int v6), .unset] [(.int (p3 - v5)), (.ref o0)]))
      have hn11 : ((p3 - v5)).toInt = (icN PP 3 : Nat) := (own_subN hp3' hv5 (by have := cbic PP 3; omega)).trans (by have := cbic PP 3; omega)
      obtain ⟨T11, h11, k11, X11, e11, E11, A11, st11⟩ := newP X10 hx hZ (hw _ (List.mem_of_getElem? (i := 0) rfl)) e10 (g := (mkF m 126 #[.val (.ref o0), .val (.ref o1), .val (.int p2), .val (.int p3), .val (.int v4), .val (.int v5), .val (.int v6), .unset] [(.int (p3 - v5)), (.ref o0)])) rfl (hb hby d1_126) rfl (own_nlt0 hn11) (cap := 3) (by show Int.toNat _ ≤ 3; have := cbic PP 3; omega) (by decide) (by decide) (by decide)
      obtain ⟨bi, gs11⟩ : ∃ z, z = h10.size := ⟨_, rfl⟩
      rw [← gs11] at A11 st11
      have Ibi := IV.new A11 (n := (icN PP 3)) (by show Int.toNat _ = _; omega)
      have C11 := C10.ext E11
      have hz11 : n0 ≤ h11.size := Nat.le_trans hz10 E11.1
      have gbi : n0 ≤ bi := by rw [gs11]; exact hz10
      have nobi : o0 ≠ bi := Nat.ne_of_lt (by rw [gs11]; exact C10.1.lt)
      have nbp_bi : bp ≠ bi := Nat.ne_of_lt (by rw [gs11]; exact Ibp_10.lt)
      have Ibp_11 := Ibp_10.ext E11
      have nba_bi : ba ≠ bi := Nat.ne_of_lt (by rw [gs11]; exact Iba_10.lt)
      have Iba_11 := Iba_10.ext E11
      refine Go.by st11 ?_
      show Go _ _ _ _ (T11.setTop (mkF m 128 #[.val (.ref o0), .val (.ref o1), .val (.int p2), .val (.int p3), .val (.int v4), .val (.int v5), .val (.int v6), .unset] [(.ref bi), (.ref o0)]))
      obtain ⟨T12, h12, X12, e12, W12, st12⟩ := putF X11 hx hZ hown (host := "") (Or.inl (hw _ (List.mem_of_getElem? (i := 37) rfl))) Via.refl e11 C11.2.2.2.2.2.2.1 C11.1 (Or.inr ⟨(hw _ (List.mem_of_getElem? (i := 38) rfl)), rfl, hnm⟩) (hw _ (List.mem_of_getElem? (i := 2) rfl)) (ty := (.array .int)) (by decide) rfl rfl (g := (mkF m 128 #[.val (.ref o0), .val (.ref o1), .val (.int p2), .val (.int p3), .val (.int v4), .val (.int v5), .val (.int v6), .unset] [(.ref bi), (.ref o0)])) rfl rfl (hb hby d1_128)
      have N12 := Fr.snoc X12 N10 g0
      have C12 := CS.set_intSlots hw C11 W12
      have hz12 : n0 ≤ h12.size := by rw [W12.size]; exact hz11
      have Ibp_12 := Ibp_11.other W12 (Ne.symm nob)
      have Iba_12 := Iba_11.other W12 (Ne.symm noa)
      have Ibi_12 := Ibi.other W12 (Ne.symm nobi)
      refine Go.by st12 ?_
      show Go _ _ _ _ (T12.setTop (mkF m 131 #[.val (.ref o0), .val (.ref o1), .val (.int p2), .val (.int p3), .val (.int v4), .val (.int v5), .val (.int v6), .unset] []))
      refine Go.by (fun t9 k9 => XS.aloadN X12.here hx rfl (hb hby d1_131) rfl rfl k9) ?_
      show Go _ _ _ _ (T12.setTop (mkF m 132 #[.val (.ref o0), .val (.ref o1), .val (.int p2), .val (.int p3), .val (.int v4), .val (.int v5), .val (.int v6), .unset] [(.ref o0)]))
      refine Go.gf X12 hx hZ hown (hw _ (List.mem_of_getElem? (i := 35) rfl)) e12 C12.2.2.2.2.2.1 rfl rfl (hb hby d1_132) fun T13 X13 e13 => ?_
      show Go _ _ _ _ (T13.setTop (mkF m 135 #[.val (.ref o0), .val (.ref o1), .val (.int p2), .val (.int p3), .val (.int v4), .val (.int v5), .val (.int v6), .unset] [(.int (((v4 + (32 : Int32)) - (1 : Int32)) / (32 : Int32)))]))
      refine Go.by (fun t9 k9 => XS.istore X13.here hx rfl (hb hby d1_135) rfl (l' := #[.val (.ref o0), .val (.ref o1), .val (.int p2), .val (.int p3), .val (.int v4), .val (.int v5), .val (.int (((v4 + (32 : Int32)) - (1 : Int32)) / (32 : Int32))), .unset]) rfl k9) ?_
      show Go _ _ _ _ (T13.setTop (mkF m 137 #[.val (.ref o0), .val (.ref o1), .val (.int p2), .val (.int p3), .val (.int v4), .val (.int v5), .val (.int (((v4 + (32 : Int32)) - (1 : Int32)) / (32 : Int32))), .unset] []))
      refine Go.by (fun t9 k9 => XS.iconst X13.here hx rfl (hb hby d1_137) k9) ?_
      show Go _ _ _ _ (T13.setTop (mkF m 138 #[.val (.ref o0), .val (.ref o1), .val (.int p2), .val (.int p3), .val (.int v4), .val (.int v5), .val (.int (((v4 + (32 : Int32)) - (1 : Int32)) / (32 : Int32))), .unset] [(.int (0 : Int32))]))
      refine Go.by (fun t9 k9 => XS.istore X13.here hx rfl (hb hby d1_138) rfl (l' := #[.val (.ref o0), .val (.ref o1), .val (.int p2), .val (.int p3), .val (.int v4), .val (.int v5), .val (.int (((v4 + (32 : Int32)) - (1 : Int32)) / (32 : Int32))), .val (.int (0 : Int32))]) rfl k9) ?_
      have hBI := own_bi hv4 (by have := bitsN_le PP 3; omega)
      exact J140 3 T13 _ _ X13 e13 N12 hz12 bp ba bi _ _ _ _ _ _ _ _ 0 gba gbi nab (Ne.symm nba_bi) nbp_bi noa nob nobi hBI C12 Ibp_12 Iba_12 Ibi_12 rfl hBI (by decide) hA1 (fun i hi => absurd hi (Nat.not_lt_zero i)) (by decide)
    | succ f ih =>
      intro T locs h X eT N hz bp ba gA v4 v5 v6 j gba nab noa nob C Ip Ia hv4 hv5 hv6 hj hA0 hf
      show Go _ _ _ _ (T.setTop (mkF m 37 #[.val (.ref o0), .val (.ref o1), .val (.int p2), .val (.int p3), .val (.int v4), .val (.int v5), .val (.int v6), .unset] []))
      refine Go.by (fun t9 k9 => XS.iload X.here hx rfl (hb hby d1_37) rfl k9) ?_
      show Go _ _ _ _ (T.setTop (mkF m 39 #[.val (.ref o0), .val (.ref o1), .val (.int p2), .val (.int p3), .val (.int v4), .val (.int v5), .val (.int v6), .unset] [(.int v6)]))
      refine Go.by (fun t9 k9 => XS.iloadN X.here hx rfl (hb hby d1_39) rfl k9) ?_
      show Go _ _ _ _ (T.setTop (mkF m 40 #[.val (.ref o0), .val (.ref o1), .val (.int p2), .val (.int p3), .val (.int v4), .val (.int v5), .val (.int v6), .unset] [(.int p3), (.int v6)]))
      by_cases hc40 : v6 < p3
      · have hj3 := (own_ltN hv6 hp3').mp hc40
        refine Go.by (fun t9 k9 => XS.icmpNo X.here hx rfl (hb hby d1_40) rfl (XT.ii_ge_f hc40) k9) ?_
        show Go _ _ _ _ (T.setTop (mkF m 43 #[.val (.ref o0), .val (.ref o1), .val (.int p2), .val (.int p3), .val (.int v4), .val (.int v5), .val (.int v6), .unset] []))
        refine Go.by (fun t9 k9 => XS.aloadN X.here hx rfl (hb hby d1_43) rfl rfl k9) ?_
        show Go _ _ _ _ (T.setTop (mkF m 44 #[.val (.ref o0), .val (.ref o1), .val (.int p2), .val (.int p3), .val (.int v4), .val (.int v5), .val (.int v6), .unset] [(.ref o0)]))
        refine Go.gf X hx hZ hown (hw _ (List.mem_of_getElem? (i := 25) rfl)) eT C.2.2.1 rfl rfl (hb hby d1_44) fun T14 X14 e14 => ?_
        show Go _ _ _ _ (T14.setTop (mkF m 47 #[.val (.ref o0), .val (.ref o1), .val (.int p2), .val (.int p3), .val (.int v4), .val (.int v5), .val (.int v6), .unset] [(.ref bp)]))
        refine Go.by (fun t9 k9 => XS.iload X14.here hx rfl (hb hby d1_47) rfl k9) ?_
        show Go _ _ _ _ (T14.setTop (mkF m 49 #[.val (.ref o0), .val (.ref o1), .val (.int p2), .val (.int p3), .val (.int v4), .val (.int v5), .val (.int v6), .unset] [(.int v6), (.ref bp)]))
        refine Go.ldIV X14 hx hZ e14 Ip (i := j) hv6 (by omega) rfl rfl (hb hby d1_49) ?_
        show Go _ _ _ _ (T14.setTop (mkF m 50 #[.val (.ref o0), .val (.ref o1), .val (.int p2), .val (.int p3), .val (.int v4), .val (.int v5), .val (.int v6), .unset] [(.int (P j))]))
        refine Go.by (fun t9 k9 => XS.bipush X14.here hx rfl (hb hby d1_50) k9) ?_
        show Go _ _ _ _ (T14.setTop (mkF m 52 #[.val (.ref o0), .val (.ref o1), .val (.int p2), .val (.int p3), .val (.int v4), .val (.int v5), .val (.int v6), .unset] [(.int (32 : Int32)), (.int (P j))]))
        by_cases hc52 : (32 : Int32) < (P j)
        · have hbig := (own_big (hP j hj3).1).mp hc52
          refine Go.by (fun t9 k9 => XS.icmpYes X14.here hx rfl (pc0 := 52) (pc' := 95) rfl (hb hby d1_52) rfl (XT.ii_gt_t hc52) (by decide) (by decide) k9) ?_
          show Go _ _ _ _ (T14.setTop (mkF m 95 #[.val (.ref o0), .val (.ref o1), .val (.int p2), .val (.int p3), .val (.int v4), .val (.int v5), .val (.int v6), .unset] []))
          refine Go.by (fun t9 k9 => XS.iinc X14.here hx rfl (hb hby d1_95) rfl (l' := #[.val (.ref o0), .val (.ref o1), .val (.int p2), .val (.int p3), .val (.int v4), .val (.int v5), .val (.int (v6 + (1 : Int32))), .unset]) rfl k9) ?_
          show Go _ _ _ _ (T14.setTop (mkF m 98 #[.val (.ref o0), .val (.ref o1), .val (.int p2), .val (.int p3), .val (.int v4), .val (.int v5), .val (.int (v6 + (1 : Int32))), .unset] []))
          refine Go.by (fun t9 k9 => XS.goto X14.here hx rfl (pc0 := 98) (pc' := 37) rfl (hb hby d1_98) (by decide) (by decide) k9) ?_
          exact ih T14 _ _ X14 e14 N hz bp ba _ _ _ _ (j + 1) gba nab noa nob C Ip Ia (by rw [show bitsN PP (j + 1) = bitsN PP j from if_pos hbig]; exact hv4) (by rw [show cbN PP (j + 1) = cbN PP j from if_pos hbig]; exact hv5) (own_inc hv6 (by omega)) (by omega) (own_A0 hA0 hbig) (by omega)
        · have hbig : ¬ 32 < PP j := fun q => hc52 ((own_big (hP j hj3).1).mpr q)
          have hpl := own_placed hv4 (hP j hj3).1 (by have := bitsN_le PP j; omega) (hP j hj3).2.2
          refine Go.by (fun t9 k9 => XS.icmpNo X14.here hx rfl (hb hby d1_52) rfl (XT.ii_gt_f hc52) k9) ?_
          show Go _ _ _ _ (T14.setTop (mkF m 55 #[.val (.ref o0), .val (.ref o1), .val (.int p2), .val (.int p3), .val (.int v4), .val (.int v5), .val (.int v6), .unset] []))
          refine Go.by (fun t9 k9 => XS.iload X14.here hx rfl (hb hby d1_55) rfl k9) ?_
          show Go _ _ _ _ (T14.setTop (mkF m 57 #[.val (.ref o0), .val (.ref o1), .val (.int p2), .val (.int p3), .val (.int v4), .val (.int v5), .val (.int v6), .unset] [(.int v4)]))
          refine Go.by (fun t9 k9 => XT.i2l X14.here hx rfl (hb hby d1_57) rfl k9) ?_
          show Go _ _ _ _ (T14.setTop (mkF m 58 #[.val (.ref o0), .val (.ref o1), .val (.int p2), .val (.int p3), .val (.int v4), .val (.int v5), .val (.int v6), .unset] [(.long (v4.toInt64))]))
          refine Go.by (fun t9 k9 => XS.aloadN X14.here hx rfl (hb hby d1_58) rfl rfl k9) ?_
          show Go _ _ _ _ (T14.setTop (mkF m 59 #[.val (.ref o0), .val (.ref o1), .val (.int p2), .val (.int p3), .val (.int v4), .val (.int v5), .val (.int v6), .unset] [(.ref o0), (.long (v4.toInt64))]))
          refine Go.gf X14 hx hZ hown (hw _ (List.mem_of_getElem? (i := 25) rfl)) e14 C.2.2.1 rfl rfl (hb hby d1_59) fun T15 X15 e15 => ?_
          show Go _ _ _ _ (T15.setTop (mkF m 62 #[.val (.ref o0), .val (.ref o1), .val (.int p2), .val (.int p3), .val (.int v4), .val (.int v5), .val (.int v6), .unset] [(.ref bp), (.long (v4.toInt64))]))
          refine Go.by (fun t9 k9 => XS.iload X15.here hx rfl (hb hby d1_62) rfl k9) ?_
          show Go _ _ _ _ (T15.setTop (mkF m 64 #[.val (.ref o0), .val (.ref o1), .val (.int p2), .val (.int p3), .val (.int v4), .val (.int v5), .val (.int v6), .unset] [(.int v6), (.ref bp), (.long (v4.toInt64))]))
          refine Go.ldIV X15 hx hZ e15 Ip (i := j) hv6 (by omega) rfl rfl (hb hby d1_64) ?_
          show Go _ _ _ _ (T15.setTop (mkF m 65 #[.val (.ref o0), .val (.ref o1), .val (.int p2), .val (.int p3), .val (.int v4), .val (.int v5), .val (.int v6), .unset] [(.int (P j)), (.long (v4.toInt64))]))
          obtain ⟨_, _, ⟨T16, L16, k16, n16⟩, -, X16, ⟨Lc16, hQ16, l16, y16, z16⟩, st16⟩ := Jvm.LawKit.callS X15 hx (y := (⟨"com/example/isolens/isolens/checker/RowLayout", "placed", "(JI)J"⟩ : MethodName)) hown (mvT hZ (hw _ (List.mem_of_getElem? (i := 29) rfl))) (mvT hZ (hw _ (List.mem_of_getElem? (i := 30) rfl))) (mvT hZ (hw _ (List.mem_of_getElem? (i := 3) rfl))) (mvT hZ (hw _ (List.mem_of_getElem? (i := 31) rfl))) (by decide) (backOf (W := 0) (rm4 l Z a0 hw [] (v4.toInt64) (P j) h n0 hz) hZ (hw _ (List.mem_of_getElem? (i := 31) rfl)) (hw _ (List.mem_of_getElem? (i := 3) rfl)) (by decide) (by decide)) (g := (mkF m 65 #[.val (.ref o0), .val (.ref o1), .val (.int p2), .val (.int p3), .val (.int v4), .val (.int v5), .val (.int v6), .unset] [(.int (P j)), (.long (v4.toInt64))])) rfl (by rw [hml]; rfl) (argsL := [(.long (v4.toInt64)), (.int (P j))]) (rest := []) (lenOf pd4 rfl) rfl (by show 2 * 0 + _ ≤ _; exact Nat.le_of_eq rfl) (hb hby d1_65) (fun _ _ => ⟨rfl, e15, (by decide : 2 + 0 ≤ _), (by decide : 6 + 0 ≤ _)⟩)
          dsimp only [Pt.U, Pt.locs, Pt.cells, Pt.slots] at X16 l16 y16 z16 st16 hQ16
          subst l16 y16 z16
          obtain ⟨rfl, Nq16, eq16⟩ := hQ16
          have N16 := Fr.app N Nq16
          refine Go.by st16 ?_
          show Go _ _ _ _ (T16.setTop (mkF m 68 #[.val (.ref o0), .val (.ref o1), .val (.int p2), .val (.int p3), .val (.int v4), .val (.int v5), .val (.int v6), .unset] [(.long (f4_0 (v4.toInt64) (P j)))]))
          refine Go.by (fun t9 k9 => XT.l2i X16.here hx rfl (hb hby d1_68) rfl k9) ?_
          show Go _ _ _ _ (T16.setTop (mkF m 69 #[.val (.ref o0), .val (.ref o1), .val (.int p2), .val (.int p3), .val (.int v4), .val (.int v5), .val (.int v6), .unset] [(.int ((f4_0 (v4.toInt64) (P j)).toInt32))]))
          refine Go.by (fun t9 k9 => XS.istore X16.here hx rfl (hb hby d1_69) rfl (l' := #[.val (.ref o0), .val (.ref o1), .val (.int p2), .val (.int p3), .val (.int ((f4_0 (v4.toInt64) (P j)).toInt32)), .val (.int v5), .val (.int v6), .unset]) rfl k9) ?_
          show Go _ _ _ _ (T16.setTop (mkF m 71 #[.val (.ref o0), .val (.ref o1), .val (.int p2), .val (.int p3), .val (.int ((f4_0 (v4.toInt64) (P j)).toInt32)), .val (.int v5), .val (.int v6), .unset] []))
          refine Go.by (fun t9 k9 => XS.aloadN X16.here hx rfl (hb hby d1_71) rfl rfl k9) ?_
          show Go _ _ _ _ (T16.setTop (mkF m 72 #[.val (.ref o0), .val (.ref o1), .val (.int p2), .val (.int p3), .val (.int ((f4_0 (v4.toInt64) (P j)).toInt32)), .val (.int v5), .val (.int v6), .unset] [(.ref o0)]))
          refine Go.gf X16 hx hZ hown (hw _ (List.mem_of_getElem? (i := 27) rfl)) eq16 C.2.2.2.1 rfl rfl (hb hby d1_72) fun T17 X17 e17 => ?_
          show Go _ _ _ _ (T17.setTop (mkF m 75 #[.val (.ref o0), .val (.ref o1), .val (.int p2), .val (.int p3), .val (.int ((f4_0 (v4.toInt64) (P j)).toInt32)), .val (.int v5), .val (.int v6), .unset] [(.ref ba)]))
          refine Go.by (fun t9 k9 => XS.iload X17.here hx rfl (hb hby d1_75) rfl k9) ?_
          show Go _ _ _ _ (T17.setTop (mkF m 77 #[.val (.ref o0), .val (.ref o1), .val (.int p2), .val (.int p3), .val (.int ((f4_0 (v4.toInt64) (P j)).toInt32)), .val (.int v5), .val (.int v6), .unset] [(.int v6), (.ref ba)]))
          refine Go.by (fun t9 k9 => XS.iload X17.here hx rfl (hb hby d1_77) rfl k9) ?_
          show Go _ _ _ _ (T17.setTop (mkF m 79 #[.val (.ref o0), .val (.ref o1), .val (.int p2), .val (.int p3), .val (.int ((f4_0 (v4.toInt64) (P j)).toInt32)), .val (.int v5), .val (.int v6), .unset] [(.int ((f4_0 (v4.toInt64) (P j)).toInt32)), (.int v6), (.ref ba)]))
          refine Go.stIV X17 hx hZ e17 Ia N16 gba (i := j) hv6 (by omega) rfl rfl (hb hby d1_79) fun T18 h18 lc18 X18 e18 N18 W18 => ?_
          have C18 := CS.other C W18 noa
          have hz18 : n0 ≤ h18.size := by rw [W18.size]; exact hz
          have Ibp_18 := Ip.other W18 (Ne.symm nab)
          have Iba_18 := Ia.st W18
          show Go _ _ _ _ (T18.setTop (mkF m 80 #[.val (.ref o0), .val (.ref o1), .val (.int p2), .val (.int p3), .val (.int ((f4_0 (v4.toInt64) (P j)).toInt32)), .val (.int v5), .val (.int v6), .unset] []))
          refine Go.by (fun t9 k9 => XS.iload X18.here hx rfl (hb hby d1_80) rfl k9) ?_
          show Go _ _ _ _ (T18.setTop (mkF m 82 #[.val (.ref o0), .val (.ref o1), .val (.int p2), .val (.int p3), .val (.int ((f4_0 (v4.toInt64) (P j)).toInt32)), .val (.int v5), .val (.int v6), .unset] [(.int ((f4_0 (v4.toInt64) (P j)).toInt32))]))
          refine Go.by (fun t9 k9 => XS.aloadN X18.here hx rfl (hb hby d1_82) rfl rfl k9) ?_
          show Go _ _ _ _ (T18.setTop (mkF m 83 #[.val (.ref o0), .val (.ref o1), .val (.int p2), .val (.int p3), .val (.int ((f4_0 (v4.toInt64) (P j)).toInt32)), .val (.int v5), .val (.int v6), .unset] [(.ref o0), (.int ((f4_0 (v4.toInt64) (P j)).toInt32))]))
          refine Go.gf X18 hx hZ hown (hw _ (List.mem_of_getElem? (i := 25) rfl)) e18 C18.2.2.1 rfl rfl (hb hby d1_83) fun T19 X19 e19 => ?_
          show Go _ _ _ _ (T19.setTop (mkF m 86 #[.val (.ref o0), .val (.ref o1), .val (.int p2), .val (.int p3), .val (.int ((f4_0 (v4.toInt64) (P j)).toInt32)), .val (.int v5), .val (.int v6), .unset] [(.ref bp), (.int ((f4_0 (v4.toInt64) (P j)).toInt32))]))
          refine Go.by (fun t9 k9 => XS.iload X19.here hx rfl (hb hby d1_86) rfl k9) ?_
          show Go _ _ _ _ (T19.setTop (mkF m 88 #[.val (.ref o0), .val (.ref o1), .val (.int p2), .val (.int p3), .val (.int ((f4_0 (v4.toInt64) (P j)).toInt32)), .val (.int v5), .val (.int v6), .unset] [(.int v6), (.ref bp), (.int ((f4_0 (v4.toInt64) (P j)).toInt32))]))
          refine Go.ldIV X19 hx hZ e19 Ibp_18 (i := j) hv6 (by omega) rfl rfl (hb hby d1_88) ?_
          show Go _ _ _ _ (T19.setTop (mkF m 89 #[.val (.ref o0), .val (.ref o1), .val (.int p2), .val (.int p3), .val (.int ((f4_0 (v4.toInt64) (P j)).toInt32)), .val (.int v5), .val (.int v6), .unset] [(.int (P j)), (.int ((f4_0 (v4.toInt64) (P j)).toInt32))]))
          refine Go.by (fun t9 k9 => XS.iadd X19.here hx rfl (hb hby d1_89) rfl k9) ?_
          show Go _ _ _ _ (T19.setTop (mkF m 90 #[.val (.ref o0), .val (.ref o1), .val (.int p2), .val (.int p3), .val (.int ((f4_0 (v4.toInt64) (P j)).toInt32)), .val (.int v5), .val (.int v6), .unset] [(.int (((f4_0 (v4.toInt64) (P j)).toInt32) + (P j)))]))
          refine Go.by (fun t9 k9 => XS.istore X19.here hx rfl (hb hby d1_90) rfl (l' := #[.val (.ref o0), .val (.ref o1), .val (.int p2), .val (.int p3), .val (.int (((f4_0 (v4.toInt64) (P j)).toInt32) + (P j))), .val (.int v5), .val (.int v6), .unset]) rfl k9) ?_
          show Go _ _ _ _ (T19.setTop (mkF m 92 #[.val (.ref o0), .val (.ref o1), .val (.int p2), .val (.int p3), .val (.int (((f4_0 (v4.toInt64) (P j)).toInt32) + (P j))), .val (.int v5), .val (.int v6), .unset] []))
          refine Go.by (fun t9 k9 => XS.iinc X19.here hx rfl (hb hby d1_92) rfl (l' := #[.val (.ref o0), .val (.ref o1), .val (.int p2), .val (.int p3), .val (.int (((f4_0 (v4.toInt64) (P j)).toInt32) + (P j))), .val (.int (v5 + (1 : Int32))), .val (.int v6), .unset]) rfl k9) ?_
          show Go _ _ _ _ (T19.setTop (mkF m 95 #[.val (.ref o0), .val (.ref o1), .val (.int p2), .val (.int p3), .val (.int (((f4_0 (v4.toInt64) (P j)).toInt32) + (P j))), .val (.int (v5 + (1 : Int32))), .val (.int v6), .unset] []))
          refine Go.by (fun t9 k9 => XS.iinc X19.here hx rfl (hb hby d1_95) rfl (l' := #[.val (.ref o0), .val (.ref o1), .val (.int p2), .val (.int p3), .val (.int (((f4_0 (v4.toInt64) (P j)).toInt32) + (P j))), .val (.int (v5 + (1 : Int32))), .val (.int (v6 + (1 : Int32))), .unset]) rfl k9) ?_
          show Go _ _ _ _ (T19.setTop (mkF m 98 #[.val (.ref o0), .val (.ref o1), .val (.int p2), .val (.int p3), .val (.int (((f4_0 (v4.toInt64) (P j)).toInt32) + (P j))), .val (.int (v5 + (1 : Int32))), .val (.int (v6 + (1 : Int32))), .unset] []))
          refine Go.by (fun t9 k9 => XS.goto X19.here hx rfl (pc0 := 98) (pc' := 37) rfl (hb hby d1_98) (by decide) (by decide) k9) ?_
          exact ih T19 _ _ X19 e19 N18 hz18 bp ba _ _ _ _ (j + 1) gba nab noa nob C18 Ibp_18 Iba_18 (by rw [show bitsN PP (j + 1) = plN (bitsN PP j) (PP j) + PP j from if_neg hbig]; exact own_addN hpl (hP j hj3).1 (by have := bitsN_le PP (j + 1); rw [show bitsN PP (j + 1) = plN (bitsN PP j) (PP j) + PP j from if_neg hbig] at this; omega)) (by rw [show cbN PP (j + 1) = cbN PP j + 1 from if_neg hbig]; exact own_inc hv5 (by have := cbic PP j; omega)) (own_inc hv6 (by omega)) (by omega) (own_A0' hA0 hpl) (by omega)
      · have hj3 : ¬ (j < 3) := fun q => hc40 ((own_ltN hv6 hp3').mpr q)
        refine Go.by (fun t9 k9 => XS.icmpYes X.here hx rfl (pc0 := 40) (pc' := 101) rfl (hb hby d1_40) rfl (XT.ii_ge_t hc40) (by decide) (by decide) k9) ?_
        have ej : j = 3 := by omega
        subst ej
        have hA1 := hA0
        show Go _ _ _ _ (T.setTop (mkF m 101 #[.val (.ref o0), .val (.ref o1), .val (.int p2), .val (.int p3), .val (.int v4), .val (.int v5), .val (.int v6), .unset] []))
        refine Go.by (fun t9 k9 => XS.aloadN X.here hx rfl (hb hby d1_101) rfl rfl k9) ?_
        show Go _ _ _ _ (T.setTop (mkF m 102 #[.val (.ref o0), .val (.ref o1), .val (.int p2), .val (.int p3), .val (.int v4), .val (.int v5), .val (.int v6), .unset] [(.ref o0)]))
        refine Go.by (fun t9 k9 => XS.iload X.here hx rfl (hb hby d1_102) rfl k9) ?_
        show Go _ _ _ _ (T.setTop (mkF m 104 #[.val (.ref o0), .val (.ref o1), .val (.int p2), .val (.int p3), .val (.int v4), .val (.int v5), .val (.int v6), .unset] [(.int v5), (.ref o0)]))
        obtain ⟨T20, h20, X20, e20, W20, st20⟩ := putF X hx hZ hown (host := "") (Or.inl (hw _ (List.mem_of_getElem? (i := 33) rfl))) Via.refl eT C.2.2.2.2.1 C.1 (Or.inr ⟨(hw _ (List.mem_of_getElem? (i := 34) rfl)), rfl, hnm⟩) (hw _ (List.mem_of_getElem? (i := 2) rfl)) (ty := .int) (by decide) rfl rfl (g := (mkF m 104 #[.val (.ref o0), .val (.ref o1), .val (.int p2), .val (.int p3), .val (.int v4), .val (.int v5), .val (.int v6), .unset] [(.int v5), (.ref o0)])) rfl rfl (hb hby d1_104)
        have N20 := Fr.snoc X20 N g0
        have C20 := CS.set_bitSlots hw C W20
        have hz20 : n0 ≤ h20.size := by rw [W20.size]; exact hz
        have Ibp_20 := Ip.other W20 (Ne.symm nob)
        have Iba_20 := Ia.other W20 (Ne.symm noa)
        refine Go.by st20 ?_
        show Go _ _ _ _ (T20.setTop (mkF m 107 #[.val (.ref o0), .val (.ref o1), .val (.int p2), .val (.int p3), .val (.int v4), .val (.int v5), .val (.int v6), .unset] []))
        refine Go.by (fun t9 k9 => XS.aloadN X20.here hx rfl (hb hby d1_107) rfl rfl k9) ?_
        show Go _ _ _ _ (T20.setTop (mkF m 108 #[.val (.ref o0), .val (.ref o1), .val (.int p2), .val (.int p3), .val (.int v4), .val (.int v5), .val (.int v6), .unset] [(.ref o0)]))
        refine Go.by (fun t9 k9 => XS.iload X20.here hx rfl (hb hby d1_108) rfl k9) ?_
        show Go _ _ _ _ (T20.setTop (mkF m 110 #[.val (.ref o0), .val (.ref o1), .val (.int p2), .val (.int p3), .val (.int v4), .val (.int v5), .val (.int v6), .unset] [(.int v4), (.ref o0)]))
        refine Go.by (fun t9 k9 => XS.bipush X20.here hx rfl (hb hby d1_110) k9) ?_
        show Go _ _ _ _ (T20.setTop (mkF m 112 #[.val (.ref o0), .val (.ref o1), .val (.int p2), .val (.int p3), .val (.int v4), .val (.int v5), .val (.int v6), .unset] [(.int (32 : Int32)), (.int v4), (.ref o0)]))
        refine Go.by (fun t9 k9 => XS.iadd X20.here hx rfl (hb hby d1_112) rfl k9) ?_
        show Go _ _ _ _ (T20.setTop (mkF m 113 #[.val (.ref o0), .val (.ref o1), .val (.int p2), .val (.int p3), .val (.int v4), .val (.int v5), .val (.int v6), .unset] [(.int (v4 + (32 : Int32))), (.ref o0)]))
        refine Go.by (fun t9 k9 => XS.iconst X20.here hx rfl (hb hby d1_113) k9) ?_
        show Go _ _ _ _ (T20.setTop (mkF m 114 #[.val (.ref o0), .val (.ref o1), .val (.int p2), .val (.int p3), .val (.int v4), .val (.int v5), .val (.int v6), .unset] [(.int (1 : Int32)), (.int (v4 + (32 : Int32))), (.ref o0)]))
        refine Go.by (fun t9 k9 => XS.isub X20.here hx rfl (hb hby d1_114) rfl k9) ?_
        show Go _ _ _ _ (T20.setTop (mkF m 115 #[.val (.ref o0), .val (.ref o1), .val (.int p2), .val (.int p3), .val (.int v4), .val (.int v5), .val (.int v6), .unset] [(.int ((v4 + (32 : Int32)) - (1 : Int32))), (.ref o0)]))
        refine Go.by (fun t9 k9 => XS.bipush X20.here hx rfl (hb hby d1_115) k9) ?_
        show Go _ _ _ _ (T20.setTop (mkF m 117 #[.val (.ref o0), .val (.ref o1), .val (.int p2), .val (.int p3), .val (.int v4), .val (.int v5), .val (.int v6), .unset] [(.int (32 : Int32)), (.int ((v4 + (32 : Int32)) - (1 : Int32))), (.ref o0)]))
        refine Go.by (fun t9 k9 => XS.idiv X20.here hx rfl (hb hby d1_117) rfl (by decide) k9) ?_
        show Go _ _ _ _ (T20.setTop (mkF m 118 #[.val (.ref o0), .val (.ref o1), .val (.int p2), .val (.int p3), .val (.int v4), .val (.int v5), .val (.int v6), .unset] [(.int (((v4 + (32 : Int32)) - (1 : Int32)) / (32 : Int32))), (.ref o0)]))
        obtain ⟨T21, h21, X21, e21, W21, st21⟩ := putF X20 hx hZ hown (host := "") (Or.inl (hw _ (List.mem_of_getElem? (i := 35) rfl))) Via.refl e20 C20.2.2.2.2.2.1 C20.1 (Or.inr ⟨(hw _ (List.mem_of_getElem? (i := 36) rfl)), rfl, hnm⟩) (hw _ (List.mem_of_getElem? (i := 2) rfl)) (ty := .int) (by decide) rfl rfl (g := (mkF m 118 #[.val (.ref o0), .val (.ref o1), .val (.int p2), .val (.int p3), .val (.int v4), .val (.int v5), .val (.int v6), .unset] [(.int (((v4 + (32 : Int32)) - (1 : Int32)) / (32 : Int32))), (.ref o0)])) rfl rfl (hb hby d1_118)
        have N21 := Fr.snoc X21 N20 g0
        have C21 := CS.set_bitInts hw C20 W21
        have hz21 : n0 ≤ h21.size := by rw [W21.size]; exact hz20
        have Ibp_21 := Ibp_20.other W21 (Ne.symm nob)
        have Iba_21 := Iba_20.other W21 (Ne.symm noa)
        refine Go.by st21 ?_
        show Go _ _ _ _ (T21.setTop (mkF m 121 #[.val (.ref o0), .val (.ref o1), .val (.int p2), .val (.int p3), .val (.int v4), .val (.int v5), .val (.int v6), .unset] []))
        refine Go.by (fun t9 k9 => XS.aloadN X21.here hx rfl (hb hby d1_121) rfl rfl k9) ?_
        show Go _ _ _ _ (T21.setTop (mkF m 122 #[.val (.ref o0), .val (.ref o1), .val (.int p2), .val (.int p3), .val (.int v4), .val (.int v5), .val (.int v6), .unset] [(.ref o0)]))
        refine Go.by (fun t9 k9 => XS.iloadN X21.here hx rfl (hb hby d1_122) rfl k9) ?_
        show Go _ _ _ _ (T21.setTop (mkF m 123 #[.val (.ref o0), .val (.ref o1), .val (.int p2), .val (.int p3), .val (.int v4), .val (.int v5), .val (.int v6), .unset] [(.int p3), (.ref o0)]))
        refine Go.by (fun t9 k9 => XS.iload X21.here hx rfl (hb hby d1_123) rfl k9) ?_
        show Go _ _ _ _ (T21.setTop (mkF m 125 #[.val (.ref o0), .val (.ref o1), .val (.int p2), .val (.int p3), .val (.int v4), .val (.int v5), .val (.int v6), .unset] [(.int v5), (.int p3), (.ref o0)]))
        refine Go.by (fun t9 k9 => XS.isub X21.here hx rfl (hb hby d1_125) rfl k9) ?_
        show Go _ _ _ _ (T21.setTop (mkF m 126 #[.val (.ref o0), .val (.ref o1), .val (.int p2), .val (.int p3), .val (.int v4), .val (.int v5), .val (.int v6), .unset] [(.int (p3 - v5)), (.ref o0)]))
        have hn22 : ((p3 - v5)).toInt = (icN PP 3 : Nat) := (own_subN hp3' hv5 (by have := cbic PP 3; omega)).trans (by have := cbic PP 3; omega)
        obtain ⟨T22, h22, k22, X22, e22, E22, A22, st22⟩ := newP X21 hx hZ (hw _ (List.mem_of_getElem? (i := 0) rfl)) e21 (g := (mkF m 126 #[.val (.ref o0), .val (.ref o1), .val (.int p2), .val (.int p3), .val (.int v4), .val (.int v5), .val (.int v6), .unset] [(.int (p3 - v5)), (.ref o0)])) rfl (hb hby d1_126) rfl (own_nlt0 hn22) (cap := 3) (by show Int.toNat _ ≤ 3; have := cbic PP 3; omega) (by decide) (by decide) (by decide)
        obtain ⟨bi, gs22⟩ : ∃ z, z = h21.size := ⟨_, rfl⟩
        rw [← gs22] at A22 st22
        have Ibi := IV.new A22 (n := (icN PP 3)) (by show Int.toNat _ = _; omega)
        have C22 := C21.ext E22
        have hz22 : n0 ≤ h22.size := Nat.le_trans hz21 E22.1
        have gbi : n0 ≤ bi := by rw [gs22]; exact hz21
        have nobi : o0 ≠ bi := Nat.ne_of_lt (by rw [gs22]; exact C21.1.lt)
        have nbp_bi : bp ≠ bi := Nat.ne_of_lt (by rw [gs22]; exact Ibp_21.lt)
        have Ibp_22 := Ibp_21.ext E22
        have nba_bi : ba ≠ bi := Nat.ne_of_lt (by rw [gs22]; exact Iba_21.lt)
        have Iba_22 := Iba_21.ext E22
        refine Go.by st22 ?_
        show Go _ _ _ _ (T22.setTop (mkF m 128 #[.val (.ref o0), .val (.ref o1), .val (.int p2), .val (.int p3), .val (.int v4), .val (.int v5), .val (.int v6), .unset] [(.ref bi), (.ref o0)]))
        obtain ⟨T23, h23, X23, e23, W23, st23⟩ := putF X22 hx hZ hown (host := "") (Or.inl (hw _ (List.mem_of_getElem? (i := 37) rfl))) Via.refl e22 C22.2.2.2.2.2.2.1 C22.1 (Or.inr ⟨(hw _ (List.mem_of_getElem? (i := 38) rfl)), rfl, hnm⟩) (hw _ (List.mem_of_getElem? (i := 2) rfl)) (ty := (.array .int)) (by decide) rfl rfl (g := (mkF m 128 #[.val (.ref o0), .val (.ref o1), .val (.int p2), .val (.int p3), .val (.int v4), .val (.int v5), .val (.int v6), .unset] [(.ref bi), (.ref o0)])) rfl rfl (hb hby d1_128)
        have N23 := Fr.snoc X23 N21 g0
        have C23 := CS.set_intSlots hw C22 W23
        have hz23 : n0 ≤ h23.size := by rw [W23.size]; exact hz22
        have Ibp_23 := Ibp_22.other W23 (Ne.symm nob)
        have Iba_23 := Iba_22.other W23 (Ne.symm noa)
        have Ibi_23 := Ibi.other W23 (Ne.symm nobi)
        refine Go.by st23 ?_
        show Go _ _ _ _ (T23.setTop (mkF m 131 #[.val (.ref o0), .val (.ref o1), .val (.int p2), .val (.int p3), .val (.int v4), .val (.int v5), .val (.int v6), .unset] []))
        refine Go.by (fun t9 k9 => XS.aloadN X23.here hx rfl (hb hby d1_131) rfl rfl k9) ?_
        show Go _ _ _ _ (T23.setTop (mkF m 132 #[.val (.ref o0), .val (.ref o1), .val (.int p2), .val (.int p3), .val (.int v4), .val (.int v5), .val (.int v6), .unset] [(.ref o0)]))
        refine Go.gf X23 hx hZ hown (hw _ (List.mem_of_getElem? (i := 35) rfl)) e23 C23.2.2.2.2.2.1 rfl rfl (hb hby d1_132) fun T24 X24 e24 => ?_
        show Go _ _ _ _ (T24.setTop (mkF m 135 #[.val (.ref o0), .val (.ref o1), .val (.int p2), .val (.int p3), .val (.int v4), .val (.int v5), .val (.int v6), .unset] [(.int (((v4 + (32 : Int32)) - (1 : Int32)) / (32 : Int32)))]))
        refine Go.by (fun t9 k9 => XS.istore X24.here hx rfl (hb hby d1_135) rfl (l' := #[.val (.ref o0), .val (.ref o1), .val (.int p2), .val (.int p3), .val (.int v4), .val (.int v5), .val (.int (((v4 + (32 : Int32)) - (1 : Int32)) / (32 : Int32))), .unset]) rfl k9) ?_
        show Go _ _ _ _ (T24.setTop (mkF m 137 #[.val (.ref o0), .val (.ref o1), .val (.int p2), .val (.int p3), .val (.int v4), .val (.int v5), .val (.int (((v4 + (32 : Int32)) - (1 : Int32)) / (32 : Int32))), .unset] []))
        refine Go.by (fun t9 k9 => XS.iconst X24.here hx rfl (hb hby d1_137) k9) ?_
        show Go _ _ _ _ (T24.setTop (mkF m 138 #[.val (.ref o0), .val (.ref o1), .val (.int p2), .val (.int p3), .val (.int v4), .val (.int v5), .val (.int (((v4 + (32 : Int32)) - (1 : Int32)) / (32 : Int32))), .unset] [(.int (0 : Int32))]))
        refine Go.by (fun t9 k9 => XS.istore X24.here hx rfl (hb hby d1_138) rfl (l' := #[.val (.ref o0), .val (.ref o1), .val (.int p2), .val (.int p3), .val (.int v4), .val (.int v5), .val (.int (((v4 + (32 : Int32)) - (1 : Int32)) / (32 : Int32))), .val (.int (0 : Int32))]) rfl k9) ?_
        have hBI := own_bi hv4 (by have := bitsN_le PP 3; omega)
        exact J140 3 T24 _ _ X24 e24 N23 hz23 bp ba bi _ _ _ _ _ _ _ _ 0 gba gbi nab (Ne.symm nba_bi) nbp_bi noa nob nobi hBI C23 Ibp_23 Iba_23 Ibi_23 rfl hBI (by decide) hA1 (fun i hi => absurd hi (Nat.not_lt_zero i)) (by decide)
  show Go _ _ _ _ (s₁.setTop (mkF m 0 #[.val (.ref o0), .val (.ref o1), .val (.int p2), .val (.int p3), .unset, .unset, .unset, .unset] []))
  refine Go.by (fun t9 k9 => XS.aloadN X0.here hx rfl (hb hby d1_0) rfl rfl k9) ?_
  show Go _ _ _ _ (s₁.setTop (mkF m 1 #[.val (.ref o0), .val (.ref o1), .val (.int p2), .val (.int p3), .unset, .unset, .unset, .unset] [(.ref o0)]))
  obtain ⟨Ti, Xi, ei, sti⟩ := initO X0 hx hZ hown (hw _ (List.mem_of_getElem? (i := 7) rfl)) (hw _ (List.mem_of_getElem? (i := 8) rfl)) (hw _ (List.mem_of_getElem? (i := 9) rfl)) e0 (g := (mkF m 1 #[.val (.ref o0), .val (.ref o1), .val (.int p2), .val (.int p3), .unset, .unset, .unset, .unset] [(.ref o0)])) rfl (by rw [hml]; rfl) rfl (hb hby d1_1) (by decide) (W := 0) (by show 2 * 0 + _ ≤ _; exact Nat.le_of_eq rfl) (by decide)
  refine Go.by sti ?_
  show Go _ _ _ _ (Ti.setTop (mkF m 4 #[.val (.ref o0), .val (.ref o1), .val (.int p2), .val (.int p3), .unset, .unset, .unset, .unset] []))
  refine Go.by (fun t9 k9 => XS.aloadN Xi.here hx rfl (hb hby d1_4) rfl rfl k9) ?_
  show Go _ _ _ _ (Ti.setTop (mkF m 5 #[.val (.ref o0), .val (.ref o1), .val (.int p2), .val (.int p3), .unset, .unset, .unset, .unset] [(.ref o0)]))
  refine Go.by (fun t9 k9 => XS.iloadN Xi.here hx rfl (hb hby d1_5) rfl k9) ?_
  show Go _ _ _ _ (Ti.setTop (mkF m 6 #[.val (.ref o0), .val (.ref o1), .val (.int p2), .val (.int p3), .unset, .unset, .unset, .unset] [(.int p3), (.ref o0)]))
  obtain ⟨T25, h25, X25, e25, W25, st25⟩ := putF Xi hx hZ hown (host := "") (Or.inl (hw _ (List.mem_of_getElem? (i := 10) rfl))) Via.refl ei C0.2.1 C0.1 (Or.inr ⟨(hw _ (List.mem_of_getElem? (i := 11) rfl)), rfl, hnm⟩) (hw _ (List.mem_of_getElem? (i := 2) rfl)) (ty := .int) (by decide) rfl rfl (g := (mkF m 6 #[.val (.ref o0), .val (.ref o1), .val (.int p2), .val (.int p3), .unset, .unset, .unset, .unset] [(.int p3), (.ref o0)])) rfl rfl (hb hby d1_6)
  have N25 := Fr.snoc X25 N0 g0
  have C25 := CS.set_width hw C0 W25
  have hz25 : n0 ≤ h25.size := by rw [W25.size]; exact Z0
  have Io1_25 := G.other W25 (Ne.symm noo)
  refine Go.by st25 ?_
  have EX25 := E1.wr W25
  show Go _ _ _ _ (T25.setTop (mkF m 9 #[.val (.ref o0), .val (.ref o1), .val (.int p2), .val (.int p3), .unset, .unset, .unset, .unset] []))
  refine Go.by (fun t9 k9 => XS.aloadN X25.here hx rfl (hb hby d1_9) rfl rfl k9) ?_
  show Go _ _ _ _ (T25.setTop (mkF m 10 #[.val (.ref o0), .val (.ref o1), .val (.int p2), .val (.int p3), .unset, .unset, .unset, .unset] [(.ref o0)]))
  refine Go.by (fun t9 k9 => XS.aloadN X25.here hx rfl (hb hby d1_10) rfl rfl k9) ?_
  show Go _ _ _ _ (T25.setTop (mkF m 11 #[.val (.ref o0), .val (.ref o1), .val (.int p2), .val (.int p3), .unset, .unset, .unset, .unset] [(.ref o1), (.ref o0)]))
  refine Go.by (fun t9 k9 => XS.iloadN X25.here hx rfl (hb hby d1_11) rfl k9) ?_
  show Go _ _ _ _ (T25.setTop (mkF m 12 #[.val (.ref o0), .val (.ref o1), .val (.int p2), .val (.int p3), .unset, .unset, .unset, .unset] [(.int p2), (.ref o1), (.ref o0)]))
  refine Go.by (fun t9 k9 => XS.iloadN X25.here hx rfl (hb hby d1_12) rfl k9) ?_
  show Go _ _ _ _ (T25.setTop (mkF m 13 #[.val (.ref o0), .val (.ref o1), .val (.int p2), .val (.int p3), .unset, .unset, .unset, .unset] [(.int p2), (.int p2), (.ref o1), (.ref o0)]))
  refine Go.by (fun t9 k9 => XS.iloadN X25.here hx rfl (hb hby d1_13) rfl k9) ?_
  show Go _ _ _ _ (T25.setTop (mkF m 14 #[.val (.ref o0), .val (.ref o1), .val (.int p2), .val (.int p3), .unset, .unset, .unset, .unset] [(.int p3), (.int p2), (.int p2), (.ref o1), (.ref o0)]))
  refine Go.by (fun t9 k9 => XS.iadd X25.here hx rfl (hb hby d1_14) rfl k9) ?_
  show Go _ _ _ _ (T25.setTop (mkF m 15 #[.val (.ref o0), .val (.ref o1), .val (.int p2), .val (.int p3), .unset, .unset, .unset, .unset] [(.int (p2 + p3)), (.int p2), (.ref o1), (.ref o0)]))
  obtain ⟨_, _, ⟨T26, L26, k26, n26⟩, -, X26, ⟨Lc26, hQ26, l26, y26, z26⟩, st26⟩ := Jvm.LawKit.callS X25 hx (y := (⟨"java/util/Arrays", "copyOfRange", "([III)[I"⟩ : MethodName)) hown (mvT hZ (hw _ (List.mem_of_getElem? (i := 12) rfl))) (mvT hZ (hw _ (List.mem_of_getElem? (i := 13) rfl))) (mvT hZ (hw _ (List.mem_of_getElem? (i := 14) rfl))) (mvT hZ (hw _ (List.mem_of_getElem? (i := 15) rfl))) (by decide) (backOf (W := 1) (rm3 l Z a0 hw [] o1 p2 (p2 + p3) P h25 n0 hz25 Io1_25 EX25 hp2 (by rw [hp2, hp3]; rfl)) hZ (hw _ (List.mem_of_getElem? (i := 15) rfl)) (hw _ (List.mem_of_getElem? (i := 14) rfl)) (by decide) (by decide)) (g := (mkF m 15 #[.val (.ref o0), .val (.ref o1), .val (.int p2), .val (.int p3), .unset, .unset, .unset, .unset] [(.int (p2 + p3)), (.int p2), (.ref o1), (.ref o0)])) rfl (by rw [hml]; rfl) (argsL := [(.ref o1), (.int p2), (.int (p2 + p3))]) (rest := [(.ref o0)]) (lenOf pd5 rfl) rfl (by show 2 * 0 + _ ≤ _; exact Nat.le_of_eq rfl) (hb hby d1_15) (fun _ _ => ⟨rfl, e25, (by decide : 0 + 1 ≤ _), (by decide : 0 + 3 ≤ _)⟩)
  dsimp only [Pt.U, Pt.locs, Pt.cells, Pt.slots] at X26 l26 y26 z26 st26 hQ26
  subst l26 y26 z26
  obtain ⟨bp, rfl, Nq26, gq26, E26, Ibp⟩ := hQ26
  have N26 := Fr.app N25 Nq26
  refine Go.by st26 ?_
  have C26 := C25.ext E26
  have hz26 : n0 ≤ T26.heap.size := Nat.le_trans hz25 E26.1
  have nobp : o0 ≠ bp := Nat.ne_of_lt (Nat.lt_of_lt_of_le C25.1.lt gq26)
  show Go _ _ _ _ (T26.setTop (mkF m 18 #[.val (.ref o0), .val (.ref o1), .val (.int p2), .val (.int p3), .unset, .unset, .unset, .unset] [(.ref bp), (.ref o0)]))
  obtain ⟨T27, h27, X27, e27, W27, st27⟩ := putF X26 hx hZ hown (host := "") (Or.inl (hw _ (List.mem_of_getElem? (i := 25) rfl))) Via.refl rfl C26.2.2.1 C26.1 (Or.inr ⟨(hw _ (List.mem_of_getElem? (i := 26) rfl)), rfl, hnm⟩) (hw _ (List.mem_of_getElem? (i := 2) rfl)) (ty := (.array .int)) (by decide) rfl rfl (g := (mkF m 18 #[.val (.ref o0), .val (.ref o1), .val (.int p2), .val (.int p3), .unset, .unset, .unset, .unset] [(.ref bp), (.ref o0)])) rfl rfl (hb hby d1_18)
  have N27 := Fr.snoc X27 N26 g0
  have C27 := CS.set_places hw C26 W27
  have hz27 : n0 ≤ h27.size := by rw [W27.size]; exact hz26
  have Ibp_27 := Ibp.other W27 (Ne.symm nobp)
  refine Go.by st27 ?_
  show Go _ _ _ _ (T27.setTop (mkF m 21 #[.val (.ref o0), .val (.ref o1), .val (.int p2), .val (.int p3), .unset, .unset, .unset, .unset] []))
  refine Go.by (fun t9 k9 => XS.aloadN X27.here hx rfl (hb hby d1_21) rfl rfl k9) ?_
  show Go _ _ _ _ (T27.setTop (mkF m 22 #[.val (.ref o0), .val (.ref o1), .val (.int p2), .val (.int p3), .unset, .unset, .unset, .unset] [(.ref o0)]))
  refine Go.by (fun t9 k9 => XS.iloadN X27.here hx rfl (hb hby d1_22) rfl k9) ?_
  show Go _ _ _ _ (T27.setTop (mkF m 23 #[.val (.ref o0), .val (.ref o1), .val (.int p2), .val (.int p3), .unset, .unset, .unset, .unset] [(.int p3), (.ref o0)]))
  have hn28 : (p3).toInt = (3 : Nat) := hp3'
  obtain ⟨T28, h28, k28, X28, e28, E28, A28, st28⟩ := newP X27 hx hZ (hw _ (List.mem_of_getElem? (i := 0) rfl)) e27 (g := (mkF m 23 #[.val (.ref o0), .val (.ref o1), .val (.int p2), .val (.int p3), .unset, .unset, .unset, .unset] [(.int p3), (.ref o0)])) rfl (hb hby d1_23) rfl (own_nlt0 hn28) (cap := 3) (by show Int.toNat _ ≤ 3; have := cbic PP 3; omega) (by decide) (by decide) (by decide)
  obtain ⟨ba, gs28⟩ : ∃ z, z = h27.size := ⟨_, rfl⟩
  rw [← gs28] at A28 st28
  have Iba := IV.new A28 (n := (3 : Nat)) (by show Int.toNat _ = _; omega)
  have C28 := C27.ext E28
  have hz28 : n0 ≤ h28.size := Nat.le_trans hz27 E28.1
  have gba : n0 ≤ ba := by rw [gs28]; exact hz27
  have noba : o0 ≠ ba := Nat.ne_of_lt (by rw [gs28]; exact C27.1.lt)
  have nbp_ba : bp ≠ ba := Nat.ne_of_lt (by rw [gs28]; exact Ibp_27.lt)
  have Ibp_28 := Ibp_27.ext E28
  refine Go.by st28 ?_
  show Go _ _ _ _ (T28.setTop (mkF m 25 #[.val (.ref o0), .val (.ref o1), .val (.int p2), .val (.int p3), .unset, .unset, .unset, .unset] [(.ref ba), (.ref o0)]))
  obtain ⟨T29, h29, X29, e29, W29, st29⟩ := putF X28 hx hZ hown (host := "") (Or.inl (hw _ (List.mem_of_getElem? (i := 27) rfl))) Via.refl e28 C28.2.2.2.1 C28.1 (Or.inr ⟨(hw _ (List.mem_of_getElem? (i := 28) rfl)), rfl, hnm⟩) (hw _ (List.mem_of_getElem? (i := 2) rfl)) (ty := (.array .int)) (by decide) rfl rfl (g := (mkF m 25 #[.val (.ref o0), .val (.ref o1), .val (.int p2), .val (.int p3), .unset, .unset, .unset, .unset] [(.ref ba), (.ref o0)])) rfl rfl (hb hby d1_25)
  have N29 := Fr.snoc X29 N27 g0
  have C29 := CS.set_at hw C28 W29
  have hz29 : n0 ≤ h29.size := by rw [W29.size]; exact hz28
  have Ibp_29 := Ibp_28.other W29 (Ne.symm nobp)
  have Iba_29 := Iba.other W29 (Ne.symm noba)
  refine Go.by st29 ?_
  show Go _ _ _ _ (T29.setTop (mkF m 28 #[.val (.ref o0), .val (.ref o1), .val (.int p2), .val (.int p3), .unset, .unset, .unset, .unset] []))
  refine Go.by (fun t9 k9 => XS.iconst X29.here hx rfl (hb hby d1_28) k9) ?_
  show Go _ _ _ _ (T29.setTop (mkF m 29 #[.val (.ref o0), .val (.ref o1), .val (.int p2), .val (.int p3), .unset, .unset, .unset, .unset] [(.int (0 : Int32))]))
  refine Go.by (fun t9 k9 => XS.istore X29.here hx rfl (hb hby d1_29) rfl (l' := #[.val (.ref o0), .val (.ref o1), .val (.int p2), .val (.int p3), .val (.int (0 : Int32)), .unset, .unset, .unset]) rfl k9) ?_
  show Go _ _ _ _ (T29.setTop (mkF m 31 #[.val (.ref o0), .val (.ref o1), .val (.int p2), .val (.int p3), .val (.int (0 : Int32)), .unset, .unset, .unset] []))
  refine Go.by (fun t9 k9 => XS.iconst X29.here hx rfl (hb hby d1_31) k9) ?_
  show Go _ _ _ _ (T29.setTop (mkF m 32 #[.val (.ref o0), .val (.ref o1), .val (.int p2), .val (.int p3), .val (.int (0 : Int32)), .unset, .unset, .unset] [(.int (0 : Int32))]))
  refine Go.by (fun t9 k9 => XS.istore X29.here hx rfl (hb hby d1_32) rfl (l' := #[.val (.ref o0), .val (.ref o1), .val (.int p2), .val (.int p3), .val (.int (0 : Int32)), .val (.int (0 : Int32)), .unset, .unset]) rfl k9) ?_
  show Go _ _ _ _ (T29.setTop (mkF m 34 #[.val (.ref o0), .val (.ref o1), .val (.int p2), .val (.int p3), .val (.int (0 : Int32)), .val (.int (0 : Int32)), .unset, .unset] []))
  refine Go.by (fun t9 k9 => XS.iconst X29.here hx rfl (hb hby d1_34) k9) ?_
  show Go _ _ _ _ (T29.setTop (mkF m 35 #[.val (.ref o0), .val (.ref o1), .val (.int p2), .val (.int p3), .val (.int (0 : Int32)), .val (.int (0 : Int32)), .unset, .unset] [(.int (0 : Int32))]))
  refine Go.by (fun t9 k9 => XS.istore X29.here hx rfl (hb hby d1_35) rfl (l' := #[.val (.ref o0), .val (.ref o1), .val (.int p2), .val (.int p3), .val (.int (0 : Int32)), .val (.int (0 : Int32)), .val (.int (0 : Int32)), .unset]) rfl k9) ?_
  exact J37 3 T29 _ _ X29 e29 N29 hz29 bp ba _ _ _ _ 0 gba (Ne.symm nbp_ba) noba nobp C29 Ibp_29 Iba_29 rfl rfl rfl (by decide) (fun i hi => absurd hi (Nat.not_lt_zero i)) (by decide)
theorem own_maskE (x : Int32) : 0 ≤ (x &&& (2147483647 : Int32)).toInt := (c_and x 2147483647 (by decide)).1
/-! the plain law of the rows: where the slots lie, and what each put leaves -/
theorem cb_bits (P : Nat → Nat) : ∀ j, bitsN P j ≤ 32 * cbN P j
  | 0 => Nat.le_refl _
  | j + 1 => by
    have := cb_bits P j
    unfold bitsN cbN plN
    split
    · omega
    · split <;> omega
theorem plN_ge (b n : Nat) : b ≤ plN b n := by unfold plN; split <;> omega
theorem plN_in {b n : Nat} (h : ¬ 32 < n) : plN b n % 32 + n ≤ 32 := by unfold plN; split <;> omega
theorem bits_step (P : Nat → Nat) (j : Nat) : bitsN P j ≤ bitsN P (j + 1) := by
  have := plN_ge (bitsN P j) (P j)
  show bitsN P j ≤ if 32 < P j then bitsN P j else plN (bitsN P j) (P j) + P j
  split <;> omega
theorem bits_mono (P : Nat → Nat) {i j : Nat} (h : i ≤ j) : bitsN P i ≤ bitsN P j := by
  induction h with
  | refl => exact Nat.le_refl _
  | step _ ih => exact Nat.le_trans ih (bits_step P _)
theorem ic_step (P : Nat → Nat) (j : Nat) : icN P j ≤ icN P (j + 1) := by
  show icN P j ≤ if 32 < P j then icN P j + 1 else icN P j
  split <;> omega
theorem ic_mono (P : Nat → Nat) {i j : Nat} (h : i ≤ j) : icN P i ≤ icN P j := by
  induction h with
  | refl => exact Nat.le_refl _
  | step _ ih => exact Nat.le_trans ih (ic_step P _)
theorem bits_at {P : Nat → Nat} {i : Nat} (h : ¬ 32 < P i) : bitsN P (i + 1) = atN P i + P i := by
  show (if 32 < P i then bitsN P i else plN (bitsN P i) (P i) + P i) = _
  rw [if_neg h, atN, if_neg h]
theorem ri_le (P : Nat → Nat) : riN P ≤ 3 := by
  have := cb_bits P 3; have := cbic P 3
  unfold riN biN; omega
theorem bit_in {P : Nat → Nat} {i : Nat} (hi : i < 3) (h : ¬ 32 < P i) : atN P i % 32 + P i ≤ 32 ∧ atN P i + P i ≤ 32 * biN P := by
  refine ⟨by rw [atN, if_neg h]; exact plN_in h, ?_⟩
  have e := bits_at h
  have := bits_mono P (show i + 1 ≤ 3 by omega)
  unfold biN; omega
theorem int_in {P : Nat → Nat} {i : Nat} (hi : i < 3) (h : 32 < P i) : biN P ≤ atN P i ∧ atN P i < riN P := by
  have := icN_mono P i hi h
  rw [atN, if_pos h, riN]; omega
theorem bit_sep {P : Nat → Nat} {i j : Nat} (hij : i < j) (h : ¬ 32 < P i) (k : ¬ 32 < P j) : atN P i + P i ≤ atN P j := by
  have e := bits_at h
  have := bits_mono P (show i + 1 ≤ j by omega)
  have := plN_ge (bitsN P j) (P j)
  rw [show atN P j = plN (bitsN P j) (P j) from if_neg k]; omega
theorem int_sep {P : Nat → Nat} {i j : Nat} (hij : i < j) (h : 32 < P i) (k : 32 < P j) : atN P i < atN P j := by
  have e : icN P (i + 1) = icN P i + 1 := if_pos h
  have := ic_mono P (show i + 1 ≤ j by omega)
  rw [atN, if_pos h, atN, if_pos k]; omega
def SlotOK (g : Nat → Int32) (r : Nat) (P : Nat → Nat) (i : Nat) (v : Int) : Prop :=
  (32 < P i → (g (r + atN P i)).toInt = v) ∧ (¬ 32 < P i → ∀ q, q < P i → tb (g (r + (atN P i + q) / 32)) ((atN P i + q) % 32) = decide ((q : Int) ≤ v))
theorem tb_m1 {x : Int32} (h : x = 0) (j : Nat) : tb x j = false := by rw [h]; exact tb_zero j
theorem slot_clear {P : Nat → Nat} {r i : Nat} (g : Nat → Int32) (hi : i < 3) : SlotOK (fun i => if r + biN P ≤ i ∧ i < r + riN P then (-1 : Int32) else (fun i => if r ≤ i ∧ i < r + biN P then (0 : Int32) else g i) i) r P i (-1) := by
  refine ⟨fun h => ?_, fun h q hq => ?_⟩
  · have := int_in hi h
    show (if r + biN P ≤ r + atN P i ∧ r + atN P i < r + riN P then (-1 : Int32) else _).toInt = -1
    rw [if_pos (by omega)]; rfl
  · have := bit_in hi h
    have h1 : ¬ (r + biN P ≤ r + (atN P i + q) / 32 ∧ r + (atN P i + q) / 32 < r + riN P) := by omega
    have h2 : r ≤ r + (atN P i + q) / 32 ∧ r + (atN P i + q) / 32 < r + biN P := by omega
    have e : ¬ ((q : Int) ≤ -1) := by omega
    simp only [h1, h2, if_false, if_true, and_self, e, decide_false]
    exact tb_zero _
theorem updI_same (g : Nat → Int32) (j : Nat) (x : Int32) : updI g j x j = x := by unfold updI; rw [if_pos rfl]
theorem updI_ne (g : Nat → Int32) {i j : Nat} (x : Int32) (h : i ≠ j) : updI g j x i = g i := by unfold updI; rw [if_neg h]
theorem vv_bd {n : Int32} {k : Nat} (hn : n.toInt = k) (hk : 1 ≤ k ∧ k ≤ 64) (e : Int32) : -1 ≤ (vv n e).toInt ∧ (vv n e).toInt < k := by
  have e1 := c_iadd n 1
  have z1 : (1 : Int32).toInt = 1 := rfl
  have b1 := (n + (1 : Int32)).le_toInt; have b2 := (n + (1 : Int32)).toInt_lt
  have m := own_maskE e
  have q := (c_iremV (e &&& (2147483647 : Int32)) (n + (1 : Int32))).1 m (by omega)
  have e2 := c_isub ((e &&& (2147483647 : Int32)) % (n + (1 : Int32))) 1
  have b3 := (((e &&& (2147483647 : Int32)) % (n + (1 : Int32))) - (1 : Int32)).le_toInt; have b4 := (((e &&& (2147483647 : Int32)) % (n + (1 : Int32))) - (1 : Int32)).toInt_lt
  have ev : vv n e = ((e &&& (2147483647 : Int32)) % (n + (1 : Int32))) - (1 : Int32) := by unfold vv; rw [irem_eq_mod]
  rw [ev]
  obtain ⟨q1, q2, -⟩ := q
  omega
section Puts
variable {PP : Nat → Nat} {P A : Nat → Int32} {sl j r : Nat} {g : Nat → Int32} {v : Int} {e x : Int32}
theorem raise_other (hP : ∀ i, i < 3 → (P i).toInt = PP i ∧ 1 ≤ PP i ∧ PP i ≤ 64) (hA : ∀ i, i < 3 → (A i).toInt = (atN PP i : Nat)) (hsl : sl < 3) (hj : j < 3) (ne : j ≠ sl) (hx : ¬ 32 < PP sl → 0 ≤ x.toInt ∧ x.toInt < PP sl) (H : SlotOK g r PP j v) : SlotOK (raiseF (P sl) (A sl) g r (atN PP sl) x) r PP j v := by
  have big := own_big (hP sl hsl).1
  by_cases hb : 32 < PP sl
  · rw [raiseF, if_pos (big.mpr hb)]
    have i1 := int_in hsl hb
    refine ⟨fun h => ?_, fun h q hq => ?_⟩
    · have n1 : r + atN PP j ≠ r + atN PP sl := by
        rcases Nat.lt_or_gt_of_ne ne with l | l
        · have := int_sep l h hb; omega
        · have := int_sep l hb h; omega
      rw [updI_ne _ _ n1]; exact H.1 h
    · have i2 := bit_in hj h
      rw [updI_ne _ _ (by omega)]; exact H.2 h q hq
  · rw [raiseF, if_neg (fun q => hb (big.mp q))]
    have i1 := bit_in hsl hb
    have p1 := (hP sl hsl).2.1
    obtain ⟨x0, x1⟩ := hx hb
    refine ⟨fun h => ?_, fun h q hq => ?_⟩
    · have i2 := int_in hj h
      rw [updI_ne _ _ (by omega)]; exact H.1 h
    · have i2 := bit_in hj h
      by_cases w : r + (atN PP j + q) / 32 = r + atN PP sl / 32
      · rw [w, updI_same, tb_or]
        have hh := H.2 h q hq
        rw [w] at hh
        rw [hh, tb_mk (k := x.toInt.toNat) (a := atN PP sl) (by omega) (by omega) (hA sl hsl) (Nat.mod_lt _ (by decide))]
        have sep : atN PP j + q < atN PP sl ∨ atN PP sl + PP sl ≤ atN PP j + q := by
          rcases Nat.lt_or_gt_of_ne ne with l | l
          · have := bit_sep l h hb; omega
          · have := bit_sep l hb h; omega
        have e1 : ¬ (atN PP sl % 32 ≤ (atN PP j + q) % 32 ∧ (atN PP j + q) % 32 - atN PP sl % 32 ≤ x.toInt.toNat) := by omega
        have e2 : (decide (atN PP sl % 32 ≤ (atN PP j + q) % 32) && decide ((atN PP j + q) % 32 - atN PP sl % 32 ≤ x.toInt.toNat)) = false := by
          rw [← Bool.decide_and]; exact decide_eq_false e1
        rw [e2, Bool.or_false]
      · rw [updI_ne _ _ w]; exact H.2 h q hq
theorem raise_same (hP : ∀ i, i < 3 → (P i).toInt = PP i ∧ 1 ≤ PP i ∧ PP i ≤ 64) (hA : ∀ i, i < 3 → (A i).toInt = (atN PP i : Nat)) (hsl : sl < 3) (hb : ¬ 32 < PP sl) (hx : 0 ≤ x.toInt ∧ x.toInt < PP sl) (H : SlotOK g r PP sl (-1)) : SlotOK (raiseF (P sl) (A sl) g r (atN PP sl) x) r PP sl x.toInt := by
  have big := own_big (hP sl hsl).1
  rw [raiseF, if_neg (fun q => hb (big.mp q))]
  have i1 := bit_in hsl hb
  refine ⟨fun h => absurd h hb, fun h q hq => ?_⟩
  have w : r + (atN PP sl + q) / 32 = r + atN PP sl / 32 := by omega
  have hh := H.2 h q hq
  rw [w] at hh
  rw [w, updI_same, tb_or, hh, tb_mk (k := x.toInt.toNat) (a := atN PP sl) (by omega) (by omega) (hA sl hsl) (Nat.mod_lt _ (by decide))]
  have e0 : ¬ ((q : Int) ≤ -1) := by omega
  rw [decide_eq_false e0, Bool.false_or, ← Bool.decide_and]
  refine decide_eq_decide.mpr ?_
  omega
theorem put_other (hP : ∀ i, i < 3 → (P i).toInt = PP i ∧ 1 ≤ PP i ∧ PP i ≤ 64) (hA : ∀ i, i < 3 → (A i).toInt = (atN PP i : Nat)) (hsl : sl < 3) (hj : j < 3) (ne : j ≠ sl) (H : SlotOK g r PP j v) : SlotOK (putG (P sl) (A sl) g r (atN PP sl) (P sl) e) r PP j v := by
  have big := own_big (hP sl hsl).1
  have bd := vv_bd (hP sl hsl).1 (hP sl hsl).2 e
  unfold putG
  split <;> rename_i h
  · exact raise_other hP hA hsl hj ne (fun q => absurd (big.mp h) q) H
  · split <;> rename_i k
    · exact H
    · rw [Int32.lt_iff_toInt_lt] at k
      have z : (0 : Int32).toInt = 0 := rfl
      exact raise_other hP hA hsl hj ne (fun _ => ⟨by omega, bd.2⟩) H
theorem put_same (hP : ∀ i, i < 3 → (P i).toInt = PP i ∧ 1 ≤ PP i ∧ PP i ≤ 64) (hA : ∀ i, i < 3 → (A i).toInt = (atN PP i : Nat)) (hsl : sl < 3) (H : SlotOK g r PP sl (-1)) : SlotOK (putG (P sl) (A sl) g r (atN PP sl) (P sl) e) r PP sl (putV (P sl) e).toInt := by
  have big := own_big (hP sl hsl).1
  have bd := vv_bd (hP sl hsl).1 (hP sl hsl).2 e
  unfold putG putV
  by_cases h : (32 : Int32) < P sl
  · rw [if_pos h, if_pos h, raiseF, if_pos h]
    refine ⟨fun _ => ?_, fun q => absurd (big.mp h) q⟩
    have hh := H.1 (big.mp h)
    have e1 : g (r + atN PP sl) = (-1 : Int32) := Int32.toInt_inj.mp hh
    rw [updI_same, e1]
  · rw [if_neg h, if_neg h]
    split <;> rename_i k
    · rw [Int32.lt_iff_toInt_lt] at k
      have z : (0 : Int32).toInt = 0 := rfl
      have e1 : (vv (P sl) e).toInt = -1 := by omega
      rw [e1]; exact H
    · rw [Int32.lt_iff_toInt_lt] at k
      have z : (0 : Int32).toInt = 0 := rfl
      exact raise_same hP hA hsl (fun q => h (big.mpr q)) ⟨by omega, bd.2⟩ H
theorem reach_eq (hP : ∀ i, i < 3 → (P i).toInt = PP i ∧ 1 ≤ PP i ∧ PP i ≤ 64) (hA : ∀ i, i < 3 → (A i).toInt = (atN PP i : Nat)) (hsl : sl < 3) {pl : Nat} (hpl : x.toInt = pl) (H : SlotOK g r PP sl (putV (P sl) e).toInt) : reachF (P sl) (A sl) g r (atN PP sl) pl x = if putV (P sl) e < x then 0 else 1 := by
  have big := own_big (hP sl hsl).1
  have bd := vv_bd (hP sl hsl).1 (hP sl hsl).2 e
  have pb := (hP sl hsl).2
  unfold reachF
  by_cases h : (32 : Int32) < P sl
  · rw [if_pos h, Int32.toInt_inj.mp (H.1 (big.mp h))]
  · have hn : ¬ 32 < PP sl := fun q => h (big.mpr q)
    have ev : putV (P sl) e = vv (P sl) e := if_neg h
    rw [if_neg h]
    by_cases k : x < P sl
    · rw [if_pos k]
      rw [Int32.lt_iff_toInt_lt, (hP sl hsl).1] at k
      have i1 := bit_in hsl hn
      have ha : (A sl + x).toInt = ((atN PP sl + pl : Nat) : Int) := by
        have e1 := c_iadd (A sl) x
        have b1 := (A sl + x).le_toInt; have b2 := (A sl + x).toInt_lt
        have e2 := hA sl hsl
        have e3 := ri_le PP
        have e4 : biN PP ≤ riN PP := by unfold riN; omega
        omega
      rw [tb_ushr _ _ ha, H.2 hn pl (by omega), ev]
      by_cases c : (pl : Int) ≤ (vv (P sl) e).toInt
      · have c' : ¬ vv (P sl) e < x := by rw [Int32.lt_iff_toInt_lt]; omega
        simp [c, c']
      · have c' : vv (P sl) e < x := by rw [Int32.lt_iff_toInt_lt]; omega
        simp [c, c']
    · rw [if_neg k]
      rw [Int32.lt_iff_toInt_lt, (hP sl hsl).1] at k
      have c' : vv (P sl) e < x := by rw [Int32.lt_iff_toInt_lt]; omega
      rw [ev, if_pos c']
end Puts

theorem RL.ext {Z : State} {h h' : Heap} {a bp ba : Addr} {P A : Nat → Int32} {BI RI : Int32} (H : RL Z h a bp ba P A BI RI) (E : Ext h h') : RL Z h' a bp ba P A BI RI := by
  obtain ⟨h1, h2, h3, h4, h5, h6, h7⟩ := H
  exact ⟨h1.ext E, h2.ext E, h3.ext E, h4.ext E, h5.ext E, h6.ext E, h7.ext E⟩
theorem own_n (x : Int32) : 1 ≤ ((1 : Int32) + (x &&& (63 : Int32))).toInt ∧ ((1 : Int32) + (x &&& (63 : Int32))).toInt ≤ 64 := by
  have q := c_and x 63 (by decide)
  have e := c_iadd 1 (x &&& (63 : Int32))
  have z1 : (1 : Int32).toInt = 1 := rfl
  have z2 : (63 : Int32).toInt = 63 := rfl
  have b1 := ((1 : Int32) + (x &&& (63 : Int32))).le_toInt; have b2 := ((1 : Int32) + (x &&& (63 : Int32))).toInt_lt
  omega
theorem own_r3 (x : Int32) : 0 ≤ (x &&& (3 : Int32)).toInt ∧ (x &&& (3 : Int32)).toInt ≤ 3 := c_and x 3 (by decide)
theorem own_t3 (x : Int32) : 0 ≤ ((x &&& (3 : Int32)) - ((x &&& (3 : Int32)) / (3 : Int32)) * (3 : Int32)).toInt ∧ ((x &&& (3 : Int32)) - ((x &&& (3 : Int32)) / (3 : Int32)) * (3 : Int32)).toInt < 3 := by
  rw [irem_eq_mod]
  have q := (c_irem (x &&& (3 : Int32)) 3 3 rfl).1 (own_r3 x).1
  rw [q]; omega
theorem own_m63 (x : Int32) : 0 ≤ (x &&& (63 : Int32)).toInt := (c_and x 63 (by decide)).1
theorem own_two {x : Int32} (h : 0 ≤ x.toInt ∧ x.toInt < 3) (h0 : ¬ x = 0) (h1 : ¬ x = (1 : Int32)) : x.toInt = ((2 : Nat) : Int) := by
  have e0 : x.toInt ≠ (0 : Int32).toInt := fun q => h0 (Int32.toInt_inj.mp q)
  have e1 : x.toInt ≠ (1 : Int32).toInt := fun q => h1 (Int32.toInt_inj.mp q)
  have z0 : (0 : Int32).toInt = 0 := rfl
  have z1 : (1 : Int32).toInt = 1 := rfl
  omega
theorem own_hI {P : Nat → Int32} {PP : Nat → Nat} {i r : Nat} (hP : ∀ i, i < 3 → (P i).toInt = PP i ∧ 1 ≤ PP i ∧ PP i ≤ 64) (hi : i < 3) (hr : r ≤ 3) : (32 : Int32) < P i → r + atN PP i < 8 := fun q => by
  have := int_in hi ((own_big (hP i hi).1).mp q); have := ri_le PP; omega
theorem own_hB {P : Nat → Int32} {PP : Nat → Nat} {i r : Nat} (hP : ∀ i, i < 3 → (P i).toInt = PP i ∧ 1 ≤ PP i ∧ PP i ≤ 64) (hi : i < 3) (hr : r ≤ 3) : ¬ (32 : Int32) < P i → r + atN PP i / 32 < 8 := fun q => by
  have := bit_in hi (fun z => q ((own_big (hP i hi).1).mpr z)); have := ri_le PP
  have : biN PP ≤ riN PP := by unfold riN; omega
  have := (hP i hi).2.1
  omega
theorem own_hBp {P : Nat → Int32} {PP : Nat → Nat} {i r pl : Nat} {x : Int32} (hP : ∀ i, i < 3 → (P i).toInt = PP i ∧ 1 ≤ PP i ∧ PP i ≤ 64) (hi : i < 3) (hr : r ≤ 3) (hx : x.toInt = pl) : ¬ (32 : Int32) < P i → x < P i → r + (atN PP i + pl) / 32 < 8 := fun q k => by
  have := bit_in hi (fun z => q ((own_big (hP i hi).1).mpr z)); have := ri_le PP
  have : biN PP ≤ riN PP := by unfold riN; omega
  rw [Int32.lt_iff_toInt_lt, (hP i hi).1] at k
  omega
theorem own_av (PP : Nat → Nat) {i : Nat} (hi : i < 3) : atN PP i < 1000 := by
  have := ri_le PP
  have : biN PP ≤ riN PP := by unfold riN; omega
  by_cases h : 32 < PP i
  · have := int_in hi h; omega
  · have := bit_in hi h; omega

theorem pn_0 : plainName "com/example/isolens/isolens/checker/RowLayoutReachesPinLaw" = true := by first | (simp [plainName, overriddenIn]; done) | decide +kernel
theorem ef_0 (m : MethodId) (p0 : Int32) (p1 : Int32) (p2 : Int32) (p3 : Int32) (p4 : Int32) (p5 : Int32) : entryFrame m #[(.int p0), (.int p1), (.int p2), (.int p3), (.int p4), (.int p5)] maxLocals = mkF m 0 #[.val (.int p0), .val (.int p1), .val (.int p2), .val (.int p3), .val (.int p4), .val (.int p5), .unset, .unset, .unset, .unset, .unset, .unset, .unset, .unset, .unset, .unset, .unset, .unset, .unset, .unset] [] := by first | (simp [entryFrame, mkF, argsToLocals, Value.category, maxLocals]; done) | rfl
def Q0 (n0 : Nat) (v : Option Value) (h : Heap) (L : List Loc) : Prop := v = some (.int 1) ∧ Fr n0 L
set_option maxRecDepth 65536 in
set_option maxHeartbeats 40000000 in
theorem rm0 (l : Launch) (Z : State) (a0 : Array Value) (hw : ∀ d ∈ tables_1, d.before a0 Z = true) (ws : List Jvm.Cond) (p0 : Int32) (p1 : Int32) (p2 : Int32) (p3 : Int32) (p4 : Int32) (p5 : Int32)  (h0 : Heap) (n0 : Nat) (Z0 : n0 ≤ h0.size)  :
    MetFree l x (head1 (Jvm.Cond.code x code maxLocals ret :: ws) room_1) (fun a U => a = #[(.int p0), (.int p1), (.int p2), (.int p3), (.int p4), (.int p5)] ∧ Z.Warmed39 U.vm ∧ U.heap = h0) (fun _ _ _ _ _ => True) (fun _ U o U' => ∃ v L, o = .returned v ∧ (Q0 n0) v U'.heap L ∧ FrameEnd U o U' L room_1.cells room_1.slots) := by
  refine MetFree.of_bodySF (plainFor_of_name pn_0) hisR ?_
  intro p e s m args below meth c s₁ Bd hml0 hP hK
  obtain ⟨rfl, hZ, hh⟩ := hP
  have hx := Bd.exec
  have hby := Bd.bytes
  have hml : c.maxLocals = 20 := hml0
  have hown : s.vm.findClass "com/example/isolens/isolens/checker/RowLayoutReachesPinLaw" = some m.cls := findClass_of_methodNamed Bd.named
  have hnm := (name_of_methodNamed Bd.named Bd.method).1
  have hlk : meth.locks = false := Bd.notSynchronized
  have X0 : Stand p l e room_1 s m #[(.int p0), (.int p1), (.int p2), (.int p3), (.int p4), (.int p5)] below meth c s₁ [] 0 0 := Stand.of_body Bd
  have e0 : s₁.heap = h0 := by rw [← hh, Bd.state]; rfl
  have N0 := Fr.nil n0
  refine Go.by (tb := p.tables) (e := e) (below := below) (F := fun t o => ∃ v L, o = .returned v ∧ (Q0 n0) v t.heap L ∧ FrameEnd s o t L room_1.cells room_1.slots) (fun t k => castTop (ef_0 m p0 p1 p2 p3 p4 p5) k) ?_
  have hz0 : n0 ≤ s₁.heap.size := by rw [e0]; exact Z0
  have J84 : ∀ (T : State) (locs : List Loc) (h : Heap) (X : Stand p l e room_1 s m #[(.int p0), (.int p1), (.int p2), (.int p3), (.int p4), (.int p5)] below meth c T locs 0 0) (eT : T.heap = h) (N : Fr n0 locs) (hz : n0 ≤ h.size) (m6 m7 m8 m9 m10 m12 : Int32) (s11 : Slot) (f6 : 1 ≤ m6.toInt ∧ m6.toInt ≤ 64) (f7 : 1 ≤ m7.toInt ∧ m7.toInt ≤ 64) (f8 : 1 ≤ m8.toInt ∧ m8.toInt ≤ 64) (f9 : 0 ≤ m9.toInt ∧ m9.toInt < 3) (f10 : 0 ≤ m10.toInt ∧ m10.toInt ≤ 3) (f12 : 0 ≤ m12.toInt), Go p.tables e below (fun t o => ∃ v L, o = .returned v ∧ (Q0 n0) v t.heap L ∧ FrameEnd s o t L room_1.cells room_1.slots) (T.setTop (mkF m 84 #[.val (.int p0), .val (.int p1), .val (.int p2), .val (.int p3), .val (.int p4), .val (.int p5), .val (.int m6), .val (.int m7), .val (.int m8), .val (.int m9), .val (.int m10), s11, .val (.int m12), .unset, .unset, .unset, .unset, .unset, .unset, .unset] [])) := by
    intro T locs h X eT N hz m6 m7 m8 m9 m10 m12 s11 f6 f7 f8 f9 f10 f12
    obtain ⟨r, hr⟩ : ∃ r : Nat, m10.toInt = r := ⟨m10.toInt.toNat, by omega⟩
    obtain ⟨pl, hpl⟩ : ∃ r : Nat, m12.toInt = r := ⟨m12.toInt.toNat, by omega⟩
    have hr3 : r ≤ 3 := by omega
    show Go _ _ _ _ (T.setTop (mkF m 84 #[.val (.int p0), .val (.int p1), .val (.int p2), .val (.int p3), .val (.int p4), .val (.int p5), .val (.int m6), .val (.int m7), .val (.int m8), .val (.int m9), .val (.int m10), s11, .val (.int m12), .unset, .unset, .unset, .unset, .unset, .unset, .unset] []))
    refine Go.by (fun t9 k9 => XS.iconst X.here hx rfl (hb hby at_84) k9) ?_
    show Go _ _ _ _ (T.setTop (mkF m 85 #[.val (.int p0), .val (.int p1), .val (.int p2), .val (.int p3), .val (.int p4), .val (.int p5), .val (.int m6), .val (.int m7), .val (.int m8), .val (.int m9), .val (.int m10), s11, .val (.int m12), .unset, .unset, .unset, .unset, .unset, .unset, .unset] [(.int (3 : Int32))]))
    obtain ⟨T1, h1, k1, X1, e1, E1, A1, B1, st1⟩ := newPE X hx hZ (hw _ (List.mem_of_getElem? (i := 0) rfl)) eT (g := (mkF m 85 #[.val (.int p0), .val (.int p1), .val (.int p2), .val (.int p3), .val (.int p4), .val (.int p5), .val (.int m6), .val (.int m7), .val (.int m8), .val (.int m9), .val (.int m10), s11, .val (.int m12), .unset, .unset, .unset, .unset, .unset, .unset, .unset] [(.int (3 : Int32))])) rfl (hb hby at_85) rfl (by decide) (cap := 3) (by decide) (by decide) (by decide) (by decide) (ad := "[I") rfl
    obtain ⟨sp, gs1⟩ : ∃ z, z = h.size := ⟨_, rfl⟩
    rw [← gs1] at A1 B1 st1
    refine Go.by st1 ?_
    clear st1
    have I1 := IV.new A1 (n := 3) rfl
    have gsp : n0 ≤ sp := by rw [gs1]; exact hz
    have hz1 : n0 ≤ h1.size := Nat.le_trans hz E1.1
    show Go _ _ _ _ (T1.setTop (mkF m 87 #[.val (.int p0), .val (.int p1), .val (.int p2), .val (.int p3), .val (.int p4), .val (.int p5), .val (.int m6), .val (.int m7), .val (.int m8), .val (.int m9), .val (.int m10), s11, .val (.int m12), .unset, .unset, .unset, .unset, .unset, .unset, .unset] [(.ref sp)]))
    refine Go.by (fun t9 k9 => XS.dup X1.here hx rfl (hb hby at_87) rfl rfl k9) ?_
    show Go _ _ _ _ (T1.setTop (mkF m 88 #[.val (.int p0), .val (.int p1), .val (.int p2), .val (.int p3), .val (.int p4), .val (.int p5), .val (.int m6), .val (.int m7), .val (.int m8), .val (.int m9), .val (.int m10), s11, .val (.int m12), .unset, .unset, .unset, .unset, .unset, .unset, .unset] [(.ref sp), (.ref sp)]))
    refine Go.by (fun t9 k9 => XS.iconst X1.here hx rfl (hb hby at_88) k9) ?_
    show Go _ _ _ _ (T1.setTop (mkF m 89 #[.val (.int p0), .val (.int p1), .val (.int p2), .val (.int p3), .val (.int p4), .val (.int p5), .val (.int m6), .val (.int m7), .val (.int m8), .val (.int m9), .val (.int m10), s11, .val (.int m12), .unset, .unset, .unset, .unset, .unset, .unset, .unset] [(.int (0 : Int32)), (.ref sp), (.ref sp)]))
    refine Go.by (fun t9 k9 => XS.iload X1.here hx rfl (hb hby at_89) rfl k9) ?_
    show Go _ _ _ _ (T1.setTop (mkF m 91 #[.val (.int p0), .val (.int p1), .val (.int p2), .val (.int p3), .val (.int p4), .val (.int p5), .val (.int m6), .val (.int m7), .val (.int m8), .val (.int m9), .val (.int m10), s11, .val (.int m12), .unset, .unset, .unset, .unset, .unset, .unset, .unset] [(.int m6), (.int (0 : Int32)), (.ref sp), (.ref sp)]))
    refine Go.stIV X1 hx hZ e1 I1 N gsp (i := 0) (by decide) (by decide) rfl rfl (hb hby at_91) fun T2 h2 lc2 X2 e2 N2 W2 => ?_
    have I2 := I1.st W2
    have hz2 : n0 ≤ h2.size := by rw [W2.size]; exact hz1
    have B2 := B1.wr W2
    show Go _ _ _ _ (T2.setTop (mkF m 92 #[.val (.int p0), .val (.int p1), .val (.int p2), .val (.int p3), .val (.int p4), .val (.int p5), .val (.int m6), .val (.int m7), .val (.int m8), .val (.int m9), .val (.int m10), s11, .val (.int m12), .unset, .unset, .unset, .unset, .unset, .unset, .unset] [(.ref sp)]))
    refine Go.by (fun t9 k9 => XS.dup X2.here hx rfl (hb hby at_92) rfl rfl k9) ?_
    show Go _ _ _ _ (T2.setTop (mkF m 93 #[.val (.int p0), .val (.int p1), .val (.int p2), .val (.int p3), .val (.int p4), .val (.int p5), .val (.int m6), .val (.int m7), .val (.int m8), .val (.int m9), .val (.int m10), s11, .val (.int m12), .unset, .unset, .unset, .unset, .unset, .unset, .unset] [(.ref sp), (.ref sp)]))
    refine Go.by (fun t9 k9 => XS.iconst X2.here hx rfl (hb hby at_93) k9) ?_
    show Go _ _ _ _ (T2.setTop (mkF m 94 #[.val (.int p0), .val (.int p1), .val (.int p2), .val (.int p3), .val (.int p4), .val (.int p5), .val (.int m6), .val (.int m7), .val (.int m8), .val (.int m9), .val (.int m10), s11, .val (.int m12), .unset, .unset, .unset, .unset, .unset, .unset, .unset] [(.int (1 : Int32)), (.ref sp), (.ref sp)]))
    refine Go.by (fun t9 k9 => XS.iload X2.here hx rfl (hb hby at_94) rfl k9) ?_
    show Go _ _ _ _ (T2.setTop (mkF m 96 #[.val (.int p0), .val (.int p1), .val (.int p2), .val (.int p3), .val (.int p4), .val (.int p5), .val (.int m6), .val (.int m7), .val (.int m8), .val (.int m9), .val (.int m10), s11, .val (.int m12), .unset, .unset, .unset, .unset, .unset, .unset, .unset] [(.int m7), (.int (1 : Int32)), (.ref sp), (.ref sp)]))
    refine Go.stIV X2 hx hZ e2 I2 N2 gsp (i := 1) (by decide) (by decide) rfl rfl (hb hby at_96) fun T3 h3 lc3 X3 e3 N3 W3 => ?_
    have I3 := I2.st W3
    have hz3 : n0 ≤ h3.size := by rw [W3.size]; exact hz2
    have B3 := B2.wr W3
    show Go _ _ _ _ (T3.setTop (mkF m 97 #[.val (.int p0), .val (.int p1), .val (.int p2), .val (.int p3), .val (.int p4), .val (.int p5), .val (.int m6), .val (.int m7), .val (.int m8), .val (.int m9), .val (.int m10), s11, .val (.int m12), .unset, .unset, .unset, .unset, .unset, .unset, .unset] [(.ref sp)]))
    refine Go.by (fun t9 k9 => XS.dup X3.here hx rfl (hb hby at_97) rfl rfl k9) ?_
    show Go _ _ _ _ (T3.setTop (mkF m 98 #[.val (.int p0), .val (.int p1), .val (.int p2), .val (.int p3), .val (.int p4), .val (.int p5), .val (.int m6), .val (.int m7), .val (.int m8), .val (.int m9), .val (.int m10), s11, .val (.int m12), .unset, .unset, .unset, .unset, .unset, .unset, .unset] [(.ref sp), (.ref sp)]))
    refine Go.by (fun t9 k9 => XS.iconst X3.here hx rfl (hb hby at_98) k9) ?_
    show Go _ _ _ _ (T3.setTop (mkF m 99 #[.val (.int p0), .val (.int p1), .val (.int p2), .val (.int p3), .val (.int p4), .val (.int p5), .val (.int m6), .val (.int m7), .val (.int m8), .val (.int m9), .val (.int m10), s11, .val (.int m12), .unset, .unset, .unset, .unset, .unset, .unset, .unset] [(.int (2 : Int32)), (.ref sp), (.ref sp)]))
    refine Go.by (fun t9 k9 => XS.iload X3.here hx rfl (hb hby at_99) rfl k9) ?_
    show Go _ _ _ _ (T3.setTop (mkF m 101 #[.val (.int p0), .val (.int p1), .val (.int p2), .val (.int p3), .val (.int p4), .val (.int p5), .val (.int m6), .val (.int m7), .val (.int m8), .val (.int m9), .val (.int m10), s11, .val (.int m12), .unset, .unset, .unset, .unset, .unset, .unset, .unset] [(.int m8), (.int (2 : Int32)), (.ref sp), (.ref sp)]))
    refine Go.stIV X3 hx hZ e3 I3 N3 gsp (i := 2) (by decide) (by decide) rfl rfl (hb hby at_101) fun T4 h4 lc4 X4 e4 N4 W4 => ?_
    have I4 := I3.st W4
    have hz4 : n0 ≤ h4.size := by rw [W4.size]; exact hz3
    have B4 := B3.wr W4
    show Go _ _ _ _ (T4.setTop (mkF m 102 #[.val (.int p0), .val (.int p1), .val (.int p2), .val (.int p3), .val (.int p4), .val (.int p5), .val (.int m6), .val (.int m7), .val (.int m8), .val (.int m9), .val (.int m10), s11, .val (.int m12), .unset, .unset, .unset, .unset, .unset, .unset, .unset] [(.ref sp)]))
    refine Go.by (fun t9 k9 => XS.astore X4.here hx rfl (hb hby at_102) rfl rfl (l' := #[.val (.int p0), .val (.int p1), .val (.int p2), .val (.int p3), .val (.int p4), .val (.int p5), .val (.int m6), .val (.int m7), .val (.int m8), .val (.int m9), .val (.int m10), s11, .val (.int m12), .val (.ref sp), .unset, .unset, .unset, .unset, .unset, .unset]) rfl k9) ?_
    show Go _ _ _ _ (T4.setTop (mkF m 104 #[.val (.int p0), .val (.int p1), .val (.int p2), .val (.int p3), .val (.int p4), .val (.int p5), .val (.int m6), .val (.int m7), .val (.int m8), .val (.int m9), .val (.int m10), s11, .val (.int m12), .val (.ref sp), .unset, .unset, .unset, .unset, .unset, .unset] []))
    obtain ⟨P, hPd⟩ : ∃ z : Nat → Int32, z = (updI (updI (updI (fun _ => 0) 0 m6) 1 m7) 2 m8) := ⟨_, rfl⟩
    rw [← hPd] at I4
    have hP0 : P 0 = m6 := by rw [hPd]; rfl
    have hP1 : P 1 = m7 := by rw [hPd]; rfl
    have hP2 : P 2 = m8 := by rw [hPd]; rfl
    obtain ⟨PP, hPP⟩ : ∃ z : Nat → Nat, z = fun i => (P i).toInt.toNat := ⟨_, rfl⟩
    have hP : ∀ i, i < 3 → (P i).toInt = PP i ∧ 1 ≤ PP i ∧ PP i ≤ 64 := by
      intro i hi
      have q : 1 ≤ (P i).toInt ∧ (P i).toInt ≤ 64 := by
        rcases (show i = 0 ∨ i = 1 ∨ i = 2 by omega) with rfl | rfl | rfl
        · rw [hP0]; exact f6
        · rw [hP1]; exact f7
        · rw [hP2]; exact f8
      have e : PP i = (P i).toInt.toNat := by rw [hPP]
      omega
    obtain ⟨T5, h5, X5, e5, E5, A5, D5, -, st5⟩ := newO X4 hx hZ hown (hw _ (List.mem_of_getElem? (i := 1) rfl)) (hw _ (List.mem_of_getElem? (i := 2) rfl)) (hw _ (List.mem_of_getElem? (i := 3) rfl)) e4 (g := (mkF m 104 #[.val (.int p0), .val (.int p1), .val (.int p2), .val (.int p3), .val (.int p4), .val (.int p5), .val (.int m6), .val (.int m7), .val (.int m8), .val (.int m9), .val (.int m10), s11, .val (.int m12), .val (.ref sp), .unset, .unset, .unset, .unset, .unset, .unset] [])) rfl (hb hby at_104) (by decide) (by decide)
    obtain ⟨a, gsa⟩ : ∃ z, z = h4.size := ⟨_, rfl⟩
    rw [← gsa] at A5 D5 st5
    refine Go.by st5 ?_
    clear st5
    have C0 : CS Z h5 a (.int 0) .null .null (.int 0) (.int 0) .null (.int 0) := ⟨A5, D5 (Or.inr (hw _ (List.mem_of_getElem? (i := 11) rfl))) (ty := .int) (by decide), D5 (Or.inr (hw _ (List.mem_of_getElem? (i := 26) rfl))) (ty := (.array .int)) (by decide), D5 (Or.inr (hw _ (List.mem_of_getElem? (i := 28) rfl))) (ty := (.array .int)) (by decide), D5 (Or.inr (hw _ (List.mem_of_getElem? (i := 34) rfl))) (ty := .int) (by decide), D5 (Or.inr (hw _ (List.mem_of_getElem? (i := 36) rfl))) (ty := .int) (by decide), D5 (Or.inr (hw _ (List.mem_of_getElem? (i := 38) rfl))) (ty := (.array .int)) (by decide), D5 (Or.inr (hw _ (List.mem_of_getElem? (i := 40) rfl))) (ty := .int) (by decide)⟩
    have ga : n0 ≤ a := by rw [gsa]; exact hz4
    have nas : a ≠ sp := Ne.symm (Nat.ne_of_lt (by rw [gsa]; exact I4.lt))
    have hz5 : n0 ≤ h5.size := Nat.le_trans hz4 E5.1
    have I5 := I4.ext E5
    have B5 := B4.ext E5
    show Go _ _ _ _ (T5.setTop (mkF m 107 #[.val (.int p0), .val (.int p1), .val (.int p2), .val (.int p3), .val (.int p4), .val (.int p5), .val (.int m6), .val (.int m7), .val (.int m8), .val (.int m9), .val (.int m10), s11, .val (.int m12), .val (.ref sp), .unset, .unset, .unset, .unset, .unset, .unset] [(.ref a)]))
    refine Go.by (fun t9 k9 => XS.dup X5.here hx rfl (hb hby at_107) rfl rfl k9) ?_
    show Go _ _ _ _ (T5.setTop (mkF m 108 #[.val (.int p0), .val (.int p1), .val (.int p2), .val (.int p3), .val (.int p4), .val (.int p5), .val (.int m6), .val (.int m7), .val (.int m8), .val (.int m9), .val (.int m10), s11, .val (.int m12), .val (.ref sp), .unset, .unset, .unset, .unset, .unset, .unset] [(.ref a), (.ref a)]))
    refine Go.by (fun t9 k9 => XS.aload X5.here hx rfl (hb hby at_108) rfl rfl k9) ?_
    show Go _ _ _ _ (T5.setTop (mkF m 110 #[.val (.int p0), .val (.int p1), .val (.int p2), .val (.int p3), .val (.int p4), .val (.int p5), .val (.int m6), .val (.int m7), .val (.int m8), .val (.int m9), .val (.int m10), s11, .val (.int m12), .val (.ref sp), .unset, .unset, .unset, .unset, .unset, .unset] [(.ref sp), (.ref a), (.ref a)]))
    refine Go.by (fun t9 k9 => XS.iconst X5.here hx rfl (hb hby at_110) k9) ?_
    show Go _ _ _ _ (T5.setTop (mkF m 111 #[.val (.int p0), .val (.int p1), .val (.int p2), .val (.int p3), .val (.int p4), .val (.int p5), .val (.int m6), .val (.int m7), .val (.int m8), .val (.int m9), .val (.int m10), s11, .val (.int m12), .val (.ref sp), .unset, .unset, .unset, .unset, .unset, .unset] [(.int (0 : Int32)), (.ref sp), (.ref a), (.ref a)]))
    refine Go.by (fun t9 k9 => XS.iconst X5.here hx rfl (hb hby at_111) k9) ?_
    show Go _ _ _ _ (T5.setTop (mkF m 112 #[.val (.int p0), .val (.int p1), .val (.int p2), .val (.int p3), .val (.int p4), .val (.int p5), .val (.int m6), .val (.int m7), .val (.int m8), .val (.int m9), .val (.int m10), s11, .val (.int m12), .val (.ref sp), .unset, .unset, .unset, .unset, .unset, .unset] [(.int (3 : Int32)), (.int (0 : Int32)), (.ref sp), (.ref a), (.ref a)]))
    refine Go.callI X5 hx hZ (y := (⟨"com/example/isolens/isolens/checker/RowLayout", "<init>", "([III)V"⟩ : MethodName)) rfl hown (hw _ (List.mem_of_getElem? (i := 4) rfl)) (hw _ (List.mem_of_getElem? (i := 5) rfl)) (hw _ (List.mem_of_getElem? (i := 6) rfl)) (hw _ (List.mem_of_getElem? (i := 3) rfl)) (by decide) 1 (rm1 l Z a0 hw [] a sp (0 : Int32) (3 : Int32) P h5 n0 hz5 PP hP I5 B5 rfl rfl C0 ga nas) none (fun h' => n0 ≤ h'.size ∧ ∃ (bp ba : Addr) (A : Nat → Int32) (BI RI : Int32), RL Z h' a bp ba P A BI RI ∧ (∀ i, i < 3 → (A i).toInt = (atN PP i : Nat)) ∧ BI.toInt = (biN PP : Nat) ∧ RI.toInt = (riN PP : Nat)) (fun _ _ _ q => q) (by decide) (by decide) e5 (b := a) N4 rfl (by rw [hml]; rfl) (argsL := [(.ref sp), (.int (0 : Int32)), (.int (3 : Int32))]) (rest := [(.ref a)]) rfl (lenOf pd6 rfl) rfl (by show 2 * 0 + _ ≤ _; exact Nat.le_of_eq rfl) (hb hby at_112) (by decide) (by decide) ?_
    intro T6 lc6 X6 N6 ⟨hz6, bp, ba, A, BI, RI, H6, hA, hBI, hRI⟩
    show Go _ _ _ _ (T6.setTop (mkF m 115 #[.val (.int p0), .val (.int p1), .val (.int p2), .val (.int p3), .val (.int p4), .val (.int p5), .val (.int m6), .val (.int m7), .val (.int m8), .val (.int m9), .val (.int m10), s11, .val (.int m12), .val (.ref sp), .unset, .unset, .unset, .unset, .unset, .unset] [(.ref a)]))
    refine Go.by (fun t9 k9 => XS.astore X6.here hx rfl (hb hby at_115) rfl rfl (l' := #[.val (.int p0), .val (.int p1), .val (.int p2), .val (.int p3), .val (.int p4), .val (.int p5), .val (.int m6), .val (.int m7), .val (.int m8), .val (.int m9), .val (.int m10), s11, .val (.int m12), .val (.ref sp), .val (.ref a), .unset, .unset, .unset, .unset, .unset]) rfl k9) ?_
    show Go _ _ _ _ (T6.setTop (mkF m 117 #[.val (.int p0), .val (.int p1), .val (.int p2), .val (.int p3), .val (.int p4), .val (.int p5), .val (.int m6), .val (.int m7), .val (.int m8), .val (.int m9), .val (.int m10), s11, .val (.int m12), .val (.ref sp), .val (.ref a), .unset, .unset, .unset, .unset, .unset] []))
    refine Go.by (fun t9 k9 => XS.bipush X6.here hx rfl (hb hby at_117) k9) ?_
    show Go _ _ _ _ (T6.setTop (mkF m 119 #[.val (.int p0), .val (.int p1), .val (.int p2), .val (.int p3), .val (.int p4), .val (.int p5), .val (.int m6), .val (.int m7), .val (.int m8), .val (.int m9), .val (.int m10), s11, .val (.int m12), .val (.ref sp), .val (.ref a), .unset, .unset, .unset, .unset, .unset] [(.int (8 : Int32))]))
    obtain ⟨T7, h7, k7, X7, e7, E7, A7, B7, st7⟩ := newPE X6 hx hZ (hw _ (List.mem_of_getElem? (i := 0) rfl)) rfl (g := (mkF m 119 #[.val (.int p0), .val (.int p1), .val (.int p2), .val (.int p3), .val (.int p4), .val (.int p5), .val (.int m6), .val (.int m7), .val (.int m8), .val (.int m9), .val (.int m10), s11, .val (.int m12), .val (.ref sp), .val (.ref a), .unset, .unset, .unset, .unset, .unset] [(.int (8 : Int32))])) rfl (hb hby at_119) rfl (by decide) (cap := 8) (by decide) (by decide) (by decide) (by decide) (ad := "[I") rfl
    obtain ⟨bx, gs7⟩ : ∃ z, z = T6.heap.size := ⟨_, rfl⟩
    rw [← gs7] at A7 B7 st7
    refine Go.by st7 ?_
    clear st7
    have I7 := IV.new A7 (n := 8) rfl
    have gbx : n0 ≤ bx := by rw [gs7]; exact hz6
    have hz7 : n0 ≤ h7.size := Nat.le_trans hz6 E7.1
    have na : a ≠ bx := Nat.ne_of_lt (by rw [gs7]; exact H6.1.lt)
    have np : bp ≠ bx := Nat.ne_of_lt (by rw [gs7]; exact H6.2.2.2.2.2.1.lt)
    have nb : ba ≠ bx := Nat.ne_of_lt (by rw [gs7]; exact H6.2.2.2.2.2.2.lt)
    have H7 := H6.ext E7
    show Go _ _ _ _ (T7.setTop (mkF m 121 #[.val (.int p0), .val (.int p1), .val (.int p2), .val (.int p3), .val (.int p4), .val (.int p5), .val (.int m6), .val (.int m7), .val (.int m8), .val (.int m9), .val (.int m10), s11, .val (.int m12), .val (.ref sp), .val (.ref a), .unset, .unset, .unset, .unset, .unset] [(.ref bx)]))
    refine Go.by (fun t9 k9 => XS.dup X7.here hx rfl (hb hby at_121) rfl rfl k9) ?_
    show Go _ _ _ _ (T7.setTop (mkF m 122 #[.val (.int p0), .val (.int p1), .val (.int p2), .val (.int p3), .val (.int p4), .val (.int p5), .val (.int m6), .val (.int m7), .val (.int m8), .val (.int m9), .val (.int m10), s11, .val (.int m12), .val (.ref sp), .val (.ref a), .unset, .unset, .unset, .unset, .unset] [(.ref bx), (.ref bx)]))
    refine Go.by (fun t9 k9 => XS.iconst X7.here hx rfl (hb hby at_122) k9) ?_
    show Go _ _ _ _ (T7.setTop (mkF m 123 #[.val (.int p0), .val (.int p1), .val (.int p2), .val (.int p3), .val (.int p4), .val (.int p5), .val (.int m6), .val (.int m7), .val (.int m8), .val (.int m9), .val (.int m10), s11, .val (.int m12), .val (.ref sp), .val (.ref a), .unset, .unset, .unset, .unset, .unset] [(.int (0 : Int32)), (.ref bx), (.ref bx)]))
    refine Go.by (fun t9 k9 => XS.iload X7.here hx rfl (hb hby at_123) rfl k9) ?_
    show Go _ _ _ _ (T7.setTop (mkF m 125 #[.val (.int p0), .val (.int p1), .val (.int p2), .val (.int p3), .val (.int p4), .val (.int p5), .val (.int m6), .val (.int m7), .val (.int m8), .val (.int m9), .val (.int m10), s11, .val (.int m12), .val (.ref sp), .val (.ref a), .unset, .unset, .unset, .unset, .unset] [(.int p5), (.int (0 : Int32)), (.ref bx), (.ref bx)]))
    refine Go.stIV X7 hx hZ e7 I7 N6 gbx (i := 0) (by decide) (by decide) rfl rfl (hb hby at_125) fun T8 h8 lc8 X8 e8 N8 W8 => ?_
    have I8 := I7.st W8
    have hz8 : n0 ≤ h8.size := by rw [W8.size]; exact hz7
    have H8 := H7.keep (Keep.of_wr W8) na np nb
    show Go _ _ _ _ (T8.setTop (mkF m 126 #[.val (.int p0), .val (.int p1), .val (.int p2), .val (.int p3), .val (.int p4), .val (.int p5), .val (.int m6), .val (.int m7), .val (.int m8), .val (.int m9), .val (.int m10), s11, .val (.int m12), .val (.ref sp), .val (.ref a), .unset, .unset, .unset, .unset, .unset] [(.ref bx)]))
    refine Go.by (fun t9 k9 => XS.dup X8.here hx rfl (hb hby at_126) rfl rfl k9) ?_
    show Go _ _ _ _ (T8.setTop (mkF m 127 #[.val (.int p0), .val (.int p1), .val (.int p2), .val (.int p3), .val (.int p4), .val (.int p5), .val (.int m6), .val (.int m7), .val (.int m8), .val (.int m9), .val (.int m10), s11, .val (.int m12), .val (.ref sp), .val (.ref a), .unset, .unset, .unset, .unset, .unset] [(.ref bx), (.ref bx)]))
    refine Go.by (fun t9 k9 => XS.iconst X8.here hx rfl (hb hby at_127) k9) ?_
    show Go _ _ _ _ (T8.setTop (mkF m 128 #[.val (.int p0), .val (.int p1), .val (.int p2), .val (.int p3), .val (.int p4), .val (.int p5), .val (.int m6), .val (.int m7), .val (.int m8), .val (.int m9), .val (.int m10), s11, .val (.int m12), .val (.ref sp), .val (.ref a), .unset, .unset, .unset, .unset, .unset] [(.int (1 : Int32)), (.ref bx), (.ref bx)]))
    refine Go.by (fun t9 k9 => XS.iload X8.here hx rfl (hb hby at_128) rfl k9) ?_
    show Go _ _ _ _ (T8.setTop (mkF m 130 #[.val (.int p0), .val (.int p1), .val (.int p2), .val (.int p3), .val (.int p4), .val (.int p5), .val (.int m6), .val (.int m7), .val (.int m8), .val (.int m9), .val (.int m10), s11, .val (.int m12), .val (.ref sp), .val (.ref a), .unset, .unset, .unset, .unset, .unset] [(.int p5), (.int (1 : Int32)), (.ref bx), (.ref bx)]))
    refine Go.stIV X8 hx hZ e8 I8 N8 gbx (i := 1) (by decide) (by decide) rfl rfl (hb hby at_130) fun T9 h9 lc9 X9 e9 N9 W9 => ?_
    have I9 := I8.st W9
    have hz9 : n0 ≤ h9.size := by rw [W9.size]; exact hz8
    have H9 := H8.keep (Keep.of_wr W9) na np nb
    show Go _ _ _ _ (T9.setTop (mkF m 131 #[.val (.int p0), .val (.int p1), .val (.int p2), .val (.int p3), .val (.int p4), .val (.int p5), .val (.int m6), .val (.int m7), .val (.int m8), .val (.int m9), .val (.int m10), s11, .val (.int m12), .val (.ref sp), .val (.ref a), .unset, .unset, .unset, .unset, .unset] [(.ref bx)]))
    refine Go.by (fun t9 k9 => XS.dup X9.here hx rfl (hb hby at_131) rfl rfl k9) ?_
    show Go _ _ _ _ (T9.setTop (mkF m 132 #[.val (.int p0), .val (.int p1), .val (.int p2), .val (.int p3), .val (.int p4), .val (.int p5), .val (.int m6), .val (.int m7), .val (.int m8), .val (.int m9), .val (.int m10), s11, .val (.int m12), .val (.ref sp), .val (.ref a), .unset, .unset, .unset, .unset, .unset] [(.ref bx), (.ref bx)]))
    refine Go.by (fun t9 k9 => XS.iconst X9.here hx rfl (hb hby at_132) k9) ?_
    show Go _ _ _ _ (T9.setTop (mkF m 133 #[.val (.int p0), .val (.int p1), .val (.int p2), .val (.int p3), .val (.int p4), .val (.int p5), .val (.int m6), .val (.int m7), .val (.int m8), .val (.int m9), .val (.int m10), s11, .val (.int m12), .val (.ref sp), .val (.ref a), .unset, .unset, .unset, .unset, .unset] [(.int (2 : Int32)), (.ref bx), (.ref bx)]))
    refine Go.by (fun t9 k9 => XS.iload X9.here hx rfl (hb hby at_133) rfl k9) ?_
    show Go _ _ _ _ (T9.setTop (mkF m 135 #[.val (.int p0), .val (.int p1), .val (.int p2), .val (.int p3), .val (.int p4), .val (.int p5), .val (.int m6), .val (.int m7), .val (.int m8), .val (.int m9), .val (.int m10), s11, .val (.int m12), .val (.ref sp), .val (.ref a), .unset, .unset, .unset, .unset, .unset] [(.int p5), (.int (2 : Int32)), (.ref bx), (.ref bx)]))
    refine Go.stIV X9 hx hZ e9 I9 N9 gbx (i := 2) (by decide) (by decide) rfl rfl (hb hby at_135) fun T10 h10 lc10 X10 e10 N10 W10 => ?_
    have I10 := I9.st W10
    have hz10 : n0 ≤ h10.size := by rw [W10.size]; exact hz9
    have H10 := H9.keep (Keep.of_wr W10) na np nb
    show Go _ _ _ _ (T10.setTop (mkF m 136 #[.val (.int p0), .val (.int p1), .val (.int p2), .val (.int p3), .val (.int p4), .val (.int p5), .val (.int m6), .val (.int m7), .val (.int m8), .val (.int m9), .val (.int m10), s11, .val (.int m12), .val (.ref sp), .val (.ref a), .unset, .unset, .unset, .unset, .unset] [(.ref bx)]))
    refine Go.by (fun t9 k9 => XS.dup X10.here hx rfl (hb hby at_136) rfl rfl k9) ?_
    show Go _ _ _ _ (T10.setTop (mkF m 137 #[.val (.int p0), .val (.int p1), .val (.int p2), .val (.int p3), .val (.int p4), .val (.int p5), .val (.int m6), .val (.int m7), .val (.int m8), .val (.int m9), .val (.int m10), s11, .val (.int m12), .val (.ref sp), .val (.ref a), .unset, .unset, .unset, .unset, .unset] [(.ref bx), (.ref bx)]))
    refine Go.by (fun t9 k9 => XS.iconst X10.here hx rfl (hb hby at_137) k9) ?_
    show Go _ _ _ _ (T10.setTop (mkF m 138 #[.val (.int p0), .val (.int p1), .val (.int p2), .val (.int p3), .val (.int p4), .val (.int p5), .val (.int m6), .val (.int m7), .val (.int m8), .val (.int m9), .val (.int m10), s11, .val (.int m12), .val (.ref sp), .val (.ref a), .unset, .unset, .unset, .unset, .unset] [(.int (3 : Int32)), (.ref bx), (.ref bx)]))
    refine Go.by (fun t9 k9 => XS.iload X10.here hx rfl (hb hby at_138) rfl k9) ?_
    show Go _ _ _ _ (T10.setTop (mkF m 140 #[.val (.int p0), .val (.int p1), .val (.int p2), .val (.int p3), .val (.int p4), .val (.int p5), .val (.int m6), .val (.int m7), .val (.int m8), .val (.int m9), .val (.int m10), s11, .val (.int m12), .val (.ref sp), .val (.ref a), .unset, .unset, .unset, .unset, .unset] [(.int p5), (.int (3 : Int32)), (.ref bx), (.ref bx)]))
    refine Go.stIV X10 hx hZ e10 I10 N10 gbx (i := 3) (by decide) (by decide) rfl rfl (hb hby at_140) fun T11 h11 lc11 X11 e11 N11 W11 => ?_
    have I11 := I10.st W11
    have hz11 : n0 ≤ h11.size := by rw [W11.size]; exact hz10
    have H11 := H10.keep (Keep.of_wr W11) na np nb
    show Go _ _ _ _ (T11.setTop (mkF m 141 #[.val (.int p0), .val (.int p1), .val (.int p2), .val (.int p3), .val (.int p4), .val (.int p5), .val (.int m6), .val (.int m7), .val (.int m8), .val (.int m9), .val (.int m10), s11, .val (.int m12), .val (.ref sp), .val (.ref a), .unset, .unset, .unset, .unset, .unset] [(.ref bx)]))
    refine Go.by (fun t9 k9 => XS.dup X11.here hx rfl (hb hby at_141) rfl rfl k9) ?_
    show Go _ _ _ _ (T11.setTop (mkF m 142 #[.val (.int p0), .val (.int p1), .val (.int p2), .val (.int p3), .val (.int p4), .val (.int p5), .val (.int m6), .val (.int m7), .val (.int m8), .val (.int m9), .val (.int m10), s11, .val (.int m12), .val (.ref sp), .val (.ref a), .unset, .unset, .unset, .unset, .unset] [(.ref bx), (.ref bx)]))
    refine Go.by (fun t9 k9 => XS.iconst X11.here hx rfl (hb hby at_142) k9) ?_
    show Go _ _ _ _ (T11.setTop (mkF m 143 #[.val (.int p0), .val (.int p1), .val (.int p2), .val (.int p3), .val (.int p4), .val (.int p5), .val (.int m6), .val (.int m7), .val (.int m8), .val (.int m9), .val (.int m10), s11, .val (.int m12), .val (.ref sp), .val (.ref a), .unset, .unset, .unset, .unset, .unset] [(.int (4 : Int32)), (.ref bx), (.ref bx)]))
    refine Go.by (fun t9 k9 => XS.iload X11.here hx rfl (hb hby at_143) rfl k9) ?_
    show Go _ _ _ _ (T11.setTop (mkF m 145 #[.val (.int p0), .val (.int p1), .val (.int p2), .val (.int p3), .val (.int p4), .val (.int p5), .val (.int m6), .val (.int m7), .val (.int m8), .val (.int m9), .val (.int m10), s11, .val (.int m12), .val (.ref sp), .val (.ref a), .unset, .unset, .unset, .unset, .unset] [(.int p5), (.int (4 : Int32)), (.ref bx), (.ref bx)]))
    refine Go.stIV X11 hx hZ e11 I11 N11 gbx (i := 4) (by decide) (by decide) rfl rfl (hb hby at_145) fun T12 h12 lc12 X12 e12 N12 W12 => ?_
    have I12 := I11.st W12
    have hz12 : n0 ≤ h12.size := by rw [W12.size]; exact hz11
    have H12 := H11.keep (Keep.of_wr W12) na np nb
    show Go _ _ _ _ (T12.setTop (mkF m 146 #[.val (.int p0), .val (.int p1), .val (.int p2), .val (.int p3), .val (.int p4), .val (.int p5), .val (.int m6), .val (.int m7), .val (.int m8), .val (.int m9), .val (.int m10), s11, .val (.int m12), .val (.ref sp), .val (.ref a), .unset, .unset, .unset, .unset, .unset] [(.ref bx)]))
    refine Go.by (fun t9 k9 => XS.dup X12.here hx rfl (hb hby at_146) rfl rfl k9) ?_
    show Go _ _ _ _ (T12.setTop (mkF m 147 #[.val (.int p0), .val (.int p1), .val (.int p2), .val (.int p3), .val (.int p4), .val (.int p5), .val (.int m6), .val (.int m7), .val (.int m8), .val (.int m9), .val (.int m10), s11, .val (.int m12), .val (.ref sp), .val (.ref a), .unset, .unset, .unset, .unset, .unset] [(.ref bx), (.ref bx)]))
    refine Go.by (fun t9 k9 => XS.iconst X12.here hx rfl (hb hby at_147) k9) ?_
    show Go _ _ _ _ (T12.setTop (mkF m 148 #[.val (.int p0), .val (.int p1), .val (.int p2), .val (.int p3), .val (.int p4), .val (.int p5), .val (.int m6), .val (.int m7), .val (.int m8), .val (.int m9), .val (.int m10), s11, .val (.int m12), .val (.ref sp), .val (.ref a), .unset, .unset, .unset, .unset, .unset] [(.int (5 : Int32)), (.ref bx), (.ref bx)]))
    refine Go.by (fun t9 k9 => XS.iload X12.here hx rfl (hb hby at_148) rfl k9) ?_
    show Go _ _ _ _ (T12.setTop (mkF m 150 #[.val (.int p0), .val (.int p1), .val (.int p2), .val (.int p3), .val (.int p4), .val (.int p5), .val (.int m6), .val (.int m7), .val (.int m8), .val (.int m9), .val (.int m10), s11, .val (.int m12), .val (.ref sp), .val (.ref a), .unset, .unset, .unset, .unset, .unset] [(.int p5), (.int (5 : Int32)), (.ref bx), (.ref bx)]))
    refine Go.stIV X12 hx hZ e12 I12 N12 gbx (i := 5) (by decide) (by decide) rfl rfl (hb hby at_150) fun T13 h13 lc13 X13 e13 N13 W13 => ?_
    have I13 := I12.st W13
    have hz13 : n0 ≤ h13.size := by rw [W13.size]; exact hz12
    have H13 := H12.keep (Keep.of_wr W13) na np nb
    show Go _ _ _ _ (T13.setTop (mkF m 151 #[.val (.int p0), .val (.int p1), .val (.int p2), .val (.int p3), .val (.int p4), .val (.int p5), .val (.int m6), .val (.int m7), .val (.int m8), .val (.int m9), .val (.int m10), s11, .val (.int m12), .val (.ref sp), .val (.ref a), .unset, .unset, .unset, .unset, .unset] [(.ref bx)]))
    refine Go.by (fun t9 k9 => XS.dup X13.here hx rfl (hb hby at_151) rfl rfl k9) ?_
    show Go _ _ _ _ (T13.setTop (mkF m 152 #[.val (.int p0), .val (.int p1), .val (.int p2), .val (.int p3), .val (.int p4), .val (.int p5), .val (.int m6), .val (.int m7), .val (.int m8), .val (.int m9), .val (.int m10), s11, .val (.int m12), .val (.ref sp), .val (.ref a), .unset, .unset, .unset, .unset, .unset] [(.ref bx), (.ref bx)]))
    refine Go.by (fun t9 k9 => XS.bipush X13.here hx rfl (hb hby at_152) k9) ?_
    show Go _ _ _ _ (T13.setTop (mkF m 154 #[.val (.int p0), .val (.int p1), .val (.int p2), .val (.int p3), .val (.int p4), .val (.int p5), .val (.int m6), .val (.int m7), .val (.int m8), .val (.int m9), .val (.int m10), s11, .val (.int m12), .val (.ref sp), .val (.ref a), .unset, .unset, .unset, .unset, .unset] [(.int (6 : Int32)), (.ref bx), (.ref bx)]))
    refine Go.by (fun t9 k9 => XS.iload X13.here hx rfl (hb hby at_154) rfl k9) ?_
    show Go _ _ _ _ (T13.setTop (mkF m 156 #[.val (.int p0), .val (.int p1), .val (.int p2), .val (.int p3), .val (.int p4), .val (.int p5), .val (.int m6), .val (.int m7), .val (.int m8), .val (.int m9), .val (.int m10), s11, .val (.int m12), .val (.ref sp), .val (.ref a), .unset, .unset, .unset, .unset, .unset] [(.int p5), (.int (6 : Int32)), (.ref bx), (.ref bx)]))
    refine Go.stIV X13 hx hZ e13 I13 N13 gbx (i := 6) (by decide) (by decide) rfl rfl (hb hby at_156) fun T14 h14 lc14 X14 e14 N14 W14 => ?_
    have I14 := I13.st W14
    have hz14 : n0 ≤ h14.size := by rw [W14.size]; exact hz13
    have H14 := H13.keep (Keep.of_wr W14) na np nb
    show Go _ _ _ _ (T14.setTop (mkF m 157 #[.val (.int p0), .val (.int p1), .val (.int p2), .val (.int p3), .val (.int p4), .val (.int p5), .val (.int m6), .val (.int m7), .val (.int m8), .val (.int m9), .val (.int m10), s11, .val (.int m12), .val (.ref sp), .val (.ref a), .unset, .unset, .unset, .unset, .unset] [(.ref bx)]))
    refine Go.by (fun t9 k9 => XS.dup X14.here hx rfl (hb hby at_157) rfl rfl k9) ?_
    show Go _ _ _ _ (T14.setTop (mkF m 158 #[.val (.int p0), .val (.int p1), .val (.int p2), .val (.int p3), .val (.int p4), .val (.int p5), .val (.int m6), .val (.int m7), .val (.int m8), .val (.int m9), .val (.int m10), s11, .val (.int m12), .val (.ref sp), .val (.ref a), .unset, .unset, .unset, .unset, .unset] [(.ref bx), (.ref bx)]))
    refine Go.by (fun t9 k9 => XS.bipush X14.here hx rfl (hb hby at_158) k9) ?_
    show Go _ _ _ _ (T14.setTop (mkF m 160 #[.val (.int p0), .val (.int p1), .val (.int p2), .val (.int p3), .val (.int p4), .val (.int p5), .val (.int m6), .val (.int m7), .val (.int m8), .val (.int m9), .val (.int m10), s11, .val (.int m12), .val (.ref sp), .val (.ref a), .unset, .unset, .unset, .unset, .unset] [(.int (7 : Int32)), (.ref bx), (.ref bx)]))
    refine Go.by (fun t9 k9 => XS.iload X14.here hx rfl (hb hby at_160) rfl k9) ?_
    show Go _ _ _ _ (T14.setTop (mkF m 162 #[.val (.int p0), .val (.int p1), .val (.int p2), .val (.int p3), .val (.int p4), .val (.int p5), .val (.int m6), .val (.int m7), .val (.int m8), .val (.int m9), .val (.int m10), s11, .val (.int m12), .val (.ref sp), .val (.ref a), .unset, .unset, .unset, .unset, .unset] [(.int p5), (.int (7 : Int32)), (.ref bx), (.ref bx)]))
    refine Go.stIV X14 hx hZ e14 I14 N14 gbx (i := 7) (by decide) (by decide) rfl rfl (hb hby at_162) fun T15 h15 lc15 X15 e15 N15 W15 => ?_
    have I15 := I14.st W15
    have hz15 : n0 ≤ h15.size := by rw [W15.size]; exact hz14
    have H15 := H14.keep (Keep.of_wr W15) na np nb
    show Go _ _ _ _ (T15.setTop (mkF m 163 #[.val (.int p0), .val (.int p1), .val (.int p2), .val (.int p3), .val (.int p4), .val (.int p5), .val (.int m6), .val (.int m7), .val (.int m8), .val (.int m9), .val (.int m10), s11, .val (.int m12), .val (.ref sp), .val (.ref a), .unset, .unset, .unset, .unset, .unset] [(.ref bx)]))
    refine Go.by (fun t9 k9 => XS.astore X15.here hx rfl (hb hby at_163) rfl rfl (l' := #[.val (.int p0), .val (.int p1), .val (.int p2), .val (.int p3), .val (.int p4), .val (.int p5), .val (.int m6), .val (.int m7), .val (.int m8), .val (.int m9), .val (.int m10), s11, .val (.int m12), .val (.ref sp), .val (.ref a), .val (.ref bx), .unset, .unset, .unset, .unset]) rfl k9) ?_
    show Go _ _ _ _ (T15.setTop (mkF m 165 #[.val (.int p0), .val (.int p1), .val (.int p2), .val (.int p3), .val (.int p4), .val (.int p5), .val (.int m6), .val (.int m7), .val (.int m8), .val (.int m9), .val (.int m10), s11, .val (.int m12), .val (.ref sp), .val (.ref a), .val (.ref bx), .unset, .unset, .unset, .unset] []))
    refine Go.by (fun t9 k9 => XS.aload X15.here hx rfl (hb hby at_165) rfl rfl k9) ?_
    show Go _ _ _ _ (T15.setTop (mkF m 167 #[.val (.int p0), .val (.int p1), .val (.int p2), .val (.int p3), .val (.int p4), .val (.int p5), .val (.int m6), .val (.int m7), .val (.int m8), .val (.int m9), .val (.int m10), s11, .val (.int m12), .val (.ref sp), .val (.ref a), .val (.ref bx), .unset, .unset, .unset, .unset] [(.ref a)]))
    refine Go.by (fun t9 k9 => XS.aload X15.here hx rfl (hb hby at_167) rfl rfl k9) ?_
    show Go _ _ _ _ (T15.setTop (mkF m 169 #[.val (.int p0), .val (.int p1), .val (.int p2), .val (.int p3), .val (.int p4), .val (.int p5), .val (.int m6), .val (.int m7), .val (.int m8), .val (.int m9), .val (.int m10), s11, .val (.int m12), .val (.ref sp), .val (.ref a), .val (.ref bx), .unset, .unset, .unset, .unset] [(.ref bx), (.ref a)]))
    refine Go.by (fun t9 k9 => XS.iload X15.here hx rfl (hb hby at_169) rfl k9) ?_
    show Go _ _ _ _ (T15.setTop (mkF m 171 #[.val (.int p0), .val (.int p1), .val (.int p2), .val (.int p3), .val (.int p4), .val (.int p5), .val (.int m6), .val (.int m7), .val (.int m8), .val (.int m9), .val (.int m10), s11, .val (.int m12), .val (.ref sp), .val (.ref a), .val (.ref bx), .unset, .unset, .unset, .unset] [(.int m10), (.ref bx), (.ref a)]))
    obtain ⟨gg16a, hgg16a⟩ : ∃ z : Nat → Int32, z = (updI (updI (updI (updI (updI (updI (updI (updI (fun _ => 0) 0 p5) 1 p5) 2 p5) 3 p5) 4 p5) 5 p5) 6 p5) 7 p5) := ⟨_, rfl⟩
    rw [← hgg16a] at I15
    refine Go.callV X15 hx hZ (y := (⟨"com/example/isolens/isolens/checker/RowLayout", "clear", "([II)V"⟩ : MethodName)) hown (hw _ (List.mem_of_getElem? (i := 41) rfl)) (hw _ (List.mem_of_getElem? (i := 42) rfl)) (hw _ (List.mem_of_getElem? (i := 43) rfl)) (hw _ (List.mem_of_getElem? (i := 44) rfl)) (hw _ (List.mem_of_getElem? (i := 45) rfl)) (hw _ (List.mem_of_getElem? (i := 3) rfl)) (by decide) 0 (rm5 l Z a0 hw [] a bx m10 bp ba P A BI RI gg16a r (biN PP) (riN PP) h15 n0 hz15 H15 I15 hr hBI hRI (by unfold riN; omega) (by have := ri_le PP; omega) gbx na np nb) (none) (fun h' => Keep h15 h' [bx] ∧ IV Z h' bx 8 (fun i => if r + biN PP ≤ i ∧ i < r + riN PP then (-1 : Int32) else (fun i => if r ≤ i ∧ i < r + biN PP then (0 : Int32) else gg16a i) i)) (fun _ _ _ q => q) (by decide) (by decide) e15 H15.1 N15 rfl (by rw [hml]; rfl) (argsL := [(.ref bx), (.int m10)]) (rest := []) rfl (lenOf pd2 rfl) rfl (by show 2 * 0 + _ ≤ _; exact Nat.le_of_eq rfl) (hb hby at_171) (by decide) (by decide) ?_
    intro T16 lc16 X16 N16 ⟨K16, I16⟩
    have hz16 := Nat.le_trans hz15 K16.1
    have H16 := H15.keep K16 na np nb
    obtain ⟨gg16b, hgg16b⟩ : ∃ z : Nat → Int32, z = (fun i => if r + biN PP ≤ i ∧ i < r + riN PP then (-1 : Int32) else (fun i => if r ≤ i ∧ i < r + biN PP then (0 : Int32) else gg16a i) i) := ⟨_, rfl⟩
    rw [← hgg16b] at I16
    have S0_16 : SlotOK gg16b r PP 0 (-1) := by rw [hgg16b]; exact slot_clear gg16a (by decide)
    have S1_16 : SlotOK gg16b r PP 1 (-1) := by rw [hgg16b]; exact slot_clear gg16a (by decide)
    have S2_16 : SlotOK gg16b r PP 2 (-1) := by rw [hgg16b]; exact slot_clear gg16a (by decide)
    show Go _ _ _ _ (T16.setTop (mkF m 174 #[.val (.int p0), .val (.int p1), .val (.int p2), .val (.int p3), .val (.int p4), .val (.int p5), .val (.int m6), .val (.int m7), .val (.int m8), .val (.int m9), .val (.int m10), s11, .val (.int m12), .val (.ref sp), .val (.ref a), .val (.ref bx), .unset, .unset, .unset, .unset] []))
    refine Go.by (fun t9 k9 => XS.aload X16.here hx rfl (hb hby at_174) rfl rfl k9) ?_
    show Go _ _ _ _ (T16.setTop (mkF m 176 #[.val (.int p0), .val (.int p1), .val (.int p2), .val (.int p3), .val (.int p4), .val (.int p5), .val (.int m6), .val (.int m7), .val (.int m8), .val (.int m9), .val (.int m10), s11, .val (.int m12), .val (.ref sp), .val (.ref a), .val (.ref bx), .unset, .unset, .unset, .unset] [(.ref a)]))
    refine Go.by (fun t9 k9 => XS.aload X16.here hx rfl (hb hby at_176) rfl rfl k9) ?_
    show Go _ _ _ _ (T16.setTop (mkF m 178 #[.val (.int p0), .val (.int p1), .val (.int p2), .val (.int p3), .val (.int p4), .val (.int p5), .val (.int m6), .val (.int m7), .val (.int m8), .val (.int m9), .val (.int m10), s11, .val (.int m12), .val (.ref sp), .val (.ref a), .val (.ref bx), .unset, .unset, .unset, .unset] [(.ref bx), (.ref a)]))
    refine Go.by (fun t9 k9 => XS.iload X16.here hx rfl (hb hby at_178) rfl k9) ?_
    show Go _ _ _ _ (T16.setTop (mkF m 180 #[.val (.int p0), .val (.int p1), .val (.int p2), .val (.int p3), .val (.int p4), .val (.int p5), .val (.int m6), .val (.int m7), .val (.int m8), .val (.int m9), .val (.int m10), s11, .val (.int m12), .val (.ref sp), .val (.ref a), .val (.ref bx), .unset, .unset, .unset, .unset] [(.int m10), (.ref bx), (.ref a)]))
    refine Go.by (fun t9 k9 => XS.iconst X16.here hx rfl (hb hby at_180) k9) ?_
    show Go _ _ _ _ (T16.setTop (mkF m 181 #[.val (.int p0), .val (.int p1), .val (.int p2), .val (.int p3), .val (.int p4), .val (.int p5), .val (.int m6), .val (.int m7), .val (.int m8), .val (.int m9), .val (.int m10), s11, .val (.int m12), .val (.ref sp), .val (.ref a), .val (.ref bx), .unset, .unset, .unset, .unset] [(.int (0 : Int32)), (.int m10), (.ref bx), (.ref a)]))
    refine Go.by (fun t9 k9 => XS.iload X16.here hx rfl (hb hby at_181) rfl k9) ?_
    show Go _ _ _ _ (T16.setTop (mkF m 183 #[.val (.int p0), .val (.int p1), .val (.int p2), .val (.int p3), .val (.int p4), .val (.int p5), .val (.int m6), .val (.int m7), .val (.int m8), .val (.int m9), .val (.int m10), s11, .val (.int m12), .val (.ref sp), .val (.ref a), .val (.ref bx), .unset, .unset, .unset, .unset] [(.int m6), (.int (0 : Int32)), (.int m10), (.ref bx), (.ref a)]))
    refine Go.by (fun t9 k9 => XS.iloadN X16.here hx rfl (hb hby at_183) rfl k9) ?_
    show Go _ _ _ _ (T16.setTop (mkF m 184 #[.val (.int p0), .val (.int p1), .val (.int p2), .val (.int p3), .val (.int p4), .val (.int p5), .val (.int m6), .val (.int m7), .val (.int m8), .val (.int m9), .val (.int m10), s11, .val (.int m12), .val (.ref sp), .val (.ref a), .val (.ref bx), .unset, .unset, .unset, .unset] [(.int p1), (.int m6), (.int (0 : Int32)), (.int m10), (.ref bx), (.ref a)]))
    refine Go.callS X16 hx hZ (y := (⟨"com/example/isolens/isolens/checker/RowLayoutReachesPinLaw", "put", "(Lcom/example/isolens/isolens/checker/RowLayout;[IIIII)I"⟩ : MethodName)) hown (hw _ (List.mem_of_getElem? (i := 57) rfl)) (hw _ (List.mem_of_getElem? (i := 58) rfl)) (hw _ (List.mem_of_getElem? (i := 59) rfl)) (hw _ (List.mem_of_getElem? (i := 60) rfl)) (by decide) 0 (rm9 l Z a0 hw [] a bx m10 (0 : Int32) m6 p1 bp ba P A BI RI gg16b r 0 (atN PP 0) T16.heap n0 hz16 H16 I16 hr (by decide) (by decide) (hA 0 (by decide)) (own_hI hP (by decide) hr3) (own_hB hP (by decide) hr3) gbx ⟨by omega, f6.2⟩) (some (.int (putV m6 p1))) (fun h' => Keep T16.heap h' [bx] ∧ IV Z h' bx 8 (putG (P 0) (A 0) gg16b r (atN PP 0) m6 p1)) (fun _ _ _ q => q) (by decide) (by decide) rfl N16 rfl (by rw [hml]; rfl) (argsL := [(.ref a), (.ref bx), (.int m10), (.int (0 : Int32)), (.int m6), (.int p1)]) (rest := []) rfl (lenOf pd7 rfl) rfl (by show 2 * 0 + _ ≤ _; exact Nat.le_of_eq rfl) (hb hby at_184) (by decide) (by decide) ?_
    intro T17 lc17 X17 N17 ⟨K17, I17⟩
    have hz17 := Nat.le_trans hz16 K17.1
    have H17 := H16.keep K17 na np nb
    have I17q : IV Z T17.heap bx 8 (putG (P 0) (A 0) gg16b r (atN PP 0) (P 0) p1) := by rw [hP0]; rw [hP0] at I17; exact I17
    obtain ⟨gg17, hgg17⟩ : ∃ z : Nat → Int32, z = (putG (P 0) (A 0) gg16b r (atN PP 0) (P 0) p1) := ⟨_, rfl⟩
    rw [← hgg17] at I17q
    have S0_17 : SlotOK gg17 r PP 0 (putV (P 0) p1).toInt := by rw [hgg17]; exact put_same hP hA (by decide) S0_16
    have S1_17 : SlotOK gg17 r PP 1 (-1) := by rw [hgg17]; exact put_other hP hA (by decide) (by decide) (by decide) S1_16
    have S2_17 : SlotOK gg17 r PP 2 (-1) := by rw [hgg17]; exact put_other hP hA (by decide) (by decide) (by decide) S2_16
    generalize hv16 : putV m6 p1 = v16
    show Go _ _ _ _ (T17.setTop (mkF m 187 #[.val (.int p0), .val (.int p1), .val (.int p2), .val (.int p3), .val (.int p4), .val (.int p5), .val (.int m6), .val (.int m7), .val (.int m8), .val (.int m9), .val (.int m10), s11, .val (.int m12), .val (.ref sp), .val (.ref a), .val (.ref bx), .unset, .unset, .unset, .unset] [(.int v16)]))
    refine Go.by (fun t9 k9 => XS.istore X17.here hx rfl (hb hby at_187) rfl (l' := #[.val (.int p0), .val (.int p1), .val (.int p2), .val (.int p3), .val (.int p4), .val (.int p5), .val (.int m6), .val (.int m7), .val (.int m8), .val (.int m9), .val (.int m10), s11, .val (.int m12), .val (.ref sp), .val (.ref a), .val (.ref bx), .val (.int v16), .unset, .unset, .unset]) rfl k9) ?_
    show Go _ _ _ _ (T17.setTop (mkF m 189 #[.val (.int p0), .val (.int p1), .val (.int p2), .val (.int p3), .val (.int p4), .val (.int p5), .val (.int m6), .val (.int m7), .val (.int m8), .val (.int m9), .val (.int m10), s11, .val (.int m12), .val (.ref sp), .val (.ref a), .val (.ref bx), .val (.int v16), .unset, .unset, .unset] []))
    refine Go.by (fun t9 k9 => XS.aload X17.here hx rfl (hb hby at_189) rfl rfl k9) ?_
    show Go _ _ _ _ (T17.setTop (mkF m 191 #[.val (.int p0), .val (.int p1), .val (.int p2), .val (.int p3), .val (.int p4), .val (.int p5), .val (.int m6), .val (.int m7), .val (.int m8), .val (.int m9), .val (.int m10), s11, .val (.int m12), .val (.ref sp), .val (.ref a), .val (.ref bx), .val (.int v16), .unset, .unset, .unset] [(.ref a)]))
    refine Go.by (fun t9 k9 => XS.aload X17.here hx rfl (hb hby at_191) rfl rfl k9) ?_
    show Go _ _ _ _ (T17.setTop (mkF m 193 #[.val (.int p0), .val (.int p1), .val (.int p2), .val (.int p3), .val (.int p4), .val (.int p5), .val (.int m6), .val (.int m7), .val (.int m8), .val (.int m9), .val (.int m10), s11, .val (.int m12), .val (.ref sp), .val (.ref a), .val (.ref bx), .val (.int v16), .unset, .unset, .unset] [(.ref bx), (.ref a)]))
    refine Go.by (fun t9 k9 => XS.iload X17.here hx rfl (hb hby at_193) rfl k9) ?_
    show Go _ _ _ _ (T17.setTop (mkF m 195 #[.val (.int p0), .val (.int p1), .val (.int p2), .val (.int p3), .val (.int p4), .val (.int p5), .val (.int m6), .val (.int m7), .val (.int m8), .val (.int m9), .val (.int m10), s11, .val (.int m12), .val (.ref sp), .val (.ref a), .val (.ref bx), .val (.int v16), .unset, .unset, .unset] [(.int m10), (.ref bx), (.ref a)]))
    refine Go.by (fun t9 k9 => XS.iconst X17.here hx rfl (hb hby at_195) k9) ?_
    show Go _ _ _ _ (T17.setTop (mkF m 196 #[.val (.int p0), .val (.int p1), .val (.int p2), .val (.int p3), .val (.int p4), .val (.int p5), .val (.int m6), .val (.int m7), .val (.int m8), .val (.int m9), .val (.int m10), s11, .val (.int m12), .val (.ref sp), .val (.ref a), .val (.ref bx), .val (.int v16), .unset, .unset, .unset] [(.int (1 : Int32)), (.int m10), (.ref bx), (.ref a)]))
    refine Go.by (fun t9 k9 => XS.iload X17.here hx rfl (hb hby at_196) rfl k9) ?_
    show Go _ _ _ _ (T17.setTop (mkF m 198 #[.val (.int p0), .val (.int p1), .val (.int p2), .val (.int p3), .val (.int p4), .val (.int p5), .val (.int m6), .val (.int m7), .val (.int m8), .val (.int m9), .val (.int m10), s11, .val (.int m12), .val (.ref sp), .val (.ref a), .val (.ref bx), .val (.int v16), .unset, .unset, .unset] [(.int m7), (.int (1 : Int32)), (.int m10), (.ref bx), (.ref a)]))
    refine Go.by (fun t9 k9 => XS.iloadN X17.here hx rfl (hb hby at_198) rfl k9) ?_
    show Go _ _ _ _ (T17.setTop (mkF m 199 #[.val (.int p0), .val (.int p1), .val (.int p2), .val (.int p3), .val (.int p4), .val (.int p5), .val (.int m6), .val (.int m7), .val (.int m8), .val (.int m9), .val (.int m10), s11, .val (.int m12), .val (.ref sp), .val (.ref a), .val (.ref bx), .val (.int v16), .unset, .unset, .unset] [(.int p2), (.int m7), (.int (1 : Int32)), (.int m10), (.ref bx), (.ref a)]))
    refine Go.callS X17 hx hZ (y := (⟨"com/example/isolens/isolens/checker/RowLayoutReachesPinLaw", "put", "(Lcom/example/isolens/isolens/checker/RowLayout;[IIIII)I"⟩ : MethodName)) hown (hw _ (List.mem_of_getElem? (i := 57) rfl)) (hw _ (List.mem_of_getElem? (i := 58) rfl)) (hw _ (List.mem_of_getElem? (i := 59) rfl)) (hw _ (List.mem_of_getElem? (i := 60) rfl)) (by decide) 0 (rm9 l Z a0 hw [] a bx m10 (1 : Int32) m7 p2 bp ba P A BI RI gg17 r 1 (atN PP 1) T17.heap n0 hz17 H17 I17q hr (by decide) (by decide) (hA 1 (by decide)) (own_hI hP (by decide) hr3) (own_hB hP (by decide) hr3) gbx ⟨by omega, f7.2⟩) (some (.int (putV m7 p2))) (fun h' => Keep T17.heap h' [bx] ∧ IV Z h' bx 8 (putG (P 1) (A 1) gg17 r (atN PP 1) m7 p2)) (fun _ _ _ q => q) (by decide) (by decide) rfl N17 rfl (by rw [hml]; rfl) (argsL := [(.ref a), (.ref bx), (.int m10), (.int (1 : Int32)), (.int m7), (.int p2)]) (rest := []) rfl (lenOf pd7 rfl) rfl (by show 2 * 0 + _ ≤ _; exact Nat.le_of_eq rfl) (hb hby at_199) (by decide) (by decide) ?_
    intro T18 lc18 X18 N18 ⟨K18, I18⟩
    have hz18 := Nat.le_trans hz17 K18.1
    have H18 := H17.keep K18 na np nb
    have I18q : IV Z T18.heap bx 8 (putG (P 1) (A 1) gg17 r (atN PP 1) (P 1) p2) := by rw [hP1]; rw [hP1] at I18; exact I18
    obtain ⟨gg18, hgg18⟩ : ∃ z : Nat → Int32, z = (putG (P 1) (A 1) gg17 r (atN PP 1) (P 1) p2) := ⟨_, rfl⟩
    rw [← hgg18] at I18q
    have S0_18 : SlotOK gg18 r PP 0 (putV (P 0) p1).toInt := by rw [hgg18]; exact put_other hP hA (by decide) (by decide) (by decide) S0_17
    have S1_18 : SlotOK gg18 r PP 1 (putV (P 1) p2).toInt := by rw [hgg18]; exact put_same hP hA (by decide) S1_17
    have S2_18 : SlotOK gg18 r PP 2 (-1) := by rw [hgg18]; exact put_other hP hA (by decide) (by decide) (by decide) S2_17
    generalize hv17 : putV m7 p2 = v17
    show Go _ _ _ _ (T18.setTop (mkF m 202 #[.val (.int p0), .val (.int p1), .val (.int p2), .val (.int p3), .val (.int p4), .val (.int p5), .val (.int m6), .val (.int m7), .val (.int m8), .val (.int m9), .val (.int m10), s11, .val (.int m12), .val (.ref sp), .val (.ref a), .val (.ref bx), .val (.int v16), .unset, .unset, .unset] [(.int v17)]))
    refine Go.by (fun t9 k9 => XS.istore X18.here hx rfl (hb hby at_202) rfl (l' := #[.val (.int p0), .val (.int p1), .val (.int p2), .val (.int p3), .val (.int p4), .val (.int p5), .val (.int m6), .val (.int m7), .val (.int m8), .val (.int m9), .val (.int m10), s11, .val (.int m12), .val (.ref sp), .val (.ref a), .val (.ref bx), .val (.int v16), .val (.int v17), .unset, .unset]) rfl k9) ?_
    show Go _ _ _ _ (T18.setTop (mkF m 204 #[.val (.int p0), .val (.int p1), .val (.int p2), .val (.int p3), .val (.int p4), .val (.int p5), .val (.int m6), .val (.int m7), .val (.int m8), .val (.int m9), .val (.int m10), s11, .val (.int m12), .val (.ref sp), .val (.ref a), .val (.ref bx), .val (.int v16), .val (.int v17), .unset, .unset] []))
    refine Go.by (fun t9 k9 => XS.aload X18.here hx rfl (hb hby at_204) rfl rfl k9) ?_
    show Go _ _ _ _ (T18.setTop (mkF m 206 #[.val (.int p0), .val (.int p1), .val (.int p2), .val (.int p3), .val (.int p4), .val (.int p5), .val (.int m6), .val (.int m7), .val (.int m8), .val (.int m9), .val (.int m10), s11, .val (.int m12), .val (.ref sp), .val (.ref a), .val (.ref bx), .val (.int v16), .val (.int v17), .unset, .unset] [(.ref a)]))
    refine Go.by (fun t9 k9 => XS.aload X18.here hx rfl (hb hby at_206) rfl rfl k9) ?_
    show Go _ _ _ _ (T18.setTop (mkF m 208 #[.val (.int p0), .val (.int p1), .val (.int p2), .val (.int p3), .val (.int p4), .val (.int p5), .val (.int m6), .val (.int m7), .val (.int m8), .val (.int m9), .val (.int m10), s11, .val (.int m12), .val (.ref sp), .val (.ref a), .val (.ref bx), .val (.int v16), .val (.int v17), .unset, .unset] [(.ref bx), (.ref a)]))
    refine Go.by (fun t9 k9 => XS.iload X18.here hx rfl (hb hby at_208) rfl k9) ?_
    show Go _ _ _ _ (T18.setTop (mkF m 210 #[.val (.int p0), .val (.int p1), .val (.int p2), .val (.int p3), .val (.int p4), .val (.int p5), .val (.int m6), .val (.int m7), .val (.int m8), .val (.int m9), .val (.int m10), s11, .val (.int m12), .val (.ref sp), .val (.ref a), .val (.ref bx), .val (.int v16), .val (.int v17), .unset, .unset] [(.int m10), (.ref bx), (.ref a)]))
    refine Go.by (fun t9 k9 => XS.iconst X18.here hx rfl (hb hby at_210) k9) ?_
    show Go _ _ _ _ (T18.setTop (mkF m 211 #[.val (.int p0), .val (.int p1), .val (.int p2), .val (.int p3), .val (.int p4), .val (.int p5), .val (.int m6), .val (.int m7), .val (.int m8), .val (.int m9), .val (.int m10), s11, .val (.int m12), .val (.ref sp), .val (.ref a), .val (.ref bx), .val (.int v16), .val (.int v17), .unset, .unset] [(.int (2 : Int32)), (.int m10), (.ref bx), (.ref a)]))
    refine Go.by (fun t9 k9 => XS.iload X18.here hx rfl (hb hby at_211) rfl k9) ?_
    show Go _ _ _ _ (T18.setTop (mkF m 213 #[.val (.int p0), .val (.int p1), .val (.int p2), .val (.int p3), .val (.int p4), .val (.int p5), .val (.int m6), .val (.int m7), .val (.int m8), .val (.int m9), .val (.int m10), s11, .val (.int m12), .val (.ref sp), .val (.ref a), .val (.ref bx), .val (.int v16), .val (.int v17), .unset, .unset] [(.int m8), (.int (2 : Int32)), (.int m10), (.ref bx), (.ref a)]))
    refine Go.by (fun t9 k9 => XS.iloadN X18.here hx rfl (hb hby at_213) rfl k9) ?_
    show Go _ _ _ _ (T18.setTop (mkF m 214 #[.val (.int p0), .val (.int p1), .val (.int p2), .val (.int p3), .val (.int p4), .val (.int p5), .val (.int m6), .val (.int m7), .val (.int m8), .val (.int m9), .val (.int m10), s11, .val (.int m12), .val (.ref sp), .val (.ref a), .val (.ref bx), .val (.int v16), .val (.int v17), .unset, .unset] [(.int p3), (.int m8), (.int (2 : Int32)), (.int m10), (.ref bx), (.ref a)]))
    refine Go.callS X18 hx hZ (y := (⟨"com/example/isolens/isolens/checker/RowLayoutReachesPinLaw", "put", "(Lcom/example/isolens/isolens/checker/RowLayout;[IIIII)I"⟩ : MethodName)) hown (hw _ (List.mem_of_getElem? (i := 57) rfl)) (hw _ (List.mem_of_getElem? (i := 58) rfl)) (hw _ (List.mem_of_getElem? (i := 59) rfl)) (hw _ (List.mem_of_getElem? (i := 60) rfl)) (by decide) 0 (rm9 l Z a0 hw [] a bx m10 (2 : Int32) m8 p3 bp ba P A BI RI gg18 r 2 (atN PP 2) T18.heap n0 hz18 H18 I18q hr (by decide) (by decide) (hA 2 (by decide)) (own_hI hP (by decide) hr3) (own_hB hP (by decide) hr3) gbx ⟨by omega, f8.2⟩) (some (.int (putV m8 p3))) (fun h' => Keep T18.heap h' [bx] ∧ IV Z h' bx 8 (putG (P 2) (A 2) gg18 r (atN PP 2) m8 p3)) (fun _ _ _ q => q) (by decide) (by decide) rfl N18 rfl (by rw [hml]; rfl) (argsL := [(.ref a), (.ref bx), (.int m10), (.int (2 : Int32)), (.int m8), (.int p3)]) (rest := []) rfl (lenOf pd7 rfl) rfl (by show 2 * 0 + _ ≤ _; exact Nat.le_of_eq rfl) (hb hby at_214) (by decide) (by decide) ?_
    intro T19 lc19 X19 N19 ⟨K19, I19⟩
    have hz19 := Nat.le_trans hz18 K19.1
    have H19 := H18.keep K19 na np nb
    have I19q : IV Z T19.heap bx 8 (putG (P 2) (A 2) gg18 r (atN PP 2) (P 2) p3) := by rw [hP2]; rw [hP2] at I19; exact I19
    obtain ⟨gg19, hgg19⟩ : ∃ z : Nat → Int32, z = (putG (P 2) (A 2) gg18 r (atN PP 2) (P 2) p3) := ⟨_, rfl⟩
    rw [← hgg19] at I19q
    have S0_19 : SlotOK gg19 r PP 0 (putV (P 0) p1).toInt := by rw [hgg19]; exact put_other hP hA (by decide) (by decide) (by decide) S0_18
    have S1_19 : SlotOK gg19 r PP 1 (putV (P 1) p2).toInt := by rw [hgg19]; exact put_other hP hA (by decide) (by decide) (by decide) S1_18
    have S2_19 : SlotOK gg19 r PP 2 (putV (P 2) p3).toInt := by rw [hgg19]; exact put_same hP hA (by decide) S2_18
    generalize hv18 : putV m8 p3 = v18
    show Go _ _ _ _ (T19.setTop (mkF m 217 #[.val (.int p0), .val (.int p1), .val (.int p2), .val (.int p3), .val (.int p4), .val (.int p5), .val (.int m6), .val (.int m7), .val (.int m8), .val (.int m9), .val (.int m10), s11, .val (.int m12), .val (.ref sp), .val (.ref a), .val (.ref bx), .val (.int v16), .val (.int v17), .unset, .unset] [(.int v18)]))
    refine Go.by (fun t9 k9 => XS.istore X19.here hx rfl (hb hby at_217) rfl (l' := #[.val (.int p0), .val (.int p1), .val (.int p2), .val (.int p3), .val (.int p4), .val (.int p5), .val (.int m6), .val (.int m7), .val (.int m8), .val (.int m9), .val (.int m10), s11, .val (.int m12), .val (.ref sp), .val (.ref a), .val (.ref bx), .val (.int v16), .val (.int v17), .val (.int v18), .unset]) rfl k9) ?_
    show Go _ _ _ _ (T19.setTop (mkF m 219 #[.val (.int p0), .val (.int p1), .val (.int p2), .val (.int p3), .val (.int p4), .val (.int p5), .val (.int m6), .val (.int m7), .val (.int m8), .val (.int m9), .val (.int m10), s11, .val (.int m12), .val (.ref sp), .val (.ref a), .val (.ref bx), .val (.int v16), .val (.int v17), .val (.int v18), .unset] []))
    refine Go.by (fun t9 k9 => XS.iload X19.here hx rfl (hb hby at_219) rfl k9) ?_
    show Go _ _ _ _ (T19.setTop (mkF m 221 #[.val (.int p0), .val (.int p1), .val (.int p2), .val (.int p3), .val (.int p4), .val (.int p5), .val (.int m6), .val (.int m7), .val (.int m8), .val (.int m9), .val (.int m10), s11, .val (.int m12), .val (.ref sp), .val (.ref a), .val (.ref bx), .val (.int v16), .val (.int v17), .val (.int v18), .unset] [(.int m9)]))
    by_cases hc221 : m9 = 0
    · refine Go.by (fun t9 k9 => XS.ifNo X19.here hx rfl (hb hby at_221) rfl (XT.i0_ne_f hc221) k9) ?_
      show Go _ _ _ _ (T19.setTop (mkF m 224 #[.val (.int p0), .val (.int p1), .val (.int p2), .val (.int p3), .val (.int p4), .val (.int p5), .val (.int m6), .val (.int m7), .val (.int m8), .val (.int m9), .val (.int m10), s11, .val (.int m12), .val (.ref sp), .val (.ref a), .val (.ref bx), .val (.int v16), .val (.int v17), .val (.int v18), .unset] []))
      refine Go.by (fun t9 k9 => XS.iload X19.here hx rfl (hb hby at_224) rfl k9) ?_
      show Go _ _ _ _ (T19.setTop (mkF m 226 #[.val (.int p0), .val (.int p1), .val (.int p2), .val (.int p3), .val (.int p4), .val (.int p5), .val (.int m6), .val (.int m7), .val (.int m8), .val (.int m9), .val (.int m10), s11, .val (.int m12), .val (.ref sp), .val (.ref a), .val (.ref bx), .val (.int v16), .val (.int v17), .val (.int v18), .unset] [(.int v16)]))
      refine Go.by (fun t9 k9 => XS.goto X19.here hx rfl (pc0 := 226) (pc' := 242) rfl (hb hby at_226) (by decide) (by decide) k9) ?_
      show Go _ _ _ _ (T19.setTop (mkF m 242 #[.val (.int p0), .val (.int p1), .val (.int p2), .val (.int p3), .val (.int p4), .val (.int p5), .val (.int m6), .val (.int m7), .val (.int m8), .val (.int m9), .val (.int m10), s11, .val (.int m12), .val (.ref sp), .val (.ref a), .val (.ref bx), .val (.int v16), .val (.int v17), .val (.int v18), .unset] [(.int v16)]))
      refine Go.by (fun t9 k9 => XS.istore X19.here hx rfl (hb hby at_242) rfl (l' := #[.val (.int p0), .val (.int p1), .val (.int p2), .val (.int p3), .val (.int p4), .val (.int p5), .val (.int m6), .val (.int m7), .val (.int m8), .val (.int m9), .val (.int m10), s11, .val (.int m12), .val (.ref sp), .val (.ref a), .val (.ref bx), .val (.int v16), .val (.int v17), .val (.int v18), .val (.int v16)]) rfl k9) ?_
      show Go _ _ _ _ (T19.setTop (mkF m 244 #[.val (.int p0), .val (.int p1), .val (.int p2), .val (.int p3), .val (.int p4), .val (.int p5), .val (.int m6), .val (.int m7), .val (.int m8), .val (.int m9), .val (.int m10), s11, .val (.int m12), .val (.ref sp), .val (.ref a), .val (.ref bx), .val (.int v16), .val (.int v17), .val (.int v18), .val (.int v16)] []))
      refine Go.by (fun t9 k9 => XS.aload X19.here hx rfl (hb hby at_244) rfl rfl k9) ?_
      show Go _ _ _ _ (T19.setTop (mkF m 246 #[.val (.int p0), .val (.int p1), .val (.int p2), .val (.int p3), .val (.int p4), .val (.int p5), .val (.int m6), .val (.int m7), .val (.int m8), .val (.int m9), .val (.int m10), s11, .val (.int m12), .val (.ref sp), .val (.ref a), .val (.ref bx), .val (.int v16), .val (.int v17), .val (.int v18), .val (.int v16)] [(.ref a)]))
      refine Go.by (fun t9 k9 => XS.aload X19.here hx rfl (hb hby at_246) rfl rfl k9) ?_
      show Go _ _ _ _ (T19.setTop (mkF m 248 #[.val (.int p0), .val (.int p1), .val (.int p2), .val (.int p3), .val (.int p4), .val (.int p5), .val (.int m6), .val (.int m7), .val (.int m8), .val (.int m9), .val (.int m10), s11, .val (.int m12), .val (.ref sp), .val (.ref a), .val (.ref bx), .val (.int v16), .val (.int v17), .val (.int v18), .val (.int v16)] [(.ref bx), (.ref a)]))
      refine Go.by (fun t9 k9 => XS.iload X19.here hx rfl (hb hby at_248) rfl k9) ?_
      show Go _ _ _ _ (T19.setTop (mkF m 250 #[.val (.int p0), .val (.int p1), .val (.int p2), .val (.int p3), .val (.int p4), .val (.int p5), .val (.int m6), .val (.int m7), .val (.int m8), .val (.int m9), .val (.int m10), s11, .val (.int m12), .val (.ref sp), .val (.ref a), .val (.ref bx), .val (.int v16), .val (.int v17), .val (.int v18), .val (.int v16)] [(.int m10), (.ref bx), (.ref a)]))
      refine Go.by (fun t9 k9 => XS.iload X19.here hx rfl (hb hby at_250) rfl k9) ?_
      show Go _ _ _ _ (T19.setTop (mkF m 252 #[.val (.int p0), .val (.int p1), .val (.int p2), .val (.int p3), .val (.int p4), .val (.int p5), .val (.int m6), .val (.int m7), .val (.int m8), .val (.int m9), .val (.int m10), s11, .val (.int m12), .val (.ref sp), .val (.ref a), .val (.ref bx), .val (.int v16), .val (.int v17), .val (.int v18), .val (.int v16)] [(.int m9), (.int m10), (.ref bx), (.ref a)]))
      refine Go.by (fun t9 k9 => XS.iload X19.here hx rfl (hb hby at_252) rfl k9) ?_
      show Go _ _ _ _ (T19.setTop (mkF m 254 #[.val (.int p0), .val (.int p1), .val (.int p2), .val (.int p3), .val (.int p4), .val (.int p5), .val (.int m6), .val (.int m7), .val (.int m8), .val (.int m9), .val (.int m10), s11, .val (.int m12), .val (.ref sp), .val (.ref a), .val (.ref bx), .val (.int v16), .val (.int v17), .val (.int v18), .val (.int v16)] [(.int m12), (.int m9), (.int m10), (.ref bx), (.ref a)]))
      have hR : (reachF (P 0) (A 0) gg19 r (atN PP 0) pl m12) = if v16 < m12 then 0 else 1 := by
        have q := reach_eq hP hA (sl := 0) (e := p1) (by decide) hpl S0_19
        rw [show putV (P 0) p1 = v16 from by rw [hP0]; exact hv16] at q
        exact q
      refine Go.callV X19 hx hZ (y := (⟨"com/example/isolens/isolens/checker/RowLayout", "reaches", "([IIII)Z"⟩ : MethodName)) hown (hw _ (List.mem_of_getElem? (i := 68) rfl)) (hw _ (List.mem_of_getElem? (i := 69) rfl)) (hw _ (List.mem_of_getElem? (i := 70) rfl)) (hw _ (List.mem_of_getElem? (i := 71) rfl)) (hw _ (List.mem_of_getElem? (i := 72) rfl)) (hw _ (List.mem_of_getElem? (i := 3) rfl)) (by decide) 0 (rm11 l Z a0 hw [] a bx m10 m9 m12 bp ba P A BI RI gg19 r 0 (atN PP 0) pl T19.heap n0 hz19 H19 I19q hr (by rw [hc221]; rfl) (by decide) (hA 0 (by decide)) (own_hI hP (by decide) hr3) (own_hB hP (by decide) hr3) gbx hpl (own_av PP (by decide)) (by rw [(hP 0 (by decide)).1]; have := (hP 0 (by decide)).2.2; omega) (own_hBp hP (by decide) hr3 hpl)) (some (.int (reachF (P 0) (A 0) gg19 r (atN PP 0) pl m12))) (fun h' => h' = T19.heap) (fun _ _ _ q => q) (by decide) (by decide) rfl H19.1 N19 rfl (by rw [hml]; rfl) (argsL := [(.ref bx), (.int m10), (.int m9), (.int m12)]) (rest := []) rfl (lenOf pd8 rfl) rfl (by show 2 * 0 + _ ≤ _; exact Nat.le_of_eq rfl) (hb hby at_254) (by decide) (by decide) ?_
      intro T20 lc20 X20 N20 eq20
      show Go _ _ _ _ (T20.setTop (mkF m 257 #[.val (.int p0), .val (.int p1), .val (.int p2), .val (.int p3), .val (.int p4), .val (.int p5), .val (.int m6), .val (.int m7), .val (.int m8), .val (.int m9), .val (.int m10), s11, .val (.int m12), .val (.ref sp), .val (.ref a), .val (.ref bx), .val (.int v16), .val (.int v17), .val (.int v18), .val (.int v16)] [(.int (reachF (P 0) (A 0) gg19 r (atN PP 0) pl m12))]))
      refine Go.by (fun t9 k9 => XS.iload X20.here hx rfl (hb hby at_257) rfl k9) ?_
      show Go _ _ _ _ (T20.setTop (mkF m 259 #[.val (.int p0), .val (.int p1), .val (.int p2), .val (.int p3), .val (.int p4), .val (.int p5), .val (.int m6), .val (.int m7), .val (.int m8), .val (.int m9), .val (.int m10), s11, .val (.int m12), .val (.ref sp), .val (.ref a), .val (.ref bx), .val (.int v16), .val (.int v17), .val (.int v18), .val (.int v16)] [(.int v16), (.int (reachF (P 0) (A 0) gg19 r (atN PP 0) pl m12))]))
      refine Go.by (fun t9 k9 => XS.iload X20.here hx rfl (hb hby at_259) rfl k9) ?_
      show Go _ _ _ _ (T20.setTop (mkF m 261 #[.val (.int p0), .val (.int p1), .val (.int p2), .val (.int p3), .val (.int p4), .val (.int p5), .val (.int m6), .val (.int m7), .val (.int m8), .val (.int m9), .val (.int m10), s11, .val (.int m12), .val (.ref sp), .val (.ref a), .val (.ref bx), .val (.int v16), .val (.int v17), .val (.int v18), .val (.int v16)] [(.int m12), (.int v16), (.int (reachF (P 0) (A 0) gg19 r (atN PP 0) pl m12))]))
      by_cases hc261 : v16 < m12
      · refine Go.by (fun t9 k9 => XS.icmpYes X20.here hx rfl (pc0 := 261) (pc' := 268) rfl (hb hby at_261) rfl (XT.ii_lt_t hc261) (by decide) (by decide) k9) ?_
        show Go _ _ _ _ (T20.setTop (mkF m 268 #[.val (.int p0), .val (.int p1), .val (.int p2), .val (.int p3), .val (.int p4), .val (.int p5), .val (.int m6), .val (.int m7), .val (.int m8), .val (.int m9), .val (.int m10), s11, .val (.int m12), .val (.ref sp), .val (.ref a), .val (.ref bx), .val (.int v16), .val (.int v17), .val (.int v18), .val (.int v16)] [(.int (reachF (P 0) (A 0) gg19 r (atN PP 0) pl m12))]))
        refine Go.by (fun t9 k9 => XS.iconst X20.here hx rfl (hb hby at_268) k9) ?_
        show Go _ _ _ _ (T20.setTop (mkF m 269 #[.val (.int p0), .val (.int p1), .val (.int p2), .val (.int p3), .val (.int p4), .val (.int p5), .val (.int m6), .val (.int m7), .val (.int m8), .val (.int m9), .val (.int m10), s11, .val (.int m12), .val (.ref sp), .val (.ref a), .val (.ref bx), .val (.int v16), .val (.int v17), .val (.int v18), .val (.int v16)] [(.int (0 : Int32)), (.int (reachF (P 0) (A 0) gg19 r (atN PP 0) pl m12))]))
        refine Go.by (fun t9 k9 => XS.icmpNo X20.here hx rfl (hb hby at_269) rfl (XT.ii_ne_f (hR.trans (if_pos hc261))) k9) ?_
        show Go _ _ _ _ (T20.setTop (mkF m 272 #[.val (.int p0), .val (.int p1), .val (.int p2), .val (.int p3), .val (.int p4), .val (.int p5), .val (.int m6), .val (.int m7), .val (.int m8), .val (.int m9), .val (.int m10), s11, .val (.int m12), .val (.ref sp), .val (.ref a), .val (.ref bx), .val (.int v16), .val (.int v17), .val (.int v18), .val (.int v16)] []))
        refine Go.by (fun t9 k9 => XS.iconst X20.here hx rfl (hb hby at_272) k9) ?_
        show Go _ _ _ _ (T20.setTop (mkF m 273 #[.val (.int p0), .val (.int p1), .val (.int p2), .val (.int p3), .val (.int p4), .val (.int p5), .val (.int m6), .val (.int m7), .val (.int m8), .val (.int m9), .val (.int m10), s11, .val (.int m12), .val (.ref sp), .val (.ref a), .val (.ref bx), .val (.int v16), .val (.int v17), .val (.int v18), .val (.int v16)] [(.int (1 : Int32))]))
        refine Go.by (fun t9 k9 => XS.goto X20.here hx rfl (pc0 := 273) (pc' := 277) rfl (hb hby at_273) (by decide) (by decide) k9) ?_
        show Go _ _ _ _ (T20.setTop (mkF m 277 #[.val (.int p0), .val (.int p1), .val (.int p2), .val (.int p3), .val (.int p4), .val (.int p5), .val (.int m6), .val (.int m7), .val (.int m8), .val (.int m9), .val (.int m10), s11, .val (.int m12), .val (.ref sp), .val (.ref a), .val (.ref bx), .val (.int v16), .val (.int v17), .val (.int v18), .val (.int v16)] [(.int (1 : Int32))]))
        exact Go.retZ (Q := Q0 n0) X20 hx hlk Bd.returns (hb hby at_277) ⟨by rfl, N20⟩ (by decide) (by decide)
      · refine Go.by (fun t9 k9 => XS.icmpNo X20.here hx rfl (hb hby at_261) rfl (XT.ii_lt_f hc261) k9) ?_
        show Go _ _ _ _ (T20.setTop (mkF m 264 #[.val (.int p0), .val (.int p1), .val (.int p2), .val (.int p3), .val (.int p4), .val (.int p5), .val (.int m6), .val (.int m7), .val (.int m8), .val (.int m9), .val (.int m10), s11, .val (.int m12), .val (.ref sp), .val (.ref a), .val (.ref bx), .val (.int v16), .val (.int v17), .val (.int v18), .val (.int v16)] [(.int (reachF (P 0) (A 0) gg19 r (atN PP 0) pl m12))]))
        refine Go.by (fun t9 k9 => XS.iconst X20.here hx rfl (hb hby at_264) k9) ?_
        show Go _ _ _ _ (T20.setTop (mkF m 265 #[.val (.int p0), .val (.int p1), .val (.int p2), .val (.int p3), .val (.int p4), .val (.int p5), .val (.int m6), .val (.int m7), .val (.int m8), .val (.int m9), .val (.int m10), s11, .val (.int m12), .val (.ref sp), .val (.ref a), .val (.ref bx), .val (.int v16), .val (.int v17), .val (.int v18), .val (.int v16)] [(.int (1 : Int32)), (.int (reachF (P 0) (A 0) gg19 r (atN PP 0) pl m12))]))
        refine Go.by (fun t9 k9 => XS.goto X20.here hx rfl (pc0 := 265) (pc' := 269) rfl (hb hby at_265) (by decide) (by decide) k9) ?_
        show Go _ _ _ _ (T20.setTop (mkF m 269 #[.val (.int p0), .val (.int p1), .val (.int p2), .val (.int p3), .val (.int p4), .val (.int p5), .val (.int m6), .val (.int m7), .val (.int m8), .val (.int m9), .val (.int m10), s11, .val (.int m12), .val (.ref sp), .val (.ref a), .val (.ref bx), .val (.int v16), .val (.int v17), .val (.int v18), .val (.int v16)] [(.int (1 : Int32)), (.int (reachF (P 0) (A 0) gg19 r (atN PP 0) pl m12))]))
        refine Go.by (fun t9 k9 => XS.icmpNo X20.here hx rfl (hb hby at_269) rfl (XT.ii_ne_f (hR.trans (if_neg hc261))) k9) ?_
        show Go _ _ _ _ (T20.setTop (mkF m 272 #[.val (.int p0), .val (.int p1), .val (.int p2), .val (.int p3), .val (.int p4), .val (.int p5), .val (.int m6), .val (.int m7), .val (.int m8), .val (.int m9), .val (.int m10), s11, .val (.int m12), .val (.ref sp), .val (.ref a), .val (.ref bx), .val (.int v16), .val (.int v17), .val (.int v18), .val (.int v16)] []))
        refine Go.by (fun t9 k9 => XS.iconst X20.here hx rfl (hb hby at_272) k9) ?_
        show Go _ _ _ _ (T20.setTop (mkF m 273 #[.val (.int p0), .val (.int p1), .val (.int p2), .val (.int p3), .val (.int p4), .val (.int p5), .val (.int m6), .val (.int m7), .val (.int m8), .val (.int m9), .val (.int m10), s11, .val (.int m12), .val (.ref sp), .val (.ref a), .val (.ref bx), .val (.int v16), .val (.int v17), .val (.int v18), .val (.int v16)] [(.int (1 : Int32))]))
        refine Go.by (fun t9 k9 => XS.goto X20.here hx rfl (pc0 := 273) (pc' := 277) rfl (hb hby at_273) (by decide) (by decide) k9) ?_
        show Go _ _ _ _ (T20.setTop (mkF m 277 #[.val (.int p0), .val (.int p1), .val (.int p2), .val (.int p3), .val (.int p4), .val (.int p5), .val (.int m6), .val (.int m7), .val (.int m8), .val (.int m9), .val (.int m10), s11, .val (.int m12), .val (.ref sp), .val (.ref a), .val (.ref bx), .val (.int v16), .val (.int v17), .val (.int v18), .val (.int v16)] [(.int (1 : Int32))]))
        exact Go.retZ (Q := Q0 n0) X20 hx hlk Bd.returns (hb hby at_277) ⟨by rfl, N20⟩ (by decide) (by decide)
    · refine Go.by (fun t9 k9 => XS.ifYes X19.here hx rfl (pc0 := 221) (pc' := 229) rfl (hb hby at_221) rfl (XT.i0_ne_t hc221) (by decide) (by decide) k9) ?_
      show Go _ _ _ _ (T19.setTop (mkF m 229 #[.val (.int p0), .val (.int p1), .val (.int p2), .val (.int p3), .val (.int p4), .val (.int p5), .val (.int m6), .val (.int m7), .val (.int m8), .val (.int m9), .val (.int m10), s11, .val (.int m12), .val (.ref sp), .val (.ref a), .val (.ref bx), .val (.int v16), .val (.int v17), .val (.int v18), .unset] []))
      refine Go.by (fun t9 k9 => XS.iload X19.here hx rfl (hb hby at_229) rfl k9) ?_
      show Go _ _ _ _ (T19.setTop (mkF m 231 #[.val (.int p0), .val (.int p1), .val (.int p2), .val (.int p3), .val (.int p4), .val (.int p5), .val (.int m6), .val (.int m7), .val (.int m8), .val (.int m9), .val (.int m10), s11, .val (.int m12), .val (.ref sp), .val (.ref a), .val (.ref bx), .val (.int v16), .val (.int v17), .val (.int v18), .unset] [(.int m9)]))
      refine Go.by (fun t9 k9 => XS.iconst X19.here hx rfl (hb hby at_231) k9) ?_
      show Go _ _ _ _ (T19.setTop (mkF m 232 #[.val (.int p0), .val (.int p1), .val (.int p2), .val (.int p3), .val (.int p4), .val (.int p5), .val (.int m6), .val (.int m7), .val (.int m8), .val (.int m9), .val (.int m10), s11, .val (.int m12), .val (.ref sp), .val (.ref a), .val (.ref bx), .val (.int v16), .val (.int v17), .val (.int v18), .unset] [(.int (1 : Int32)), (.int m9)]))
      by_cases hc232 : m9 = (1 : Int32)
      · refine Go.by (fun t9 k9 => XS.icmpNo X19.here hx rfl (hb hby at_232) rfl (XT.ii_ne_f hc232) k9) ?_
        show Go _ _ _ _ (T19.setTop (mkF m 235 #[.val (.int p0), .val (.int p1), .val (.int p2), .val (.int p3), .val (.int p4), .val (.int p5), .val (.int m6), .val (.int m7), .val (.int m8), .val (.int m9), .val (.int m10), s11, .val (.int m12), .val (.ref sp), .val (.ref a), .val (.ref bx), .val (.int v16), .val (.int v17), .val (.int v18), .unset] []))
        refine Go.by (fun t9 k9 => XS.iload X19.here hx rfl (hb hby at_235) rfl k9) ?_
        show Go _ _ _ _ (T19.setTop (mkF m 237 #[.val (.int p0), .val (.int p1), .val (.int p2), .val (.int p3), .val (.int p4), .val (.int p5), .val (.int m6), .val (.int m7), .val (.int m8), .val (.int m9), .val (.int m10), s11, .val (.int m12), .val (.ref sp), .val (.ref a), .val (.ref bx), .val (.int v16), .val (.int v17), .val (.int v18), .unset] [(.int v17)]))
        refine Go.by (fun t9 k9 => XS.goto X19.here hx rfl (pc0 := 237) (pc' := 242) rfl (hb hby at_237) (by decide) (by decide) k9) ?_
        show Go _ _ _ _ (T19.setTop (mkF m 242 #[.val (.int p0), .val (.int p1), .val (.int p2), .val (.int p3), .val (.int p4), .val (.int p5), .val (.int m6), .val (.int m7), .val (.int m8), .val (.int m9), .val (.int m10), s11, .val (.int m12), .val (.ref sp), .val (.ref a), .val (.ref bx), .val (.int v16), .val (.int v17), .val (.int v18), .unset] [(.int v17)]))
        refine Go.by (fun t9 k9 => XS.istore X19.here hx rfl (hb hby at_242) rfl (l' := #[.val (.int p0), .val (.int p1), .val (.int p2), .val (.int p3), .val (.int p4), .val (.int p5), .val (.int m6), .val (.int m7), .val (.int m8), .val (.int m9), .val (.int m10), s11, .val (.int m12), .val (.ref sp), .val (.ref a), .val (.ref bx), .val (.int v16), .val (.int v17), .val (.int v18), .val (.int v17)]) rfl k9) ?_
        show Go _ _ _ _ (T19.setTop (mkF m 244 #[.val (.int p0), .val (.int p1), .val (.int p2), .val (.int p3), .val (.int p4), .val (.int p5), .val (.int m6), .val (.int m7), .val (.int m8), .val (.int m9), .val (.int m10), s11, .val (.int m12), .val (.ref sp), .val (.ref a), .val (.ref bx), .val (.int v16), .val (.int v17), .val (.int v18), .val (.int v17)] []))
        refine Go.by (fun t9 k9 => XS.aload X19.here hx rfl (hb hby at_244) rfl rfl k9) ?_
        show Go _ _ _ _ (T19.setTop (mkF m 246 #[.val (.int p0), .val (.int p1), .val (.int p2), .val (.int p3), .val (.int p4), .val (.int p5), .val (.int m6), .val (.int m7), .val (.int m8), .val (.int m9), .val (.int m10), s11, .val (.int m12), .val (.ref sp), .val (.ref a), .val (.ref bx), .val (.int v16), .val (.int v17), .val (.int v18), .val (.int v17)] [(.ref a)]))
        refine Go.by (fun t9 k9 => XS.aload X19.here hx rfl (hb hby at_246) rfl rfl k9) ?_
        show Go _ _ _ _ (T19.setTop (mkF m 248 #[.val (.int p0), .val (.int p1), .val (.int p2), .val (.int p3), .val (.int p4), .val (.int p5), .val (.int m6), .val (.int m7), .val (.int m8), .val (.int m9), .val (.int m10), s11, .val (.int m12), .val (.ref sp), .val (.ref a), .val (.ref bx), .val (.int v16), .val (.int v17), .val (.int v18), .val (.int v17)] [(.ref bx), (.ref a)]))
        refine Go.by (fun t9 k9 => XS.iload X19.here hx rfl (hb hby at_248) rfl k9) ?_
        show Go _ _ _ _ (T19.setTop (mkF m 250 #[.val (.int p0), .val (.int p1), .val (.int p2), .val (.int p3), .val (.int p4), .val (.int p5), .val (.int m6), .val (.int m7), .val (.int m8), .val (.int m9), .val (.int m10), s11, .val (.int m12), .val (.ref sp), .val (.ref a), .val (.ref bx), .val (.int v16), .val (.int v17), .val (.int v18), .val (.int v17)] [(.int m10), (.ref bx), (.ref a)]))
        refine Go.by (fun t9 k9 => XS.iload X19.here hx rfl (hb hby at_250) rfl k9) ?_
        show Go _ _ _ _ (T19.setTop (mkF m 252 #[.val (.int p0), .val (.int p1), .val (.int p2), .val (.int p3), .val (.int p4), .val (.int p5), .val (.int m6), .val (.int m7), .val (.int m8), .val (.int m9), .val (.int m10), s11, .val (.int m12), .val (.ref sp), .val (.ref a), .val (.ref bx), .val (.int v16), .val (.int v17), .val (.int v18), .val (.int v17)] [(.int m9), (.int m10), (.ref bx), (.ref a)]))
        refine Go.by (fun t9 k9 => XS.iload X19.here hx rfl (hb hby at_252) rfl k9) ?_
        show Go _ _ _ _ (T19.setTop (mkF m 254 #[.val (.int p0), .val (.int p1), .val (.int p2), .val (.int p3), .val (.int p4), .val (.int p5), .val (.int m6), .val (.int m7), .val (.int m8), .val (.int m9), .val (.int m10), s11, .val (.int m12), .val (.ref sp), .val (.ref a), .val (.ref bx), .val (.int v16), .val (.int v17), .val (.int v18), .val (.int v17)] [(.int m12), (.int m9), (.int m10), (.ref bx), (.ref a)]))
        have hR : (reachF (P 1) (A 1) gg19 r (atN PP 1) pl m12) = if v17 < m12 then 0 else 1 := by
          have q := reach_eq hP hA (sl := 1) (e := p2) (by decide) hpl S1_19
          rw [show putV (P 1) p2 = v17 from by rw [hP1]; exact hv17] at q
          exact q
        refine Go.callV X19 hx hZ (y := (⟨"com/example/isolens/isolens/checker/RowLayout", "reaches", "([IIII)Z"⟩ : MethodName)) hown (hw _ (List.mem_of_getElem? (i := 68) rfl)) (hw _ (List.mem_of_getElem? (i := 69) rfl)) (hw _ (List.mem_of_getElem? (i := 70) rfl)) (hw _ (List.mem_of_getElem? (i := 71) rfl)) (hw _ (List.mem_of_getElem? (i := 72) rfl)) (hw _ (List.mem_of_getElem? (i := 3) rfl)) (by decide) 0 (rm11 l Z a0 hw [] a bx m10 m9 m12 bp ba P A BI RI gg19 r 1 (atN PP 1) pl T19.heap n0 hz19 H19 I19q hr (by rw [hc232]; rfl) (by decide) (hA 1 (by decide)) (own_hI hP (by decide) hr3) (own_hB hP (by decide) hr3) gbx hpl (own_av PP (by decide)) (by rw [(hP 1 (by decide)).1]; have := (hP 1 (by decide)).2.2; omega) (own_hBp hP (by decide) hr3 hpl)) (some (.int (reachF (P 1) (A 1) gg19 r (atN PP 1) pl m12))) (fun h' => h' = T19.heap) (fun _ _ _ q => q) (by decide) (by decide) rfl H19.1 N19 rfl (by rw [hml]; rfl) (argsL := [(.ref bx), (.int m10), (.int m9), (.int m12)]) (rest := []) rfl (lenOf pd8 rfl) rfl (by show 2 * 0 + _ ≤ _; exact Nat.le_of_eq rfl) (hb hby at_254) (by decide) (by decide) ?_
        intro T21 lc21 X21 N21 eq21
        show Go _ _ _ _ (T21.setTop (mkF m 257 #[.val (.int p0), .val (.int p1), .val (.int p2), .val (.int p3), .val (.int p4), .val (.int p5), .val (.int m6), .val (.int m7), .val (.int m8), .val (.int m9), .val (.int m10), s11, .val (.int m12), .val (.ref sp), .val (.ref a), .val (.ref bx), .val (.int v16), .val (.int v17), .val (.int v18), .val (.int v17)] [(.int (reachF (P 1) (A 1) gg19 r (atN PP 1) pl m12))]))
        refine Go.by (fun t9 k9 => XS.iload X21.here hx rfl (hb hby at_257) rfl k9) ?_
        show Go _ _ _ _ (T21.setTop (mkF m 259 #[.val (.int p0), .val (.int p1), .val (.int p2), .val (.int p3), .val (.int p4), .val (.int p5), .val (.int m6), .val (.int m7), .val (.int m8), .val (.int m9), .val (.int m10), s11, .val (.int m12), .val (.ref sp), .val (.ref a), .val (.ref bx), .val (.int v16), .val (.int v17), .val (.int v18), .val (.int v17)] [(.int v17), (.int (reachF (P 1) (A 1) gg19 r (atN PP 1) pl m12))]))
        refine Go.by (fun t9 k9 => XS.iload X21.here hx rfl (hb hby at_259) rfl k9) ?_
        show Go _ _ _ _ (T21.setTop (mkF m 261 #[.val (.int p0), .val (.int p1), .val (.int p2), .val (.int p3), .val (.int p4), .val (.int p5), .val (.int m6), .val (.int m7), .val (.int m8), .val (.int m9), .val (.int m10), s11, .val (.int m12), .val (.ref sp), .val (.ref a), .val (.ref bx), .val (.int v16), .val (.int v17), .val (.int v18), .val (.int v17)] [(.int m12), (.int v17), (.int (reachF (P 1) (A 1) gg19 r (atN PP 1) pl m12))]))
        by_cases hc261 : v17 < m12
        · refine Go.by (fun t9 k9 => XS.icmpYes X21.here hx rfl (pc0 := 261) (pc' := 268) rfl (hb hby at_261) rfl (XT.ii_lt_t hc261) (by decide) (by decide) k9) ?_
          show Go _ _ _ _ (T21.setTop (mkF m 268 #[.val (.int p0), .val (.int p1), .val (.int p2), .val (.int p3), .val (.int p4), .val (.int p5), .val (.int m6), .val (.int m7), .val (.int m8), .val (.int m9), .val (.int m10), s11, .val (.int m12), .val (.ref sp), .val (.ref a), .val (.ref bx), .val (.int v16), .val (.int v17), .val (.int v18), .val (.int v17)] [(.int (reachF (P 1) (A 1) gg19 r (atN PP 1) pl m12))]))
          refine Go.by (fun t9 k9 => XS.iconst X21.here hx rfl (hb hby at_268) k9) ?_
          show Go _ _ _ _ (T21.setTop (mkF m 269 #[.val (.int p0), .val (.int p1), .val (.int p2), .val (.int p3), .val (.int p4), .val (.int p5), .val (.int m6), .val (.int m7), .val (.int m8), .val (.int m9), .val (.int m10), s11, .val (.int m12), .val (.ref sp), .val (.ref a), .val (.ref bx), .val (.int v16), .val (.int v17), .val (.int v18), .val (.int v17)] [(.int (0 : Int32)), (.int (reachF (P 1) (A 1) gg19 r (atN PP 1) pl m12))]))
          refine Go.by (fun t9 k9 => XS.icmpNo X21.here hx rfl (hb hby at_269) rfl (XT.ii_ne_f (hR.trans (if_pos hc261))) k9) ?_
          show Go _ _ _ _ (T21.setTop (mkF m 272 #[.val (.int p0), .val (.int p1), .val (.int p2), .val (.int p3), .val (.int p4), .val (.int p5), .val (.int m6), .val (.int m7), .val (.int m8), .val (.int m9), .val (.int m10), s11, .val (.int m12), .val (.ref sp), .val (.ref a), .val (.ref bx), .val (.int v16), .val (.int v17), .val (.int v18), .val (.int v17)] []))
          refine Go.by (fun t9 k9 => XS.iconst X21.here hx rfl (hb hby at_272) k9) ?_
          show Go _ _ _ _ (T21.setTop (mkF m 273 #[.val (.int p0), .val (.int p1), .val (.int p2), .val (.int p3), .val (.int p4), .val (.int p5), .val (.int m6), .val (.int m7), .val (.int m8), .val (.int m9), .val (.int m10), s11, .val (.int m12), .val (.ref sp), .val (.ref a), .val (.ref bx), .val (.int v16), .val (.int v17), .val (.int v18), .val (.int v17)] [(.int (1 : Int32))]))
          refine Go.by (fun t9 k9 => XS.goto X21.here hx rfl (pc0 := 273) (pc' := 277) rfl (hb hby at_273) (by decide) (by decide) k9) ?_
          show Go _ _ _ _ (T21.setTop (mkF m 277 #[.val (.int p0), .val (.int p1), .val (.int p2), .val (.int p3), .val (.int p4), .val (.int p5), .val (.int m6), .val (.int m7), .val (.int m8), .val (.int m9), .val (.int m10), s11, .val (.int m12), .val (.ref sp), .val (.ref a), .val (.ref bx), .val (.int v16), .val (.int v17), .val (.int v18), .val (.int v17)] [(.int (1 : Int32))]))
          exact Go.retZ (Q := Q0 n0) X21 hx hlk Bd.returns (hb hby at_277) ⟨by rfl, N21⟩ (by decide) (by decide)
        · refine Go.by (fun t9 k9 => XS.icmpNo X21.here hx rfl (hb hby at_261) rfl (XT.ii_lt_f hc261) k9) ?_
          show Go _ _ _ _ (T21.setTop (mkF m 264 #[.val (.int p0), .val (.int p1), .val (.int p2), .val (.int p3), .val (.int p4), .val (.int p5), .val (.int m6), .val (.int m7), .val (.int m8), .val (.int m9), .val (.int m10), s11, .val (.int m12), .val (.ref sp), .val (.ref a), .val (.ref bx), .val (.int v16), .val (.int v17), .val (.int v18), .val (.int v17)] [(.int (reachF (P 1) (A 1) gg19 r (atN PP 1) pl m12))]))
          refine Go.by (fun t9 k9 => XS.iconst X21.here hx rfl (hb hby at_264) k9) ?_
          show Go _ _ _ _ (T21.setTop (mkF m 265 #[.val (.int p0), .val (.int p1), .val (.int p2), .val (.int p3), .val (.int p4), .val (.int p5), .val (.int m6), .val (.int m7), .val (.int m8), .val (.int m9), .val (.int m10), s11, .val (.int m12), .val (.ref sp), .val (.ref a), .val (.ref bx), .val (.int v16), .val (.int v17), .val (.int v18), .val (.int v17)] [(.int (1 : Int32)), (.int (reachF (P 1) (A 1) gg19 r (atN PP 1) pl m12))]))
          refine Go.by (fun t9 k9 => XS.goto X21.here hx rfl (pc0 := 265) (pc' := 269) rfl (hb hby at_265) (by decide) (by decide) k9) ?_
          show Go _ _ _ _ (T21.setTop (mkF m 269 #[.val (.int p0), .val (.int p1), .val (.int p2), .val (.int p3), .val (.int p4), .val (.int p5), .val (.int m6), .val (.int m7), .val (.int m8), .val (.int m9), .val (.int m10), s11, .val (.int m12), .val (.ref sp), .val (.ref a), .val (.ref bx), .val (.int v16), .val (.int v17), .val (.int v18), .val (.int v17)] [(.int (1 : Int32)), (.int (reachF (P 1) (A 1) gg19 r (atN PP 1) pl m12))]))
          refine Go.by (fun t9 k9 => XS.icmpNo X21.here hx rfl (hb hby at_269) rfl (XT.ii_ne_f (hR.trans (if_neg hc261))) k9) ?_
          show Go _ _ _ _ (T21.setTop (mkF m 272 #[.val (.int p0), .val (.int p1), .val (.int p2), .val (.int p3), .val (.int p4), .val (.int p5), .val (.int m6), .val (.int m7), .val (.int m8), .val (.int m9), .val (.int m10), s11, .val (.int m12), .val (.ref sp), .val (.ref a), .val (.ref bx), .val (.int v16), .val (.int v17), .val (.int v18), .val (.int v17)] []))
          refine Go.by (fun t9 k9 => XS.iconst X21.here hx rfl (hb hby at_272) k9) ?_
          show Go _ _ _ _ (T21.setTop (mkF m 273 #[.val (.int p0), .val (.int p1), .val (.int p2), .val (.int p3), .val (.int p4), .val (.int p5), .val (.int m6), .val (.int m7), .val (.int m8), .val (.int m9), .val (.int m10), s11, .val (.int m12), .val (.ref sp), .val (.ref a), .val (.ref bx), .val (.int v16), .val (.int v17), .val (.int v18), .val (.int v17)] [(.int (1 : Int32))]))
          refine Go.by (fun t9 k9 => XS.goto X21.here hx rfl (pc0 := 273) (pc' := 277) rfl (hb hby at_273) (by decide) (by decide) k9) ?_
          show Go _ _ _ _ (T21.setTop (mkF m 277 #[.val (.int p0), .val (.int p1), .val (.int p2), .val (.int p3), .val (.int p4), .val (.int p5), .val (.int m6), .val (.int m7), .val (.int m8), .val (.int m9), .val (.int m10), s11, .val (.int m12), .val (.ref sp), .val (.ref a), .val (.ref bx), .val (.int v16), .val (.int v17), .val (.int v18), .val (.int v17)] [(.int (1 : Int32))]))
          exact Go.retZ (Q := Q0 n0) X21 hx hlk Bd.returns (hb hby at_277) ⟨by rfl, N21⟩ (by decide) (by decide)
      · refine Go.by (fun t9 k9 => XS.icmpYes X19.here hx rfl (pc0 := 232) (pc' := 240) rfl (hb hby at_232) rfl (XT.ii_ne_t hc232) (by decide) (by decide) k9) ?_
        show Go _ _ _ _ (T19.setTop (mkF m 240 #[.val (.int p0), .val (.int p1), .val (.int p2), .val (.int p3), .val (.int p4), .val (.int p5), .val (.int m6), .val (.int m7), .val (.int m8), .val (.int m9), .val (.int m10), s11, .val (.int m12), .val (.ref sp), .val (.ref a), .val (.ref bx), .val (.int v16), .val (.int v17), .val (.int v18), .unset] []))
        refine Go.by (fun t9 k9 => XS.iload X19.here hx rfl (hb hby at_240) rfl k9) ?_
        show Go _ _ _ _ (T19.setTop (mkF m 242 #[.val (.int p0), .val (.int p1), .val (.int p2), .val (.int p3), .val (.int p4), .val (.int p5), .val (.int m6), .val (.int m7), .val (.int m8), .val (.int m9), .val (.int m10), s11, .val (.int m12), .val (.ref sp), .val (.ref a), .val (.ref bx), .val (.int v16), .val (.int v17), .val (.int v18), .unset] [(.int v18)]))
        refine Go.by (fun t9 k9 => XS.istore X19.here hx rfl (hb hby at_242) rfl (l' := #[.val (.int p0), .val (.int p1), .val (.int p2), .val (.int p3), .val (.int p4), .val (.int p5), .val (.int m6), .val (.int m7), .val (.int m8), .val (.int m9), .val (.int m10), s11, .val (.int m12), .val (.ref sp), .val (.ref a), .val (.ref bx), .val (.int v16), .val (.int v17), .val (.int v18), .val (.int v18)]) rfl k9) ?_
        show Go _ _ _ _ (T19.setTop (mkF m 244 #[.val (.int p0), .val (.int p1), .val (.int p2), .val (.int p3), .val (.int p4), .val (.int p5), .val (.int m6), .val (.int m7), .val (.int m8), .val (.int m9), .val (.int m10), s11, .val (.int m12), .val (.ref sp), .val (.ref a), .val (.ref bx), .val (.int v16), .val (.int v17), .val (.int v18), .val (.int v18)] []))
        refine Go.by (fun t9 k9 => XS.aload X19.here hx rfl (hb hby at_244) rfl rfl k9) ?_
        show Go _ _ _ _ (T19.setTop (mkF m 246 #[.val (.int p0), .val (.int p1), .val (.int p2), .val (.int p3), .val (.int p4), .val (.int p5), .val (.int m6), .val (.int m7), .val (.int m8), .val (.int m9), .val (.int m10), s11, .val (.int m12), .val (.ref sp), .val (.ref a), .val (.ref bx), .val (.int v16), .val (.int v17), .val (.int v18), .val (.int v18)] [(.ref a)]))
        refine Go.by (fun t9 k9 => XS.aload X19.here hx rfl (hb hby at_246) rfl rfl k9) ?_
        show Go _ _ _ _ (T19.setTop (mkF m 248 #[.val (.int p0), .val (.int p1), .val (.int p2), .val (.int p3), .val (.int p4), .val (.int p5), .val (.int m6), .val (.int m7), .val (.int m8), .val (.int m9), .val (.int m10), s11, .val (.int m12), .val (.ref sp), .val (.ref a), .val (.ref bx), .val (.int v16), .val (.int v17), .val (.int v18), .val (.int v18)] [(.ref bx), (.ref a)]))
        refine Go.by (fun t9 k9 => XS.iload X19.here hx rfl (hb hby at_248) rfl k9) ?_
        show Go _ _ _ _ (T19.setTop (mkF m 250 #[.val (.int p0), .val (.int p1), .val (.int p2), .val (.int p3), .val (.int p4), .val (.int p5), .val (.int m6), .val (.int m7), .val (.int m8), .val (.int m9), .val (.int m10), s11, .val (.int m12), .val (.ref sp), .val (.ref a), .val (.ref bx), .val (.int v16), .val (.int v17), .val (.int v18), .val (.int v18)] [(.int m10), (.ref bx), (.ref a)]))
        refine Go.by (fun t9 k9 => XS.iload X19.here hx rfl (hb hby at_250) rfl k9) ?_
        show Go _ _ _ _ (T19.setTop (mkF m 252 #[.val (.int p0), .val (.int p1), .val (.int p2), .val (.int p3), .val (.int p4), .val (.int p5), .val (.int m6), .val (.int m7), .val (.int m8), .val (.int m9), .val (.int m10), s11, .val (.int m12), .val (.ref sp), .val (.ref a), .val (.ref bx), .val (.int v16), .val (.int v17), .val (.int v18), .val (.int v18)] [(.int m9), (.int m10), (.ref bx), (.ref a)]))
        refine Go.by (fun t9 k9 => XS.iload X19.here hx rfl (hb hby at_252) rfl k9) ?_
        show Go _ _ _ _ (T19.setTop (mkF m 254 #[.val (.int p0), .val (.int p1), .val (.int p2), .val (.int p3), .val (.int p4), .val (.int p5), .val (.int m6), .val (.int m7), .val (.int m8), .val (.int m9), .val (.int m10), s11, .val (.int m12), .val (.ref sp), .val (.ref a), .val (.ref bx), .val (.int v16), .val (.int v17), .val (.int v18), .val (.int v18)] [(.int m12), (.int m9), (.int m10), (.ref bx), (.ref a)]))
        have hR : (reachF (P 2) (A 2) gg19 r (atN PP 2) pl m12) = if v18 < m12 then 0 else 1 := by
          have q := reach_eq hP hA (sl := 2) (e := p3) (by decide) hpl S2_19
          rw [show putV (P 2) p3 = v18 from by rw [hP2]; exact hv18] at q
          exact q
        refine Go.callV X19 hx hZ (y := (⟨"com/example/isolens/isolens/checker/RowLayout", "reaches", "([IIII)Z"⟩ : MethodName)) hown (hw _ (List.mem_of_getElem? (i := 68) rfl)) (hw _ (List.mem_of_getElem? (i := 69) rfl)) (hw _ (List.mem_of_getElem? (i := 70) rfl)) (hw _ (List.mem_of_getElem? (i := 71) rfl)) (hw _ (List.mem_of_getElem? (i := 72) rfl)) (hw _ (List.mem_of_getElem? (i := 3) rfl)) (by decide) 0 (rm11 l Z a0 hw [] a bx m10 m9 m12 bp ba P A BI RI gg19 r 2 (atN PP 2) pl T19.heap n0 hz19 H19 I19q hr (own_two f9 hc221 hc232) (by decide) (hA 2 (by decide)) (own_hI hP (by decide) hr3) (own_hB hP (by decide) hr3) gbx hpl (own_av PP (by decide)) (by rw [(hP 2 (by decide)).1]; have := (hP 2 (by decide)).2.2; omega) (own_hBp hP (by decide) hr3 hpl)) (some (.int (reachF (P 2) (A 2) gg19 r (atN PP 2) pl m12))) (fun h' => h' = T19.heap) (fun _ _ _ q => q) (by decide) (by decide) rfl H19.1 N19 rfl (by rw [hml]; rfl) (argsL := [(.ref bx), (.int m10), (.int m9), (.int m12)]) (rest := []) rfl (lenOf pd8 rfl) rfl (by show 2 * 0 + _ ≤ _; exact Nat.le_of_eq rfl) (hb hby at_254) (by decide) (by decide) ?_
        intro T22 lc22 X22 N22 eq22
        show Go _ _ _ _ (T22.setTop (mkF m 257 #[.val (.int p0), .val (.int p1), .val (.int p2), .val (.int p3), .val (.int p4), .val (.int p5), .val (.int m6), .val (.int m7), .val (.int m8), .val (.int m9), .val (.int m10), s11, .val (.int m12), .val (.ref sp), .val (.ref a), .val (.ref bx), .val (.int v16), .val (.int v17), .val (.int v18), .val (.int v18)] [(.int (reachF (P 2) (A 2) gg19 r (atN PP 2) pl m12))]))
        refine Go.by (fun t9 k9 => XS.iload X22.here hx rfl (hb hby at_257) rfl k9) ?_
        show Go _ _ _ _ (T22.setTop (mkF m 259 #[.val (.int p0), .val (.int p1), .val (.int p2), .val (.int p3), .val (.int p4), .val (.int p5), .val (.int m6), .val (.int m7), .val (.int m8), .val (.int m9), .val (.int m10), s11, .val (.int m12), .val (.ref sp), .val (.ref a), .val (.ref bx), .val (.int v16), .val (.int v17), .val (.int v18), .val (.int v18)] [(.int v18), (.int (reachF (P 2) (A 2) gg19 r (atN PP 2) pl m12))]))
        refine Go.by (fun t9 k9 => XS.iload X22.here hx rfl (hb hby at_259) rfl k9) ?_
        show Go _ _ _ _ (T22.setTop (mkF m 261 #[.val (.int p0), .val (.int p1), .val (.int p2), .val (.int p3), .val (.int p4), .val (.int p5), .val (.int m6), .val (.int m7), .val (.int m8), .val (.int m9), .val (.int m10), s11, .val (.int m12), .val (.ref sp), .val (.ref a), .val (.ref bx), .val (.int v16), .val (.int v17), .val (.int v18), .val (.int v18)] [(.int m12), (.int v18), (.int (reachF (P 2) (A 2) gg19 r (atN PP 2) pl m12))]))
        by_cases hc261 : v18 < m12
        · refine Go.by (fun t9 k9 => XS.icmpYes X22.here hx rfl (pc0 := 261) (pc' := 268) rfl (hb hby at_261) rfl (XT.ii_lt_t hc261) (by decide) (by decide) k9) ?_
          show Go _ _ _ _ (T22.setTop (mkF m 268 #[.val (.int p0), .val (.int p1), .val (.int p2), .val (.int p3), .val (.int p4), .val (.int p5), .val (.int m6), .val (.int m7), .val (.int m8), .val (.int m9), .val (.int m10), s11, .val (.int m12), .val (.ref sp), .val (.ref a), .val (.ref bx), .val (.int v16), .val (.int v17), .val (.int v18), .val (.int v18)] [(.int (reachF (P 2) (A 2) gg19 r (atN PP 2) pl m12))]))
          refine Go.by (fun t9 k9 => XS.iconst X22.here hx rfl (hb hby at_268) k9) ?_
          show Go _ _ _ _ (T22.setTop (mkF m 269 #[.val (.int p0), .val (.int p1), .val (.int p2), .val (.int p3), .val (.int p4), .val (.int p5), .val (.int m6), .val (.int m7), .val (.int m8), .val (.int m9), .val (.int m10), s11, .val (.int m12), .val (.ref sp), .val (.ref a), .val (.ref bx), .val (.int v16), .val (.int v17), .val (.int v18), .val (.int v18)] [(.int (0 : Int32)), (.int (reachF (P 2) (A 2) gg19 r (atN PP 2) pl m12))]))
          refine Go.by (fun t9 k9 => XS.icmpNo X22.here hx rfl (hb hby at_269) rfl (XT.ii_ne_f (hR.trans (if_pos hc261))) k9) ?_
          show Go _ _ _ _ (T22.setTop (mkF m 272 #[.val (.int p0), .val (.int p1), .val (.int p2), .val (.int p3), .val (.int p4), .val (.int p5), .val (.int m6), .val (.int m7), .val (.int m8), .val (.int m9), .val (.int m10), s11, .val (.int m12), .val (.ref sp), .val (.ref a), .val (.ref bx), .val (.int v16), .val (.int v17), .val (.int v18), .val (.int v18)] []))
          refine Go.by (fun t9 k9 => XS.iconst X22.here hx rfl (hb hby at_272) k9) ?_
          show Go _ _ _ _ (T22.setTop (mkF m 273 #[.val (.int p0), .val (.int p1), .val (.int p2), .val (.int p3), .val (.int p4), .val (.int p5), .val (.int m6), .val (.int m7), .val (.int m8), .val (.int m9), .val (.int m10), s11, .val (.int m12), .val (.ref sp), .val (.ref a), .val (.ref bx), .val (.int v16), .val (.int v17), .val (.int v18), .val (.int v18)] [(.int (1 : Int32))]))
          refine Go.by (fun t9 k9 => XS.goto X22.here hx rfl (pc0 := 273) (pc' := 277) rfl (hb hby at_273) (by decide) (by decide) k9) ?_
          show Go _ _ _ _ (T22.setTop (mkF m 277 #[.val (.int p0), .val (.int p1), .val (.int p2), .val (.int p3), .val (.int p4), .val (.int p5), .val (.int m6), .val (.int m7), .val (.int m8), .val (.int m9), .val (.int m10), s11, .val (.int m12), .val (.ref sp), .val (.ref a), .val (.ref bx), .val (.int v16), .val (.int v17), .val (.int v18), .val (.int v18)] [(.int (1 : Int32))]))
          exact Go.retZ (Q := Q0 n0) X22 hx hlk Bd.returns (hb hby at_277) ⟨by rfl, N22⟩ (by decide) (by decide)
        · refine Go.by (fun t9 k9 => XS.icmpNo X22.here hx rfl (hb hby at_261) rfl (XT.ii_lt_f hc261) k9) ?_
          show Go _ _ _ _ (T22.setTop (mkF m 264 #[.val (.int p0), .val (.int p1), .val (.int p2), .val (.int p3), .val (.int p4), .val (.int p5), .val (.int m6), .val (.int m7), .val (.int m8), .val (.int m9), .val (.int m10), s11, .val (.int m12), .val (.ref sp), .val (.ref a), .val (.ref bx), .val (.int v16), .val (.int v17), .val (.int v18), .val (.int v18)] [(.int (reachF (P 2) (A 2) gg19 r (atN PP 2) pl m12))]))
          refine Go.by (fun t9 k9 => XS.iconst X22.here hx rfl (hb hby at_264) k9) ?_
          show Go _ _ _ _ (T22.setTop (mkF m 265 #[.val (.int p0), .val (.int p1), .val (.int p2), .val (.int p3), .val (.int p4), .val (.int p5), .val (.int m6), .val (.int m7), .val (.int m8), .val (.int m9), .val (.int m10), s11, .val (.int m12), .val (.ref sp), .val (.ref a), .val (.ref bx), .val (.int v16), .val (.int v17), .val (.int v18), .val (.int v18)] [(.int (1 : Int32)), (.int (reachF (P 2) (A 2) gg19 r (atN PP 2) pl m12))]))
          refine Go.by (fun t9 k9 => XS.goto X22.here hx rfl (pc0 := 265) (pc' := 269) rfl (hb hby at_265) (by decide) (by decide) k9) ?_
          show Go _ _ _ _ (T22.setTop (mkF m 269 #[.val (.int p0), .val (.int p1), .val (.int p2), .val (.int p3), .val (.int p4), .val (.int p5), .val (.int m6), .val (.int m7), .val (.int m8), .val (.int m9), .val (.int m10), s11, .val (.int m12), .val (.ref sp), .val (.ref a), .val (.ref bx), .val (.int v16), .val (.int v17), .val (.int v18), .val (.int v18)] [(.int (1 : Int32)), (.int (reachF (P 2) (A 2) gg19 r (atN PP 2) pl m12))]))
          refine Go.by (fun t9 k9 => XS.icmpNo X22.here hx rfl (hb hby at_269) rfl (XT.ii_ne_f (hR.trans (if_neg hc261))) k9) ?_
          show Go _ _ _ _ (T22.setTop (mkF m 272 #[.val (.int p0), .val (.int p1), .val (.int p2), .val (.int p3), .val (.int p4), .val (.int p5), .val (.int m6), .val (.int m7), .val (.int m8), .val (.int m9), .val (.int m10), s11, .val (.int m12), .val (.ref sp), .val (.ref a), .val (.ref bx), .val (.int v16), .val (.int v17), .val (.int v18), .val (.int v18)] []))
          refine Go.by (fun t9 k9 => XS.iconst X22.here hx rfl (hb hby at_272) k9) ?_
          show Go _ _ _ _ (T22.setTop (mkF m 273 #[.val (.int p0), .val (.int p1), .val (.int p2), .val (.int p3), .val (.int p4), .val (.int p5), .val (.int m6), .val (.int m7), .val (.int m8), .val (.int m9), .val (.int m10), s11, .val (.int m12), .val (.ref sp), .val (.ref a), .val (.ref bx), .val (.int v16), .val (.int v17), .val (.int v18), .val (.int v18)] [(.int (1 : Int32))]))
          refine Go.by (fun t9 k9 => XS.goto X22.here hx rfl (pc0 := 273) (pc' := 277) rfl (hb hby at_273) (by decide) (by decide) k9) ?_
          show Go _ _ _ _ (T22.setTop (mkF m 277 #[.val (.int p0), .val (.int p1), .val (.int p2), .val (.int p3), .val (.int p4), .val (.int p5), .val (.int m6), .val (.int m7), .val (.int m8), .val (.int m9), .val (.int m10), s11, .val (.int m12), .val (.ref sp), .val (.ref a), .val (.ref bx), .val (.int v16), .val (.int v17), .val (.int v18), .val (.int v18)] [(.int (1 : Int32))]))
          exact Go.retZ (Q := Q0 n0) X22 hx hlk Bd.returns (hb hby at_277) ⟨by rfl, N22⟩ (by decide) (by decide)
  show Go _ _ _ _ (s₁.setTop (mkF m 0 #[.val (.int p0), .val (.int p1), .val (.int p2), .val (.int p3), .val (.int p4), .val (.int p5), .unset, .unset, .unset, .unset, .unset, .unset, .unset, .unset, .unset, .unset, .unset, .unset, .unset, .unset] []))
  refine Go.by (fun t9 k9 => XS.iconst X0.here hx rfl (hb hby at_0) k9) ?_
  show Go _ _ _ _ (s₁.setTop (mkF m 1 #[.val (.int p0), .val (.int p1), .val (.int p2), .val (.int p3), .val (.int p4), .val (.int p5), .unset, .unset, .unset, .unset, .unset, .unset, .unset, .unset, .unset, .unset, .unset, .unset, .unset, .unset] [(.int (1 : Int32))]))
  refine Go.by (fun t9 k9 => XS.iloadN X0.here hx rfl (hb hby at_1) rfl k9) ?_
  show Go _ _ _ _ (s₁.setTop (mkF m 2 #[.val (.int p0), .val (.int p1), .val (.int p2), .val (.int p3), .val (.int p4), .val (.int p5), .unset, .unset, .unset, .unset, .unset, .unset, .unset, .unset, .unset, .unset, .unset, .unset, .unset, .unset] [(.int p0), (.int (1 : Int32))]))
  refine Go.by (fun t9 k9 => XS.bipush X0.here hx rfl (hb hby at_2) k9) ?_
  show Go _ _ _ _ (s₁.setTop (mkF m 4 #[.val (.int p0), .val (.int p1), .val (.int p2), .val (.int p3), .val (.int p4), .val (.int p5), .unset, .unset, .unset, .unset, .unset, .unset, .unset, .unset, .unset, .unset, .unset, .unset, .unset, .unset] [(.int (63 : Int32)), (.int p0), (.int (1 : Int32))]))
  refine Go.by (fun t9 k9 => XS.iand X0.here hx rfl (hb hby at_4) rfl k9) ?_
  show Go _ _ _ _ (s₁.setTop (mkF m 5 #[.val (.int p0), .val (.int p1), .val (.int p2), .val (.int p3), .val (.int p4), .val (.int p5), .unset, .unset, .unset, .unset, .unset, .unset, .unset, .unset, .unset, .unset, .unset, .unset, .unset, .unset] [(.int (p0 &&& (63 : Int32))), (.int (1 : Int32))]))
  refine Go.by (fun t9 k9 => XS.iadd X0.here hx rfl (hb hby at_5) rfl k9) ?_
  show Go _ _ _ _ (s₁.setTop (mkF m 6 #[.val (.int p0), .val (.int p1), .val (.int p2), .val (.int p3), .val (.int p4), .val (.int p5), .unset, .unset, .unset, .unset, .unset, .unset, .unset, .unset, .unset, .unset, .unset, .unset, .unset, .unset] [(.int ((1 : Int32) + (p0 &&& (63 : Int32))))]))
  refine Go.by (fun t9 k9 => XS.istore X0.here hx rfl (hb hby at_6) rfl (l' := #[.val (.int p0), .val (.int p1), .val (.int p2), .val (.int p3), .val (.int p4), .val (.int p5), .val (.int ((1 : Int32) + (p0 &&& (63 : Int32)))), .unset, .unset, .unset, .unset, .unset, .unset, .unset, .unset, .unset, .unset, .unset, .unset, .unset]) rfl k9) ?_
  show Go _ _ _ _ (s₁.setTop (mkF m 8 #[.val (.int p0), .val (.int p1), .val (.int p2), .val (.int p3), .val (.int p4), .val (.int p5), .val (.int ((1 : Int32) + (p0 &&& (63 : Int32)))), .unset, .unset, .unset, .unset, .unset, .unset, .unset, .unset, .unset, .unset, .unset, .unset, .unset] []))
  refine Go.by (fun t9 k9 => XS.iconst X0.here hx rfl (hb hby at_8) k9) ?_
  show Go _ _ _ _ (s₁.setTop (mkF m 9 #[.val (.int p0), .val (.int p1), .val (.int p2), .val (.int p3), .val (.int p4), .val (.int p5), .val (.int ((1 : Int32) + (p0 &&& (63 : Int32)))), .unset, .unset, .unset, .unset, .unset, .unset, .unset, .unset, .unset, .unset, .unset, .unset, .unset] [(.int (1 : Int32))]))
  refine Go.by (fun t9 k9 => XS.iloadN X0.here hx rfl (hb hby at_9) rfl k9) ?_
  show Go _ _ _ _ (s₁.setTop (mkF m 10 #[.val (.int p0), .val (.int p1), .val (.int p2), .val (.int p3), .val (.int p4), .val (.int p5), .val (.int ((1 : Int32) + (p0 &&& (63 : Int32)))), .unset, .unset, .unset, .unset, .unset, .unset, .unset, .unset, .unset, .unset, .unset, .unset, .unset] [(.int p0), (.int (1 : Int32))]))
  refine Go.by (fun t9 k9 => XS.bipush X0.here hx rfl (hb hby at_10) k9) ?_
  show Go _ _ _ _ (s₁.setTop (mkF m 12 #[.val (.int p0), .val (.int p1), .val (.int p2), .val (.int p3), .val (.int p4), .val (.int p5), .val (.int ((1 : Int32) + (p0 &&& (63 : Int32)))), .unset, .unset, .unset, .unset, .unset, .unset, .unset, .unset, .unset, .unset, .unset, .unset, .unset] [(.int (6 : Int32)), (.int p0), (.int (1 : Int32))]))
  refine Go.by (fun t9 k9 => XT.iushr X0.here hx rfl (hb hby at_12) rfl k9) ?_
  show Go _ _ _ _ (s₁.setTop (mkF m 13 #[.val (.int p0), .val (.int p1), .val (.int p2), .val (.int p3), .val (.int p4), .val (.int p5), .val (.int ((1 : Int32) + (p0 &&& (63 : Int32)))), .unset, .unset, .unset, .unset, .unset, .unset, .unset, .unset, .unset, .unset, .unset, .unset, .unset] [(.int (XT.ushr p0 (6 : Int32))), (.int (1 : Int32))]))
  refine Go.by (fun t9 k9 => XS.bipush X0.here hx rfl (hb hby at_13) k9) ?_
  show Go _ _ _ _ (s₁.setTop (mkF m 15 #[.val (.int p0), .val (.int p1), .val (.int p2), .val (.int p3), .val (.int p4), .val (.int p5), .val (.int ((1 : Int32) + (p0 &&& (63 : Int32)))), .unset, .unset, .unset, .unset, .unset, .unset, .unset, .unset, .unset, .unset, .unset, .unset, .unset] [(.int (63 : Int32)), (.int (XT.ushr p0 (6 : Int32))), (.int (1 : Int32))]))
  refine Go.by (fun t9 k9 => XS.iand X0.here hx rfl (hb hby at_15) rfl k9) ?_
  show Go _ _ _ _ (s₁.setTop (mkF m 16 #[.val (.int p0), .val (.int p1), .val (.int p2), .val (.int p3), .val (.int p4), .val (.int p5), .val (.int ((1 : Int32) + (p0 &&& (63 : Int32)))), .unset, .unset, .unset, .unset, .unset, .unset, .unset, .unset, .unset, .unset, .unset, .unset, .unset] [(.int ((XT.ushr p0 (6 : Int32)) &&& (63 : Int32))), (.int (1 : Int32))]))
  refine Go.by (fun t9 k9 => XS.iadd X0.here hx rfl (hb hby at_16) rfl k9) ?_
  show Go _ _ _ _ (s₁.setTop (mkF m 17 #[.val (.int p0), .val (.int p1), .val (.int p2), .val (.int p3), .val (.int p4), .val (.int p5), .val (.int ((1 : Int32) + (p0 &&& (63 : Int32)))), .unset, .unset, .unset, .unset, .unset, .unset, .unset, .unset, .unset, .unset, .unset, .unset, .unset] [(.int ((1 : Int32) + ((XT.ushr p0 (6 : Int32)) &&& (63 : Int32))))]))
  refine Go.by (fun t9 k9 => XS.istore X0.here hx rfl (hb hby at_17) rfl (l' := #[.val (.int p0), .val (.int p1), .val (.int p2), .val (.int p3), .val (.int p4), .val (.int p5), .val (.int ((1 : Int32) + (p0 &&& (63 : Int32)))), .val (.int ((1 : Int32) + ((XT.ushr p0 (6 : Int32)) &&& (63 : Int32)))), .unset, .unset, .unset, .unset, .unset, .unset, .unset, .unset, .unset, .unset, .unset, .unset]) rfl k9) ?_
  show Go _ _ _ _ (s₁.setTop (mkF m 19 #[.val (.int p0), .val (.int p1), .val (.int p2), .val (.int p3), .val (.int p4), .val (.int p5), .val (.int ((1 : Int32) + (p0 &&& (63 : Int32)))), .val (.int ((1 : Int32) + ((XT.ushr p0 (6 : Int32)) &&& (63 : Int32)))), .unset, .unset, .unset, .unset, .unset, .unset, .unset, .unset, .unset, .unset, .unset, .unset] []))
  refine Go.by (fun t9 k9 => XS.iconst X0.here hx rfl (hb hby at_19) k9) ?_
  show Go _ _ _ _ (s₁.setTop (mkF m 20 #[.val (.int p0), .val (.int p1), .val (.int p2), .val (.int p3), .val (.int p4), .val (.int p5), .val (.int ((1 : Int32) + (p0 &&& (63 : Int32)))), .val (.int ((1 : Int32) + ((XT.ushr p0 (6 : Int32)) &&& (63 : Int32)))), .unset, .unset, .unset, .unset, .unset, .unset, .unset, .unset, .unset, .unset, .unset, .unset] [(.int (1 : Int32))]))
  refine Go.by (fun t9 k9 => XS.iloadN X0.here hx rfl (hb hby at_20) rfl k9) ?_
  show Go _ _ _ _ (s₁.setTop (mkF m 21 #[.val (.int p0), .val (.int p1), .val (.int p2), .val (.int p3), .val (.int p4), .val (.int p5), .val (.int ((1 : Int32) + (p0 &&& (63 : Int32)))), .val (.int ((1 : Int32) + ((XT.ushr p0 (6 : Int32)) &&& (63 : Int32)))), .unset, .unset, .unset, .unset, .unset, .unset, .unset, .unset, .unset, .unset, .unset, .unset] [(.int p0), (.int (1 : Int32))]))
  refine Go.by (fun t9 k9 => XS.bipush X0.here hx rfl (hb hby at_21) k9) ?_
  show Go _ _ _ _ (s₁.setTop (mkF m 23 #[.val (.int p0), .val (.int p1), .val (.int p2), .val (.int p3), .val (.int p4), .val (.int p5), .val (.int ((1 : Int32) + (p0 &&& (63 : Int32)))), .val (.int ((1 : Int32) + ((XT.ushr p0 (6 : Int32)) &&& (63 : Int32)))), .unset, .unset, .unset, .unset, .unset, .unset, .unset, .unset, .unset, .unset, .unset, .unset] [(.int (12 : Int32)), (.int p0), (.int (1 : Int32))]))
  refine Go.by (fun t9 k9 => XT.iushr X0.here hx rfl (hb hby at_23) rfl k9) ?_
  show Go _ _ _ _ (s₁.setTop (mkF m 24 #[.val (.int p0), .val (.int p1), .val (.int p2), .val (.int p3), .val (.int p4), .val (.int p5), .val (.int ((1 : Int32) + (p0 &&& (63 : Int32)))), .val (.int ((1 : Int32) + ((XT.ushr p0 (6 : Int32)) &&& (63 : Int32)))), .unset, .unset, .unset, .unset, .unset, .unset, .unset, .unset, .unset, .unset, .unset, .unset] [(.int (XT.ushr p0 (12 : Int32))), (.int (1 : Int32))]))
  refine Go.by (fun t9 k9 => XS.bipush X0.here hx rfl (hb hby at_24) k9) ?_
  show Go _ _ _ _ (s₁.setTop (mkF m 26 #[.val (.int p0), .val (.int p1), .val (.int p2), .val (.int p3), .val (.int p4), .val (.int p5), .val (.int ((1 : Int32) + (p0 &&& (63 : Int32)))), .val (.int ((1 : Int32) + ((XT.ushr p0 (6 : Int32)) &&& (63 : Int32)))), .unset, .unset, .unset, .unset, .unset, .unset, .unset, .unset, .unset, .unset, .unset, .unset] [(.int (63 : Int32)), (.int (XT.ushr p0 (12 : Int32))), (.int (1 : Int32))]))
  refine Go.by (fun t9 k9 => XS.iand X0.here hx rfl (hb hby at_26) rfl k9) ?_
  show Go _ _ _ _ (s₁.setTop (mkF m 27 #[.val (.int p0), .val (.int p1), .val (.int p2), .val (.int p3), .val (.int p4), .val (.int p5), .val (.int ((1 : Int32) + (p0 &&& (63 : Int32)))), .val (.int ((1 : Int32) + ((XT.ushr p0 (6 : Int32)) &&& (63 : Int32)))), .unset, .unset, .unset, .unset, .unset, .unset, .unset, .unset, .unset, .unset, .unset, .unset] [(.int ((XT.ushr p0 (12 : Int32)) &&& (63 : Int32))), (.int (1 : Int32))]))
  refine Go.by (fun t9 k9 => XS.iadd X0.here hx rfl (hb hby at_27) rfl k9) ?_
  show Go _ _ _ _ (s₁.setTop (mkF m 28 #[.val (.int p0), .val (.int p1), .val (.int p2), .val (.int p3), .val (.int p4), .val (.int p5), .val (.int ((1 : Int32) + (p0 &&& (63 : Int32)))), .val (.int ((1 : Int32) + ((XT.ushr p0 (6 : Int32)) &&& (63 : Int32)))), .unset, .unset, .unset, .unset, .unset, .unset, .unset, .unset, .unset, .unset, .unset, .unset] [(.int ((1 : Int32) + ((XT.ushr p0 (12 : Int32)) &&& (63 : Int32))))]))
  refine Go.by (fun t9 k9 => XS.istore X0.here hx rfl (hb hby at_28) rfl (l' := #[.val (.int p0), .val (.int p1), .val (.int p2), .val (.int p3), .val (.int p4), .val (.int p5), .val (.int ((1 : Int32) + (p0 &&& (63 : Int32)))), .val (.int ((1 : Int32) + ((XT.ushr p0 (6 : Int32)) &&& (63 : Int32)))), .val (.int ((1 : Int32) + ((XT.ushr p0 (12 : Int32)) &&& (63 : Int32)))), .unset, .unset, .unset, .unset, .unset, .unset, .unset, .unset, .unset, .unset, .unset]) rfl k9) ?_
  show Go _ _ _ _ (s₁.setTop (mkF m 30 #[.val (.int p0), .val (.int p1), .val (.int p2), .val (.int p3), .val (.int p4), .val (.int p5), .val (.int ((1 : Int32) + (p0 &&& (63 : Int32)))), .val (.int ((1 : Int32) + ((XT.ushr p0 (6 : Int32)) &&& (63 : Int32)))), .val (.int ((1 : Int32) + ((XT.ushr p0 (12 : Int32)) &&& (63 : Int32)))), .unset, .unset, .unset, .unset, .unset, .unset, .unset, .unset, .unset, .unset, .unset] []))
  refine Go.by (fun t9 k9 => XS.iloadN X0.here hx rfl (hb hby at_30) rfl k9) ?_
  show Go _ _ _ _ (s₁.setTop (mkF m 31 #[.val (.int p0), .val (.int p1), .val (.int p2), .val (.int p3), .val (.int p4), .val (.int p5), .val (.int ((1 : Int32) + (p0 &&& (63 : Int32)))), .val (.int ((1 : Int32) + ((XT.ushr p0 (6 : Int32)) &&& (63 : Int32)))), .val (.int ((1 : Int32) + ((XT.ushr p0 (12 : Int32)) &&& (63 : Int32)))), .unset, .unset, .unset, .unset, .unset, .unset, .unset, .unset, .unset, .unset, .unset] [(.int p0)]))
  refine Go.by (fun t9 k9 => XS.bipush X0.here hx rfl (hb hby at_31) k9) ?_
  show Go _ _ _ _ (s₁.setTop (mkF m 33 #[.val (.int p0), .val (.int p1), .val (.int p2), .val (.int p3), .val (.int p4), .val (.int p5), .val (.int ((1 : Int32) + (p0 &&& (63 : Int32)))), .val (.int ((1 : Int32) + ((XT.ushr p0 (6 : Int32)) &&& (63 : Int32)))), .val (.int ((1 : Int32) + ((XT.ushr p0 (12 : Int32)) &&& (63 : Int32)))), .unset, .unset, .unset, .unset, .unset, .unset, .unset, .unset, .unset, .unset, .unset] [(.int (18 : Int32)), (.int p0)]))
  refine Go.by (fun t9 k9 => XT.iushr X0.here hx rfl (hb hby at_33) rfl k9) ?_
  show Go _ _ _ _ (s₁.setTop (mkF m 34 #[.val (.int p0), .val (.int p1), .val (.int p2), .val (.int p3), .val (.int p4), .val (.int p5), .val (.int ((1 : Int32) + (p0 &&& (63 : Int32)))), .val (.int ((1 : Int32) + ((XT.ushr p0 (6 : Int32)) &&& (63 : Int32)))), .val (.int ((1 : Int32) + ((XT.ushr p0 (12 : Int32)) &&& (63 : Int32)))), .unset, .unset, .unset, .unset, .unset, .unset, .unset, .unset, .unset, .unset, .unset] [(.int (XT.ushr p0 (18 : Int32)))]))
  refine Go.by (fun t9 k9 => XS.iconst X0.here hx rfl (hb hby at_34) k9) ?_
  show Go _ _ _ _ (s₁.setTop (mkF m 35 #[.val (.int p0), .val (.int p1), .val (.int p2), .val (.int p3), .val (.int p4), .val (.int p5), .val (.int ((1 : Int32) + (p0 &&& (63 : Int32)))), .val (.int ((1 : Int32) + ((XT.ushr p0 (6 : Int32)) &&& (63 : Int32)))), .val (.int ((1 : Int32) + ((XT.ushr p0 (12 : Int32)) &&& (63 : Int32)))), .unset, .unset, .unset, .unset, .unset, .unset, .unset, .unset, .unset, .unset, .unset] [(.int (3 : Int32)), (.int (XT.ushr p0 (18 : Int32)))]))
  refine Go.by (fun t9 k9 => XS.iand X0.here hx rfl (hb hby at_35) rfl k9) ?_
  show Go _ _ _ _ (s₁.setTop (mkF m 36 #[.val (.int p0), .val (.int p1), .val (.int p2), .val (.int p3), .val (.int p4), .val (.int p5), .val (.int ((1 : Int32) + (p0 &&& (63 : Int32)))), .val (.int ((1 : Int32) + ((XT.ushr p0 (6 : Int32)) &&& (63 : Int32)))), .val (.int ((1 : Int32) + ((XT.ushr p0 (12 : Int32)) &&& (63 : Int32)))), .unset, .unset, .unset, .unset, .unset, .unset, .unset, .unset, .unset, .unset, .unset] [(.int ((XT.ushr p0 (18 : Int32)) &&& (3 : Int32)))]))
  refine Go.by (fun t9 k9 => XS.iconst X0.here hx rfl (hb hby at_36) k9) ?_
  show Go _ _ _ _ (s₁.setTop (mkF m 37 #[.val (.int p0), .val (.int p1), .val (.int p2), .val (.int p3), .val (.int p4), .val (.int p5), .val (.int ((1 : Int32) + (p0 &&& (63 : Int32)))), .val (.int ((1 : Int32) + ((XT.ushr p0 (6 : Int32)) &&& (63 : Int32)))), .val (.int ((1 : Int32) + ((XT.ushr p0 (12 : Int32)) &&& (63 : Int32)))), .unset, .unset, .unset, .unset, .unset, .unset, .unset, .unset, .unset, .unset, .unset] [(.int (3 : Int32)), (.int ((XT.ushr p0 (18 : Int32)) &&& (3 : Int32)))]))
  refine Go.by (fun t9 k9 => XS.irem X0.here hx rfl (hb hby at_37) rfl (by decide) k9) ?_
  show Go _ _ _ _ (s₁.setTop (mkF m 38 #[.val (.int p0), .val (.int p1), .val (.int p2), .val (.int p3), .val (.int p4), .val (.int p5), .val (.int ((1 : Int32) + (p0 &&& (63 : Int32)))), .val (.int ((1 : Int32) + ((XT.ushr p0 (6 : Int32)) &&& (63 : Int32)))), .val (.int ((1 : Int32) + ((XT.ushr p0 (12 : Int32)) &&& (63 : Int32)))), .unset, .unset, .unset, .unset, .unset, .unset, .unset, .unset, .unset, .unset, .unset] [(.int (((XT.ushr p0 (18 : Int32)) &&& (3 : Int32)) - (((XT.ushr p0 (18 : Int32)) &&& (3 : Int32)) / (3 : Int32)) * (3 : Int32)))]))
  refine Go.by (fun t9 k9 => XS.istore X0.here hx rfl (hb hby at_38) rfl (l' := #[.val (.int p0), .val (.int p1), .val (.int p2), .val (.int p3), .val (.int p4), .val (.int p5), .val (.int ((1 : Int32) + (p0 &&& (63 : Int32)))), .val (.int ((1 : Int32) + ((XT.ushr p0 (6 : Int32)) &&& (63 : Int32)))), .val (.int ((1 : Int32) + ((XT.ushr p0 (12 : Int32)) &&& (63 : Int32)))), .val (.int (((XT.ushr p0 (18 : Int32)) &&& (3 : Int32)) - (((XT.ushr p0 (18 : Int32)) &&& (3 : Int32)) / (3 : Int32)) * (3 : Int32))), .unset, .unset, .unset, .unset, .unset, .unset, .unset, .unset, .unset, .unset]) rfl k9) ?_
  show Go _ _ _ _ (s₁.setTop (mkF m 40 #[.val (.int p0), .val (.int p1), .val (.int p2), .val (.int p3), .val (.int p4), .val (.int p5), .val (.int ((1 : Int32) + (p0 &&& (63 : Int32)))), .val (.int ((1 : Int32) + ((XT.ushr p0 (6 : Int32)) &&& (63 : Int32)))), .val (.int ((1 : Int32) + ((XT.ushr p0 (12 : Int32)) &&& (63 : Int32)))), .val (.int (((XT.ushr p0 (18 : Int32)) &&& (3 : Int32)) - (((XT.ushr p0 (18 : Int32)) &&& (3 : Int32)) / (3 : Int32)) * (3 : Int32))), .unset, .unset, .unset, .unset, .unset, .unset, .unset, .unset, .unset, .unset] []))
  refine Go.by (fun t9 k9 => XS.iloadN X0.here hx rfl (hb hby at_40) rfl k9) ?_
  show Go _ _ _ _ (s₁.setTop (mkF m 41 #[.val (.int p0), .val (.int p1), .val (.int p2), .val (.int p3), .val (.int p4), .val (.int p5), .val (.int ((1 : Int32) + (p0 &&& (63 : Int32)))), .val (.int ((1 : Int32) + ((XT.ushr p0 (6 : Int32)) &&& (63 : Int32)))), .val (.int ((1 : Int32) + ((XT.ushr p0 (12 : Int32)) &&& (63 : Int32)))), .val (.int (((XT.ushr p0 (18 : Int32)) &&& (3 : Int32)) - (((XT.ushr p0 (18 : Int32)) &&& (3 : Int32)) / (3 : Int32)) * (3 : Int32))), .unset, .unset, .unset, .unset, .unset, .unset, .unset, .unset, .unset, .unset] [(.int p0)]))
  refine Go.by (fun t9 k9 => XS.bipush X0.here hx rfl (hb hby at_41) k9) ?_
  show Go _ _ _ _ (s₁.setTop (mkF m 43 #[.val (.int p0), .val (.int p1), .val (.int p2), .val (.int p3), .val (.int p4), .val (.int p5), .val (.int ((1 : Int32) + (p0 &&& (63 : Int32)))), .val (.int ((1 : Int32) + ((XT.ushr p0 (6 : Int32)) &&& (63 : Int32)))), .val (.int ((1 : Int32) + ((XT.ushr p0 (12 : Int32)) &&& (63 : Int32)))), .val (.int (((XT.ushr p0 (18 : Int32)) &&& (3 : Int32)) - (((XT.ushr p0 (18 : Int32)) &&& (3 : Int32)) / (3 : Int32)) * (3 : Int32))), .unset, .unset, .unset, .unset, .unset, .unset, .unset, .unset, .unset, .unset] [(.int (20 : Int32)), (.int p0)]))
  refine Go.by (fun t9 k9 => XT.iushr X0.here hx rfl (hb hby at_43) rfl k9) ?_
  show Go _ _ _ _ (s₁.setTop (mkF m 44 #[.val (.int p0), .val (.int p1), .val (.int p2), .val (.int p3), .val (.int p4), .val (.int p5), .val (.int ((1 : Int32) + (p0 &&& (63 : Int32)))), .val (.int ((1 : Int32) + ((XT.ushr p0 (6 : Int32)) &&& (63 : Int32)))), .val (.int ((1 : Int32) + ((XT.ushr p0 (12 : Int32)) &&& (63 : Int32)))), .val (.int (((XT.ushr p0 (18 : Int32)) &&& (3 : Int32)) - (((XT.ushr p0 (18 : Int32)) &&& (3 : Int32)) / (3 : Int32)) * (3 : Int32))), .unset, .unset, .unset, .unset, .unset, .unset, .unset, .unset, .unset, .unset] [(.int (XT.ushr p0 (20 : Int32)))]))
  refine Go.by (fun t9 k9 => XS.iconst X0.here hx rfl (hb hby at_44) k9) ?_
  show Go _ _ _ _ (s₁.setTop (mkF m 45 #[.val (.int p0), .val (.int p1), .val (.int p2), .val (.int p3), .val (.int p4), .val (.int p5), .val (.int ((1 : Int32) + (p0 &&& (63 : Int32)))), .val (.int ((1 : Int32) + ((XT.ushr p0 (6 : Int32)) &&& (63 : Int32)))), .val (.int ((1 : Int32) + ((XT.ushr p0 (12 : Int32)) &&& (63 : Int32)))), .val (.int (((XT.ushr p0 (18 : Int32)) &&& (3 : Int32)) - (((XT.ushr p0 (18 : Int32)) &&& (3 : Int32)) / (3 : Int32)) * (3 : Int32))), .unset, .unset, .unset, .unset, .unset, .unset, .unset, .unset, .unset, .unset] [(.int (3 : Int32)), (.int (XT.ushr p0 (20 : Int32)))]))
  refine Go.by (fun t9 k9 => XS.iand X0.here hx rfl (hb hby at_45) rfl k9) ?_
  show Go _ _ _ _ (s₁.setTop (mkF m 46 #[.val (.int p0), .val (.int p1), .val (.int p2), .val (.int p3), .val (.int p4), .val (.int p5), .val (.int ((1 : Int32) + (p0 &&& (63 : Int32)))), .val (.int ((1 : Int32) + ((XT.ushr p0 (6 : Int32)) &&& (63 : Int32)))), .val (.int ((1 : Int32) + ((XT.ushr p0 (12 : Int32)) &&& (63 : Int32)))), .val (.int (((XT.ushr p0 (18 : Int32)) &&& (3 : Int32)) - (((XT.ushr p0 (18 : Int32)) &&& (3 : Int32)) / (3 : Int32)) * (3 : Int32))), .unset, .unset, .unset, .unset, .unset, .unset, .unset, .unset, .unset, .unset] [(.int ((XT.ushr p0 (20 : Int32)) &&& (3 : Int32)))]))
  refine Go.by (fun t9 k9 => XS.istore X0.here hx rfl (hb hby at_46) rfl (l' := #[.val (.int p0), .val (.int p1), .val (.int p2), .val (.int p3), .val (.int p4), .val (.int p5), .val (.int ((1 : Int32) + (p0 &&& (63 : Int32)))), .val (.int ((1 : Int32) + ((XT.ushr p0 (6 : Int32)) &&& (63 : Int32)))), .val (.int ((1 : Int32) + ((XT.ushr p0 (12 : Int32)) &&& (63 : Int32)))), .val (.int (((XT.ushr p0 (18 : Int32)) &&& (3 : Int32)) - (((XT.ushr p0 (18 : Int32)) &&& (3 : Int32)) / (3 : Int32)) * (3 : Int32))), .val (.int ((XT.ushr p0 (20 : Int32)) &&& (3 : Int32))), .unset, .unset, .unset, .unset, .unset, .unset, .unset, .unset, .unset]) rfl k9) ?_
  show Go _ _ _ _ (s₁.setTop (mkF m 48 #[.val (.int p0), .val (.int p1), .val (.int p2), .val (.int p3), .val (.int p4), .val (.int p5), .val (.int ((1 : Int32) + (p0 &&& (63 : Int32)))), .val (.int ((1 : Int32) + ((XT.ushr p0 (6 : Int32)) &&& (63 : Int32)))), .val (.int ((1 : Int32) + ((XT.ushr p0 (12 : Int32)) &&& (63 : Int32)))), .val (.int (((XT.ushr p0 (18 : Int32)) &&& (3 : Int32)) - (((XT.ushr p0 (18 : Int32)) &&& (3 : Int32)) / (3 : Int32)) * (3 : Int32))), .val (.int ((XT.ushr p0 (20 : Int32)) &&& (3 : Int32))), .unset, .unset, .unset, .unset, .unset, .unset, .unset, .unset, .unset] []))
  refine Go.by (fun t9 k9 => XS.iloadN X0.here hx rfl (hb hby at_48) rfl k9) ?_
  show Go _ _ _ _ (s₁.setTop (mkF m 49 #[.val (.int p0), .val (.int p1), .val (.int p2), .val (.int p3), .val (.int p4), .val (.int p5), .val (.int ((1 : Int32) + (p0 &&& (63 : Int32)))), .val (.int ((1 : Int32) + ((XT.ushr p0 (6 : Int32)) &&& (63 : Int32)))), .val (.int ((1 : Int32) + ((XT.ushr p0 (12 : Int32)) &&& (63 : Int32)))), .val (.int (((XT.ushr p0 (18 : Int32)) &&& (3 : Int32)) - (((XT.ushr p0 (18 : Int32)) &&& (3 : Int32)) / (3 : Int32)) * (3 : Int32))), .val (.int ((XT.ushr p0 (20 : Int32)) &&& (3 : Int32))), .unset, .unset, .unset, .unset, .unset, .unset, .unset, .unset, .unset] [(.int p0)]))
  refine Go.by (fun t9 k9 => XS.bipush X0.here hx rfl (hb hby at_49) k9) ?_
  show Go _ _ _ _ (s₁.setTop (mkF m 51 #[.val (.int p0), .val (.int p1), .val (.int p2), .val (.int p3), .val (.int p4), .val (.int p5), .val (.int ((1 : Int32) + (p0 &&& (63 : Int32)))), .val (.int ((1 : Int32) + ((XT.ushr p0 (6 : Int32)) &&& (63 : Int32)))), .val (.int ((1 : Int32) + ((XT.ushr p0 (12 : Int32)) &&& (63 : Int32)))), .val (.int (((XT.ushr p0 (18 : Int32)) &&& (3 : Int32)) - (((XT.ushr p0 (18 : Int32)) &&& (3 : Int32)) / (3 : Int32)) * (3 : Int32))), .val (.int ((XT.ushr p0 (20 : Int32)) &&& (3 : Int32))), .unset, .unset, .unset, .unset, .unset, .unset, .unset, .unset, .unset] [(.int (22 : Int32)), (.int p0)]))
  refine Go.by (fun t9 k9 => XT.iushr X0.here hx rfl (hb hby at_51) rfl k9) ?_
  show Go _ _ _ _ (s₁.setTop (mkF m 52 #[.val (.int p0), .val (.int p1), .val (.int p2), .val (.int p3), .val (.int p4), .val (.int p5), .val (.int ((1 : Int32) + (p0 &&& (63 : Int32)))), .val (.int ((1 : Int32) + ((XT.ushr p0 (6 : Int32)) &&& (63 : Int32)))), .val (.int ((1 : Int32) + ((XT.ushr p0 (12 : Int32)) &&& (63 : Int32)))), .val (.int (((XT.ushr p0 (18 : Int32)) &&& (3 : Int32)) - (((XT.ushr p0 (18 : Int32)) &&& (3 : Int32)) / (3 : Int32)) * (3 : Int32))), .val (.int ((XT.ushr p0 (20 : Int32)) &&& (3 : Int32))), .unset, .unset, .unset, .unset, .unset, .unset, .unset, .unset, .unset] [(.int (XT.ushr p0 (22 : Int32)))]))
  refine Go.by (fun t9 k9 => XS.iconst X0.here hx rfl (hb hby at_52) k9) ?_
  show Go _ _ _ _ (s₁.setTop (mkF m 53 #[.val (.int p0), .val (.int p1), .val (.int p2), .val (.int p3), .val (.int p4), .val (.int p5), .val (.int ((1 : Int32) + (p0 &&& (63 : Int32)))), .val (.int ((1 : Int32) + ((XT.ushr p0 (6 : Int32)) &&& (63 : Int32)))), .val (.int ((1 : Int32) + ((XT.ushr p0 (12 : Int32)) &&& (63 : Int32)))), .val (.int (((XT.ushr p0 (18 : Int32)) &&& (3 : Int32)) - (((XT.ushr p0 (18 : Int32)) &&& (3 : Int32)) / (3 : Int32)) * (3 : Int32))), .val (.int ((XT.ushr p0 (20 : Int32)) &&& (3 : Int32))), .unset, .unset, .unset, .unset, .unset, .unset, .unset, .unset, .unset] [(.int (1 : Int32)), (.int (XT.ushr p0 (22 : Int32)))]))
  refine Go.by (fun t9 k9 => XS.iand X0.here hx rfl (hb hby at_53) rfl k9) ?_
  show Go _ _ _ _ (s₁.setTop (mkF m 54 #[.val (.int p0), .val (.int p1), .val (.int p2), .val (.int p3), .val (.int p4), .val (.int p5), .val (.int ((1 : Int32) + (p0 &&& (63 : Int32)))), .val (.int ((1 : Int32) + ((XT.ushr p0 (6 : Int32)) &&& (63 : Int32)))), .val (.int ((1 : Int32) + ((XT.ushr p0 (12 : Int32)) &&& (63 : Int32)))), .val (.int (((XT.ushr p0 (18 : Int32)) &&& (3 : Int32)) - (((XT.ushr p0 (18 : Int32)) &&& (3 : Int32)) / (3 : Int32)) * (3 : Int32))), .val (.int ((XT.ushr p0 (20 : Int32)) &&& (3 : Int32))), .unset, .unset, .unset, .unset, .unset, .unset, .unset, .unset, .unset] [(.int ((XT.ushr p0 (22 : Int32)) &&& (1 : Int32)))]))
  by_cases hc54 : ((XT.ushr p0 (22 : Int32)) &&& (1 : Int32)) = 0
  · refine Go.by (fun t9 k9 => XS.ifYes X0.here hx rfl (pc0 := 54) (pc' := 61) rfl (hb hby at_54) rfl (XT.i0_eq_t hc54) (by decide) (by decide) k9) ?_
    show Go _ _ _ _ (s₁.setTop (mkF m 61 #[.val (.int p0), .val (.int p1), .val (.int p2), .val (.int p3), .val (.int p4), .val (.int p5), .val (.int ((1 : Int32) + (p0 &&& (63 : Int32)))), .val (.int ((1 : Int32) + ((XT.ushr p0 (6 : Int32)) &&& (63 : Int32)))), .val (.int ((1 : Int32) + ((XT.ushr p0 (12 : Int32)) &&& (63 : Int32)))), .val (.int (((XT.ushr p0 (18 : Int32)) &&& (3 : Int32)) - (((XT.ushr p0 (18 : Int32)) &&& (3 : Int32)) / (3 : Int32)) * (3 : Int32))), .val (.int ((XT.ushr p0 (20 : Int32)) &&& (3 : Int32))), .unset, .unset, .unset, .unset, .unset, .unset, .unset, .unset, .unset] []))
    refine Go.by (fun t9 k9 => XS.iconst X0.here hx rfl (hb hby at_61) k9) ?_
    show Go _ _ _ _ (s₁.setTop (mkF m 62 #[.val (.int p0), .val (.int p1), .val (.int p2), .val (.int p3), .val (.int p4), .val (.int p5), .val (.int ((1 : Int32) + (p0 &&& (63 : Int32)))), .val (.int ((1 : Int32) + ((XT.ushr p0 (6 : Int32)) &&& (63 : Int32)))), .val (.int ((1 : Int32) + ((XT.ushr p0 (12 : Int32)) &&& (63 : Int32)))), .val (.int (((XT.ushr p0 (18 : Int32)) &&& (3 : Int32)) - (((XT.ushr p0 (18 : Int32)) &&& (3 : Int32)) / (3 : Int32)) * (3 : Int32))), .val (.int ((XT.ushr p0 (20 : Int32)) &&& (3 : Int32))), .unset, .unset, .unset, .unset, .unset, .unset, .unset, .unset, .unset] [(.int (0 : Int32))]))
    refine Go.by (fun t9 k9 => XS.istore X0.here hx rfl (hb hby at_62) rfl (l' := #[.val (.int p0), .val (.int p1), .val (.int p2), .val (.int p3), .val (.int p4), .val (.int p5), .val (.int ((1 : Int32) + (p0 &&& (63 : Int32)))), .val (.int ((1 : Int32) + ((XT.ushr p0 (6 : Int32)) &&& (63 : Int32)))), .val (.int ((1 : Int32) + ((XT.ushr p0 (12 : Int32)) &&& (63 : Int32)))), .val (.int (((XT.ushr p0 (18 : Int32)) &&& (3 : Int32)) - (((XT.ushr p0 (18 : Int32)) &&& (3 : Int32)) / (3 : Int32)) * (3 : Int32))), .val (.int ((XT.ushr p0 (20 : Int32)) &&& (3 : Int32))), .val (.int (0 : Int32)), .unset, .unset, .unset, .unset, .unset, .unset, .unset, .unset]) rfl k9) ?_
    show Go _ _ _ _ (s₁.setTop (mkF m 64 #[.val (.int p0), .val (.int p1), .val (.int p2), .val (.int p3), .val (.int p4), .val (.int p5), .val (.int ((1 : Int32) + (p0 &&& (63 : Int32)))), .val (.int ((1 : Int32) + ((XT.ushr p0 (6 : Int32)) &&& (63 : Int32)))), .val (.int ((1 : Int32) + ((XT.ushr p0 (12 : Int32)) &&& (63 : Int32)))), .val (.int (((XT.ushr p0 (18 : Int32)) &&& (3 : Int32)) - (((XT.ushr p0 (18 : Int32)) &&& (3 : Int32)) / (3 : Int32)) * (3 : Int32))), .val (.int ((XT.ushr p0 (20 : Int32)) &&& (3 : Int32))), .val (.int (0 : Int32)), .unset, .unset, .unset, .unset, .unset, .unset, .unset, .unset] []))
    refine Go.by (fun t9 k9 => XS.iload X0.here hx rfl (hb hby at_64) rfl k9) ?_
    show Go _ _ _ _ (s₁.setTop (mkF m 66 #[.val (.int p0), .val (.int p1), .val (.int p2), .val (.int p3), .val (.int p4), .val (.int p5), .val (.int ((1 : Int32) + (p0 &&& (63 : Int32)))), .val (.int ((1 : Int32) + ((XT.ushr p0 (6 : Int32)) &&& (63 : Int32)))), .val (.int ((1 : Int32) + ((XT.ushr p0 (12 : Int32)) &&& (63 : Int32)))), .val (.int (((XT.ushr p0 (18 : Int32)) &&& (3 : Int32)) - (((XT.ushr p0 (18 : Int32)) &&& (3 : Int32)) / (3 : Int32)) * (3 : Int32))), .val (.int ((XT.ushr p0 (20 : Int32)) &&& (3 : Int32))), .val (.int (0 : Int32)), .unset, .unset, .unset, .unset, .unset, .unset, .unset, .unset] [(.int (0 : Int32))]))
    refine Go.by (fun t9 k9 => XS.ifYes X0.here hx rfl (pc0 := 66) (pc' := 77) rfl (hb hby at_66) rfl (XT.i0_eq_t rfl) (by decide) (by decide) k9) ?_
    show Go _ _ _ _ (s₁.setTop (mkF m 77 #[.val (.int p0), .val (.int p1), .val (.int p2), .val (.int p3), .val (.int p4), .val (.int p5), .val (.int ((1 : Int32) + (p0 &&& (63 : Int32)))), .val (.int ((1 : Int32) + ((XT.ushr p0 (6 : Int32)) &&& (63 : Int32)))), .val (.int ((1 : Int32) + ((XT.ushr p0 (12 : Int32)) &&& (63 : Int32)))), .val (.int (((XT.ushr p0 (18 : Int32)) &&& (3 : Int32)) - (((XT.ushr p0 (18 : Int32)) &&& (3 : Int32)) / (3 : Int32)) * (3 : Int32))), .val (.int ((XT.ushr p0 (20 : Int32)) &&& (3 : Int32))), .val (.int (0 : Int32)), .unset, .unset, .unset, .unset, .unset, .unset, .unset, .unset] []))
    refine Go.by (fun t9 k9 => XS.iload X0.here hx rfl (hb hby at_77) rfl k9) ?_
    show Go _ _ _ _ (s₁.setTop (mkF m 79 #[.val (.int p0), .val (.int p1), .val (.int p2), .val (.int p3), .val (.int p4), .val (.int p5), .val (.int ((1 : Int32) + (p0 &&& (63 : Int32)))), .val (.int ((1 : Int32) + ((XT.ushr p0 (6 : Int32)) &&& (63 : Int32)))), .val (.int ((1 : Int32) + ((XT.ushr p0 (12 : Int32)) &&& (63 : Int32)))), .val (.int (((XT.ushr p0 (18 : Int32)) &&& (3 : Int32)) - (((XT.ushr p0 (18 : Int32)) &&& (3 : Int32)) / (3 : Int32)) * (3 : Int32))), .val (.int ((XT.ushr p0 (20 : Int32)) &&& (3 : Int32))), .val (.int (0 : Int32)), .unset, .unset, .unset, .unset, .unset, .unset, .unset, .unset] [(.int p4)]))
    refine Go.by (fun t9 k9 => XS.bipush X0.here hx rfl (hb hby at_79) k9) ?_
    show Go _ _ _ _ (s₁.setTop (mkF m 81 #[.val (.int p0), .val (.int p1), .val (.int p2), .val (.int p3), .val (.int p4), .val (.int p5), .val (.int ((1 : Int32) + (p0 &&& (63 : Int32)))), .val (.int ((1 : Int32) + ((XT.ushr p0 (6 : Int32)) &&& (63 : Int32)))), .val (.int ((1 : Int32) + ((XT.ushr p0 (12 : Int32)) &&& (63 : Int32)))), .val (.int (((XT.ushr p0 (18 : Int32)) &&& (3 : Int32)) - (((XT.ushr p0 (18 : Int32)) &&& (3 : Int32)) / (3 : Int32)) * (3 : Int32))), .val (.int ((XT.ushr p0 (20 : Int32)) &&& (3 : Int32))), .val (.int (0 : Int32)), .unset, .unset, .unset, .unset, .unset, .unset, .unset, .unset] [(.int (63 : Int32)), (.int p4)]))
    refine Go.by (fun t9 k9 => XS.iand X0.here hx rfl (hb hby at_81) rfl k9) ?_
    show Go _ _ _ _ (s₁.setTop (mkF m 82 #[.val (.int p0), .val (.int p1), .val (.int p2), .val (.int p3), .val (.int p4), .val (.int p5), .val (.int ((1 : Int32) + (p0 &&& (63 : Int32)))), .val (.int ((1 : Int32) + ((XT.ushr p0 (6 : Int32)) &&& (63 : Int32)))), .val (.int ((1 : Int32) + ((XT.ushr p0 (12 : Int32)) &&& (63 : Int32)))), .val (.int (((XT.ushr p0 (18 : Int32)) &&& (3 : Int32)) - (((XT.ushr p0 (18 : Int32)) &&& (3 : Int32)) / (3 : Int32)) * (3 : Int32))), .val (.int ((XT.ushr p0 (20 : Int32)) &&& (3 : Int32))), .val (.int (0 : Int32)), .unset, .unset, .unset, .unset, .unset, .unset, .unset, .unset] [(.int (p4 &&& (63 : Int32)))]))
    refine Go.by (fun t9 k9 => XS.istore X0.here hx rfl (hb hby at_82) rfl (l' := #[.val (.int p0), .val (.int p1), .val (.int p2), .val (.int p3), .val (.int p4), .val (.int p5), .val (.int ((1 : Int32) + (p0 &&& (63 : Int32)))), .val (.int ((1 : Int32) + ((XT.ushr p0 (6 : Int32)) &&& (63 : Int32)))), .val (.int ((1 : Int32) + ((XT.ushr p0 (12 : Int32)) &&& (63 : Int32)))), .val (.int (((XT.ushr p0 (18 : Int32)) &&& (3 : Int32)) - (((XT.ushr p0 (18 : Int32)) &&& (3 : Int32)) / (3 : Int32)) * (3 : Int32))), .val (.int ((XT.ushr p0 (20 : Int32)) &&& (3 : Int32))), .val (.int (0 : Int32)), .val (.int (p4 &&& (63 : Int32))), .unset, .unset, .unset, .unset, .unset, .unset, .unset]) rfl k9) ?_
    exact J84 s₁ _ _ X0 rfl N0 hz0 ((1 : Int32) + (p0 &&& (63 : Int32))) ((1 : Int32) + ((XT.ushr p0 (6 : Int32)) &&& (63 : Int32))) ((1 : Int32) + ((XT.ushr p0 (12 : Int32)) &&& (63 : Int32))) (((XT.ushr p0 (18 : Int32)) &&& (3 : Int32)) - (((XT.ushr p0 (18 : Int32)) &&& (3 : Int32)) / (3 : Int32)) * (3 : Int32)) ((XT.ushr p0 (20 : Int32)) &&& (3 : Int32)) (p4 &&& (63 : Int32)) _ (own_n _) (own_n _) (own_n _) (own_t3 _) (own_r3 _) (own_m63 _)
  · refine Go.by (fun t9 k9 => XS.ifNo X0.here hx rfl (hb hby at_54) rfl (XT.i0_eq_f hc54) k9) ?_
    show Go _ _ _ _ (s₁.setTop (mkF m 57 #[.val (.int p0), .val (.int p1), .val (.int p2), .val (.int p3), .val (.int p4), .val (.int p5), .val (.int ((1 : Int32) + (p0 &&& (63 : Int32)))), .val (.int ((1 : Int32) + ((XT.ushr p0 (6 : Int32)) &&& (63 : Int32)))), .val (.int ((1 : Int32) + ((XT.ushr p0 (12 : Int32)) &&& (63 : Int32)))), .val (.int (((XT.ushr p0 (18 : Int32)) &&& (3 : Int32)) - (((XT.ushr p0 (18 : Int32)) &&& (3 : Int32)) / (3 : Int32)) * (3 : Int32))), .val (.int ((XT.ushr p0 (20 : Int32)) &&& (3 : Int32))), .unset, .unset, .unset, .unset, .unset, .unset, .unset, .unset, .unset] []))
    refine Go.by (fun t9 k9 => XS.iconst X0.here hx rfl (hb hby at_57) k9) ?_
    show Go _ _ _ _ (s₁.setTop (mkF m 58 #[.val (.int p0), .val (.int p1), .val (.int p2), .val (.int p3), .val (.int p4), .val (.int p5), .val (.int ((1 : Int32) + (p0 &&& (63 : Int32)))), .val (.int ((1 : Int32) + ((XT.ushr p0 (6 : Int32)) &&& (63 : Int32)))), .val (.int ((1 : Int32) + ((XT.ushr p0 (12 : Int32)) &&& (63 : Int32)))), .val (.int (((XT.ushr p0 (18 : Int32)) &&& (3 : Int32)) - (((XT.ushr p0 (18 : Int32)) &&& (3 : Int32)) / (3 : Int32)) * (3 : Int32))), .val (.int ((XT.ushr p0 (20 : Int32)) &&& (3 : Int32))), .unset, .unset, .unset, .unset, .unset, .unset, .unset, .unset, .unset] [(.int (1 : Int32))]))
    refine Go.by (fun t9 k9 => XS.goto X0.here hx rfl (pc0 := 58) (pc' := 62) rfl (hb hby at_58) (by decide) (by decide) k9) ?_
    show Go _ _ _ _ (s₁.setTop (mkF m 62 #[.val (.int p0), .val (.int p1), .val (.int p2), .val (.int p3), .val (.int p4), .val (.int p5), .val (.int ((1 : Int32) + (p0 &&& (63 : Int32)))), .val (.int ((1 : Int32) + ((XT.ushr p0 (6 : Int32)) &&& (63 : Int32)))), .val (.int ((1 : Int32) + ((XT.ushr p0 (12 : Int32)) &&& (63 : Int32)))), .val (.int (((XT.ushr p0 (18 : Int32)) &&& (3 : Int32)) - (((XT.ushr p0 (18 : Int32)) &&& (3 : Int32)) / (3 : Int32)) * (3 : Int32))), .val (.int ((XT.ushr p0 (20 : Int32)) &&& (3 : Int32))), .unset, .unset, .unset, .unset, .unset, .unset, .unset, .unset, .unset] [(.int (1 : Int32))]))
    refine Go.by (fun t9 k9 => XS.istore X0.here hx rfl (hb hby at_62) rfl (l' := #[.val (.int p0), .val (.int p1), .val (.int p2), .val (.int p3), .val (.int p4), .val (.int p5), .val (.int ((1 : Int32) + (p0 &&& (63 : Int32)))), .val (.int ((1 : Int32) + ((XT.ushr p0 (6 : Int32)) &&& (63 : Int32)))), .val (.int ((1 : Int32) + ((XT.ushr p0 (12 : Int32)) &&& (63 : Int32)))), .val (.int (((XT.ushr p0 (18 : Int32)) &&& (3 : Int32)) - (((XT.ushr p0 (18 : Int32)) &&& (3 : Int32)) / (3 : Int32)) * (3 : Int32))), .val (.int ((XT.ushr p0 (20 : Int32)) &&& (3 : Int32))), .val (.int (1 : Int32)), .unset, .unset, .unset, .unset, .unset, .unset, .unset, .unset]) rfl k9) ?_
    show Go _ _ _ _ (s₁.setTop (mkF m 64 #[.val (.int p0), .val (.int p1), .val (.int p2), .val (.int p3), .val (.int p4), .val (.int p5), .val (.int ((1 : Int32) + (p0 &&& (63 : Int32)))), .val (.int ((1 : Int32) + ((XT.ushr p0 (6 : Int32)) &&& (63 : Int32)))), .val (.int ((1 : Int32) + ((XT.ushr p0 (12 : Int32)) &&& (63 : Int32)))), .val (.int (((XT.ushr p0 (18 : Int32)) &&& (3 : Int32)) - (((XT.ushr p0 (18 : Int32)) &&& (3 : Int32)) / (3 : Int32)) * (3 : Int32))), .val (.int ((XT.ushr p0 (20 : Int32)) &&& (3 : Int32))), .val (.int (1 : Int32)), .unset, .unset, .unset, .unset, .unset, .unset, .unset, .unset] []))
    refine Go.by (fun t9 k9 => XS.iload X0.here hx rfl (hb hby at_64) rfl k9) ?_
    show Go _ _ _ _ (s₁.setTop (mkF m 66 #[.val (.int p0), .val (.int p1), .val (.int p2), .val (.int p3), .val (.int p4), .val (.int p5), .val (.int ((1 : Int32) + (p0 &&& (63 : Int32)))), .val (.int ((1 : Int32) + ((XT.ushr p0 (6 : Int32)) &&& (63 : Int32)))), .val (.int ((1 : Int32) + ((XT.ushr p0 (12 : Int32)) &&& (63 : Int32)))), .val (.int (((XT.ushr p0 (18 : Int32)) &&& (3 : Int32)) - (((XT.ushr p0 (18 : Int32)) &&& (3 : Int32)) / (3 : Int32)) * (3 : Int32))), .val (.int ((XT.ushr p0 (20 : Int32)) &&& (3 : Int32))), .val (.int (1 : Int32)), .unset, .unset, .unset, .unset, .unset, .unset, .unset, .unset] [(.int (1 : Int32))]))
    refine Go.by (fun t9 k9 => XS.ifNo X0.here hx rfl (hb hby at_66) rfl (XT.i0_eq_f (by decide)) k9) ?_
    show Go _ _ _ _ (s₁.setTop (mkF m 69 #[.val (.int p0), .val (.int p1), .val (.int p2), .val (.int p3), .val (.int p4), .val (.int p5), .val (.int ((1 : Int32) + (p0 &&& (63 : Int32)))), .val (.int ((1 : Int32) + ((XT.ushr p0 (6 : Int32)) &&& (63 : Int32)))), .val (.int ((1 : Int32) + ((XT.ushr p0 (12 : Int32)) &&& (63 : Int32)))), .val (.int (((XT.ushr p0 (18 : Int32)) &&& (3 : Int32)) - (((XT.ushr p0 (18 : Int32)) &&& (3 : Int32)) / (3 : Int32)) * (3 : Int32))), .val (.int ((XT.ushr p0 (20 : Int32)) &&& (3 : Int32))), .val (.int (1 : Int32)), .unset, .unset, .unset, .unset, .unset, .unset, .unset, .unset] []))
    refine Go.by (fun t9 k9 => XS.iload X0.here hx rfl (hb hby at_69) rfl k9) ?_
    show Go _ _ _ _ (s₁.setTop (mkF m 71 #[.val (.int p0), .val (.int p1), .val (.int p2), .val (.int p3), .val (.int p4), .val (.int p5), .val (.int ((1 : Int32) + (p0 &&& (63 : Int32)))), .val (.int ((1 : Int32) + ((XT.ushr p0 (6 : Int32)) &&& (63 : Int32)))), .val (.int ((1 : Int32) + ((XT.ushr p0 (12 : Int32)) &&& (63 : Int32)))), .val (.int (((XT.ushr p0 (18 : Int32)) &&& (3 : Int32)) - (((XT.ushr p0 (18 : Int32)) &&& (3 : Int32)) / (3 : Int32)) * (3 : Int32))), .val (.int ((XT.ushr p0 (20 : Int32)) &&& (3 : Int32))), .val (.int (1 : Int32)), .unset, .unset, .unset, .unset, .unset, .unset, .unset, .unset] [(.int p4)]))
    refine Go.by (fun t9 k9 => X0.ldcI hx hown (mvT hZ (hw _ (List.mem_of_getElem? (i := 61) rfl))) rfl (hb hby at_71) k9) ?_
    show Go _ _ _ _ (s₁.setTop (mkF m 73 #[.val (.int p0), .val (.int p1), .val (.int p2), .val (.int p3), .val (.int p4), .val (.int p5), .val (.int ((1 : Int32) + (p0 &&& (63 : Int32)))), .val (.int ((1 : Int32) + ((XT.ushr p0 (6 : Int32)) &&& (63 : Int32)))), .val (.int ((1 : Int32) + ((XT.ushr p0 (12 : Int32)) &&& (63 : Int32)))), .val (.int (((XT.ushr p0 (18 : Int32)) &&& (3 : Int32)) - (((XT.ushr p0 (18 : Int32)) &&& (3 : Int32)) / (3 : Int32)) * (3 : Int32))), .val (.int ((XT.ushr p0 (20 : Int32)) &&& (3 : Int32))), .val (.int (1 : Int32)), .unset, .unset, .unset, .unset, .unset, .unset, .unset, .unset] [(.int (2147483647 : Int32)), (.int p4)]))
    refine Go.by (fun t9 k9 => XS.iand X0.here hx rfl (hb hby at_73) rfl k9) ?_
    show Go _ _ _ _ (s₁.setTop (mkF m 74 #[.val (.int p0), .val (.int p1), .val (.int p2), .val (.int p3), .val (.int p4), .val (.int p5), .val (.int ((1 : Int32) + (p0 &&& (63 : Int32)))), .val (.int ((1 : Int32) + ((XT.ushr p0 (6 : Int32)) &&& (63 : Int32)))), .val (.int ((1 : Int32) + ((XT.ushr p0 (12 : Int32)) &&& (63 : Int32)))), .val (.int (((XT.ushr p0 (18 : Int32)) &&& (3 : Int32)) - (((XT.ushr p0 (18 : Int32)) &&& (3 : Int32)) / (3 : Int32)) * (3 : Int32))), .val (.int ((XT.ushr p0 (20 : Int32)) &&& (3 : Int32))), .val (.int (1 : Int32)), .unset, .unset, .unset, .unset, .unset, .unset, .unset, .unset] [(.int (p4 &&& (2147483647 : Int32)))]))
    refine Go.by (fun t9 k9 => XS.goto X0.here hx rfl (pc0 := 74) (pc' := 82) rfl (hb hby at_74) (by decide) (by decide) k9) ?_
    show Go _ _ _ _ (s₁.setTop (mkF m 82 #[.val (.int p0), .val (.int p1), .val (.int p2), .val (.int p3), .val (.int p4), .val (.int p5), .val (.int ((1 : Int32) + (p0 &&& (63 : Int32)))), .val (.int ((1 : Int32) + ((XT.ushr p0 (6 : Int32)) &&& (63 : Int32)))), .val (.int ((1 : Int32) + ((XT.ushr p0 (12 : Int32)) &&& (63 : Int32)))), .val (.int (((XT.ushr p0 (18 : Int32)) &&& (3 : Int32)) - (((XT.ushr p0 (18 : Int32)) &&& (3 : Int32)) / (3 : Int32)) * (3 : Int32))), .val (.int ((XT.ushr p0 (20 : Int32)) &&& (3 : Int32))), .val (.int (1 : Int32)), .unset, .unset, .unset, .unset, .unset, .unset, .unset, .unset] [(.int (p4 &&& (2147483647 : Int32)))]))
    refine Go.by (fun t9 k9 => XS.istore X0.here hx rfl (hb hby at_82) rfl (l' := #[.val (.int p0), .val (.int p1), .val (.int p2), .val (.int p3), .val (.int p4), .val (.int p5), .val (.int ((1 : Int32) + (p0 &&& (63 : Int32)))), .val (.int ((1 : Int32) + ((XT.ushr p0 (6 : Int32)) &&& (63 : Int32)))), .val (.int ((1 : Int32) + ((XT.ushr p0 (12 : Int32)) &&& (63 : Int32)))), .val (.int (((XT.ushr p0 (18 : Int32)) &&& (3 : Int32)) - (((XT.ushr p0 (18 : Int32)) &&& (3 : Int32)) / (3 : Int32)) * (3 : Int32))), .val (.int ((XT.ushr p0 (20 : Int32)) &&& (3 : Int32))), .val (.int (1 : Int32)), .val (.int (p4 &&& (2147483647 : Int32))), .unset, .unset, .unset, .unset, .unset, .unset, .unset]) rfl k9) ?_
    exact J84 s₁ _ _ X0 rfl N0 hz0 ((1 : Int32) + (p0 &&& (63 : Int32))) ((1 : Int32) + ((XT.ushr p0 (6 : Int32)) &&& (63 : Int32))) ((1 : Int32) + ((XT.ushr p0 (12 : Int32)) &&& (63 : Int32))) (((XT.ushr p0 (18 : Int32)) &&& (3 : Int32)) - (((XT.ushr p0 (18 : Int32)) &&& (3 : Int32)) / (3 : Int32)) * (3 : Int32)) ((XT.ushr p0 (20 : Int32)) &&& (3 : Int32)) (p4 &&& (2147483647 : Int32)) _ (own_n _) (own_n _) (own_n _) (own_t3 _) (own_r3 _) (own_maskE _)
set_option maxRecDepth 65536 in
set_option maxHeartbeats 40000000 in
theorem comes_1 {Post : Tables → Env → Array Value → State → Outcome → State → Prop} (hpost : ∀ tb e args s v u, (limb_1_1.after args s (.returned v) u = true ∧ limb_1_2.after args s (.returned v) u = true) → FrameEnd s (.returned v) u (Jvm.fieldLocs frame_1_writes args s ++ Jvm.arrayLocs frame_1_arrays args s ++ Jvm.staticLocs frame_1_statics s) 24 128 → Post tb e args s (.returned v) u) :
    ArmFor flags0 classFile x code maxLocals ret World_1 tables_1 room_1 Calls_1 rest_1 Pre_1 Post := by
  intro l hfl _ _ p e ha hc hk s m args below hf hA hF happ hP
  obtain ⟨hcalls, hrest, hpre⟩ := hP
  obtain ⟨-, -, -, hnamed, -, -, -, hat⟩ := (Spec.applies_iff hf).mp happ
  obtain ⟨hg, hn⟩ := and_e (Cond.before_iff.mp (show (Jvm.Cond.and given_1 narrow_1).before args s = true from hpre))
  obtain ⟨ga1, gb1⟩ := and_e hg
  obtain ⟨ga2, gb2⟩ := and_e gb1
  obtain ⟨ga3, gb3⟩ := and_e gb2
  obtain ⟨ga4, gb4⟩ := and_e gb3
  obtain ⟨ga5, gb5⟩ := and_e gb4
  obtain ⟨ga6, gb6⟩ := and_e gb5
  obtain ⟨w0, w1, w2, w3, w4, w5, rfl⟩ : ∃ w0 w1 w2 w3 w4 w5 : Value, args = #[w0, w1, w2, w3, w4, w5] := by
    have hs : args.size = 6 := by simpa [Cond.value, given_1] using ga1
    obtain ⟨L⟩ := args
    match L, hs with
    | [w0, w1, w2, w3, w4, w5], _ => exact ⟨w0, w1, w2, w3, w4, w5, rfl⟩
  have hw := fun d (hd : d ∈ tables_1) => atoms_spec (ws := Jvm.Cond.code x code maxLocals ret :: tables_1) hat d (List.mem_cons_of_mem _ hd)
  obtain ⟨i0, ei0⟩ := is_v ga2
  obtain rfl : w0 = (.int i0) := Option.some.inj ei0
  obtain ⟨i1, ei1⟩ := is_v ga3
  obtain rfl : w1 = (.int i1) := Option.some.inj ei1
  obtain ⟨i2, ei2⟩ := is_v ga4
  obtain rfl : w2 = (.int i2) := Option.some.inj ei2
  obtain ⟨i3, ei3⟩ := is_v ga5
  obtain rfl : w3 = (.int i3) := Option.some.inj ei3
  obtain ⟨i4, ei4⟩ := is_v ga6
  obtain rfl : w4 = (.int i4) := Option.some.inj ei4
  obtain ⟨i5, ei5⟩ := is_v gb6
  obtain rfl : w5 = (.int i5) := Option.some.inj ei5
  obtain ⟨n, o, h1, h2, h3, _, L, rfl, ⟨rfl, N⟩, hq⟩ := rm0 l s _ hw tables_1 i0 i1 i2 i3 i4 i5 s.heap s.heap.size (Nat.le_refl _) p e ha hc hk s m _ below hf ((Spec.applies_iff_loose hf).mp happ).1 ⟨rfl, State.Warmed39.refl s, rfl⟩ trivial
  refine ⟨n, _, h1, h2, h3, hpost _ _ _ _ _ _ ⟨Cond.after_iff.mpr rfl, Cond.after_iff.mpr (eq_i res_at (Term.int_eval (1)) rfl)⟩ ⟨hq.1, hq.2.1, (hq.2.2.sift fun y hy => Or.inr (N y hy)).mono (by decide) (by decide)⟩⟩
theorem main_1_1 : Claimed_1_1 := comes_1 fun _ _ _ _ _ _ h hF => ⟨h.1, hF⟩
theorem main_1_2 : Claimed_1_2 := comes_1 fun _ _ _ _ _ _ h hF => ⟨h.2, hF⟩
end Jvm.Pilot.@@N@@
namespace Jvm.Pilot.@@N@@
open Jvm Jvm.ClassFile Sem Op Lib Jvm.Free Jvm.Stand Jvm.Pilot.@@N@@.Jvm.D
/-! MADE BY PROGRAM (witnessworld.py) out of the Statement's table words and the real class files: 11 classes; the members and pool entries that the words name. The judged class is class 1, her method 1. -/
namespace start1
open Jvm.ClassFile
def u (s : String) : CpInfo := .utf8 (stringToUtf16 s)
/-- a pool by its gaps: so many unusable entries, then the entry; so many at the end -/
def gap : Nat → List CpInfo → List CpInfo
  | 0, r => r
  | n + 1, r => .unusable :: gap n r
def poolList (es : List (Nat × CpInfo)) (last : Nat) : List CpInfo := es.foldr (fun e r => gap e.1 (e.2 :: r)) (gap last [])
def pool (es : List (Nat × CpInfo)) (last : Nat) : Array CpInfo := ⟨poolList es last⟩
def fileOf (pool : Array CpInfo) (this : Nat) (attrs : Array Attribute := #[]) (ms : Array MethodInfo := #[]) (fl : Nat := 33) (sup : Nat := 0) (ifs : Array Nat := #[]) (fds : Array FieldInfo := #[]) : ClassFile where
  minorVersion := 0
  majorVersion := 65
  constantPool := pool
  accessFlags := fl
  thisClass := this
  superClass := sup
  interfaces := ifs
  fields := fds
  methods := ms
  attributes := attrs
def plain (name : String) (sup : Option ClassId) : Class where
  name := name
  kind := .ordinary
  loader := none
  accessFlags := 33
  super := sup
  interfaces := #[]
  cf := none
  fields := #[]
  methods := #[]
  instanceTypes := #[]
  staticTypes := #[]
  resolved := #[]
  callSites := []
  init := .initialized
  statics := none
  mirror := none

def pool0 : Array CpInfo := pool [(5, u "<init>"), (0, u "()V"), (1, .class_ 10), (1, u "java/lang/Object"), (85, u "clone"), (0, u "()Ljava/lang/Object;")] 26

def k0c0 : Code := { maxStack := 0, maxLocals := 1, code := object_method_1_code, exceptionTable := #[], attributes := #[] }
def k0m0 : Method := { name := "<init>", desc := "()V", sig := { parameters := [], returnType := none }, accessFlags := 1, code := some k0c0 }
def k0m1 : Method := { name := "clone", desc := "()Ljava/lang/Object;", sig := { parameters := [], returnType := some (.object "java/lang/Object") }, accessFlags := 260, code := none }
/-- java/lang/Object -/
def k0 : Class := { plain "java/lang/Object" none with
  accessFlags := 33
  interfaces := #[]
  cf := some (fileOf pool0 8 #[] #[{ accessFlags := 1, nameIndex := 5, descriptorIndex := 6, attributes := #[] }, { accessFlags := 260, nameIndex := 96, descriptorIndex := 97, attributes := #[] }] 33 0 #[] #[])
  fields := #[]
  methods := #[k0m0, k0m1]
  instanceTypes := #[]
  staticTypes := #[]
  resolved := Array.replicate 124 none
  statics := none }

def pool1 : Array CpInfo := pool [(2, .class_ 4), (1, u "java/lang/Object"), (0, u "<init>"), (0, u "()V"), (0, .integer 2147483647), (0, .class_ 9), (0, u "com/example/isolens/isolens/checker/RowLayout"), (0, .methodref 8 11), (0, .nameAndType 5 12), (0, u "([III)V"), (0, .methodref 8 14), (0, .nameAndType 15 16), (0, u "clear"), (0, u "([II)V"), (0, .methodref 18 19), (0, .class_ 20), (0, .nameAndType 21 22), (0, u "com/example/isolens/isolens/checker/RowLayoutReachesPinLaw"), (0, u "put"), (0, u "(Lcom/example/isolens/isolens/checker/RowLayout;[IIIII)I"), (0, .methodref 8 24), (0, .nameAndType 25 26), (0, u "reaches"), (0, u "([IIII)Z"), (0, .methodref 8 28), (0, .nameAndType 29 30), (0, u "raise"), (0, u "([IIII)V"), (0, .methodref 32 33), (0, .class_ 34), (0, .nameAndType 35 36), (0, u "java/lang/Math"), (0, u "max"), (0, u "(II)I"), (2, u "law"), (0, u "(IIIIII)Z")] 5

def k1m0 : Method := { name := "<init>", desc := "()V", sig := { parameters := [], returnType := none }, accessFlags := 1, code := none }
def k1c1 : Code := { maxStack := 6, maxLocals := 20, code := code, exceptionTable := #[], attributes := #[] }
def k1m1 : Method := { name := "law", desc := "(IIIIII)Z", sig := { parameters := [.int, .int, .int, .int, .int, .int], returnType := some .boolean }, accessFlags := 9, code := some k1c1 }
def k1c2 : Code := { maxStack := 5, maxLocals := 7, code := method_3_code, exceptionTable := #[], attributes := #[] }
def k1m2 : Method := { name := "put", desc := "(Lcom/example/isolens/isolens/checker/RowLayout;[IIIII)I", sig := { parameters := [(.object "com/example/isolens/isolens/checker/RowLayout"), (.array .int), .int, .int, .int, .int], returnType := some .int }, accessFlags := 10, code := some k1c2 }
/-- com/example/isolens/isolens/checker/RowLayoutReachesPinLaw -/
def k1 : Class := { plain "com/example/isolens/isolens/checker/RowLayoutReachesPinLaw" (some 0) with
  accessFlags := 49
  interfaces := #[]
  cf := some (fileOf pool1 18 #[] #[{ accessFlags := 1, nameIndex := 5, descriptorIndex := 6, attributes := #[] }, { accessFlags := 9, nameIndex := 39, descriptorIndex := 40, attributes := #[] }, { accessFlags := 10, nameIndex := 21, descriptorIndex := 22, attributes := #[] }] 49 2 #[] #[])
  fields := #[]
  methods := #[k1m0, k1m1, k1m2]
  instanceTypes := #[]
  staticTypes := #[]
  resolved := Array.replicate 46 none
  statics := none }

def pool2 : Array CpInfo := pool [(3, .methodref 4 5), (0, .class_ 6), (0, .nameAndType 7 8), (0, u "java/lang/Object"), (0, u "<init>"), (0, u "()V"), (0, .fieldref 10 11), (0, .class_ 12), (0, .nameAndType 13 14), (0, u "com/example/isolens/isolens/checker/RowLayout"), (0, u "width"), (0, u "I"), (0, .methodref 16 17), (0, .class_ 18), (0, .nameAndType 19 20), (0, u "java/util/Arrays"), (0, u "copyOfRange"), (0, u "([III)[I"), (0, .fieldref 10 22), (0, .nameAndType 23 24), (0, u "places"), (0, u "[I"), (0, .fieldref 10 26), (0, .nameAndType 27 24), (0, u "at"), (0, .methodref 10 29), (0, .nameAndType 30 31), (0, u "placed"), (0, u "(JI)J"), (0, .fieldref 10 33), (0, .nameAndType 34 14), (0, u "bitSlots"), (0, .fieldref 10 36), (0, .nameAndType 37 14), (0, u "bitInts"), (0, .fieldref 10 39), (0, .nameAndType 40 24), (0, u "intSlots"), (0, .fieldref 10 42), (0, .nameAndType 43 14), (0, u "rowInts"), (0, .long 32), (3, u "([III)V"), (27, u "raise"), (0, u "([IIII)V"), (0, .methodref 79 80), (0, .class_ 81), (0, .nameAndType 82 83), (0, u "java/lang/Math"), (0, u "max"), (0, u "(II)I"), (0, .long 2), (3, u "clear"), (0, u "([II)V"), (0, .methodref 16 91), (0, .nameAndType 92 77), (0, u "fill"), (0, .methodref 10 94), (0, .nameAndType 95 89), (0, u "clearZeroed"), (23, u "MOST_BITS"), (12, u "reaches"), (0, u "([IIII)Z")] 10

def k2c0 : Code := { maxStack := 5, maxLocals := 8, code := prog_75_method_1_code, exceptionTable := #[], attributes := #[] }
def k2m0 : Method := { name := "<init>", desc := "([III)V", sig := { parameters := [(.array .int), .int, .int], returnType := none }, accessFlags := 0, code := some k2c0 }
def k2c1 : Code := { maxStack := 4, maxLocals := 5, code := prog_75_method_2_code, exceptionTable := #[], attributes := #[] }
def k2m1 : Method := { name := "placed", desc := "(JI)J", sig := { parameters := [.long, .int], returnType := some .long }, accessFlags := 10, code := some k2c1 }
def k2c2 : Code := { maxStack := 4, maxLocals := 6, code := prog_75_method_15_code, exceptionTable := #[], attributes := #[] }
def k2m2 : Method := { name := "reaches", desc := "([IIII)Z", sig := { parameters := [(.array .int), .int, .int, .int], returnType := some .boolean }, accessFlags := 0, code := some k2c2 }
def k2c3 : Code := { maxStack := 7, maxLocals := 6, code := prog_75_method_20_code, exceptionTable := #[], attributes := #[] }
def k2m3 : Method := { name := "raise", desc := "([IIII)V", sig := { parameters := [(.array .int), .int, .int, .int], returnType := none }, accessFlags := 0, code := some k2c3 }
def k2c4 : Code := { maxStack := 4, maxLocals := 3, code := prog_75_method_22_code, exceptionTable := #[], attributes := #[] }
def k2m4 : Method := { name := "clear", desc := "([II)V", sig := { parameters := [(.array .int), .int], returnType := none }, accessFlags := 0, code := some k2c4 }
def k2c5 : Code := { maxStack := 4, maxLocals := 3, code := prog_75_method_23_code, exceptionTable := #[], attributes := #[] }
def k2m5 : Method := { name := "clearZeroed", desc := "([II)V", sig := { parameters := [(.array .int), .int], returnType := none }, accessFlags := 0, code := some k2c5 }
/-- com/example/isolens/isolens/checker/RowLayout -/
def k2 : Class := { plain "com/example/isolens/isolens/checker/RowLayout" (some 0) with
  accessFlags := 48
  interfaces := #[]
  cf := some (fileOf pool2 10 #[] #[{ accessFlags := 0, nameIndex := 7, descriptorIndex := 48, attributes := #[] }, { accessFlags := 10, nameIndex := 30, descriptorIndex := 31, attributes := #[] }, { accessFlags := 0, nameIndex := 132, descriptorIndex := 133, attributes := #[] }, { accessFlags := 0, nameIndex := 76, descriptorIndex := 77, attributes := #[] }, { accessFlags := 0, nameIndex := 88, descriptorIndex := 89, attributes := #[] }, { accessFlags := 0, nameIndex := 95, descriptorIndex := 89, attributes := #[] }] 48 4 #[] #[{ accessFlags := 26, nameIndex := 119, descriptorIndex := 14, attributes := #[] }, { accessFlags := 18, nameIndex := 13, descriptorIndex := 14, attributes := #[] }, { accessFlags := 18, nameIndex := 23, descriptorIndex := 24, attributes := #[] }, { accessFlags := 18, nameIndex := 27, descriptorIndex := 24, attributes := #[] }, { accessFlags := 18, nameIndex := 37, descriptorIndex := 14, attributes := #[] }, { accessFlags := 18, nameIndex := 43, descriptorIndex := 14, attributes := #[] }, { accessFlags := 18, nameIndex := 34, descriptorIndex := 14, attributes := #[] }, { accessFlags := 18, nameIndex := 40, descriptorIndex := 24, attributes := #[] }])
  fields := #[{ name := "MOST_BITS", type := .int, accessFlags := 26, slot := 0, constantValue := 0 }, { name := "width", type := .int, accessFlags := 18, slot := 0, constantValue := 0 }, { name := "places", type := (.array .int), accessFlags := 18, slot := 1, constantValue := 0 }, { name := "at", type := (.array .int), accessFlags := 18, slot := 2, constantValue := 0 }, { name := "bitInts", type := .int, accessFlags := 18, slot := 3, constantValue := 0 }, { name := "rowInts", type := .int, accessFlags := 18, slot := 4, constantValue := 0 }, { name := "bitSlots", type := .int, accessFlags := 18, slot := 5, constantValue := 0 }, { name := "intSlots", type := (.array .int), accessFlags := 18, slot := 6, constantValue := 0 }]
  methods := #[k2m0, k2m1, k2m2, k2m3, k2m4, k2m5]
  instanceTypes := #[.int, (.array .int), (.array .int), .int, .int, .int, (.array .int)]
  staticTypes := #[.int]
  resolved := Array.replicate 144 none
  statics := none }

def pool3 : Array CpInfo := pool [(2, .class_ 4), (1, u "java/lang/Object"), (0, u "<init>"), (0, u "()V"), (5, u "([IIII)V"), (0, .methodref 14 15), (0, .class_ 16), (0, .nameAndType 17 18), (0, u "java/util/Arrays"), (0, u "rangeCheck"), (0, u "(III)V"), (55, .class_ 76), (1, u "java/util/Arrays$NaturalOrder"), (32, u "()Ljava/lang/Object;"), (3, .class_ 115), (1, u "java/util/Arrays$LegacyMergeSort"), (1, u "Z"), (10, .nameAndType 129 109), (0, u "clone"), (9, u "copyOfRange"), (176, .methodref 317 128), (0, .class_ 318), (0, u "[I"), (35, u "([III)[I"), (20, .class_ 376), (0, u "java/util/Arrays$ArrayList"), (68, u "$assertionsDisabled"), (269, u "MIN_ARRAY_SORT_GRAN"), (0, u "I"), (2, u "INSERTIONSORT_THRESHOLD"), (120, u "fill"), (134, .class_ 976), (0, u "java/util/Arrays$ArrayItr")] 52

def k3m0 : Method := { name := "<init>", desc := "()V", sig := { parameters := [], returnType := none }, accessFlags := 2, code := none }
def k3c1 : Code := { maxStack := 4, maxLocals := 3, code := jdk_65_method_30_code, exceptionTable := #[], attributes := #[] }
def k3m1 : Method := { name := "rangeCheck", desc := "(III)V", sig := { parameters := [.int, .int, .int], returnType := none }, accessFlags := 8, code := some k3c1 }
def k3c2 : Code := { maxStack := 3, maxLocals := 5, code := jdk_65_method_104_code, exceptionTable := #[], attributes := #[] }
def k3m2 : Method := { name := "fill", desc := "([IIII)V", sig := { parameters := [(.array .int), .int, .int, .int], returnType := none }, accessFlags := 9, code := some k3c2 }
def k3c3 : Code := { maxStack := 3, maxLocals := 3, code := jdk_65_method_136_code, exceptionTable := #[], attributes := #[] }
def k3m3 : Method := { name := "copyOfRange", desc := "([III)[I", sig := { parameters := [(.array .int), .int, .int], returnType := some (.array .int) }, accessFlags := 9, code := some k3c3 }
/-- java/util/Arrays -/
def k3 : Class := { plain "java/util/Arrays" (some 0) with
  accessFlags := 49
  interfaces := #[]
  cf := some (fileOf pool3 14 #[.nestMembers #[975, 375, 113, 74]] #[{ accessFlags := 2, nameIndex := 5, descriptorIndex := 6, attributes := #[] }, { accessFlags := 8, nameIndex := 17, descriptorIndex := 18, attributes := #[] }, { accessFlags := 9, nameIndex := 840, descriptorIndex := 12, attributes := #[] }, { accessFlags := 9, nameIndex := 139, descriptorIndex := 354, attributes := #[] }] 49 2 #[] #[{ accessFlags := 26, nameIndex := 715, descriptorIndex := 716, attributes := #[] }, { accessFlags := 26, nameIndex := 719, descriptorIndex := 716, attributes := #[] }, { accessFlags := 4120, nameIndex := 445, descriptorIndex := 117, attributes := #[] }])
  fields := #[{ name := "MIN_ARRAY_SORT_GRAN", type := .int, accessFlags := 26, slot := 0, constantValue := 0 }, { name := "INSERTIONSORT_THRESHOLD", type := .int, accessFlags := 26, slot := 1, constantValue := 0 }, { name := "$assertionsDisabled", type := .boolean, accessFlags := 4120, slot := 2, constantValue := 0 }]
  methods := #[k3m0, k3m1, k3m2, k3m3]
  instanceTypes := #[]
  staticTypes := #[.int, .int, .boolean]
  resolved := Array.replicate 1029 none
  statics := none }

def pool4 : Array CpInfo := pool [(1, .class_ 2), (0, u "java/lang/Cloneable"), (0, .class_ 4), (0, u "java/lang/Object")] 2

/-- java/lang/Cloneable -/
def k4 : Class := { plain "java/lang/Cloneable" (some 0) with
  accessFlags := 1537
  interfaces := #[]
  cf := some (fileOf pool4 1 #[] #[] 1537 3 #[] #[])
  fields := #[]
  methods := #[]
  instanceTypes := #[]
  staticTypes := #[]
  resolved := Array.replicate 7 none
  statics := none }

def pool5 : Array CpInfo := pool [(1, .class_ 2), (0, u "java/lang/Math"), (1, .class_ 6), (1, u "java/lang/Object"), (0, u "<init>"), (0, u "()V"), (89, .class_ 100), (1, u "java/lang/Math$RandomNumberGeneratorHolder"), (71, u "negativeZeroFloatBits"), (0, u "J"), (2, u "negativeZeroDoubleBits"), (21, u "max"), (46, u "$assertionsDisabled"), (0, u "Z"), (88, u "(II)I"), (2, u "twoToTheDoubleScaleDown"), (0, u "D"), (4, u "twoToTheDoubleScaleUp"), (9, u "E"), (3, u "PI"), (2, u "TAU"), (2, u "DEGREES_TO_RADIANS"), (0, u "RADIANS_TO_DEGREES")] 94

def k5m0 : Method := { name := "<init>", desc := "()V", sig := { parameters := [], returnType := none }, accessFlags := 2, code := none }
def k5c1 : Code := { maxStack := 2, maxLocals := 2, code := jdk_29_method_65_code, exceptionTable := #[], attributes := #[] }
def k5m1 : Method := { name := "max", desc := "(II)I", sig := { parameters := [.int, .int], returnType := some .int }, accessFlags := 9, code := some k5c1 }
/-- java/lang/Math -/
def k5 : Class := { plain "java/lang/Math" (some 0) with
  accessFlags := 49
  interfaces := #[]
  cf := some (fileOf pool5 1 #[.nestMembers #[98]] #[{ accessFlags := 2, nameIndex := 7, descriptorIndex := 8, attributes := #[] }, { accessFlags := 9, nameIndex := 198, descriptorIndex := 335, attributes := #[] }] 49 4 #[] #[{ accessFlags := 25, nameIndex := 354, descriptorIndex := 339, attributes := #[] }, { accessFlags := 25, nameIndex := 358, descriptorIndex := 339, attributes := #[] }, { accessFlags := 25, nameIndex := 361, descriptorIndex := 339, attributes := #[] }, { accessFlags := 26, nameIndex := 364, descriptorIndex := 339, attributes := #[] }, { accessFlags := 26, nameIndex := 365, descriptorIndex := 339, attributes := #[] }, { accessFlags := 26, nameIndex := 172, descriptorIndex := 173, attributes := #[] }, { accessFlags := 26, nameIndex := 176, descriptorIndex := 173, attributes := #[] }, { accessFlags := 8, nameIndex := 344, descriptorIndex := 339, attributes := #[] }, { accessFlags := 8, nameIndex := 338, descriptorIndex := 339, attributes := #[] }, { accessFlags := 4120, nameIndex := 245, descriptorIndex := 246, attributes := #[] }])
  fields := #[{ name := "E", type := .double, accessFlags := 25, slot := 0, constantValue := 0 }, { name := "PI", type := .double, accessFlags := 25, slot := 1, constantValue := 0 }, { name := "TAU", type := .double, accessFlags := 25, slot := 2, constantValue := 0 }, { name := "DEGREES_TO_RADIANS", type := .double, accessFlags := 26, slot := 3, constantValue := 0 }, { name := "RADIANS_TO_DEGREES", type := .double, accessFlags := 26, slot := 4, constantValue := 0 }, { name := "negativeZeroFloatBits", type := .long, accessFlags := 26, slot := 5, constantValue := 0 }, { name := "negativeZeroDoubleBits", type := .long, accessFlags := 26, slot := 6, constantValue := 0 }, { name := "twoToTheDoubleScaleUp", type := .double, accessFlags := 8, slot := 7, constantValue := 0 }, { name := "twoToTheDoubleScaleDown", type := .double, accessFlags := 8, slot := 8, constantValue := 0 }, { name := "$assertionsDisabled", type := .boolean, accessFlags := 4120, slot := 9, constantValue := 0 }]
  methods := #[k5m0, k5m1]
  instanceTypes := #[]
  staticTypes := #[.double, .double, .double, .double, .double, .long, .long, .double, .double, .boolean]
  resolved := Array.replicate 460 none
  statics := none }

def pool6 : Array CpInfo := pool [(1, u "java/io/Serializable"), (0, .class_ 1), (0, u "java/lang/Object"), (0, .class_ 3)] 3

/-- java/io/Serializable -/
def k6 : Class := { plain "java/io/Serializable" (some 0) with
  accessFlags := 1537
  interfaces := #[]
  cf := some (fileOf pool6 2 #[] #[] 1537 4 #[] #[])
  fields := #[]
  methods := #[]
  instanceTypes := #[]
  staticTypes := #[]
  resolved := Array.replicate 8 none
  statics := none }

/-- the primitive byte -/
def k7 : Class := { plain "byte" none with kind := .primitive 'B', accessFlags := 0x411 }
/-- [B -/
def k8 : Class := { plain "[B" (some 0) with kind := .array 7 .byte, interfaces := #[4, 6], accessFlags := 1041 }

/-- the primitive int -/
def k9 : Class := { plain "int" none with kind := .primitive 'I', accessFlags := 0x411 }
/-- [I -/
def k10 : Class := { plain "[I" (some 0) with kind := .array 9 .int, interfaces := #[4, 6], accessFlags := 1041 }

def heap : Heap := #[]
def classes : Array Class := #[k0, k1, k2, k3, k4, k5, k6, k7, k8, k9, k10]
def interned : List (Array UInt16 × Addr) := []
def slotsUsed : Nat := 0
def theMethod : MethodId := ⟨1, 1⟩
def args0 : Array Value := #[.int 5, .int 3, .int 7, .int 1, .int 4, .int 9]
def aboutOver (below : List Frame) : State where
  vm := { classes := classes, interned := interned.toArray }
  heap := heap
  slotsUsed := slotsUsed
  threads := #[{ frames := .invoking theMethod args0 :: below }]
def below0 : List Frame := [.native { method := ⟨0, 0⟩, args := #[] }]
def about1 : State := aboutOver below0
def p0 : Program := .bare "" "" ""
def e0 : Env := launch0.env 0 0 0
theorem w_frames : about1.frames = Frame.invoking theMethod args0 :: below0 := rfl
set_option maxRecDepth 65536 in
theorem w_args : argsFit about1.vm theMethod args0 = true := by decide +kernel
set_option maxRecDepth 65536 in
theorem w_heap : heapFits about1 = true := by decide +kernel
set_option maxRecDepth 65536 in
theorem w_runnable : about1.curStatus? = some .runnable := by decide +kernel
set_option maxRecDepth 65536 in
theorem w_alone : about1.alone = true := by decide +kernel
set_option maxRecDepth 65536 in
theorem w_named : about1.methodNamed? x = some theMethod := by decide +kernel
set_option maxRecDepth 65536 in
theorem w_hears : about1.hears theMethod below0 = true := by decide +kernel
set_option maxRecDepth 65536 in
theorem w_ripe : about1.ripe theMethod args0 below0 = true := by decide +kernel
theorem w_running : about1.status = .running := rfl
set_option maxRecDepth 65536 in
theorem w_room : about1.hasRoom e0.platform room_1 = true :=
  launch0.hasRoom_least _ room_1 (by decide +kernel) (by decide +kernel) (by decide +kernel) (by decide +kernel) (by decide +kernel) (by decide +kernel)
theorem allAtoms_all (ts : List Jvm.Cond) (a : Array Jvm.Value) (st : Jvm.State) : (allAtoms ts).before a st = ts.all (fun c => c.before a st) := by
  induction ts with
  | nil => rfl
  | cons c t ih =>
    show (Jvm.Cond.and c (allAtoms t)).before a st = _
    rw [Jvm.Cond.before_and, ih, List.all_cons]
def words1 : List Jvm.Cond := Jvm.Cond.code x code maxLocals ret :: tables_1
/-- a 'code' word, met by the world's own term for the bytes: nothing is compared byte by byte -/
theorem code_word {y : MethodName} {bytes : ByteArray} {mx : Nat} {rt : Option FieldType} {a : Array Value} {s : State} {m : MethodId} {meth : Method} {c : Code} (h1 : s.methodNamed? y = some m) (h2 : s.vm.method? m = some meth) (h3 : meth.code = some c) (h4 : c.code = bytes)
    (h5 : (c.maxLocals == mx && c.exceptionTable.isEmpty && decide (c.maxStack ≤ mostOperands) && decide (meth.sig.returnType = rt) && !meth.locks && decide (parseMethodDescriptor y.desc = some meth.sig)) = true) : (Jvm.Cond.code y bytes mx rt).before a s = true := by
  simp only [Bool.and_eq_true, beq_iff_eq, Bool.not_eq_true', decide_eq_true_eq] at h5
  obtain ⟨⟨⟨⟨⟨g1, g2⟩, g3⟩, g4⟩, g5⟩, g6⟩ := h5
  simp [Cond.before, Cond.holds, Cond.value, h1, h2, h3, h4, g1, g2, g3, g4, g5, g6]
def isCode : Jvm.Cond → Bool
  | .code _ _ _ _ => true
  | _ => false
theorem all_split {L : List Jvm.Cond} {P : Jvm.Cond → Bool} (h1 : L.all (fun c => isCode c || P c) = true) (h2 : ∀ c ∈ L.filter isCode, P c = true) : L.all P = true := by
  refine List.all_eq_true.mpr fun c hc => ?_
  have h := List.all_eq_true.mp h1 c hc
  rcases Bool.eq_false_or_eq_true (isCode c) with hi | hi
  · exact h2 c (List.mem_filter.mpr ⟨hc, hi⟩)
  · simpa [hi] using h
set_option maxRecDepth 65536 in
theorem w_c0 : (Jvm.Cond.code x code maxLocals ret).before args0 about1 = true := code_word (m := ⟨1, 1⟩) (meth := k1m1) (c := k1c1) (by decide +kernel) rfl rfl rfl (by decide +kernel)
set_option maxRecDepth 65536 in
theorem w_c1 : (Jvm.Cond.code ({ cls := "com/example/isolens/isolens/checker/RowLayout", name := "<init>", desc := "([III)V" } : Jvm.MethodName) prog_75_method_1_code (8 : Nat) (Option.none : Option Jvm.ClassFile.FieldType)).before args0 about1 = true := code_word (m := ⟨2, 0⟩) (meth := k2m0) (c := k2c0) (by decide +kernel) rfl rfl rfl (by decide +kernel)
set_option maxRecDepth 65536 in
theorem w_c2 : (Jvm.Cond.code ({ cls := "java/lang/Object", name := "<init>", desc := "()V" } : Jvm.MethodName) object_method_1_code (1 : Nat) (Option.none : Option Jvm.ClassFile.FieldType)).before args0 about1 = true := code_word (m := ⟨0, 0⟩) (meth := k0m0) (c := k0c0) (by decide +kernel) rfl rfl rfl (by decide +kernel)
set_option maxRecDepth 65536 in
theorem w_c3 : (Jvm.Cond.code ({ cls := "java/util/Arrays", name := "copyOfRange", desc := "([III)[I" } : Jvm.MethodName) jdk_65_method_136_code (3 : Nat) (Option.some (Jvm.ClassFile.FieldType.array Jvm.ClassFile.FieldType.int))).before args0 about1 = true := code_word (m := ⟨3, 3⟩) (meth := k3m3) (c := k3c3) (by decide +kernel) rfl rfl rfl (by decide +kernel)
set_option maxRecDepth 65536 in
theorem w_c4 : (Jvm.Cond.code ({ cls := "com/example/isolens/isolens/checker/RowLayout", name := "placed", desc := "(JI)J" } : Jvm.MethodName) prog_75_method_2_code (5 : Nat) (Option.some Jvm.ClassFile.FieldType.long)).before args0 about1 = true := code_word (m := ⟨2, 1⟩) (meth := k2m1) (c := k2c1) (by decide +kernel) rfl rfl rfl (by decide +kernel)
set_option maxRecDepth 65536 in
theorem w_c5 : (Jvm.Cond.code ({ cls := "com/example/isolens/isolens/checker/RowLayout", name := "clear", desc := "([II)V" } : Jvm.MethodName) prog_75_method_22_code (3 : Nat) (Option.none : Option Jvm.ClassFile.FieldType)).before args0 about1 = true := code_word (m := ⟨2, 4⟩) (meth := k2m4) (c := k2c4) (by decide +kernel) rfl rfl rfl (by decide +kernel)
set_option maxRecDepth 65536 in
theorem w_c6 : (Jvm.Cond.code ({ cls := "java/util/Arrays", name := "fill", desc := "([IIII)V" } : Jvm.MethodName) jdk_65_method_104_code (5 : Nat) (Option.none : Option Jvm.ClassFile.FieldType)).before args0 about1 = true := code_word (m := ⟨3, 2⟩) (meth := k3m2) (c := k3c2) (by decide +kernel) rfl rfl rfl (by decide +kernel)
set_option maxRecDepth 65536 in
theorem w_c7 : (Jvm.Cond.code ({ cls := "java/util/Arrays", name := "rangeCheck", desc := "(III)V" } : Jvm.MethodName) jdk_65_method_30_code (3 : Nat) (Option.none : Option Jvm.ClassFile.FieldType)).before args0 about1 = true := code_word (m := ⟨3, 1⟩) (meth := k3m1) (c := k3c1) (by decide +kernel) rfl rfl rfl (by decide +kernel)
set_option maxRecDepth 65536 in
theorem w_c8 : (Jvm.Cond.code ({ cls := "com/example/isolens/isolens/checker/RowLayout", name := "clearZeroed", desc := "([II)V" } : Jvm.MethodName) prog_75_method_23_code (3 : Nat) (Option.none : Option Jvm.ClassFile.FieldType)).before args0 about1 = true := code_word (m := ⟨2, 5⟩) (meth := k2m5) (c := k2c5) (by decide +kernel) rfl rfl rfl (by decide +kernel)
set_option maxRecDepth 65536 in
theorem w_c9 : (Jvm.Cond.code ({ cls := "com/example/isolens/isolens/checker/RowLayoutReachesPinLaw", name := "put", desc := "(Lcom/example/isolens/isolens/checker/RowLayout;[IIIII)I" } : Jvm.MethodName) method_3_code (7 : Nat) (Option.some Jvm.ClassFile.FieldType.int)).before args0 about1 = true := code_word (m := ⟨1, 2⟩) (meth := k1m2) (c := k1c2) (by decide +kernel) rfl rfl rfl (by decide +kernel)
set_option maxRecDepth 65536 in
theorem w_c10 : (Jvm.Cond.code ({ cls := "com/example/isolens/isolens/checker/RowLayout", name := "raise", desc := "([IIII)V" } : Jvm.MethodName) prog_75_method_20_code (6 : Nat) (Option.none : Option Jvm.ClassFile.FieldType)).before args0 about1 = true := code_word (m := ⟨2, 3⟩) (meth := k2m3) (c := k2c3) (by decide +kernel) rfl rfl rfl (by decide +kernel)
set_option maxRecDepth 65536 in
theorem w_c11 : (Jvm.Cond.code ({ cls := "com/example/isolens/isolens/checker/RowLayout", name := "reaches", desc := "([IIII)Z" } : Jvm.MethodName) prog_75_method_15_code (6 : Nat) (Option.some Jvm.ClassFile.FieldType.boolean)).before args0 about1 = true := code_word (m := ⟨2, 2⟩) (meth := k2m2) (c := k2c2) (by decide +kernel) rfl rfl rfl (by decide +kernel)
set_option maxRecDepth 65536 in
theorem w_c12 : (Jvm.Cond.code ({ cls := "java/lang/Math", name := "max", desc := "(II)I" } : Jvm.MethodName) jdk_29_method_65_code (2 : Nat) (Option.some Jvm.ClassFile.FieldType.int)).before args0 about1 = true := code_word (m := ⟨5, 1⟩) (meth := k5m1) (c := k5c1) (by decide +kernel) rfl rfl rfl (by decide +kernel)
def codes1 : List Jvm.Cond := [Jvm.Cond.code x code maxLocals ret, Jvm.Cond.code ({ cls := "com/example/isolens/isolens/checker/RowLayout", name := "<init>", desc := "([III)V" } : Jvm.MethodName) prog_75_method_1_code (8 : Nat) (Option.none : Option Jvm.ClassFile.FieldType), Jvm.Cond.code ({ cls := "java/lang/Object", name := "<init>", desc := "()V" } : Jvm.MethodName) object_method_1_code (1 : Nat) (Option.none : Option Jvm.ClassFile.FieldType), Jvm.Cond.code ({ cls := "java/util/Arrays", name := "copyOfRange", desc := "([III)[I" } : Jvm.MethodName) jdk_65_method_136_code (3 : Nat) (Option.some (Jvm.ClassFile.FieldType.array Jvm.ClassFile.FieldType.int)), Jvm.Cond.code ({ cls := "com/example/isolens/isolens/checker/RowLayout", name := "placed", desc := "(JI)J" } : Jvm.MethodName) prog_75_method_2_code (5 : Nat) (Option.some Jvm.ClassFile.FieldType.long), Jvm.Cond.code ({ cls := "com/example/isolens/isolens/checker/RowLayout", name := "clear", desc := "([II)V" } : Jvm.MethodName) prog_75_method_22_code (3 : Nat) (Option.none : Option Jvm.ClassFile.FieldType), Jvm.Cond.code ({ cls := "java/util/Arrays", name := "fill", desc := "([IIII)V" } : Jvm.MethodName) jdk_65_method_104_code (5 : Nat) (Option.none : Option Jvm.ClassFile.FieldType), Jvm.Cond.code ({ cls := "java/util/Arrays", name := "rangeCheck", desc := "(III)V" } : Jvm.MethodName) jdk_65_method_30_code (3 : Nat) (Option.none : Option Jvm.ClassFile.FieldType), Jvm.Cond.code ({ cls := "com/example/isolens/isolens/checker/RowLayout", name := "clearZeroed", desc := "([II)V" } : Jvm.MethodName) prog_75_method_23_code (3 : Nat) (Option.none : Option Jvm.ClassFile.FieldType), Jvm.Cond.code ({ cls := "com/example/isolens/isolens/checker/RowLayoutReachesPinLaw", name := "put", desc := "(Lcom/example/isolens/isolens/checker/RowLayout;[IIIII)I" } : Jvm.MethodName) method_3_code (7 : Nat) (Option.some Jvm.ClassFile.FieldType.int), Jvm.Cond.code ({ cls := "com/example/isolens/isolens/checker/RowLayout", name := "raise", desc := "([IIII)V" } : Jvm.MethodName) prog_75_method_20_code (6 : Nat) (Option.none : Option Jvm.ClassFile.FieldType), Jvm.Cond.code ({ cls := "com/example/isolens/isolens/checker/RowLayout", name := "reaches", desc := "([IIII)Z" } : Jvm.MethodName) prog_75_method_15_code (6 : Nat) (Option.some Jvm.ClassFile.FieldType.boolean), Jvm.Cond.code ({ cls := "java/lang/Math", name := "max", desc := "(II)I" } : Jvm.MethodName) jdk_29_method_65_code (2 : Nat) (Option.some Jvm.ClassFile.FieldType.int)]
set_option maxRecDepth 65536 in
theorem codes_eq : words1.filter isCode = codes1 := rfl
theorem w_codes : ∀ c ∈ words1.filter isCode, c.before args0 about1 = true := by
  rw [codes_eq]
  intro c hc
  simp only [codes1, List.mem_cons, List.not_mem_nil, or_false] at hc
  rcases hc with rfl | rfl | rfl | rfl | rfl | rfl | rfl | rfl | rfl | rfl | rfl | rfl | rfl
  · exact w_c0
  · exact w_c1
  · exact w_c2
  · exact w_c3
  · exact w_c4
  · exact w_c5
  · exact w_c6
  · exact w_c7
  · exact w_c8
  · exact w_c9
  · exact w_c10
  · exact w_c11
  · exact w_c12
set_option maxRecDepth 65536 in
theorem w_t1 : (words1.take 24).all (fun c => isCode c || c.before args0 about1) = true := by decide +kernel
set_option maxRecDepth 65536 in
theorem w_t2 : ((words1.drop 24).take 24).all (fun c => isCode c || c.before args0 about1) = true := by decide +kernel
set_option maxRecDepth 65536 in
theorem w_t3 : (((words1.drop 24).drop 24).take 24).all (fun c => isCode c || c.before args0 about1) = true := by decide +kernel
set_option maxRecDepth 65536 in
theorem w_t4 : (((words1.drop 24).drop 24).drop 24).all (fun c => isCode c || c.before args0 about1) = true := by decide +kernel
theorem w_tables : (allAtoms (Jvm.Cond.code x code maxLocals ret :: tables_1)).before args0 about1 = true := by
  rw [allAtoms_all]
  show words1.all (fun c => c.before args0 about1) = true
  refine all_split ?_ w_codes
  rw [← List.take_append_drop 24 words1, List.all_append, w_t1, ← List.take_append_drop 24 (words1.drop 24), List.all_append, w_t2, ← List.take_append_drop 24 ((words1.drop 24).drop 24), List.all_append, w_t3, w_t4]
  rfl
set_option maxRecDepth 65536 in
theorem w_case : (Jvm.Cond.and given_1 narrow_1).before args0 about1 = true := by decide +kernel
theorem w_applies : (headSpec (Jvm.Cond.code x code maxLocals ret :: tables_1) room_1).applies x e0.platform about1 = true :=
  (Spec.applies_iff w_frames).mpr ⟨w_running, w_runnable, w_alone, w_named, w_hears, w_ripe, w_room, w_tables⟩
theorem atStart : AtStart classFile x code maxLocals ret World_1 tables_1 room_1 Calls_1 rest_1 Pre_1 launch0 p0 e0 about1 theMethod args0 below0 :=
  ⟨lists_1, trivial, launch0.admits_env _ _ _, launch0.least_env, fairChoices_fair.cas, fairChoices_fair.clock, w_frames, w_args, w_heap, w_applies, trivial, trivial, w_case⟩
end start1
theorem witness_1 : WitnessClaimed_1 := ⟨start1.p0, start1.e0, start1.about1, start1.theMethod, start1.args0, start1.below0, start1.atStart⟩
end Jvm.Pilot.@@N@@
