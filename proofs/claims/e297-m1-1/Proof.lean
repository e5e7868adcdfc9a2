import JvmDerived
import JvmDerived.Pilot.@@N@@Statement
import JvmDerived.Pilot.@@N@@Code
set_option linter.unusedVariables false
set_option linter.unusedSimpArgs false
namespace Jvm.Pilot.@@N@@
open Jvm Jvm.ClassFile Sem Op Lib Jvm.Free Jvm.Stand Jvm.LawKit Jvm.RoadKit Bundle Jvm.Pilot.@@N@@.Jvm.D
/-! the goal of a walk: from the state a the run comes to an end that F allows -/
def Go (tb : Tables) (e : Env) (below : List Frame) (F : State → Outcome → Prop) (a : State) : Prop := ∃ s₂ o, Steps tb e below a s₂ ∧ s₂.status = .running ∧ Ended s₂ below o ∧ F s₂ o
theorem Go.by {tb : Tables} {e : Env} {below : List Frame} {F : State → Outcome → Prop} {a b : State} (h : ∀ t, Steps tb e below b t → Steps tb e below a t) (k : Go tb e below F b) : Go tb e below F a := by
  obtain ⟨s₂, o, h1, h2⟩ := k
  exact ⟨s₂, o, h _ h1, h2⟩
theorem Go.tr {tb : Tables} {e : Env} {below : List Frame} {F : State → Outcome → Prop} {a b : State} (h : Steps tb e below a b) (k : Go tb e below F b) : Go tb e below F a := Go.by (fun _ q => h.trans q) k
section Ret
variable {p : Program} {l : Launch} {e : Env} {R : Room} {s : State} {m : MethodId} {args : Array Value} {below : List Frame} {meth : Method} {c : Code} {T : State} {locs : List Loc} {cells slots rc rs pc : Nat} {Ls : Array Slot} {rest : List Value} {Q : Option Value → Heap → List Loc → Prop}
theorem Go.retZ {z : Int32} (X : Stand p l e R s m args below meth c T locs cells slots) (hx : p.tables.exec = Jvm.exec) (hlk : meth.locks = false) (hret : meth.sig.returnType = some .boolean) (hd : decode c.code pc = .ok (.ireturn, 1)) (hQ : Q (some (.int (nar .boolean z))) T.heap locs) (hc : cells ≤ rc) (hs : slots ≤ rs) :
    Go p.tables e below (fun t o => ∃ v L, o = .returned v ∧ Q v t.heap L ∧ FrameEnd s o t L rc rs) (T.setTop (mkF m pc Ls (.int z :: rest))) := by
  obtain ⟨fs, hr, hrun, hended, hW, hsame⟩ := X.leave (v := some (.int (nar .boolean z))) (fun h => by rw [hret] at h; cases h) hlk
  exact ⟨_, _, retN X hx (t := .boolean) hret (by simp) hd hr, hrun, hended, _, _, rfl, hQ, ⟨_, rfl⟩, hW, hsame.mono hc hs⟩
theorem Go.retI {z : Int32} (X : Stand p l e R s m args below meth c T locs cells slots) (hx : p.tables.exec = Jvm.exec) (hlk : meth.locks = false) (hret : meth.sig.returnType = some .int) (hd : decode c.code pc = .ok (.ireturn, 1)) (hQ : Q (some (.int z)) T.heap locs) (hc : cells ≤ rc) (hs : slots ≤ rs) :
    Go p.tables e below (fun t o => ∃ v L, o = .returned v ∧ Q v t.heap L ∧ FrameEnd s o t L rc rs) (T.setTop (mkF m pc Ls (.int z :: rest))) := by
  obtain ⟨fs, hr, hrun, hended, hW, hsame⟩ := X.leave (v := some (.int z)) (fun h => by rw [hret] at h; cases h) hlk
  exact ⟨_, _, retOut X hx (t := .int) (i := .ireturn) hret rfl (Or.inl ⟨rfl, Or.inl rfl, _, rfl⟩) hd hr, hrun, hended, _, _, rfl, hQ, ⟨_, rfl⟩, hW, hsame.mono hc hs⟩
theorem Go.retJ {z : Int64} (X : Stand p l e R s m args below meth c T locs cells slots) (hx : p.tables.exec = Jvm.exec) (hlk : meth.locks = false) (hret : meth.sig.returnType = some .long) (hd : decode c.code pc = .ok (.lreturn, 1)) (hQ : Q (some (.long z)) T.heap locs) (hc : cells ≤ rc) (hs : slots ≤ rs) :
    Go p.tables e below (fun t o => ∃ v L, o = .returned v ∧ Q v t.heap L ∧ FrameEnd s o t L rc rs) (T.setTop (mkF m pc Ls (.long z :: rest))) := by
  obtain ⟨fs, hr, hrun, hended, hW, hsame⟩ := X.leave (v := some (.long z)) (fun h => by rw [hret] at h; cases h) hlk
  exact ⟨_, _, retOut X hx (t := .long) (i := .lreturn) hret rfl (Or.inr (Or.inl ⟨rfl, rfl, _, rfl⟩)) hd hr, hrun, hended, _, _, rfl, hQ, ⟨_, rfl⟩, hW, hsame.mono hc hs⟩
theorem Go.retV (X : Stand p l e R s m args below meth c T locs cells slots) (hx : p.tables.exec = Jvm.exec) (hlk : meth.locks = false) (hret : meth.sig.returnType = none) (hd : decode c.code pc = .ok (.return_, 1)) (hQ : Q none T.heap locs) (hc : cells ≤ rc) (hs : slots ≤ rs) :
    Go p.tables e below (fun t o => ∃ v L, o = .returned v ∧ Q v t.heap L ∧ FrameEnd s o t L rc rs) (T.setTop (mkF m pc Ls [])) := by
  obtain ⟨fs, hr, hrun, hended, hW, hsame⟩ := X.leave (v := none) (fun _ => rfl) hlk
  exact ⟨_, _, X.returnOut hx hret hd hr, hrun, hended, _, _, rfl, hQ, ⟨_, rfl⟩, hW, hsame.mono hc hs⟩
end Ret
section Calls
variable {p : Program} {l : Launch} {e : Env} {R : Room} {s : State} {m : MethodId} {args : Array Value} {below : List Frame} {meth : Method} {c : Code} {T : State} {locs : List Loc} {cells slots n0 : Nat} {Z : State} {a0 : Array Value} {h : Heap} {F : State → Outcome → Prop} {fr : JFrame} {own C : String} {index W maxL : Nat} {y : MethodName} {bytes : ByteArray} {ret : Option FieldType} {rm : Room} {as' : Array Value} {Q : Option Value → Heap → List Loc → Prop} {argsL rest : List Value}
/-! the three calls by a contract, with what the contract says handed on -/
theorem Go.callS (X : Stand p l e R s m args below meth c T locs cells slots) (hx : p.tables.exec = Jvm.exec) (hZ : Z.Warmed39 s.vm) (hown : s.vm.findClass own = some m.cls) (wl : (Cond.methodLink own index y).before a0 Z = true) (ws : (Cond.static y).before a0 Z = true) (wi : (Cond.initialized y.cls).before a0 Z = true) (wc : (Cond.code y bytes maxL ret).before a0 Z = true) (hy : y.cls ≠ "java/lang/invoke/MethodHandle" ∧ y.cls ≠ "java/lang/invoke/VarHandle")
    (W : Nat) (hM : MetFree l y (head1 [Cond.code y bytes maxL ret] rm) (fun a U => a = as' ∧ Z.Warmed39 U.vm ∧ U.heap = h) (fun _ _ _ _ _ => True) (fun _ U o U' => ∃ v L, o = .returned v ∧ Q v U'.heap L ∧ FrameEnd U o U' L rm.cells rm.slots)) (r0 : Option Value) (Qr : Heap → Prop) (hq : ∀ v h L, Q v h L → v = r0 ∧ Fr n0 L ∧ Qr h)
    (hf : rm.frames + 1 ≤ R.frames) (hl : W + (maxL + 11) + rm.locals ≤ R.locals) (eT : T.heap = h) (N : Fr n0 locs) (hg : fr.method = m) (hsize : fr.locals.size = c.maxLocals) (has : argsL.toArray = as') (hlen : ∀ sig, parseMethodDescriptor y.desc = some sig → argsL.length = sig.parameters.length) (hstack : fr.stack = argsL.reverse ++ rest) (hW : 2 * fr.monitorRoom + (rest.map fun v => v.category).sum ≤ W) (hd : decode c.code fr.pc = .ok (.invokestatic index, 3)) (hc : cells + rm.cells ≤ R.cells) (hs : slots + rm.slots ≤ R.slots)
    (kk : ∀ (T' : State) (locs' : List Loc), Stand p l e R s m args below meth c T' locs' (cells + rm.cells) (slots + rm.slots) → Fr n0 locs' → Qr T'.heap → Go p.tables e below F (T'.setTop { fr with pc := fr.pc + 3, stack := r0.toList ++ rest })) : Go p.tables e below F (T.setTop fr) := by
  obtain ⟨v, vm₁, ⟨T', L', k', n'⟩, -, X', ⟨Lc, hQ, e1, e2, e3⟩, st⟩ := Jvm.LawKit.callS X hx (y := y) hown (mvT hZ wl) (mvT hZ ws) (mvT hZ wi) (mvT hZ wc) hy (backOf (W := W) hM hZ wc wi hf hl) (g := fr) hg hsize (argsL := argsL) (rest := rest) hlen hstack hW hd (fun _ _ => ⟨has, eT, hc, hs⟩)
  dsimp only [Pt.U, Pt.locs, Pt.cells, Pt.slots] at X' e1 e2 e3 st hQ
  subst e1 e2 e3
  obtain ⟨rfl, Nq, q⟩ := hq _ _ _ hQ
  exact Go.by st (kk T' _ X' (Fr.app N Nq) q)
theorem Go.callV (X : Stand p l e R s m args below meth c T locs cells slots) (hx : p.tables.exec = Jvm.exec) (hZ : Z.Warmed39 s.vm) (hown : s.vm.findClass own = some m.cls) (wl : (Cond.methodLink own index y).before a0 Z = true) (wd : (Cond.declares y).before a0 Z = true) (wn : (Cond.instanceMethod y).before a0 Z = true) (wsel : (Cond.selects y.cls y y).before a0 Z = true) (wc : (Cond.code y bytes maxL ret).before a0 Z = true) (wi : (Cond.initialized y.cls).before a0 Z = true) (hy : y.cls ≠ "java/lang/invoke/MethodHandle" ∧ y.cls ≠ "java/lang/invoke/VarHandle")
    (W : Nat) (hM : MetFree l y (head1 [Cond.code y bytes maxL ret] rm) (fun a U => a = as' ∧ Z.Warmed39 U.vm ∧ U.heap = h) (fun _ _ _ _ _ => True) (fun _ U o U' => ∃ v L, o = .returned v ∧ Q v U'.heap L ∧ FrameEnd U o U' L rm.cells rm.slots)) (r0 : Option Value) (Qr : Heap → Prop) (hq : ∀ v h L, Q v h L → v = r0 ∧ Fr n0 L ∧ Qr h)
    (hf : rm.frames + 1 ≤ R.frames) (hl : W + (maxL + 11) + rm.locals ≤ R.locals) (eT : T.heap = h) {b : Addr} (E : Exa Z h b y.cls) (N : Fr n0 locs) (hg : fr.method = m) (hsize : fr.locals.size = c.maxLocals) (has : (.ref b :: argsL).toArray = as') (hlen : ∀ sig, parseMethodDescriptor y.desc = some sig → argsL.length = sig.parameters.length) (hstack : fr.stack = argsL.reverse ++ .ref b :: rest) (hW : 2 * fr.monitorRoom + (rest.map fun v => v.category).sum ≤ W) (hd : decode c.code fr.pc = .ok (.invokevirtual index, 3)) (hc : cells + rm.cells ≤ R.cells) (hs : slots + rm.slots ≤ R.slots)
    (kk : ∀ (T' : State) (locs' : List Loc), Stand p l e R s m args below meth c T' locs' (cells + rm.cells) (slots + rm.slots) → Fr n0 locs' → Qr T'.heap → Go p.tables e below F (T'.setTop { fr with pc := fr.pc + 3, stack := r0.toList ++ rest })) : Go p.tables e below F (T.setTop fr) := by
  obtain ⟨cq, kq, qa, qb, qc⟩ := isOf hZ eT E
  obtain ⟨v, vm₁, ⟨T', L', k', n'⟩, -, X', ⟨Lc, hQ, e1, e2, e3⟩, st⟩ := X.virtualBack hx (y := y) (z := y) hown (mvT hZ wl) (mvT hZ wd) (notFace_of_selects (args := #[]) (mvT hZ wsel)) (mvT hZ wsel) (mvT hZ wn) hy (backOf (W := W) hM hZ wc wi hf hl) qa qc (g := fr) hg hsize (Steps.refl _) (argsL := argsL) (rest := rest) hlen hstack hW hd (fun _ _ => ⟨has, eT, hc, hs⟩)
  dsimp only [Pt.U, Pt.locs, Pt.cells, Pt.slots] at X' e1 e2 e3 st hQ
  subst e1 e2 e3
  obtain ⟨rfl, Nq, q⟩ := hq _ _ _ hQ
  exact Go.tr st (kk T' _ X' (Fr.app N Nq) q)
theorem Go.callI (X : Stand p l e R s m args below meth c T locs cells slots) (hx : p.tables.exec = Jvm.exec) (hZ : Z.Warmed39 s.vm) (hy1 : y.name = "<init>") (hown : s.vm.findClass own = some m.cls) (wl : (Cond.methodLink own index y).before a0 Z = true) (wn : (Cond.instanceMethod y).before a0 Z = true) (wc : (Cond.code y bytes maxL none).before a0 Z = true) (wi : (Cond.initialized y.cls).before a0 Z = true) (hy : y.cls ≠ "java/lang/invoke/MethodHandle" ∧ y.cls ≠ "java/lang/invoke/VarHandle")
    (W : Nat) (hM : MetFree l y (head1 [Cond.code y bytes maxL none] rm) (fun a U => a = as' ∧ Z.Warmed39 U.vm ∧ U.heap = h) (fun _ _ _ _ _ => True) (fun _ U o U' => ∃ v L, o = .returned v ∧ Q v U'.heap L ∧ FrameEnd U o U' L rm.cells rm.slots)) (r0 : Option Value) (Qr : Heap → Prop) (hq : ∀ v h L, Q v h L → v = r0 ∧ Fr n0 L ∧ Qr h)
    (hf : rm.frames + 1 ≤ R.frames) (hl : W + (maxL + 11) + rm.locals ≤ R.locals) (eT : T.heap = h) {b : Addr} (N : Fr n0 locs) (hg : fr.method = m) (hsize : fr.locals.size = c.maxLocals) (has : (.ref b :: argsL).toArray = as') (hlen : ∀ sig, parseMethodDescriptor y.desc = some sig → argsL.length = sig.parameters.length) (hstack : fr.stack = argsL.reverse ++ .ref b :: rest) (hW : 2 * fr.monitorRoom + (rest.map fun v => v.category).sum ≤ W) (hd : decode c.code fr.pc = .ok (.invokespecial index, 3)) (hc : cells + rm.cells ≤ R.cells) (hs : slots + rm.slots ≤ R.slots)
    (kk : ∀ (T' : State) (locs' : List Loc), Stand p l e R s m args below meth c T' locs' (cells + rm.cells) (slots + rm.slots) → Fr n0 locs' → Qr T'.heap → Go p.tables e below F (T'.setTop { fr with pc := fr.pc + 3, stack := r0.toList ++ rest })) : Go p.tables e below F (T.setTop fr) := by
  obtain ⟨v, vm₁, ⟨T', L', k', n'⟩, -, X', ⟨Lc, hQ, e1, e2, e3⟩, st⟩ := X.specialBack hx (y := y) hy1 hown (mvT hZ wl) (mvT hZ wn) (mvT hZ wc) hy (backOf (W := W) hM hZ wc wi hf hl) (g := fr) hg hsize (Steps.refl _) (a := b) (argsL := argsL) (rest := rest) hlen hstack hW hd (fun _ _ => ⟨has, eT, hc, hs⟩)
  dsimp only [Pt.U, Pt.locs, Pt.cells, Pt.slots] at X' e1 e2 e3 st hQ
  subst e1 e2 e3
  obtain ⟨rfl, Nq, q⟩ := hq _ _ _ hQ
  exact Go.tr st (kk T' _ X' (Fr.app N Nq) q)
end Calls

/-! the plain law of the heap: five values, by functions of the places -/
def upd (g : Nat → Int64) (j : Nat) (x : Int64) : Nat → Int64 := fun i => if i = j then x else g i
def upF : Nat → (Nat → Int64) → Nat → Int64 → (Nat → Int64)
  | 0, g, i, x => upd g i x
  | n + 1, g, i, x => if 0 < i then if x < g ((i - 1) / 2) then upF n (upd g i (g ((i - 1) / 2))) ((i - 1) / 2) x else upd g i x else upd g i x
def chF (g : Nat → Int64) (n ch : Nat) : Nat := if ch + 1 < n then if g (ch + 1) < g ch then ch + 1 else ch else ch
def dnF : Nat → (Nat → Int64) → Nat → Nat → Nat → Int64 → (Nat → Int64)
  | 0, g, n, i, ch, x => upd g i x
  | f + 1, g, n, i, ch, x => if ch < n then if g (chF g n ch) < x then dnF f (upd g i (g (chF g n ch))) n (chF g n ch) (2 * chF g n ch + 1) x else upd g i x else upd g i x
def mn (x y : Int64) : Int64 := if y < x then y else x
def mx (x y : Int64) : Int64 := if x < y then y else x
def leJ (x y : Int64) : Prop := x.toInt ≤ y.toInt
theorem leJ_of_lt {x y : Int64} (h : x < y) : leJ x y := by rw [Int64.lt_iff_toInt_lt] at h; unfold leJ; omega
theorem leJ_of_not {x y : Int64} (h : ¬ x < y) : leJ y x := by rw [Int64.lt_iff_toInt_lt] at h; unfold leJ; omega
def heap4 (a b c d : Int64) : Prop := leJ a b ∧ leJ a c ∧ leJ b d
def heap5 (a b c d e : Int64) : Prop := leJ a b ∧ leJ a c ∧ leJ b d ∧ leJ b e
theorem add1 (g : Nat → Int64) (x : Int64) : upF 0 g 0 x 0 = x := by simp [upF, upd]
theorem add2 (g : Nat → Int64) (x : Int64) : leJ (upF 1 g 1 x 0) (upF 1 g 1 x 1) ∧ [upF 1 g 1 x 0, upF 1 g 1 x 1].Perm [x, g 0] := by
  by_cases h : x < g 0
  · simp [upF, upd, h]; exact leJ_of_lt h
  · simp [upF, upd, h]; exact ⟨leJ_of_not h, List.Perm.swap _ _ _⟩
theorem add3 (g : Nat → Int64) (x : Int64) (h1 : leJ (g 0) (g 1)) : (leJ (upF 2 g 2 x 0) (upF 2 g 2 x 1) ∧ leJ (upF 2 g 2 x 0) (upF 2 g 2 x 2)) ∧ [upF 2 g 2 x 0, upF 2 g 2 x 1, upF 2 g 2 x 2].Perm [x, g 0, g 1] := by
  have perm : ∀ {l l' : List Int64}, (∀ v, l.count v = l'.count v) → l.Perm l' := fun q => List.perm_iff_count.mpr q
  by_cases h : x < g 0
  · have h' := leJ_of_lt h
    simp [upF, upd, h]; unfold leJ at *
    exact ⟨⟨by omega, by omega⟩, perm fun v => by simp only [List.count_cons, List.count_nil]; omega⟩
  · have h' := leJ_of_not h
    simp [upF, upd, h]; unfold leJ at *
    exact ⟨⟨by omega, by omega⟩, perm fun v => by simp only [List.count_cons, List.count_nil]; omega⟩
theorem add4 (g : Nat → Int64) (x : Int64) (h1 : leJ (g 0) (g 1)) (h2 : leJ (g 0) (g 2)) : heap4 (upF 3 g 3 x 0) (upF 3 g 3 x 1) (upF 3 g 3 x 2) (upF 3 g 3 x 3) ∧ [upF 3 g 3 x 0, upF 3 g 3 x 1, upF 3 g 3 x 2, upF 3 g 3 x 3].Perm [x, g 0, g 1, g 2] := by
  have perm : ∀ {l l' : List Int64}, (∀ v, l.count v = l'.count v) → l.Perm l' := fun q => List.perm_iff_count.mpr q
  by_cases h : x < g 1
  · have h' := leJ_of_lt h
    by_cases k : x < g 0
    · have k' := leJ_of_lt k
      simp [upF, upd, h, k]; unfold heap4 leJ at *
      exact ⟨⟨by omega, by omega, by omega⟩, perm fun v => by simp only [List.count_cons, List.count_nil]; omega⟩
    · have k' := leJ_of_not k
      simp [upF, upd, h, k]; unfold heap4 leJ at *
      exact ⟨⟨by omega, by omega, by omega⟩, perm fun v => by simp only [List.count_cons, List.count_nil]; omega⟩
  · have h' := leJ_of_not h
    simp [upF, upd, h]; unfold heap4 leJ at *
    exact ⟨⟨by omega, by omega, by omega⟩, perm fun v => by simp only [List.count_cons, List.count_nil]; omega⟩
theorem add5 (g : Nat → Int64) (x : Int64) (hh : heap4 (g 0) (g 1) (g 2) (g 3)) : heap5 (upF 4 g 4 x 0) (upF 4 g 4 x 1) (upF 4 g 4 x 2) (upF 4 g 4 x 3) (upF 4 g 4 x 4) ∧ [upF 4 g 4 x 0, upF 4 g 4 x 1, upF 4 g 4 x 2, upF 4 g 4 x 3, upF 4 g 4 x 4].Perm [x, g 0, g 1, g 2, g 3] := by
  have perm : ∀ {l l' : List Int64}, (∀ v, l.count v = l'.count v) → l.Perm l' := fun q => List.perm_iff_count.mpr q
  by_cases h : x < g 1
  · have h' := leJ_of_lt h
    by_cases k : x < g 0
    · have k' := leJ_of_lt k
      simp [upF, upd, h, k]; unfold heap4 heap5 leJ at *
      exact ⟨⟨by omega, by omega, by omega, by omega⟩, perm fun v => by simp only [List.count_cons, List.count_nil]; omega⟩
    · have k' := leJ_of_not k
      simp [upF, upd, h, k]; unfold heap4 heap5 leJ at *
      exact ⟨⟨by omega, by omega, by omega, by omega⟩, perm fun v => by simp only [List.count_cons, List.count_nil]; omega⟩
  · have h' := leJ_of_not h
    simp [upF, upd, h]; unfold heap4 heap5 leJ at *
    exact ⟨⟨by omega, by omega, by omega, by omega⟩, perm fun v => by simp only [List.count_cons, List.count_nil]; omega⟩
theorem rem5 (g : Nat → Int64) (hh : heap5 (g 0) (g 1) (g 2) (g 3) (g 4)) : heap4 (dnF 4 g 4 0 1 (g 4) 0) (dnF 4 g 4 0 1 (g 4) 1) (dnF 4 g 4 0 1 (g 4) 2) (dnF 4 g 4 0 1 (g 4) 3) ∧ [dnF 4 g 4 0 1 (g 4) 0, dnF 4 g 4 0 1 (g 4) 1, dnF 4 g 4 0 1 (g 4) 2, dnF 4 g 4 0 1 (g 4) 3].Perm [g 1, g 2, g 3, g 4] := by
  have perm : ∀ {l l' : List Int64}, (∀ v, l.count v = l'.count v) → l.Perm l' := fun q => List.perm_iff_count.mpr q
  obtain ⟨h01, h02, h13, h14⟩ := hh
  by_cases a : g 2 < g 1
  · have a' := leJ_of_lt a
    by_cases b : g 2 < g 4
    · have b' := leJ_of_lt b
      simp [dnF, chF, upd, a, b]; unfold heap4 leJ at *
      exact ⟨⟨by omega, by omega, by omega⟩, perm fun v => by simp only [List.count_cons, List.count_nil]; omega⟩
    · have b' := leJ_of_not b
      simp [dnF, chF, upd, a, b]; unfold heap4 leJ at *
      exact ⟨⟨by omega, by omega, by omega⟩, perm fun v => by simp only [List.count_cons, List.count_nil]; omega⟩
  · have a' := leJ_of_not a
    by_cases b : g 1 < g 4
    · have b' := leJ_of_lt b
      by_cases d : g 3 < g 4
      · have d' := leJ_of_lt d
        simp [dnF, chF, upd, a, b, d]; unfold heap4 leJ at *
        exact ⟨⟨by omega, by omega, by omega⟩, perm fun v => by simp only [List.count_cons, List.count_nil]; omega⟩
      · have d' := leJ_of_not d
        simp [dnF, chF, upd, a, b, d]; unfold heap4 leJ at *
        exact ⟨⟨by omega, by omega, by omega⟩, perm fun v => by simp only [List.count_cons, List.count_nil]; omega⟩
    · have b' := leJ_of_not b
      simp [dnF, chF, upd, a, b]; unfold heap4 leJ at *
      exact ⟨⟨by omega, by omega, by omega⟩, perm fun v => by simp only [List.count_cons, List.count_nil]; omega⟩
theorem rem4 (g : Nat → Int64) (hh : heap4 (g 0) (g 1) (g 2) (g 3)) : (leJ (dnF 3 g 3 0 1 (g 3) 0) (dnF 3 g 3 0 1 (g 3) 1) ∧ leJ (dnF 3 g 3 0 1 (g 3) 0) (dnF 3 g 3 0 1 (g 3) 2)) ∧ [dnF 3 g 3 0 1 (g 3) 0, dnF 3 g 3 0 1 (g 3) 1, dnF 3 g 3 0 1 (g 3) 2].Perm [g 1, g 2, g 3] := by
  have perm : ∀ {l l' : List Int64}, (∀ v, l.count v = l'.count v) → l.Perm l' := fun q => List.perm_iff_count.mpr q
  obtain ⟨h01, h02, h13⟩ := hh
  by_cases a : g 2 < g 1
  · have a' := leJ_of_lt a
    by_cases b : g 2 < g 3
    · have b' := leJ_of_lt b
      simp [dnF, chF, upd, a, b]; unfold leJ at *
      exact ⟨⟨by omega, by omega⟩, perm fun v => by simp only [List.count_cons, List.count_nil]; omega⟩
    · have b' := leJ_of_not b
      simp [dnF, chF, upd, a, b]; unfold leJ at *
      exact ⟨⟨by omega, by omega⟩, perm fun v => by simp only [List.count_cons, List.count_nil]; omega⟩
  · have a' := leJ_of_not a
    by_cases b : g 1 < g 3
    · have b' := leJ_of_lt b
      simp [dnF, chF, upd, a, b]; unfold leJ at *
      exact ⟨⟨by omega, by omega⟩, perm fun v => by simp only [List.count_cons, List.count_nil]; omega⟩
    · have b' := leJ_of_not b
      simp [dnF, chF, upd, a, b]; unfold leJ at *
      exact ⟨⟨by omega, by omega⟩, perm fun v => by simp only [List.count_cons, List.count_nil]; omega⟩
theorem rem3 (g : Nat → Int64) (h01 : leJ (g 0) (g 1)) (h02 : leJ (g 0) (g 2)) : leJ (dnF 2 g 2 0 1 (g 2) 0) (dnF 2 g 2 0 1 (g 2) 1) ∧ [dnF 2 g 2 0 1 (g 2) 0, dnF 2 g 2 0 1 (g 2) 1].Perm [g 1, g 2] := by
  have perm : ∀ {l l' : List Int64}, (∀ v, l.count v = l'.count v) → l.Perm l' := fun q => List.perm_iff_count.mpr q
  by_cases b : g 1 < g 2
  · have b' := leJ_of_lt b
    simp [dnF, chF, upd, b]; unfold leJ at *
    first | exact ⟨by omega, perm fun v => by simp only [List.count_cons, List.count_nil]; omega⟩ | omega
  · have b' := leJ_of_not b
    simp [dnF, chF, upd, b]; unfold leJ at *
    first | exact ⟨by omega, perm fun v => by simp only [List.count_cons, List.count_nil]; omega⟩ | omega
theorem rem2 (g : Nat → Int64) : dnF 1 g 1 0 1 (g 1) 0 = g 1 := by simp [dnF, upd]
theorem mnmx (x y : Int64) : leJ (mn x y) (mx x y) ∧ ∀ v, [mn x y].count v + [mx x y].count v = [x].count v + [y].count v := by
  by_cases h : y < x
  · have h' := leJ_of_lt h
    have k : ¬ x < y := by rw [Int64.lt_iff_toInt_lt] at *; omega
    simp only [mn, mx, h, k, if_true, if_false]
    exact ⟨h', fun v => by omega⟩
  · have h' := leJ_of_not h
    by_cases k : x < y
    · simp only [mn, mx, h, k, if_true, if_false]
      exact ⟨h', fun v => by first | rfl | trivial⟩
    · have k' := leJ_of_not k
      have e : x = y := Int64.toInt_inj.mp (by unfold leJ at *; omega)
      subst e
      simp only [mn, mx, h, if_false]
      exact ⟨h', fun v => by first | rfl | trivial⟩
theorem mn_le (x y : Int64) : (mn x y).toInt ≤ x.toInt ∧ (mn x y).toInt ≤ y.toInt ∧ (mn x y = x ∨ mn x y = y) := by
  unfold mn; split <;> rename_i h <;> rw [Int64.lt_iff_toInt_lt] at h
  · exact ⟨by omega, by omega, Or.inr rfl⟩
  · exact ⟨by omega, by omega, Or.inl rfl⟩
theorem mx_le (x y : Int64) : x.toInt ≤ (mx x y).toInt ∧ y.toInt ≤ (mx x y).toInt ∧ (mx x y = x ∨ mx x y = y) := by
  unfold mx; split <;> rename_i h <;> rw [Int64.lt_iff_toInt_lt] at h
  · exact ⟨by omega, by omega, Or.inr rfl⟩
  · exact ⟨by omega, by omega, Or.inl rfl⟩
theorem mn_lb {z x y : Int64} (h1 : leJ z x) (h2 : leJ z y) : leJ z (mn x y) := by unfold mn; split <;> assumption
theorem mx_ub {z x y : Int64} (h1 : leJ x z) (h2 : leJ y z) : leJ (mx x y) z := by unfold mx; split <;> assumption
theorem mn_l (x y : Int64) : leJ (mn x y) x := (mn_le x y).1
theorem mn_r (x y : Int64) : leJ (mn x y) y := (mn_le x y).2.1
theorem mx_l (x y : Int64) : leJ x (mx x y) := (mx_le x y).1
theorem mx_r (x y : Int64) : leJ y (mx x y) := (mx_le x y).2.1
theorem leJ.trans {x y z : Int64} (h1 : leJ x y) (h2 : leJ y z) : leJ x z := Int.le_trans h1 h2
def cn (v x : Int64) : Nat := [x].count v
theorem cn_mm (v x y : Int64) : cn v (mn x y) + cn v (mx x y) = cn v x + cn v y := (mnmx x y).2 v
theorem cn_cons (v x : Int64) (l : List Int64) : (x :: l).count v = cn v x + l.count v := by simp only [cn, List.count_cons, List.count_nil]; omega
theorem count_nil' (v : Int64) : ([] : List Int64).count v = 0 := rfl
theorem own_mxx {x y c : Int64} (h : leJ x y) : mx y (mx x c) = mx y c := by
  apply Int64.toInt_inj.mp
  unfold leJ at h
  unfold mx
  simp only [Int64.lt_iff_toInt_lt]
  split <;> split <;> (try split) <;> omega
/-! the network: insertion by minima and maxima -/
theorem net (a b c d e : Int64) : ∀ p0 p1 q0 q1 q2 r0 r1 r2 r3 s0 s1 s2 s3 s4, p0 = mn a b → p1 = mx a b → q0 = mn p0 c → q1 = mn p1 (mx p0 c) → q2 = mx p1 c → r0 = mn q0 d → r1 = mn q1 (mx q0 d) → r2 = mn q2 (mx q1 d) → r3 = mx q2 d → s0 = mn r0 e → s1 = mn r1 (mx r0 e) → s2 = mn r2 (mx r1 e) → s3 = mn r3 (mx r2 e) → s4 = mx r3 e →
    (leJ s0 s1 ∧ leJ s1 s2 ∧ leJ s2 s3 ∧ leJ s3 s4) ∧ ∀ v, [s0, s1, s2, s3, s4].count v = [a, b, c, d, e].count v := by
  intro p0 p1 q0 q1 q2 r0 r1 r2 r3 s0 s1 s2 s3 s4 hp0 hp1 hq0 hq1 hq2 hr0 hr1 hr2 hr3 hs0 hs1 hs2 hs3 hs4
  have P : leJ p0 p1 := by rw [hp0, hp1]; exact (mnmx a b).1
  have CP : ∀ v, cn v p0 + cn v p1 = cn v a + cn v b := fun v => by rw [hp0, hp1]; exact cn_mm v a b
  -- q
  have Q01 : leJ q0 q1 := by rw [hq0, hq1]; exact mn_lb ((mn_l _ _).trans P) ((mn_r _ _).trans (mx_r _ _))
  have Q12 : leJ q1 q2 := by rw [hq1, hq2]; exact (mn_l _ _).trans (mx_l _ _)
  have m1 : mx p1 (mx p0 c) = q2 := by rw [hq2]; exact own_mxx P
  have CQ : ∀ v, cn v q0 + cn v q1 + cn v q2 = cn v a + cn v b + cn v c := fun v => by
    have e1 := cn_mm v p0 c; have e2 := cn_mm v p1 (mx p0 c); rw [m1, ← hq1] at e2; rw [← hq0] at e1; have := CP v; omega
  -- r
  have R01 : leJ r0 r1 := by rw [hr0, hr1]; exact mn_lb ((mn_l _ _).trans Q01) ((mn_r _ _).trans (mx_r _ _))
  have R12 : leJ r1 r2 := by rw [hr1, hr2]; exact mn_lb ((mn_l _ _).trans Q12) ((mn_l _ _).trans (mx_l _ _))
  have R23 : leJ r2 r3 := by rw [hr2, hr3]; exact (mn_l _ _).trans (mx_l _ _)
  have m2 : mx q1 (mx q0 d) = mx q1 d := own_mxx Q01
  have m3 : mx q2 (mx q1 d) = r3 := by rw [hr3]; exact own_mxx Q12
  have CR : ∀ v, cn v r0 + cn v r1 + cn v r2 + cn v r3 = cn v a + cn v b + cn v c + cn v d := fun v => by
    have e1 := cn_mm v q0 d; have e2 := cn_mm v q1 (mx q0 d); have e3 := cn_mm v q2 (mx q1 d); rw [m2, ← hr1] at e2; rw [← hr0] at e1; rw [m3, ← hr2] at e3; have := CQ v; omega
  -- s
  have S01 : leJ s0 s1 := by rw [hs0, hs1]; exact mn_lb ((mn_l _ _).trans R01) ((mn_r _ _).trans (mx_r _ _))
  have S12 : leJ s1 s2 := by rw [hs1, hs2]; exact mn_lb ((mn_l _ _).trans R12) ((mn_l _ _).trans (mx_l _ _))
  have S23 : leJ s2 s3 := by rw [hs2, hs3]; exact mn_lb ((mn_l _ _).trans R23) ((mn_l _ _).trans (mx_l _ _))
  have S34 : leJ s3 s4 := by rw [hs3, hs4]; exact (mn_l _ _).trans (mx_l _ _)
  have n2 : mx r1 (mx r0 e) = mx r1 e := own_mxx R01
  have n3 : mx r2 (mx r1 e) = mx r2 e := own_mxx R12
  have n4 : mx r3 (mx r2 e) = s4 := by rw [hs4]; exact own_mxx R23
  refine ⟨⟨S01, S12, S23, S34⟩, fun v => ?_⟩
  have e1 := cn_mm v r0 e; have e2 := cn_mm v r1 (mx r0 e); have e3 := cn_mm v r2 (mx r1 e); have e4 := cn_mm v r3 (mx r2 e)
  rw [n2, ← hs1] at e2; rw [← hs0] at e1; rw [n3, ← hs2] at e3; rw [n4, ← hs3] at e4
  have := CR v
  simp only [cn_cons, count_nil']; omega
theorem sorted5 {x0 x1 x2 x3 x4 : Int64} (h1 : leJ x0 x1) (h2 : leJ x1 x2) (h3 : leJ x2 x3) (h4 : leJ x3 x4) : [x0, x1, x2, x3, x4].Pairwise leJ := by
  unfold leJ at *
  simp only [List.pairwise_cons, List.mem_cons, List.not_mem_nil, or_false, forall_eq_or_imp, forall_eq, List.Pairwise.nil, and_true, false_imp_iff, implies_true]
  refine ⟨⟨?_, ?_, ?_, ?_⟩, ⟨?_, ?_, ?_⟩, ⟨?_, ?_⟩, ?_⟩ <;> (show Int64.toInt _ ≤ Int64.toInt _) <;> omega
/-! the heap's five answers are the sorted five -/
theorem heapLaw (g0 g1 g2 g3 g4 g5 k1 k2 k3 k4 : Nat → Int64) (a b c d e : Int64) (h1 : g1 = upF 0 g0 0 a) (h2 : g2 = upF 1 g1 1 b) (h3 : g3 = upF 2 g2 2 c) (h4 : g4 = upF 3 g3 3 d) (h5 : g5 = upF 4 g4 4 e)
    (j1 : k1 = dnF 4 g5 4 0 1 (g5 4)) (j2 : k2 = dnF 3 k1 3 0 1 (k1 3)) (j3 : k3 = dnF 2 k2 2 0 1 (k2 2)) (j4 : k4 = dnF 1 k3 1 0 1 (k3 1)) :
    [g5 0, k1 0, k2 0, k3 0, k4 0].Pairwise leJ ∧ ∀ v, [g5 0, k1 0, k2 0, k3 0, k4 0].count v = [a, b, c, d, e].count v := by
  have A1 : g1 0 = a := by rw [h1]; exact add1 g0 a
  obtain ⟨A2, B2⟩ := add2 g1 b
  rw [← h2, A1] at *
  obtain ⟨A3, B3⟩ := add3 g2 c A2
  rw [← h3] at A3 B3
  obtain ⟨A4, B4⟩ := add4 g3 d A3.1 A3.2
  rw [← h4] at A4 B4
  obtain ⟨A5, B5⟩ := add5 g4 e A4
  rw [← h5] at A5 B5
  obtain ⟨C1, D1⟩ := rem5 g5 A5
  rw [← j1] at C1 D1
  obtain ⟨C2, D2⟩ := rem4 k1 C1
  rw [← j2] at C2 D2
  obtain ⟨C3, D3⟩ := rem3 k2 C2.1 C2.2
  rw [← j3] at C3 D3
  have C4 : k4 0 = k3 1 := by rw [j4]; exact rem2 k3
  have M1 : leJ (g5 0) (k1 0) := by
    have q : k1 0 ∈ [g5 1, g5 2, g5 3, g5 4] := D1.subset (List.mem_cons_self ..)
    unfold heap5 leJ at A5; unfold leJ
    simp only [List.mem_cons, List.not_mem_nil, or_false] at q
    rcases q with q | q | q | q <;> rw [q] <;> omega
  have M2 : leJ (k1 0) (k2 0) := by
    have q : k2 0 ∈ [k1 1, k1 2, k1 3] := D2.subset (List.mem_cons_self ..)
    unfold heap4 leJ at C1; unfold leJ
    simp only [List.mem_cons, List.not_mem_nil, or_false] at q
    rcases q with q | q | q <;> rw [q] <;> omega
  have M3 : leJ (k2 0) (k3 0) := by
    have q : k3 0 ∈ [k2 1, k2 2] := D3.subset (List.mem_cons_self ..)
    unfold leJ at C2; unfold leJ
    simp only [List.mem_cons, List.not_mem_nil, or_false] at q
    rcases q with q | q <;> rw [q] <;> omega
  have M4 : leJ (k3 0) (k4 0) := by rw [C4]; exact C3
  refine ⟨sorted5 M1 M2 M3 M4, fun v => ?_⟩
  have c2 := B2.count_eq v; have c3 := B3.count_eq v; have c4 := B4.count_eq v; have c5 := B5.count_eq v
  have d1 := D1.count_eq v; have d2 := D2.count_eq v; have d3 := D3.count_eq v
  simp only [cn_cons, count_nil'] at *
  rw [C4]; omega
theorem heapLaw' {x0 x1 x2 x3 x4 s0 s1 s2 s3 s4 : Int64} {l : List Int64} (h1 : [x0, x1, x2, x3, x4].Pairwise leJ) (h2 : ∀ v, [x0, x1, x2, x3, x4].count v = l.count v) (h3 : leJ s0 s1 ∧ leJ s1 s2 ∧ leJ s2 s3 ∧ leJ s3 s4) (h4 : ∀ v, [s0, s1, s2, s3, s4].count v = l.count v) : x0 = s0 ∧ x1 = s1 ∧ x2 = s2 ∧ x3 = s3 ∧ x4 = s4 := by
  have p : [x0, x1, x2, x3, x4].Perm [s0, s1, s2, s3, s4] := List.perm_iff_count.mpr fun v => (h2 v).trans (h4 v).symm
  have q := List.Perm.eq_of_pairwise (le := leJ) (fun a b _ _ h k => Int64.toInt_inj.mp (Int.le_antisymm h k)) h1 (sorted5 h3.1 h3.2.1 h3.2.2.1 h3.2.2.2) p
  simpa using q

/-! the heap object a with its array b: its size, and what the sixteen places hold -/
def JA (Z : State) (h : Heap) (b : Addr) (g : Nat → Int64) : Prop := ∃ c : Cell, Arr Z h b c .long ∧ c.slots.size = 16 ∧ ∀ i, i < 16 → c.slots[i]? = some (.long (g i))
def LH (Z : State) (h : Heap) (a b : Addr) (k : Int32) (g : Nat → Int64) : Prop := Exa Z h a "com/example/isolens/isolens/checker/LongHeap" ∧ Fld Z h a "com/example/isolens/isolens/checker/LongHeap" "items" "[J" (.ref b) ∧ Fld Z h a "com/example/isolens/isolens/checker/LongHeap" "size" "I" (.int k) ∧ JA Z h b g ∧ a ≠ b
theorem JA.new {Z : State} {h : Heap} {a : Addr} {k : ClassId} {z : Int32} (A : Arr Z h a (newA k .long z) .long) (hz : z.toNatClampNeg = 16) : JA Z h a fun _ => 0 :=
  ⟨_, A, (sz_new _ _ _).trans hz, fun i hi => by
    have e : (newA k .long z).slots[i]? = some (defaultValue .long) := by simp [newA, hz, hi]
    exact e⟩
theorem JA.st {Z : State} {h h' : Heap} {b : Addr} {g : Nat → Int64} {j : Nat} {x : Int64} (A : JA Z h b g) (W : Wr h h' b j (.long x)) : JA Z h' b (upd g j x) := by
  obtain ⟨c, Ar, S, V⟩ := A
  refine ⟨_, Ar.same W, by rw [sz_set]; exact S, fun i hi => ?_⟩
  by_cases q : j = i
  · subst q; simp [Cell.setSlot, S, hi, upd]
  · have q' : ¬ i = j := fun z => q z.symm
    simp only [Cell.setSlot, upd, q', if_false]
    rw [Array.getElem?_setIfInBounds_ne q]; exact V i hi
theorem JA.other {Z : State} {h h' : Heap} {a b : Addr} {g : Nat → Int64} {j : Nat} {v : Value} (A : JA Z h b g) (W : Wr h h' a j v) (q : b ≠ a) : JA Z h' b g := by
  obtain ⟨c, Ar, r⟩ := A
  exact ⟨c, Ar.other W q, r⟩
theorem LH.st {Z : State} {h h' : Heap} {a b : Addr} {k : Int32} {g : Nat → Int64} {j : Nat} {x : Int64} (H : LH Z h a b k g) (W : Wr h h' b j (.long x)) : LH Z h' a b k (upd g j x) :=
  ⟨H.1.wr W, H.2.1.other W (Or.inl H.2.2.2.2), H.2.2.1.other W (Or.inl H.2.2.2.2), H.2.2.2.1.st W, H.2.2.2.2⟩
section HeapSteps
variable {p : Program} {l : Launch} {e : Env} {R : Room} {s : State} {m : MethodId} {args : Array Value} {below : List Frame} {meth : Method} {c : Code} {T : State} {locs : List Loc} {cells slots n0 : Nat} {Z : State} {a0 : Array Value} {F : State → Outcome → Prop} {fr : JFrame} {rest : List Value} {h : Heap} {a b : Addr} {k : Int32} {g : Nat → Int64}
theorem Go.items (X : Stand p l e R s m args below meth c T locs cells slots) (hx : p.tables.exec = Jvm.exec) (hZ : Z.Warmed39 s.vm) (hown : s.vm.findClass "com/example/isolens/isolens/checker/LongHeap" = some m.cls) (w : (Cond.fieldLink "com/example/isolens/isolens/checker/LongHeap" 7 "com/example/isolens/isolens/checker/LongHeap" "items" "[J").before a0 Z = true) (eT : T.heap = h) (H : LH Z h a b k g) (hg : fr.method = m) (hs : fr.stack = .ref a :: rest) (hd : decode c.code fr.pc = .ok (.getfield 7, 3))
    (kk : ∀ T' : State, Stand p l e R s m args below meth c T' locs cells slots → T'.heap = h → Go p.tables e below F (T'.setTop { fr with pc := fr.pc + 3, stack := .ref b :: rest })) : Go p.tables e below F (T.setTop fr) := by
  obtain ⟨T', X', e', st⟩ := getF X hx hZ hown (host := "") (Or.inl w) Via.refl eT H.2.1 hg hs hd
  exact Go.by st (kk T' X' e')
theorem Go.sizeF (X : Stand p l e R s m args below meth c T locs cells slots) (hx : p.tables.exec = Jvm.exec) (hZ : Z.Warmed39 s.vm) (hown : s.vm.findClass "com/example/isolens/isolens/checker/LongHeap" = some m.cls) (w : (Cond.fieldLink "com/example/isolens/isolens/checker/LongHeap" 13 "com/example/isolens/isolens/checker/LongHeap" "size" "I").before a0 Z = true) (eT : T.heap = h) (H : LH Z h a b k g) (hg : fr.method = m) (hs : fr.stack = .ref a :: rest) (hd : decode c.code fr.pc = .ok (.getfield 13, 3))
    (kk : ∀ T' : State, Stand p l e R s m args below meth c T' locs cells slots → T'.heap = h → Go p.tables e below F (T'.setTop { fr with pc := fr.pc + 3, stack := .int k :: rest })) : Go p.tables e below F (T.setTop fr) := by
  obtain ⟨T', X', e', st⟩ := getF X hx hZ hown (host := "") (Or.inl w) Via.refl eT H.2.2.1 hg hs hd
  exact Go.by st (kk T' X' e')
theorem Go.putSize (X : Stand p l e R s m args below meth c T locs cells slots) (hx : p.tables.exec = Jvm.exec) (hZ : Z.Warmed39 s.vm) (hown : s.vm.findClass "com/example/isolens/isolens/checker/LongHeap" = some m.cls) (w : (Cond.fieldLink "com/example/isolens/isolens/checker/LongHeap" 13 "com/example/isolens/isolens/checker/LongHeap" "size" "I").before a0 Z = true)
    (w1 : (Cond.lays "com/example/isolens/isolens/checker/LongHeap" "com/example/isolens/isolens/checker/LongHeap" "size" "I").before a0 Z = true) (w2 : (Cond.lays "com/example/isolens/isolens/checker/LongHeap" "com/example/isolens/isolens/checker/LongHeap" "items" "[J").before a0 Z = true) (wi : (Cond.instantiable "com/example/isolens/isolens/checker/LongHeap" 2).before a0 Z = true)
    (eT : T.heap = h) (H : LH Z h a b k g) (N : Fr n0 locs) (hz : n0 ≤ h.size) (ga : n0 ≤ a) {k' : Int32} (hg : fr.method = m) (hs : fr.stack = .int k' :: .ref a :: rest) (hd : decode c.code fr.pc = .ok (.putfield 13, 3))
    (kk : ∀ (T' : State) (h' : Heap) (locs' : List Loc), Stand p l e R s m args below meth c T' locs' cells slots → T'.heap = h' → Fr n0 locs' → n0 ≤ h'.size → LH Z h' a b k' g → Go p.tables e below F (T'.setTop { fr with pc := fr.pc + 3, stack := rest })) : Go p.tables e below F (T.setTop fr) := by
  obtain ⟨T', h', X', e', W, st⟩ := putF X hx hZ hown (host := "") (Or.inl w) Via.refl eT H.2.2.1 H.1 (Or.inl w1) wi (ty := .int) (by decide) rfl rfl hg hs hd
  exact Go.by st (kk T' h' _ X' e' (Fr.snoc X' N ga) (by rw [W.size]; exact hz) ⟨H.1.wr W, H.2.1.other W (Or.inr (slot_ne (Or.inl w2) (Or.inl w1) (by decide) (t := .array .long) (t' := .int) (by decide) (by decide))), H.2.2.1.same W, H.2.2.2.1.other W (Ne.symm H.2.2.2.2), H.2.2.2.2⟩)
theorem own_in16 {j : Int32} {i : Nat} {cl : Cell} (S : cl.slots.size = 16) (hj : j.toInt = i) (hi : i < 16) : ¬ (j < 0 ∨ cl.slots.size ≤ j.toNatClampNeg) ∧ j.toNatClampNeg = i := by
  have e : j.toNatClampNeg = i := by show j.toInt.toNat = i; omega
  refine ⟨fun q => q.elim (fun q => ?_) fun q => by omega, e⟩
  rw [Int32.lt_iff_toInt_lt] at q
  have z : (0 : Int32).toInt = 0 := rfl
  omega
theorem Go.ldJ (X : Stand p l e R s m args below meth c T locs cells slots) (hx : p.tables.exec = Jvm.exec) (hZ : Z.Warmed39 s.vm) (eT : T.heap = h) (H : LH Z h a b k g) {j : Int32} {i : Nat} (hj : j.toInt = i) (hi : i < 16) (hg : fr.method = m) (hs : fr.stack = .int j :: .ref b :: rest) (hd : decode c.code fr.pc = .ok (.laload, 1))
    (kk : Go p.tables e below F (T.setTop { fr with pc := fr.pc + 1, stack := .long (g i) :: rest })) : Go p.tables e below F (T.setTop fr) := by
  obtain ⟨cl, Ar, S, V⟩ := H.2.2.2.1
  obtain ⟨hin, en⟩ := own_in16 S hj hi
  exact Go.by (fun t q => X.laload hx (j := j) (v := (.long (g i))) (by rw [eT]; exact Ar.1) (State.isArrayOf_alike hZ.alike Ar.2.1) Ar.2.2 hin (by rw [en]; exact V i hi) hg hs hd t q) kk
theorem Go.stJ (X : Stand p l e R s m args below meth c T locs cells slots) (hx : p.tables.exec = Jvm.exec) (hZ : Z.Warmed39 s.vm) (eT : T.heap = h) (H : LH Z h a b k g) (N : Fr n0 locs) (hz : n0 ≤ h.size) (gb : n0 ≤ b) {j : Int32} {i : Nat} (hj : j.toInt = i) (hi : i < 16) {x : Int64} (hg : fr.method = m) (hs : fr.stack = .long x :: .int j :: .ref b :: rest) (hd : decode c.code fr.pc = .ok (.lastore, 1))
    (kk : ∀ (T' : State) (h' : Heap) (locs' : List Loc), Stand p l e R s m args below meth c T' locs' cells slots → T'.heap = h' → Fr n0 locs' → n0 ≤ h'.size → LH Z h' a b k (upd g i x) → Go p.tables e below F (T'.setTop { fr with pc := fr.pc + 1, stack := rest })) : Go p.tables e below F (T.setTop fr) := by
  obtain ⟨cl, Ar, S, V⟩ := H.2.2.2.1
  obtain ⟨hin, en⟩ := own_in16 S hj hi
  obtain ⟨T', h', X', e', W, st⟩ := Jvm.RoadKit.stJ X hx hZ eT Ar hin hg hs hd
  rw [en] at W
  exact Go.by st (kk T' h' _ X' e' (Fr.snoc X' N gb) (by rw [W.size]; exact hz) (H.st W))
theorem Go.lenJ (X : Stand p l e R s m args below meth c T locs cells slots) (hx : p.tables.exec = Jvm.exec) (hZ : Z.Warmed39 s.vm) (eT : T.heap = h) (H : LH Z h a b k g) (hg : fr.method = m) (hs : fr.stack = .ref b :: rest) (hd : decode c.code fr.pc = .ok (.arraylength, 1))
    (kk : Go p.tables e below F (T.setTop { fr with pc := fr.pc + 1, stack := .int (16 : Int32) :: rest })) : Go p.tables e below F (T.setTop fr) := by
  obtain ⟨cl, Ar, S, V⟩ := H.2.2.2.1
  refine Go.by (fun t q => X.arraylength hx (by rw [eT]; exact Ar.1) (State.isArrayOf_alike hZ.alike Ar.2.1) hg hs hd t q) ?_
  rw [S]; exact kk
end HeapSteps
theorem own_half {v : Int32} {i : Nat} (h : v.toInt = i) (h0 : 0 < i) (hi : i < 16) : ((v - (1 : Int32)) / (2 : Int32)).toInt = ((i - 1) / 2 : Nat) := by
  have e1 := c_isub v 1
  have z1 : (1 : Int32).toInt = 1 := rfl
  have b1 := (v - (1 : Int32)).le_toInt; have b2 := (v - (1 : Int32)).toInt_lt
  have e2 := (c_idiv (v - (1 : Int32)) 2 2 rfl (by decide)).1 (by omega)
  rw [e2]; omega
theorem own_pos {v : Int32} {i : Nat} (h : v.toInt = i) : 0 < v ↔ 0 < i := by
  rw [Int32.lt_iff_toInt_lt]; have z : (0 : Int32).toInt = 0 := rfl
  rw [z]; omega
theorem own_inc {v : Int32} {i : Nat} (h : v.toInt = i) (hi : i < 1000) : (v + (1 : Int32)).toInt = (i + 1 : Nat) := by
  have e1 := c_iadd v 1
  have z1 : (1 : Int32).toInt = 1 := rfl
  have b1 := (v + (1 : Int32)).le_toInt; have b2 := (v + (1 : Int32)).toInt_lt
  omega
theorem own_dec {v : Int32} {i : Nat} (h : v.toInt = i) (h0 : 0 < i) (hi : i < 1000) : (v - (1 : Int32)).toInt = (i - 1 : Nat) := by
  have e1 := c_isub v 1
  have z1 : (1 : Int32).toInt = 1 := rfl
  have b1 := (v - (1 : Int32)).le_toInt; have b2 := (v - (1 : Int32)).toInt_lt
  omega
theorem own_dbl {v : Int32} {i : Nat} (h : v.toInt = i) (hi : i < 1000) : (((2 : Int32) * v) + (1 : Int32)).toInt = (2 * i + 1 : Nat) := by
  have e0 := c_imul 2 v
  have e1 := c_iadd ((2 : Int32) * v) 1
  have z1 : (1 : Int32).toInt = 1 := rfl
  have z2 : (2 : Int32).toInt = 2 := rfl
  have b1 := ((2 : Int32) * v).le_toInt; have b2 := ((2 : Int32) * v).toInt_lt
  have b3 := (((2 : Int32) * v) + (1 : Int32)).le_toInt; have b4 := (((2 : Int32) * v) + (1 : Int32)).toInt_lt
  rw [z2] at e0
  omega
theorem own_ltN {v w : Int32} {i j : Nat} (h : v.toInt = i) (k : w.toInt = j) : v < w ↔ i < j := by rw [Int32.lt_iff_toInt_lt]; omega

theorem pd0 : parseMethodDescriptor "(JJ)J" = some ⟨[.long, .long], some .long⟩ := by decide +kernel
theorem pd1 : parseMethodDescriptor "()V" = some ⟨[], none⟩ := by decide +kernel
theorem pd2 : parseMethodDescriptor "(J)V" = some ⟨[.long], none⟩ := by decide +kernel
theorem pd3 : parseMethodDescriptor "()J" = some ⟨[], some .long⟩ := by decide +kernel
theorem d1_0 : decode jdk_29_method_70_code 0 = .ok (.lload_n 0, 1) := by decide +kernel
theorem d1_1 : decode jdk_29_method_70_code 1 = .ok (.lload_n 2, 1) := by decide +kernel
theorem d1_2 : decode jdk_29_method_70_code 2 = .ok (.lcmp, 1) := by decide +kernel
theorem d1_3 : decode jdk_29_method_70_code 3 = .ok (.ifCond .gt 7, 3) := by decide +kernel
theorem d1_6 : decode jdk_29_method_70_code 6 = .ok (.lload_n 0, 1) := by decide +kernel
theorem d1_7 : decode jdk_29_method_70_code 7 = .ok (.goto 4, 3) := by decide +kernel
theorem d1_10 : decode jdk_29_method_70_code 10 = .ok (.lload_n 2, 1) := by decide +kernel
theorem d1_11 : decode jdk_29_method_70_code 11 = .ok (.lreturn, 1) := by decide +kernel
theorem ef_1 (m : MethodId) (q0 : Int64) (q1 : Int64) : entryFrame m #[(.long q0), (.long q1)] 4 = mkF m 0 #[.val (.long q0), .second, .val (.long q1), .second] [] := by first | (simp [entryFrame, mkF, argsToLocals, Value.category]; done) | rfl
def f1_0 (q0 : Int64) (q1 : Int64) : Int64 := if q1 < q0 then q1 else q0
def Q1 (q0 : Int64) (q1 : Int64) (h0 : Heap) (n0 : Nat) (v : Option Value) (h : Heap) (L : List Loc) : Prop := v = some (.long (f1_0 q0 q1)) ∧ Fr n0 L ∧ h = h0
set_option maxRecDepth 65536 in
set_option maxHeartbeats 40000000 in
theorem rm1 (l : Launch) (Z : State) (a0 : Array Value) (hw : ∀ d ∈ tables_1, d.before a0 Z = true) (ws : List Jvm.Cond) (q0 : Int64) (q1 : Int64)  (h0 : Heap) (n0 : Nat) (Z0 : n0 ≤ h0.size)  :
    MetFree l (⟨"java/lang/Math", "min", "(JJ)J"⟩ : MethodName) (head1 (Jvm.Cond.code (⟨"java/lang/Math", "min", "(JJ)J"⟩ : MethodName) jdk_29_method_70_code 4 (some .long) :: ws) ({ frames := 0, cells := 0, slots := 0, locals := 0 } : Room)) (fun a U => a = #[(.long q0), (.long q1)] ∧ Z.Warmed39 U.vm ∧ U.heap = h0) (fun _ _ _ _ _ => True) (fun _ U o U' => ∃ v L, o = .returned v ∧ (Q1 q0 q1 h0 n0) v U'.heap L ∧ FrameEnd U o U' L ({ frames := 0, cells := 0, slots := 0, locals := 0 } : Room).cells ({ frames := 0, cells := 0, slots := 0, locals := 0 } : Room).slots) := by
  refine MetFree.of_bodySF (Jvm.Free.JP.mathPlain rfl (by decide +kernel)) hisR ?_
  intro p e s m args below meth c s₁ Bd hml0 hP hK
  obtain ⟨rfl, hZ, hh⟩ := hP
  have hx := Bd.exec
  have hby := Bd.bytes
  have hml : c.maxLocals = 4 := hml0
  have hown : s.vm.findClass "java/lang/Math" = some m.cls := findClass_of_methodNamed Bd.named
  have hnm := (name_of_methodNamed Bd.named Bd.method).1
  have hlk : meth.locks = false := Bd.notSynchronized
  have X0 : Stand p l e ({ frames := 0, cells := 0, slots := 0, locals := 0 } : Room) s m #[(.long q0), (.long q1)] below meth c s₁ [] 0 0 := Stand.of_body Bd
  have e0 : s₁.heap = h0 := by rw [← hh, Bd.state]; rfl
  have N0 := Fr.nil n0
  refine Go.by (tb := p.tables) (e := e) (below := below) (F := fun t o => ∃ v L, o = .returned v ∧ (Q1 q0 q1 h0 n0) v t.heap L ∧ FrameEnd s o t L ({ frames := 0, cells := 0, slots := 0, locals := 0 } : Room).cells ({ frames := 0, cells := 0, slots := 0, locals := 0 } : Room).slots) (fun t k => castTop (ef_1 m q0 q1) k) ?_
  have hv : f1_0 q0 q1 = if q1 < q0 then q1 else q0 := rfl
  show Go _ _ _ _ (s₁.setTop (mkF m 0 #[.val (.long q0), .second, .val (.long q1), .second] []))
  refine Go.by (fun t9 k9 => XT.lloadN X0.here hx rfl (hb hby d1_0) rfl k9) ?_
  show Go _ _ _ _ (s₁.setTop (mkF m 1 #[.val (.long q0), .second, .val (.long q1), .second] [(.long q0)]))
  refine Go.by (fun t9 k9 => XT.lloadN X0.here hx rfl (hb hby d1_1) rfl k9) ?_
  show Go _ _ _ _ (s₁.setTop (mkF m 2 #[.val (.long q0), .second, .val (.long q1), .second] [(.long q1), (.long q0)]))
  refine Go.by (fun t9 k9 => XT.lcmp X0.here hx rfl (hb hby d1_2) rfl k9) ?_
  show Go _ _ _ _ (s₁.setTop (mkF m 3 #[.val (.long q0), .second, .val (.long q1), .second] [(.int (XT.cmpL q0 q1))]))
  by_cases hc3 : q1 < q0
  · have hv := hv.trans (if_pos hc3)
    refine Go.by (fun t9 k9 => XS.ifYes X0.here hx rfl (pc0 := 3) (pc' := 10) rfl (hb hby d1_3) rfl (XT.ll_gt_t hc3) (by decide) (by decide) k9) ?_
    show Go _ _ _ _ (s₁.setTop (mkF m 10 #[.val (.long q0), .second, .val (.long q1), .second] []))
    refine Go.by (fun t9 k9 => XT.lloadN X0.here hx rfl (hb hby d1_10) rfl k9) ?_
    show Go _ _ _ _ (s₁.setTop (mkF m 11 #[.val (.long q0), .second, .val (.long q1), .second] [(.long q1)]))
    exact Go.retJ (Q := Q1 q0 q1 h0 n0) X0 hx hlk Bd.returns (hb hby d1_11) ⟨by rw [hv], N0, e0⟩ (by decide) (by decide)
  · have hv := hv.trans (if_neg hc3)
    refine Go.by (fun t9 k9 => XS.ifNo X0.here hx rfl (hb hby d1_3) rfl (XT.ll_gt_f hc3) k9) ?_
    show Go _ _ _ _ (s₁.setTop (mkF m 6 #[.val (.long q0), .second, .val (.long q1), .second] []))
    refine Go.by (fun t9 k9 => XT.lloadN X0.here hx rfl (hb hby d1_6) rfl k9) ?_
    show Go _ _ _ _ (s₁.setTop (mkF m 7 #[.val (.long q0), .second, .val (.long q1), .second] [(.long q0)]))
    refine Go.by (fun t9 k9 => XS.goto X0.here hx rfl (pc0 := 7) (pc' := 11) rfl (hb hby d1_7) (by decide) (by decide) k9) ?_
    show Go _ _ _ _ (s₁.setTop (mkF m 11 #[.val (.long q0), .second, .val (.long q1), .second] [(.long q0)]))
    exact Go.retJ (Q := Q1 q0 q1 h0 n0) X0 hx hlk Bd.returns (hb hby d1_11) ⟨by rw [hv], N0, e0⟩ (by decide) (by decide)
theorem d2_0 : decode jdk_29_method_66_code 0 = .ok (.lload_n 0, 1) := by decide +kernel
theorem d2_1 : decode jdk_29_method_66_code 1 = .ok (.lload_n 2, 1) := by decide +kernel
theorem d2_2 : decode jdk_29_method_66_code 2 = .ok (.lcmp, 1) := by decide +kernel
theorem d2_3 : decode jdk_29_method_66_code 3 = .ok (.ifCond .lt 7, 3) := by decide +kernel
theorem d2_6 : decode jdk_29_method_66_code 6 = .ok (.lload_n 0, 1) := by decide +kernel
theorem d2_7 : decode jdk_29_method_66_code 7 = .ok (.goto 4, 3) := by decide +kernel
theorem d2_10 : decode jdk_29_method_66_code 10 = .ok (.lload_n 2, 1) := by decide +kernel
theorem d2_11 : decode jdk_29_method_66_code 11 = .ok (.lreturn, 1) := by decide +kernel
theorem ef_2 (m : MethodId) (q0 : Int64) (q1 : Int64) : entryFrame m #[(.long q0), (.long q1)] 4 = mkF m 0 #[.val (.long q0), .second, .val (.long q1), .second] [] := by first | (simp [entryFrame, mkF, argsToLocals, Value.category]; done) | rfl
def f2_0 (q0 : Int64) (q1 : Int64) : Int64 := if q0 < q1 then q1 else q0
def Q2 (q0 : Int64) (q1 : Int64) (h0 : Heap) (n0 : Nat) (v : Option Value) (h : Heap) (L : List Loc) : Prop := v = some (.long (f2_0 q0 q1)) ∧ Fr n0 L ∧ h = h0
set_option maxRecDepth 65536 in
set_option maxHeartbeats 40000000 in
theorem rm2 (l : Launch) (Z : State) (a0 : Array Value) (hw : ∀ d ∈ tables_1, d.before a0 Z = true) (ws : List Jvm.Cond) (q0 : Int64) (q1 : Int64)  (h0 : Heap) (n0 : Nat) (Z0 : n0 ≤ h0.size)  :
    MetFree l (⟨"java/lang/Math", "max", "(JJ)J"⟩ : MethodName) (head1 (Jvm.Cond.code (⟨"java/lang/Math", "max", "(JJ)J"⟩ : MethodName) jdk_29_method_66_code 4 (some .long) :: ws) ({ frames := 0, cells := 0, slots := 0, locals := 0 } : Room)) (fun a U => a = #[(.long q0), (.long q1)] ∧ Z.Warmed39 U.vm ∧ U.heap = h0) (fun _ _ _ _ _ => True) (fun _ U o U' => ∃ v L, o = .returned v ∧ (Q2 q0 q1 h0 n0) v U'.heap L ∧ FrameEnd U o U' L ({ frames := 0, cells := 0, slots := 0, locals := 0 } : Room).cells ({ frames := 0, cells := 0, slots := 0, locals := 0 } : Room).slots) := by
  refine MetFree.of_bodySF (Jvm.Free.JP.mathPlain rfl (by decide +kernel)) hisR ?_
  intro p e s m args below meth c s₁ Bd hml0 hP hK
  obtain ⟨rfl, hZ, hh⟩ := hP
  have hx := Bd.exec
  have hby := Bd.bytes
  have hml : c.maxLocals = 4 := hml0
  have hown : s.vm.findClass "java/lang/Math" = some m.cls := findClass_of_methodNamed Bd.named
  have hnm := (name_of_methodNamed Bd.named Bd.method).1
  have hlk : meth.locks = false := Bd.notSynchronized
  have X0 : Stand p l e ({ frames := 0, cells := 0, slots := 0, locals := 0 } : Room) s m #[(.long q0), (.long q1)] below meth c s₁ [] 0 0 := Stand.of_body Bd
  have e0 : s₁.heap = h0 := by rw [← hh, Bd.state]; rfl
  have N0 := Fr.nil n0
  refine Go.by (tb := p.tables) (e := e) (below := below) (F := fun t o => ∃ v L, o = .returned v ∧ (Q2 q0 q1 h0 n0) v t.heap L ∧ FrameEnd s o t L ({ frames := 0, cells := 0, slots := 0, locals := 0 } : Room).cells ({ frames := 0, cells := 0, slots := 0, locals := 0 } : Room).slots) (fun t k => castTop (ef_2 m q0 q1) k) ?_
  have hv : f2_0 q0 q1 = if q0 < q1 then q1 else q0 := rfl
  show Go _ _ _ _ (s₁.setTop (mkF m 0 #[.val (.long q0), .second, .val (.long q1), .second] []))
  refine Go.by (fun t9 k9 => XT.lloadN X0.here hx rfl (hb hby d2_0) rfl k9) ?_
  show Go _ _ _ _ (s₁.setTop (mkF m 1 #[.val (.long q0), .second, .val (.long q1), .second] [(.long q0)]))
  refine Go.by (fun t9 k9 => XT.lloadN X0.here hx rfl (hb hby d2_1) rfl k9) ?_
  show Go _ _ _ _ (s₁.setTop (mkF m 2 #[.val (.long q0), .second, .val (.long q1), .second] [(.long q1), (.long q0)]))
  refine Go.by (fun t9 k9 => XT.lcmp X0.here hx rfl (hb hby d2_2) rfl k9) ?_
  show Go _ _ _ _ (s₁.setTop (mkF m 3 #[.val (.long q0), .second, .val (.long q1), .second] [(.int (XT.cmpL q0 q1))]))
  by_cases hc3 : q0 < q1
  · have hv := hv.trans (if_pos hc3)
    refine Go.by (fun t9 k9 => XS.ifYes X0.here hx rfl (pc0 := 3) (pc' := 10) rfl (hb hby d2_3) rfl (XT.ll_lt_t hc3) (by decide) (by decide) k9) ?_
    show Go _ _ _ _ (s₁.setTop (mkF m 10 #[.val (.long q0), .second, .val (.long q1), .second] []))
    refine Go.by (fun t9 k9 => XT.lloadN X0.here hx rfl (hb hby d2_10) rfl k9) ?_
    show Go _ _ _ _ (s₁.setTop (mkF m 11 #[.val (.long q0), .second, .val (.long q1), .second] [(.long q1)]))
    exact Go.retJ (Q := Q2 q0 q1 h0 n0) X0 hx hlk Bd.returns (hb hby d2_11) ⟨by rw [hv], N0, e0⟩ (by decide) (by decide)
  · have hv := hv.trans (if_neg hc3)
    refine Go.by (fun t9 k9 => XS.ifNo X0.here hx rfl (hb hby d2_3) rfl (XT.ll_lt_f hc3) k9) ?_
    show Go _ _ _ _ (s₁.setTop (mkF m 6 #[.val (.long q0), .second, .val (.long q1), .second] []))
    refine Go.by (fun t9 k9 => XT.lloadN X0.here hx rfl (hb hby d2_6) rfl k9) ?_
    show Go _ _ _ _ (s₁.setTop (mkF m 7 #[.val (.long q0), .second, .val (.long q1), .second] [(.long q0)]))
    refine Go.by (fun t9 k9 => XS.goto X0.here hx rfl (pc0 := 7) (pc' := 11) rfl (hb hby d2_7) (by decide) (by decide) k9) ?_
    show Go _ _ _ _ (s₁.setTop (mkF m 11 #[.val (.long q0), .second, .val (.long q1), .second] [(.long q0)]))
    exact Go.retJ (Q := Q2 q0 q1 h0 n0) X0 hx hlk Bd.returns (hb hby d2_11) ⟨by rw [hv], N0, e0⟩ (by decide) (by decide)
theorem d3_0 : decode prog_43_method_1_code 0 = .ok (.aload_n 0, 1) := by decide +kernel
theorem d3_1 : decode prog_43_method_1_code 1 = .ok (.invokespecial 1, 3) := by decide +kernel
theorem d3_4 : decode prog_43_method_1_code 4 = .ok (.aload_n 0, 1) := by decide +kernel
theorem d3_5 : decode prog_43_method_1_code 5 = .ok (.bipush 16, 2) := by decide +kernel
theorem d3_7 : decode prog_43_method_1_code 7 = .ok (.newarray .long, 2) := by decide +kernel
theorem d3_9 : decode prog_43_method_1_code 9 = .ok (.putfield 7, 3) := by decide +kernel
theorem d3_12 : decode prog_43_method_1_code 12 = .ok (.return_, 1) := by decide +kernel
theorem pn_3 : plainName "com/example/isolens/isolens/checker/LongHeap" = true := by first | (simp [plainName, overriddenIn]; done) | decide +kernel
theorem ef_3 (m : MethodId) (o0 : Addr) : entryFrame m #[(.ref o0)] 1 = mkF m 0 #[.val (.ref o0)] [] := by first | (simp [entryFrame, mkF, argsToLocals, Value.category]; done) | rfl
def Q3 (Z : State) (o0 : Addr) (n0 : Nat) (v : Option Value) (h : Heap) (L : List Loc) : Prop := v = none ∧ Fr n0 L ∧ n0 ≤ h.size ∧ ∃ b, n0 ≤ b ∧ LH Z h o0 b 0 fun _ => 0
set_option maxRecDepth 65536 in
set_option maxHeartbeats 40000000 in
theorem rm3 (l : Launch) (Z : State) (a0 : Array Value) (hw : ∀ d ∈ tables_1, d.before a0 Z = true) (ws : List Jvm.Cond) (o0 : Addr)  (h0 : Heap) (n0 : Nat) (Z0 : n0 ≤ h0.size) (E0 : Exa Z h0 o0 "com/example/isolens/isolens/checker/LongHeap") (Fi : Fld Z h0 o0 "com/example/isolens/isolens/checker/LongHeap" "items" "[J" .null) (Fs : Fld Z h0 o0 "com/example/isolens/isolens/checker/LongHeap" "size" "I" (.int (0 : Int32))) (ga : n0 ≤ o0) :
    MetFree l (⟨"com/example/isolens/isolens/checker/LongHeap", "<init>", "()V"⟩ : MethodName) (head1 (Jvm.Cond.code (⟨"com/example/isolens/isolens/checker/LongHeap", "<init>", "()V"⟩ : MethodName) prog_43_method_1_code 1 none :: ws) ({ frames := 1, cells := 1, slots := 16, locals := 12 } : Room)) (fun a U => a = #[(.ref o0)] ∧ Z.Warmed39 U.vm ∧ U.heap = h0) (fun _ _ _ _ _ => True) (fun _ U o U' => ∃ v L, o = .returned v ∧ (Q3 Z o0 n0) v U'.heap L ∧ FrameEnd U o U' L ({ frames := 1, cells := 1, slots := 16, locals := 12 } : Room).cells ({ frames := 1, cells := 1, slots := 16, locals := 12 } : Room).slots) := by
  refine MetFree.of_bodySF (plainFor_of_name pn_3) hisR ?_
  intro p e s m args below meth c s₁ Bd hml0 hP hK
  obtain ⟨rfl, hZ, hh⟩ := hP
  have hx := Bd.exec
  have hby := Bd.bytes
  have hml : c.maxLocals = 1 := hml0
  have hown : s.vm.findClass "com/example/isolens/isolens/checker/LongHeap" = some m.cls := findClass_of_methodNamed Bd.named
  have hnm := (name_of_methodNamed Bd.named Bd.method).1
  have hlk : meth.locks = false := Bd.notSynchronized
  have X0 : Stand p l e ({ frames := 1, cells := 1, slots := 16, locals := 12 } : Room) s m #[(.ref o0)] below meth c s₁ [] 0 0 := Stand.of_body Bd
  have e0 : s₁.heap = h0 := by rw [← hh, Bd.state]; rfl
  have N0 := Fr.nil n0
  refine Go.by (tb := p.tables) (e := e) (below := below) (F := fun t o => ∃ v L, o = .returned v ∧ (Q3 Z o0 n0) v t.heap L ∧ FrameEnd s o t L ({ frames := 1, cells := 1, slots := 16, locals := 12 } : Room).cells ({ frames := 1, cells := 1, slots := 16, locals := 12 } : Room).slots) (fun t k => castTop (ef_3 m o0) k) ?_
  show Go _ _ _ _ (s₁.setTop (mkF m 0 #[.val (.ref o0)] []))
  refine Go.by (fun t9 k9 => XS.aloadN X0.here hx rfl (hb hby d3_0) rfl rfl k9) ?_
  show Go _ _ _ _ (s₁.setTop (mkF m 1 #[.val (.ref o0)] [(.ref o0)]))
  obtain ⟨T1, X1, e1, st1⟩ := initO X0 hx hZ hown (hw _ (List.mem_of_getElem? (i := 13) rfl)) (hw _ (List.mem_of_getElem? (i := 14) rfl)) (hw _ (List.mem_of_getElem? (i := 15) rfl)) e0 (g := (mkF m 1 #[.val (.ref o0)] [(.ref o0)])) rfl (by rw [hml]; rfl) rfl (hb hby d3_1) (by decide) (W := 0) (by show 2 * 0 + _ ≤ _; exact Nat.le_of_eq rfl) (by decide)
  refine Go.by st1 ?_
  show Go _ _ _ _ (T1.setTop (mkF m 4 #[.val (.ref o0)] []))
  refine Go.by (fun t9 k9 => XS.aloadN X1.here hx rfl (hb hby d3_4) rfl rfl k9) ?_
  show Go _ _ _ _ (T1.setTop (mkF m 5 #[.val (.ref o0)] [(.ref o0)]))
  refine Go.by (fun t9 k9 => XS.bipush X1.here hx rfl (hb hby d3_5) k9) ?_
  show Go _ _ _ _ (T1.setTop (mkF m 7 #[.val (.ref o0)] [(.int (16 : Int32)), (.ref o0)]))
  obtain ⟨T2, h2, k2, X2, e2, E2, A2, st2⟩ := newP X1 hx hZ (hw _ (List.mem_of_getElem? (i := 16) rfl)) e1 (g := (mkF m 7 #[.val (.ref o0)] [(.int (16 : Int32)), (.ref o0)])) rfl (hb hby d3_7) rfl (by decide) (cap := 16) (by decide) (by decide) (by decide) (by decide)
  obtain ⟨b2, gb2⟩ : ∃ z, z = h0.size := ⟨_, rfl⟩
  rw [← gb2] at A2 st2
  refine Go.by st2 ?_
  show Go _ _ _ _ (T2.setTop (mkF m 9 #[.val (.ref o0)] [(.ref b2), (.ref o0)]))
  obtain ⟨T3, h3, X3, e3, W3, st3⟩ := putF X2 hx hZ hown (host := "") (Or.inl (hw _ (List.mem_of_getElem? (i := 17) rfl))) Via.refl e2 (Fi.ext E2) (E0.ext E2) (Or.inl (hw _ (List.mem_of_getElem? (i := 18) rfl))) (hw _ (List.mem_of_getElem? (i := 8) rfl)) (ty := .array .long) (by decide) rfl rfl (g := (mkF m 9 #[.val (.ref o0)] [(.ref b2), (.ref o0)])) rfl rfl (hb hby d3_9)
  refine Go.by st3 ?_
  show Go _ _ _ _ (T3.setTop (mkF m 12 #[.val (.ref o0)] []))
  have ne : o0 ≠ b2 := Nat.ne_of_lt (by rw [gb2]; exact E0.lt)
  have HH : LH Z h3 o0 b2 0 fun _ => 0 := ⟨(E0.ext E2).wr W3, (Fi.ext E2).same W3, (Fs.ext E2).other W3 (Or.inr (slot_ne (Or.inl (hw _ (List.mem_of_getElem? (i := 25) rfl))) (Or.inl (hw _ (List.mem_of_getElem? (i := 18) rfl))) (by decide) (t := .int) (t' := .array .long) (by decide) (by decide))), (JA.new A2 rfl).other W3 (Ne.symm ne), ne⟩
  exact Go.retV (Q := Q3 Z o0 n0) X3 hx hlk Bd.returns (hb hby d3_12) (by rw [e3]; exact ⟨rfl, Fr.snoc X3 N0 ga, by rw [W3.size]; exact Nat.le_trans Z0 E2.1, b2, by rw [gb2]; exact Z0, HH⟩) (by decide) (by decide)
theorem d5_0 : decode prog_43_method_3_code 0 = .ok (.aload_n 0, 1) := by decide +kernel
theorem d5_1 : decode prog_43_method_3_code 1 = .ok (.getfield 13, 3) := by decide +kernel
theorem d5_4 : decode prog_43_method_3_code 4 = .ok (.aload_n 0, 1) := by decide +kernel
theorem d5_5 : decode prog_43_method_3_code 5 = .ok (.getfield 7, 3) := by decide +kernel
theorem d5_8 : decode prog_43_method_3_code 8 = .ok (.arraylength, 1) := by decide +kernel
theorem d5_9 : decode prog_43_method_3_code 9 = .ok (.if_icmp .ne 27, 3) := by decide +kernel
theorem d5_36 : decode prog_43_method_3_code 36 = .ok (.aload_n 0, 1) := by decide +kernel
theorem d5_37 : decode prog_43_method_3_code 37 = .ok (.dup, 1) := by decide +kernel
theorem d5_38 : decode prog_43_method_3_code 38 = .ok (.getfield 13, 3) := by decide +kernel
theorem d5_41 : decode prog_43_method_3_code 41 = .ok (.dup_x1, 1) := by decide +kernel
theorem d5_42 : decode prog_43_method_3_code 42 = .ok (.iconst 1, 1) := by decide +kernel
theorem d5_43 : decode prog_43_method_3_code 43 = .ok (.iadd, 1) := by decide +kernel
theorem d5_44 : decode prog_43_method_3_code 44 = .ok (.putfield 13, 3) := by decide +kernel
theorem d5_47 : decode prog_43_method_3_code 47 = .ok (.istore_n 3, 1) := by decide +kernel
theorem d5_48 : decode prog_43_method_3_code 48 = .ok (.iload_n 3, 1) := by decide +kernel
theorem d5_49 : decode prog_43_method_3_code 49 = .ok (.ifCond .le 43, 3) := by decide +kernel
theorem d5_52 : decode prog_43_method_3_code 52 = .ok (.aload_n 0, 1) := by decide +kernel
theorem d5_53 : decode prog_43_method_3_code 53 = .ok (.getfield 7, 3) := by decide +kernel
theorem d5_56 : decode prog_43_method_3_code 56 = .ok (.iload_n 3, 1) := by decide +kernel
theorem d5_57 : decode prog_43_method_3_code 57 = .ok (.iconst 1, 1) := by decide +kernel
theorem d5_58 : decode prog_43_method_3_code 58 = .ok (.isub, 1) := by decide +kernel
theorem d5_59 : decode prog_43_method_3_code 59 = .ok (.iconst 2, 1) := by decide +kernel
theorem d5_60 : decode prog_43_method_3_code 60 = .ok (.idiv, 1) := by decide +kernel
theorem d5_61 : decode prog_43_method_3_code 61 = .ok (.laload, 1) := by decide +kernel
theorem d5_62 : decode prog_43_method_3_code 62 = .ok (.lload_n 1, 1) := by decide +kernel
theorem d5_63 : decode prog_43_method_3_code 63 = .ok (.lcmp, 1) := by decide +kernel
theorem d5_64 : decode prog_43_method_3_code 64 = .ok (.ifCond .le 28, 3) := by decide +kernel
theorem d5_67 : decode prog_43_method_3_code 67 = .ok (.aload_n 0, 1) := by decide +kernel
theorem d5_68 : decode prog_43_method_3_code 68 = .ok (.getfield 7, 3) := by decide +kernel
theorem d5_71 : decode prog_43_method_3_code 71 = .ok (.iload_n 3, 1) := by decide +kernel
theorem d5_72 : decode prog_43_method_3_code 72 = .ok (.aload_n 0, 1) := by decide +kernel
theorem d5_73 : decode prog_43_method_3_code 73 = .ok (.getfield 7, 3) := by decide +kernel
theorem d5_76 : decode prog_43_method_3_code 76 = .ok (.iload_n 3, 1) := by decide +kernel
theorem d5_77 : decode prog_43_method_3_code 77 = .ok (.iconst 1, 1) := by decide +kernel
theorem d5_78 : decode prog_43_method_3_code 78 = .ok (.isub, 1) := by decide +kernel
theorem d5_79 : decode prog_43_method_3_code 79 = .ok (.iconst 2, 1) := by decide +kernel
theorem d5_80 : decode prog_43_method_3_code 80 = .ok (.idiv, 1) := by decide +kernel
theorem d5_81 : decode prog_43_method_3_code 81 = .ok (.laload, 1) := by decide +kernel
theorem d5_82 : decode prog_43_method_3_code 82 = .ok (.lastore, 1) := by decide +kernel
theorem d5_83 : decode prog_43_method_3_code 83 = .ok (.iload_n 3, 1) := by decide +kernel
theorem d5_84 : decode prog_43_method_3_code 84 = .ok (.iconst 1, 1) := by decide +kernel
theorem d5_85 : decode prog_43_method_3_code 85 = .ok (.isub, 1) := by decide +kernel
theorem d5_86 : decode prog_43_method_3_code 86 = .ok (.iconst 2, 1) := by decide +kernel
theorem d5_87 : decode prog_43_method_3_code 87 = .ok (.idiv, 1) := by decide +kernel
theorem d5_88 : decode prog_43_method_3_code 88 = .ok (.istore_n 3, 1) := by decide +kernel
theorem d5_89 : decode prog_43_method_3_code 89 = .ok (.goto (-41), 3) := by decide +kernel
theorem d5_92 : decode prog_43_method_3_code 92 = .ok (.aload_n 0, 1) := by decide +kernel
theorem d5_93 : decode prog_43_method_3_code 93 = .ok (.getfield 7, 3) := by decide +kernel
theorem d5_96 : decode prog_43_method_3_code 96 = .ok (.iload_n 3, 1) := by decide +kernel
theorem d5_97 : decode prog_43_method_3_code 97 = .ok (.lload_n 1, 1) := by decide +kernel
theorem d5_98 : decode prog_43_method_3_code 98 = .ok (.lastore, 1) := by decide +kernel
theorem d5_99 : decode prog_43_method_3_code 99 = .ok (.return_, 1) := by decide +kernel
theorem pn_5 : plainName "com/example/isolens/isolens/checker/LongHeap" = true := by first | (simp [plainName, overriddenIn]; done) | decide +kernel
theorem ef_5 (m : MethodId) (o0 : Addr) (q1 : Int64) : entryFrame m #[(.ref o0), (.long q1)] 4 = mkF m 0 #[.val (.ref o0), .val (.long q1), .second, .unset] [] := by first | (simp [entryFrame, mkF, argsToLocals, Value.category]; done) | rfl
def Q5 (Z : State) (o0 b : Addr) (k : Int32) (i0 : Nat) (g : Nat → Int64) (q1 : Int64) (n0 : Nat) (v : Option Value) (h : Heap) (L : List Loc) : Prop := v = none ∧ Fr n0 L ∧ n0 ≤ h.size ∧ LH Z h o0 b (k + (1 : Int32)) (upF i0 g i0 q1)
set_option maxRecDepth 65536 in
set_option maxHeartbeats 40000000 in
theorem rm5 (l : Launch) (Z : State) (a0 : Array Value) (hw : ∀ d ∈ tables_1, d.before a0 Z = true) (ws : List Jvm.Cond) (o0 : Addr) (q1 : Int64) (b : Addr) (k : Int32) (i0 : Nat) (g : Nat → Int64) (h0 : Heap) (n0 : Nat) (Z0 : n0 ≤ h0.size) (H : LH Z h0 o0 b k g) (hk : k.toInt = i0) (hi : i0 < 16) (ga : n0 ≤ o0) (gb : n0 ≤ b) :
    MetFree l (⟨"com/example/isolens/isolens/checker/LongHeap", "add", "(J)V"⟩ : MethodName) (head1 (Jvm.Cond.code (⟨"com/example/isolens/isolens/checker/LongHeap", "add", "(J)V"⟩ : MethodName) prog_43_method_3_code 4 none :: ws) ({ frames := 0, cells := 0, slots := 0, locals := 0 } : Room)) (fun a U => a = #[(.ref o0), (.long q1)] ∧ Z.Warmed39 U.vm ∧ U.heap = h0) (fun _ _ _ _ _ => True) (fun _ U o U' => ∃ v L, o = .returned v ∧ (Q5 Z o0 b k i0 g q1 n0) v U'.heap L ∧ FrameEnd U o U' L ({ frames := 0, cells := 0, slots := 0, locals := 0 } : Room).cells ({ frames := 0, cells := 0, slots := 0, locals := 0 } : Room).slots) := by
  refine MetFree.of_bodySF (plainFor_of_name pn_5) hisR ?_
  intro p e s m args below meth c s₁ Bd hml0 hP hK
  obtain ⟨rfl, hZ, hh⟩ := hP
  have hx := Bd.exec
  have hby := Bd.bytes
  have hml : c.maxLocals = 4 := hml0
  have hown : s.vm.findClass "com/example/isolens/isolens/checker/LongHeap" = some m.cls := findClass_of_methodNamed Bd.named
  have hnm := (name_of_methodNamed Bd.named Bd.method).1
  have hlk : meth.locks = false := Bd.notSynchronized
  have X0 : Stand p l e ({ frames := 0, cells := 0, slots := 0, locals := 0 } : Room) s m #[(.ref o0), (.long q1)] below meth c s₁ [] 0 0 := Stand.of_body Bd
  have e0 : s₁.heap = h0 := by rw [← hh, Bd.state]; rfl
  have N0 := Fr.nil n0
  refine Go.by (tb := p.tables) (e := e) (below := below) (F := fun t o => ∃ v L, o = .returned v ∧ (Q5 Z o0 b k i0 g q1 n0) v t.heap L ∧ FrameEnd s o t L ({ frames := 0, cells := 0, slots := 0, locals := 0 } : Room).cells ({ frames := 0, cells := 0, slots := 0, locals := 0 } : Room).slots) (fun t k => castTop (ef_5 m o0 q1) k) ?_
  have J92 : ∀ (T : State) (locs : List Loc) (h : Heap) (X : Stand p l e ({ frames := 0, cells := 0, slots := 0, locals := 0 } : Room) s m #[(.ref o0), (.long q1)] below meth c T locs 0 0) (eT : T.heap = h) (N : Fr n0 locs) (hz : n0 ≤ h.size) (g' : Nat → Int64) (v3 : Int32) (i : Nat) (hv3 : v3.toInt = i) (hi3 : i < 16) (H' : LH Z h o0 b (k + (1 : Int32)) g') (hfin : upd g' i q1 = upF i0 g i0 q1), Go p.tables e below (fun t o => ∃ v L, o = .returned v ∧ (Q5 Z o0 b k i0 g q1 n0) v t.heap L ∧ FrameEnd s o t L ({ frames := 0, cells := 0, slots := 0, locals := 0 } : Room).cells ({ frames := 0, cells := 0, slots := 0, locals := 0 } : Room).slots) (T.setTop (mkF m 92 #[.val (.ref o0), .val (.long q1), .second, .val (.int v3)] [])) := by
    intro T locs h X eT N hz g' v3 i hv3 hi3 H' hfin
    show Go _ _ _ _ (T.setTop (mkF m 92 #[.val (.ref o0), .val (.long q1), .second, .val (.int v3)] []))
    refine Go.by (fun t9 k9 => XS.aloadN X.here hx rfl (hb hby d5_92) rfl rfl k9) ?_
    show Go _ _ _ _ (T.setTop (mkF m 93 #[.val (.ref o0), .val (.long q1), .second, .val (.int v3)] [(.ref o0)]))
    refine Go.items X hx hZ hown (hw _ (List.mem_of_getElem? (i := 17) rfl)) eT H' rfl rfl (hb hby d5_93) fun T1 X1 e1 => ?_
    show Go _ _ _ _ (T1.setTop (mkF m 96 #[.val (.ref o0), .val (.long q1), .second, .val (.int v3)] [(.ref b)]))
    refine Go.by (fun t9 k9 => XS.iloadN X1.here hx rfl (hb hby d5_96) rfl k9) ?_
    show Go _ _ _ _ (T1.setTop (mkF m 97 #[.val (.ref o0), .val (.long q1), .second, .val (.int v3)] [(.int v3), (.ref b)]))
    refine Go.by (fun t9 k9 => XT.lloadN X1.here hx rfl (hb hby d5_97) rfl k9) ?_
    show Go _ _ _ _ (T1.setTop (mkF m 98 #[.val (.ref o0), .val (.long q1), .second, .val (.int v3)] [(.long q1), (.int v3), (.ref b)]))
    refine Go.stJ X1 hx hZ e1 H' N hz gb (i := i) hv3 hi3 rfl rfl (hb hby d5_98) fun T2 h2 lc2 X2 e2 N2 hz2 H2 => ?_
    show Go _ _ _ _ (T2.setTop (mkF m 99 #[.val (.ref o0), .val (.long q1), .second, .val (.int v3)] []))
    exact Go.retV (Q := Q5 Z o0 b k i0 g q1 n0) X2 hx hlk Bd.returns (hb hby d5_99) (by rw [e2]; exact ⟨rfl, N2, hz2, hfin ▸ H2⟩) (by decide) (by decide)
  have J48 : ∀ (f : Nat) (T : State) (locs : List Loc) (h : Heap) (X : Stand p l e ({ frames := 0, cells := 0, slots := 0, locals := 0 } : Room) s m #[(.ref o0), (.long q1)] below meth c T locs 0 0) (eT : T.heap = h) (N : Fr n0 locs) (hz : n0 ≤ h.size) (g' : Nat → Int64) (v3 : Int32) (i : Nat) (hv3 : v3.toInt = i) (hif : i ≤ f) (hi3 : i < 16) (H' : LH Z h o0 b (k + (1 : Int32)) g') (hfin : upF f g' i q1 = upF i0 g i0 q1), Go p.tables e below (fun t o => ∃ v L, o = .returned v ∧ (Q5 Z o0 b k i0 g q1 n0) v t.heap L ∧ FrameEnd s o t L ({ frames := 0, cells := 0, slots := 0, locals := 0 } : Room).cells ({ frames := 0, cells := 0, slots := 0, locals := 0 } : Room).slots) (T.setTop (mkF m 48 #[.val (.ref o0), .val (.long q1), .second, .val (.int v3)] [])) := by
    intro f
    induction f with
    | zero =>
      intro T locs h X eT N hz g' v3 i hv3 hif hi3 H' hfin
      show Go _ _ _ _ (T.setTop (mkF m 48 #[.val (.ref o0), .val (.long q1), .second, .val (.int v3)] []))
      refine Go.by (fun t9 k9 => XS.iloadN X.here hx rfl (hb hby d5_48) rfl k9) ?_
      show Go _ _ _ _ (T.setTop (mkF m 49 #[.val (.ref o0), .val (.long q1), .second, .val (.int v3)] [(.int v3)]))
      refine Go.by (fun t9 k9 => XS.ifYes X.here hx rfl (pc0 := 49) (pc' := 92) rfl (hb hby d5_49) rfl (XT.i0_le_t (fun q => by have := (own_pos hv3).mp q; omega)) (by decide) (by decide) k9) ?_
      exact J92 T _ _ X eT N hz _ _ i hv3 hi3 H' hfin
    | succ f ih =>
      intro T locs h X eT N hz g' v3 i hv3 hif hi3 H' hfin
      show Go _ _ _ _ (T.setTop (mkF m 48 #[.val (.ref o0), .val (.long q1), .second, .val (.int v3)] []))
      refine Go.by (fun t9 k9 => XS.iloadN X.here hx rfl (hb hby d5_48) rfl k9) ?_
      show Go _ _ _ _ (T.setTop (mkF m 49 #[.val (.ref o0), .val (.long q1), .second, .val (.int v3)] [(.int v3)]))
      by_cases hc49 : 0 < v3
      · have hpos := (own_pos hv3).mp hc49
        rw [upF, if_pos hpos] at hfin
        refine Go.by (fun t9 k9 => XS.ifNo X.here hx rfl (hb hby d5_49) rfl (XT.i0_le_f hc49) k9) ?_
        show Go _ _ _ _ (T.setTop (mkF m 52 #[.val (.ref o0), .val (.long q1), .second, .val (.int v3)] []))
        refine Go.by (fun t9 k9 => XS.aloadN X.here hx rfl (hb hby d5_52) rfl rfl k9) ?_
        show Go _ _ _ _ (T.setTop (mkF m 53 #[.val (.ref o0), .val (.long q1), .second, .val (.int v3)] [(.ref o0)]))
        refine Go.items X hx hZ hown (hw _ (List.mem_of_getElem? (i := 17) rfl)) eT H' rfl rfl (hb hby d5_53) fun T3 X3 e3 => ?_
        show Go _ _ _ _ (T3.setTop (mkF m 56 #[.val (.ref o0), .val (.long q1), .second, .val (.int v3)] [(.ref b)]))
        refine Go.by (fun t9 k9 => XS.iloadN X3.here hx rfl (hb hby d5_56) rfl k9) ?_
        show Go _ _ _ _ (T3.setTop (mkF m 57 #[.val (.ref o0), .val (.long q1), .second, .val (.int v3)] [(.int v3), (.ref b)]))
        refine Go.by (fun t9 k9 => XS.iconst X3.here hx rfl (hb hby d5_57) k9) ?_
        show Go _ _ _ _ (T3.setTop (mkF m 58 #[.val (.ref o0), .val (.long q1), .second, .val (.int v3)] [(.int (1 : Int32)), (.int v3), (.ref b)]))
        refine Go.by (fun t9 k9 => XS.isub X3.here hx rfl (hb hby d5_58) rfl k9) ?_
        show Go _ _ _ _ (T3.setTop (mkF m 59 #[.val (.ref o0), .val (.long q1), .second, .val (.int v3)] [(.int (v3 - (1 : Int32))), (.ref b)]))
        refine Go.by (fun t9 k9 => XS.iconst X3.here hx rfl (hb hby d5_59) k9) ?_
        show Go _ _ _ _ (T3.setTop (mkF m 60 #[.val (.ref o0), .val (.long q1), .second, .val (.int v3)] [(.int (2 : Int32)), (.int (v3 - (1 : Int32))), (.ref b)]))
        refine Go.by (fun t9 k9 => XS.idiv X3.here hx rfl (hb hby d5_60) rfl (by decide) k9) ?_
        show Go _ _ _ _ (T3.setTop (mkF m 61 #[.val (.ref o0), .val (.long q1), .second, .val (.int v3)] [(.int ((v3 - (1 : Int32)) / (2 : Int32))), (.ref b)]))
        refine Go.ldJ X3 hx hZ e3 H' (i := ((i - 1) / 2)) (own_half hv3 hpos hi3) (by omega) rfl rfl (hb hby d5_61) ?_
        show Go _ _ _ _ (T3.setTop (mkF m 62 #[.val (.ref o0), .val (.long q1), .second, .val (.int v3)] [(.long (g' ((i - 1) / 2)))]))
        refine Go.by (fun t9 k9 => XT.lloadN X3.here hx rfl (hb hby d5_62) rfl k9) ?_
        show Go _ _ _ _ (T3.setTop (mkF m 63 #[.val (.ref o0), .val (.long q1), .second, .val (.int v3)] [(.long q1), (.long (g' ((i - 1) / 2)))]))
        refine Go.by (fun t9 k9 => XT.lcmp X3.here hx rfl (hb hby d5_63) rfl k9) ?_
        show Go _ _ _ _ (T3.setTop (mkF m 64 #[.val (.ref o0), .val (.long q1), .second, .val (.int v3)] [(.int (XT.cmpL (g' ((i - 1) / 2)) q1))]))
        by_cases hc64 : q1 < (g' ((i - 1) / 2))
        · rw [if_pos hc64] at hfin
          refine Go.by (fun t9 k9 => XS.ifNo X3.here hx rfl (hb hby d5_64) rfl (XT.ll_le_f hc64) k9) ?_
          show Go _ _ _ _ (T3.setTop (mkF m 67 #[.val (.ref o0), .val (.long q1), .second, .val (.int v3)] []))
          refine Go.by (fun t9 k9 => XS.aloadN X3.here hx rfl (hb hby d5_67) rfl rfl k9) ?_
          show Go _ _ _ _ (T3.setTop (mkF m 68 #[.val (.ref o0), .val (.long q1), .second, .val (.int v3)] [(.ref o0)]))
          refine Go.items X3 hx hZ hown (hw _ (List.mem_of_getElem? (i := 17) rfl)) e3 H' rfl rfl (hb hby d5_68) fun T4 X4 e4 => ?_
          show Go _ _ _ _ (T4.setTop (mkF m 71 #[.val (.ref o0), .val (.long q1), .second, .val (.int v3)] [(.ref b)]))
          refine Go.by (fun t9 k9 => XS.iloadN X4.here hx rfl (hb hby d5_71) rfl k9) ?_
          show Go _ _ _ _ (T4.setTop (mkF m 72 #[.val (.ref o0), .val (.long q1), .second, .val (.int v3)] [(.int v3), (.ref b)]))
          refine Go.by (fun t9 k9 => XS.aloadN X4.here hx rfl (hb hby d5_72) rfl rfl k9) ?_
          show Go _ _ _ _ (T4.setTop (mkF m 73 #[.val (.ref o0), .val (.long q1), .second, .val (.int v3)] [(.ref o0), (.int v3), (.ref b)]))
          refine Go.items X4 hx hZ hown (hw _ (List.mem_of_getElem? (i := 17) rfl)) e4 H' rfl rfl (hb hby d5_73) fun T5 X5 e5 => ?_
          show Go _ _ _ _ (T5.setTop (mkF m 76 #[.val (.ref o0), .val (.long q1), .second, .val (.int v3)] [(.ref b), (.int v3), (.ref b)]))
          refine Go.by (fun t9 k9 => XS.iloadN X5.here hx rfl (hb hby d5_76) rfl k9) ?_
          show Go _ _ _ _ (T5.setTop (mkF m 77 #[.val (.ref o0), .val (.long q1), .second, .val (.int v3)] [(.int v3), (.ref b), (.int v3), (.ref b)]))
          refine Go.by (fun t9 k9 => XS.iconst X5.here hx rfl (hb hby d5_77) k9) ?_
          show Go _ _ _ _ (T5.setTop (mkF m 78 #[.val (.ref o0), .val (.long q1), .second, .val (.int v3)] [(.int (1 : Int32)), (.int v3), (.ref b), (.int v3), (.ref b)]))
          refine Go.by (fun t9 k9 => XS.isub X5.here hx rfl (hb hby d5_78) rfl k9) ?_
          show Go _ _ _ _ (T5.setTop (mkF m 79 #[.val (.ref o0), .val (.long q1), .second, .val (.int v3)] [(.int (v3 - (1 : Int32))), (.ref b), (.int v3), (.ref b)]))
          refine Go.by (fun t9 k9 => XS.iconst X5.here hx rfl (hb hby d5_79) k9) ?_
          show Go _ _ _ _ (T5.setTop (mkF m 80 #[.val (.ref o0), .val (.long q1), .second, .val (.int v3)] [(.int (2 : Int32)), (.int (v3 - (1 : Int32))), (.ref b), (.int v3), (.ref b)]))
          refine Go.by (fun t9 k9 => XS.idiv X5.here hx rfl (hb hby d5_80) rfl (by decide) k9) ?_
          show Go _ _ _ _ (T5.setTop (mkF m 81 #[.val (.ref o0), .val (.long q1), .second, .val (.int v3)] [(.int ((v3 - (1 : Int32)) / (2 : Int32))), (.ref b), (.int v3), (.ref b)]))
          refine Go.ldJ X5 hx hZ e5 H' (i := ((i - 1) / 2)) (own_half hv3 hpos hi3) (by omega) rfl rfl (hb hby d5_81) ?_
          show Go _ _ _ _ (T5.setTop (mkF m 82 #[.val (.ref o0), .val (.long q1), .second, .val (.int v3)] [(.long (g' ((i - 1) / 2))), (.int v3), (.ref b)]))
          refine Go.stJ X5 hx hZ e5 H' N hz gb (i := i) hv3 hi3 rfl rfl (hb hby d5_82) fun T6 h6 lc6 X6 e6 N6 hz6 H6 => ?_
          show Go _ _ _ _ (T6.setTop (mkF m 83 #[.val (.ref o0), .val (.long q1), .second, .val (.int v3)] []))
          refine Go.by (fun t9 k9 => XS.iloadN X6.here hx rfl (hb hby d5_83) rfl k9) ?_
          show Go _ _ _ _ (T6.setTop (mkF m 84 #[.val (.ref o0), .val (.long q1), .second, .val (.int v3)] [(.int v3)]))
          refine Go.by (fun t9 k9 => XS.iconst X6.here hx rfl (hb hby d5_84) k9) ?_
          show Go _ _ _ _ (T6.setTop (mkF m 85 #[.val (.ref o0), .val (.long q1), .second, .val (.int v3)] [(.int (1 : Int32)), (.int v3)]))
          refine Go.by (fun t9 k9 => XS.isub X6.here hx rfl (hb hby d5_85) rfl k9) ?_
          show Go _ _ _ _ (T6.setTop (mkF m 86 #[.val (.ref o0), .val (.long q1), .second, .val (.int v3)] [(.int (v3 - (1 : Int32)))]))
          refine Go.by (fun t9 k9 => XS.iconst X6.here hx rfl (hb hby d5_86) k9) ?_
          show Go _ _ _ _ (T6.setTop (mkF m 87 #[.val (.ref o0), .val (.long q1), .second, .val (.int v3)] [(.int (2 : Int32)), (.int (v3 - (1 : Int32)))]))
          refine Go.by (fun t9 k9 => XS.idiv X6.here hx rfl (hb hby d5_87) rfl (by decide) k9) ?_
          show Go _ _ _ _ (T6.setTop (mkF m 88 #[.val (.ref o0), .val (.long q1), .second, .val (.int v3)] [(.int ((v3 - (1 : Int32)) / (2 : Int32)))]))
          refine Go.by (fun t9 k9 => XS.istoreN X6.here hx rfl (hb hby d5_88) rfl (l' := #[.val (.ref o0), .val (.long q1), .second, .val (.int ((v3 - (1 : Int32)) / (2 : Int32)))]) rfl k9) ?_
          show Go _ _ _ _ (T6.setTop (mkF m 89 #[.val (.ref o0), .val (.long q1), .second, .val (.int ((v3 - (1 : Int32)) / (2 : Int32)))] []))
          refine Go.by (fun t9 k9 => XS.goto X6.here hx rfl (pc0 := 89) (pc' := 48) rfl (hb hby d5_89) (by decide) (by decide) k9) ?_
          exact ih T6 _ _ X6 e6 N6 hz6 _ _ ((i - 1) / 2) (own_half hv3 hpos hi3) (by omega) (by omega) H6 hfin
        · rw [if_neg hc64] at hfin
          refine Go.by (fun t9 k9 => XS.ifYes X3.here hx rfl (pc0 := 64) (pc' := 92) rfl (hb hby d5_64) rfl (XT.ll_le_t hc64) (by decide) (by decide) k9) ?_
          exact J92 T3 _ _ X3 e3 N hz _ _ i hv3 hi3 H' hfin
      · rw [upF, if_neg (fun q => hc49 ((own_pos hv3).mpr q))] at hfin
        refine Go.by (fun t9 k9 => XS.ifYes X.here hx rfl (pc0 := 49) (pc' := 92) rfl (hb hby d5_49) rfl (XT.i0_le_t hc49) (by decide) (by decide) k9) ?_
        exact J92 T _ _ X eT N hz _ _ i hv3 hi3 H' hfin
  show Go _ _ _ _ (s₁.setTop (mkF m 0 #[.val (.ref o0), .val (.long q1), .second, .unset] []))
  refine Go.by (fun t9 k9 => XS.aloadN X0.here hx rfl (hb hby d5_0) rfl rfl k9) ?_
  show Go _ _ _ _ (s₁.setTop (mkF m 1 #[.val (.ref o0), .val (.long q1), .second, .unset] [(.ref o0)]))
  refine Go.sizeF X0 hx hZ hown (hw _ (List.mem_of_getElem? (i := 24) rfl)) e0 H rfl rfl (hb hby d5_1) fun T7 X7 e7 => ?_
  show Go _ _ _ _ (T7.setTop (mkF m 4 #[.val (.ref o0), .val (.long q1), .second, .unset] [(.int k)]))
  refine Go.by (fun t9 k9 => XS.aloadN X7.here hx rfl (hb hby d5_4) rfl rfl k9) ?_
  show Go _ _ _ _ (T7.setTop (mkF m 5 #[.val (.ref o0), .val (.long q1), .second, .unset] [(.ref o0), (.int k)]))
  refine Go.items X7 hx hZ hown (hw _ (List.mem_of_getElem? (i := 17) rfl)) e7 H rfl rfl (hb hby d5_5) fun T8 X8 e8 => ?_
  show Go _ _ _ _ (T8.setTop (mkF m 8 #[.val (.ref o0), .val (.long q1), .second, .unset] [(.ref b), (.int k)]))
  refine Go.lenJ X8 hx hZ e8 H rfl rfl (hb hby d5_8) ?_
  show Go _ _ _ _ (T8.setTop (mkF m 9 #[.val (.ref o0), .val (.long q1), .second, .unset] [(.int (16 : Int32)), (.int k)]))
  refine Go.by (fun t9 k9 => XS.icmpYes X8.here hx rfl (pc0 := 9) (pc' := 36) rfl (hb hby d5_9) rfl (XT.ii_ne_t (fun q => by rw [q] at hk; have z : (16 : Int32).toInt = 16 := rfl; omega)) (by decide) (by decide) k9) ?_
  show Go _ _ _ _ (T8.setTop (mkF m 36 #[.val (.ref o0), .val (.long q1), .second, .unset] []))
  refine Go.by (fun t9 k9 => XS.aloadN X8.here hx rfl (hb hby d5_36) rfl rfl k9) ?_
  show Go _ _ _ _ (T8.setTop (mkF m 37 #[.val (.ref o0), .val (.long q1), .second, .unset] [(.ref o0)]))
  refine Go.by (fun t9 k9 => XS.dup X8.here hx rfl (hb hby d5_37) rfl rfl k9) ?_
  show Go _ _ _ _ (T8.setTop (mkF m 38 #[.val (.ref o0), .val (.long q1), .second, .unset] [(.ref o0), (.ref o0)]))
  refine Go.sizeF X8 hx hZ hown (hw _ (List.mem_of_getElem? (i := 24) rfl)) e8 H rfl rfl (hb hby d5_38) fun T9 X9 e9 => ?_
  show Go _ _ _ _ (T9.setTop (mkF m 41 #[.val (.ref o0), .val (.long q1), .second, .unset] [(.int k), (.ref o0)]))
  refine Go.by (fun t9 k9 => XT.dupX1 X9.here hx rfl (hb hby d5_41) rfl rfl rfl k9) ?_
  show Go _ _ _ _ (T9.setTop (mkF m 42 #[.val (.ref o0), .val (.long q1), .second, .unset] [(.int k), (.ref o0), (.int k)]))
  refine Go.by (fun t9 k9 => XS.iconst X9.here hx rfl (hb hby d5_42) k9) ?_
  show Go _ _ _ _ (T9.setTop (mkF m 43 #[.val (.ref o0), .val (.long q1), .second, .unset] [(.int (1 : Int32)), (.int k), (.ref o0), (.int k)]))
  refine Go.by (fun t9 k9 => XS.iadd X9.here hx rfl (hb hby d5_43) rfl k9) ?_
  show Go _ _ _ _ (T9.setTop (mkF m 44 #[.val (.ref o0), .val (.long q1), .second, .unset] [(.int (k + (1 : Int32))), (.ref o0), (.int k)]))
  refine Go.putSize X9 hx hZ hown (hw _ (List.mem_of_getElem? (i := 24) rfl)) (hw _ (List.mem_of_getElem? (i := 25) rfl)) (hw _ (List.mem_of_getElem? (i := 18) rfl)) (hw _ (List.mem_of_getElem? (i := 8) rfl)) e9 H N0 Z0 ga rfl rfl (hb hby d5_44) fun T10 h10 lc10 X10 e10 N10 hz10 H10 => ?_
  show Go _ _ _ _ (T10.setTop (mkF m 47 #[.val (.ref o0), .val (.long q1), .second, .unset] [(.int k)]))
  refine Go.by (fun t9 k9 => XS.istoreN X10.here hx rfl (hb hby d5_47) rfl (l' := #[.val (.ref o0), .val (.long q1), .second, .val (.int k)]) rfl k9) ?_
  exact J48 i0 T10 _ _ X10 e10 N10 hz10 _ _ i0 hk (Nat.le_refl _) hi H10 rfl
theorem own_ch (g : Nat → Int64) {n ch : Nat} (h : ch < n) : ch ≤ chF g n ch ∧ chF g n ch < n := by
  unfold chF; split
  · split <;> omega
  · omega
theorem d6_0 : decode prog_43_method_4_code 0 = .ok (.aload_n 0, 1) := by decide +kernel
theorem d6_1 : decode prog_43_method_4_code 1 = .ok (.getfield 7, 3) := by decide +kernel
theorem d6_4 : decode prog_43_method_4_code 4 = .ok (.iconst 0, 1) := by decide +kernel
theorem d6_5 : decode prog_43_method_4_code 5 = .ok (.laload, 1) := by decide +kernel
theorem d6_6 : decode prog_43_method_4_code 6 = .ok (.lstore_n 1, 1) := by decide +kernel
theorem d6_7 : decode prog_43_method_4_code 7 = .ok (.aload_n 0, 1) := by decide +kernel
theorem d6_8 : decode prog_43_method_4_code 8 = .ok (.getfield 7, 3) := by decide +kernel
theorem d6_11 : decode prog_43_method_4_code 11 = .ok (.aload_n 0, 1) := by decide +kernel
theorem d6_12 : decode prog_43_method_4_code 12 = .ok (.dup, 1) := by decide +kernel
theorem d6_13 : decode prog_43_method_4_code 13 = .ok (.getfield 13, 3) := by decide +kernel
theorem d6_16 : decode prog_43_method_4_code 16 = .ok (.iconst 1, 1) := by decide +kernel
theorem d6_17 : decode prog_43_method_4_code 17 = .ok (.isub, 1) := by decide +kernel
theorem d6_18 : decode prog_43_method_4_code 18 = .ok (.dup_x1, 1) := by decide +kernel
theorem d6_19 : decode prog_43_method_4_code 19 = .ok (.putfield 13, 3) := by decide +kernel
theorem d6_22 : decode prog_43_method_4_code 22 = .ok (.laload, 1) := by decide +kernel
theorem d6_23 : decode prog_43_method_4_code 23 = .ok (.lstore_n 3, 1) := by decide +kernel
theorem d6_24 : decode prog_43_method_4_code 24 = .ok (.iconst 0, 1) := by decide +kernel
theorem d6_25 : decode prog_43_method_4_code 25 = .ok (.istore 5, 2) := by decide +kernel
theorem d6_27 : decode prog_43_method_4_code 27 = .ok (.iconst 1, 1) := by decide +kernel
theorem d6_28 : decode prog_43_method_4_code 28 = .ok (.istore 6, 2) := by decide +kernel
theorem d6_30 : decode prog_43_method_4_code 30 = .ok (.iload 6, 2) := by decide +kernel
theorem d6_32 : decode prog_43_method_4_code 32 = .ok (.aload_n 0, 1) := by decide +kernel
theorem d6_33 : decode prog_43_method_4_code 33 = .ok (.getfield 13, 3) := by decide +kernel
theorem d6_36 : decode prog_43_method_4_code 36 = .ok (.if_icmp .ge 81, 3) := by decide +kernel
theorem d6_39 : decode prog_43_method_4_code 39 = .ok (.iload 6, 2) := by decide +kernel
theorem d6_41 : decode prog_43_method_4_code 41 = .ok (.iconst 1, 1) := by decide +kernel
theorem d6_42 : decode prog_43_method_4_code 42 = .ok (.iadd, 1) := by decide +kernel
theorem d6_43 : decode prog_43_method_4_code 43 = .ok (.aload_n 0, 1) := by decide +kernel
theorem d6_44 : decode prog_43_method_4_code 44 = .ok (.getfield 13, 3) := by decide +kernel
theorem d6_47 : decode prog_43_method_4_code 47 = .ok (.if_icmp .ge 26, 3) := by decide +kernel
theorem d6_50 : decode prog_43_method_4_code 50 = .ok (.aload_n 0, 1) := by decide +kernel
theorem d6_51 : decode prog_43_method_4_code 51 = .ok (.getfield 7, 3) := by decide +kernel
theorem d6_54 : decode prog_43_method_4_code 54 = .ok (.iload 6, 2) := by decide +kernel
theorem d6_56 : decode prog_43_method_4_code 56 = .ok (.iconst 1, 1) := by decide +kernel
theorem d6_57 : decode prog_43_method_4_code 57 = .ok (.iadd, 1) := by decide +kernel
theorem d6_58 : decode prog_43_method_4_code 58 = .ok (.laload, 1) := by decide +kernel
theorem d6_59 : decode prog_43_method_4_code 59 = .ok (.aload_n 0, 1) := by decide +kernel
theorem d6_60 : decode prog_43_method_4_code 60 = .ok (.getfield 7, 3) := by decide +kernel
theorem d6_63 : decode prog_43_method_4_code 63 = .ok (.iload 6, 2) := by decide +kernel
theorem d6_65 : decode prog_43_method_4_code 65 = .ok (.laload, 1) := by decide +kernel
theorem d6_66 : decode prog_43_method_4_code 66 = .ok (.lcmp, 1) := by decide +kernel
theorem d6_67 : decode prog_43_method_4_code 67 = .ok (.ifCond .ge 6, 3) := by decide +kernel
theorem d6_70 : decode prog_43_method_4_code 70 = .ok (.iinc 6 1, 3) := by decide +kernel
theorem d6_73 : decode prog_43_method_4_code 73 = .ok (.aload_n 0, 1) := by decide +kernel
theorem d6_74 : decode prog_43_method_4_code 74 = .ok (.getfield 7, 3) := by decide +kernel
theorem d6_77 : decode prog_43_method_4_code 77 = .ok (.iload 6, 2) := by decide +kernel
theorem d6_79 : decode prog_43_method_4_code 79 = .ok (.laload, 1) := by decide +kernel
theorem d6_80 : decode prog_43_method_4_code 80 = .ok (.lload_n 3, 1) := by decide +kernel
theorem d6_81 : decode prog_43_method_4_code 81 = .ok (.lcmp, 1) := by decide +kernel
theorem d6_82 : decode prog_43_method_4_code 82 = .ok (.ifCond .lt 6, 3) := by decide +kernel
theorem d6_85 : decode prog_43_method_4_code 85 = .ok (.goto 32, 3) := by decide +kernel
theorem d6_88 : decode prog_43_method_4_code 88 = .ok (.aload_n 0, 1) := by decide +kernel
theorem d6_89 : decode prog_43_method_4_code 89 = .ok (.getfield 7, 3) := by decide +kernel
theorem d6_92 : decode prog_43_method_4_code 92 = .ok (.iload 5, 2) := by decide +kernel
theorem d6_94 : decode prog_43_method_4_code 94 = .ok (.aload_n 0, 1) := by decide +kernel
theorem d6_95 : decode prog_43_method_4_code 95 = .ok (.getfield 7, 3) := by decide +kernel
theorem d6_98 : decode prog_43_method_4_code 98 = .ok (.iload 6, 2) := by decide +kernel
theorem d6_100 : decode prog_43_method_4_code 100 = .ok (.laload, 1) := by decide +kernel
theorem d6_101 : decode prog_43_method_4_code 101 = .ok (.lastore, 1) := by decide +kernel
theorem d6_102 : decode prog_43_method_4_code 102 = .ok (.iload 6, 2) := by decide +kernel
theorem d6_104 : decode prog_43_method_4_code 104 = .ok (.istore 5, 2) := by decide +kernel
theorem d6_106 : decode prog_43_method_4_code 106 = .ok (.iconst 2, 1) := by decide +kernel
theorem d6_107 : decode prog_43_method_4_code 107 = .ok (.iload 5, 2) := by decide +kernel
theorem d6_109 : decode prog_43_method_4_code 109 = .ok (.imul, 1) := by decide +kernel
theorem d6_110 : decode prog_43_method_4_code 110 = .ok (.iconst 1, 1) := by decide +kernel
theorem d6_111 : decode prog_43_method_4_code 111 = .ok (.iadd, 1) := by decide +kernel
theorem d6_112 : decode prog_43_method_4_code 112 = .ok (.istore 6, 2) := by decide +kernel
theorem d6_114 : decode prog_43_method_4_code 114 = .ok (.goto (-84), 3) := by decide +kernel
theorem d6_117 : decode prog_43_method_4_code 117 = .ok (.aload_n 0, 1) := by decide +kernel
theorem d6_118 : decode prog_43_method_4_code 118 = .ok (.getfield 7, 3) := by decide +kernel
theorem d6_121 : decode prog_43_method_4_code 121 = .ok (.iload 5, 2) := by decide +kernel
theorem d6_123 : decode prog_43_method_4_code 123 = .ok (.lload_n 3, 1) := by decide +kernel
theorem d6_124 : decode prog_43_method_4_code 124 = .ok (.lastore, 1) := by decide +kernel
theorem d6_125 : decode prog_43_method_4_code 125 = .ok (.lload_n 1, 1) := by decide +kernel
theorem d6_126 : decode prog_43_method_4_code 126 = .ok (.lreturn, 1) := by decide +kernel
theorem pn_6 : plainName "com/example/isolens/isolens/checker/LongHeap" = true := by first | (simp [plainName, overriddenIn]; done) | decide +kernel
theorem ef_6 (m : MethodId) (o0 : Addr) : entryFrame m #[(.ref o0)] 7 = mkF m 0 #[.val (.ref o0), .unset, .unset, .unset, .unset, .unset, .unset] [] := by first | (simp [entryFrame, mkF, argsToLocals, Value.category]; done) | rfl
def Q6 (Z : State) (o0 b : Addr) (k : Int32) (i0 : Nat) (g : Nat → Int64) (n0 : Nat) (v : Option Value) (h : Heap) (L : List Loc) : Prop := v = some (.long (g 0)) ∧ Fr n0 L ∧ n0 ≤ h.size ∧ LH Z h o0 b (k - (1 : Int32)) (dnF (i0 - 1) g (i0 - 1) 0 1 (g (i0 - 1)))
set_option maxRecDepth 65536 in
set_option maxHeartbeats 40000000 in
theorem rm6 (l : Launch) (Z : State) (a0 : Array Value) (hw : ∀ d ∈ tables_1, d.before a0 Z = true) (ws : List Jvm.Cond) (o0 : Addr) (b : Addr) (k : Int32) (i0 : Nat) (g : Nat → Int64) (h0 : Heap) (n0 : Nat) (Z0 : n0 ≤ h0.size) (H : LH Z h0 o0 b k g) (hk : k.toInt = i0) (hp : 0 < i0) (hi : i0 < 16) (ga : n0 ≤ o0) (gb : n0 ≤ b) :
    MetFree l (⟨"com/example/isolens/isolens/checker/LongHeap", "removeSmallest", "()J"⟩ : MethodName) (head1 (Jvm.Cond.code (⟨"com/example/isolens/isolens/checker/LongHeap", "removeSmallest", "()J"⟩ : MethodName) prog_43_method_4_code 7 (some .long) :: ws) ({ frames := 0, cells := 0, slots := 0, locals := 0 } : Room)) (fun a U => a = #[(.ref o0)] ∧ Z.Warmed39 U.vm ∧ U.heap = h0) (fun _ _ _ _ _ => True) (fun _ U o U' => ∃ v L, o = .returned v ∧ (Q6 Z o0 b k i0 g n0) v U'.heap L ∧ FrameEnd U o U' L ({ frames := 0, cells := 0, slots := 0, locals := 0 } : Room).cells ({ frames := 0, cells := 0, slots := 0, locals := 0 } : Room).slots) := by
  refine MetFree.of_bodySF (plainFor_of_name pn_6) hisR ?_
  intro p e s m args below meth c s₁ Bd hml0 hP hK
  obtain ⟨rfl, hZ, hh⟩ := hP
  have hx := Bd.exec
  have hby := Bd.bytes
  have hml : c.maxLocals = 7 := hml0
  have hown : s.vm.findClass "com/example/isolens/isolens/checker/LongHeap" = some m.cls := findClass_of_methodNamed Bd.named
  have hnm := (name_of_methodNamed Bd.named Bd.method).1
  have hlk : meth.locks = false := Bd.notSynchronized
  have X0 : Stand p l e ({ frames := 0, cells := 0, slots := 0, locals := 0 } : Room) s m #[(.ref o0)] below meth c s₁ [] 0 0 := Stand.of_body Bd
  have e0 : s₁.heap = h0 := by rw [← hh, Bd.state]; rfl
  have N0 := Fr.nil n0
  refine Go.by (tb := p.tables) (e := e) (below := below) (F := fun t o => ∃ v L, o = .returned v ∧ (Q6 Z o0 b k i0 g n0) v t.heap L ∧ FrameEnd s o t L ({ frames := 0, cells := 0, slots := 0, locals := 0 } : Room).cells ({ frames := 0, cells := 0, slots := 0, locals := 0 } : Room).slots) (fun t k => castTop (ef_6 m o0) k) ?_
  have hkk : (k - (1 : Int32)).toInt = (i0 - 1 : Nat) := own_dec hk hp (by omega)
  have J117 : ∀ (T : State) (locs : List Loc) (h : Heap) (X : Stand p l e ({ frames := 0, cells := 0, slots := 0, locals := 0 } : Room) s m #[(.ref o0)] below meth c T locs 0 0) (eT : T.heap = h) (N : Fr n0 locs) (hz : n0 ≤ h.size) (g' : Nat → Int64) (v5 v6 : Int32) (i5 : Nat) (hv5 : v5.toInt = i5) (hi5 : i5 < 16) (H' : LH Z h o0 b (k - (1 : Int32)) g') (hfin : upd g' i5 (g (i0 - 1)) = dnF (i0 - 1) g (i0 - 1) 0 1 (g (i0 - 1))), Go p.tables e below (fun t o => ∃ v L, o = .returned v ∧ (Q6 Z o0 b k i0 g n0) v t.heap L ∧ FrameEnd s o t L ({ frames := 0, cells := 0, slots := 0, locals := 0 } : Room).cells ({ frames := 0, cells := 0, slots := 0, locals := 0 } : Room).slots) (T.setTop (mkF m 117 #[.val (.ref o0), .val (.long (g 0)), .second, .val (.long (g (i0 - 1))), .second, .val (.int v5), .val (.int v6)] [])) := by
    intro T locs h X eT N hz g' v5 v6 i5 hv5 hi5 H' hfin
    show Go _ _ _ _ (T.setTop (mkF m 117 #[.val (.ref o0), .val (.long (g 0)), .second, .val (.long (g (i0 - 1))), .second, .val (.int v5), .val (.int v6)] []))
    refine Go.by (fun t9 k9 => XS.aloadN X.here hx rfl (hb hby d6_117) rfl rfl k9) ?_
    show Go _ _ _ _ (T.setTop (mkF m 118 #[.val (.ref o0), .val (.long (g 0)), .second, .val (.long (g (i0 - 1))), .second, .val (.int v5), .val (.int v6)] [(.ref o0)]))
    refine Go.items X hx hZ hown (hw _ (List.mem_of_getElem? (i := 17) rfl)) eT H' rfl rfl (hb hby d6_118) fun T1 X1 e1 => ?_
    show Go _ _ _ _ (T1.setTop (mkF m 121 #[.val (.ref o0), .val (.long (g 0)), .second, .val (.long (g (i0 - 1))), .second, .val (.int v5), .val (.int v6)] [(.ref b)]))
    refine Go.by (fun t9 k9 => XS.iload X1.here hx rfl (hb hby d6_121) rfl k9) ?_
    show Go _ _ _ _ (T1.setTop (mkF m 123 #[.val (.ref o0), .val (.long (g 0)), .second, .val (.long (g (i0 - 1))), .second, .val (.int v5), .val (.int v6)] [(.int v5), (.ref b)]))
    refine Go.by (fun t9 k9 => XT.lloadN X1.here hx rfl (hb hby d6_123) rfl k9) ?_
    show Go _ _ _ _ (T1.setTop (mkF m 124 #[.val (.ref o0), .val (.long (g 0)), .second, .val (.long (g (i0 - 1))), .second, .val (.int v5), .val (.int v6)] [(.long (g (i0 - 1))), (.int v5), (.ref b)]))
    refine Go.stJ X1 hx hZ e1 H' N hz gb (i := i5) hv5 hi5 rfl rfl (hb hby d6_124) fun T2 h2 lc2 X2 e2 N2 hz2 H2 => ?_
    show Go _ _ _ _ (T2.setTop (mkF m 125 #[.val (.ref o0), .val (.long (g 0)), .second, .val (.long (g (i0 - 1))), .second, .val (.int v5), .val (.int v6)] []))
    refine Go.by (fun t9 k9 => XT.lloadN X2.here hx rfl (hb hby d6_125) rfl k9) ?_
    show Go _ _ _ _ (T2.setTop (mkF m 126 #[.val (.ref o0), .val (.long (g 0)), .second, .val (.long (g (i0 - 1))), .second, .val (.int v5), .val (.int v6)] [(.long (g 0))]))
    exact Go.retJ (Q := Q6 Z o0 b k i0 g n0) X2 hx hlk Bd.returns (hb hby d6_126) (by rw [e2]; exact ⟨rfl, N2, hz2, hfin ▸ H2⟩) (by decide) (by decide)
  have J30 : ∀ (f : Nat) (T : State) (locs : List Loc) (h : Heap) (X : Stand p l e ({ frames := 0, cells := 0, slots := 0, locals := 0 } : Room) s m #[(.ref o0)] below meth c T locs 0 0) (eT : T.heap = h) (N : Fr n0 locs) (hz : n0 ≤ h.size) (g' : Nat → Int64) (v5 v6 : Int32) (i5 i6 : Nat) (hv5 : v5.toInt = i5) (hv6 : v6.toInt = i6) (hi5 : i5 < 16) (hff : i0 - 1 ≤ i6 + f) (H' : LH Z h o0 b (k - (1 : Int32)) g') (hfin : dnF f g' (i0 - 1) i5 i6 (g (i0 - 1)) = dnF (i0 - 1) g (i0 - 1) 0 1 (g (i0 - 1))), Go p.tables e below (fun t o => ∃ v L, o = .returned v ∧ (Q6 Z o0 b k i0 g n0) v t.heap L ∧ FrameEnd s o t L ({ frames := 0, cells := 0, slots := 0, locals := 0 } : Room).cells ({ frames := 0, cells := 0, slots := 0, locals := 0 } : Room).slots) (T.setTop (mkF m 30 #[.val (.ref o0), .val (.long (g 0)), .second, .val (.long (g (i0 - 1))), .second, .val (.int v5), .val (.int v6)] [])) := by
    intro f
    induction f with
    | zero =>
      intro T locs h X eT N hz g' v5 v6 i5 i6 hv5 hv6 hi5 hff H' hfin
      show Go _ _ _ _ (T.setTop (mkF m 30 #[.val (.ref o0), .val (.long (g 0)), .second, .val (.long (g (i0 - 1))), .second, .val (.int v5), .val (.int v6)] []))
      refine Go.by (fun t9 k9 => XS.iload X.here hx rfl (hb hby d6_30) rfl k9) ?_
      show Go _ _ _ _ (T.setTop (mkF m 32 #[.val (.ref o0), .val (.long (g 0)), .second, .val (.long (g (i0 - 1))), .second, .val (.int v5), .val (.int v6)] [(.int v6)]))
      refine Go.by (fun t9 k9 => XS.aloadN X.here hx rfl (hb hby d6_32) rfl rfl k9) ?_
      show Go _ _ _ _ (T.setTop (mkF m 33 #[.val (.ref o0), .val (.long (g 0)), .second, .val (.long (g (i0 - 1))), .second, .val (.int v5), .val (.int v6)] [(.ref o0), (.int v6)]))
      refine Go.sizeF X hx hZ hown (hw _ (List.mem_of_getElem? (i := 24) rfl)) eT H' rfl rfl (hb hby d6_33) fun T3 X3 e3 => ?_
      show Go _ _ _ _ (T3.setTop (mkF m 36 #[.val (.ref o0), .val (.long (g 0)), .second, .val (.long (g (i0 - 1))), .second, .val (.int v5), .val (.int v6)] [(.int (k - (1 : Int32))), (.int v6)]))
      refine Go.by (fun t9 k9 => XS.icmpYes X3.here hx rfl (pc0 := 36) (pc' := 117) rfl (hb hby d6_36) rfl (XT.ii_ge_t (fun q => by have := (own_ltN hv6 hkk).mp q; omega)) (by decide) (by decide) k9) ?_
      exact J117 T3 _ _ X3 e3 N hz _ _ _ i5 hv5 hi5 H' hfin
    | succ f ih =>
      intro T locs h X eT N hz g' v5 v6 i5 i6 hv5 hv6 hi5 hff H' hfin
      show Go _ _ _ _ (T.setTop (mkF m 30 #[.val (.ref o0), .val (.long (g 0)), .second, .val (.long (g (i0 - 1))), .second, .val (.int v5), .val (.int v6)] []))
      refine Go.by (fun t9 k9 => XS.iload X.here hx rfl (hb hby d6_30) rfl k9) ?_
      show Go _ _ _ _ (T.setTop (mkF m 32 #[.val (.ref o0), .val (.long (g 0)), .second, .val (.long (g (i0 - 1))), .second, .val (.int v5), .val (.int v6)] [(.int v6)]))
      refine Go.by (fun t9 k9 => XS.aloadN X.here hx rfl (hb hby d6_32) rfl rfl k9) ?_
      show Go _ _ _ _ (T.setTop (mkF m 33 #[.val (.ref o0), .val (.long (g 0)), .second, .val (.long (g (i0 - 1))), .second, .val (.int v5), .val (.int v6)] [(.ref o0), (.int v6)]))
      refine Go.sizeF X hx hZ hown (hw _ (List.mem_of_getElem? (i := 24) rfl)) eT H' rfl rfl (hb hby d6_33) fun T4 X4 e4 => ?_
      show Go _ _ _ _ (T4.setTop (mkF m 36 #[.val (.ref o0), .val (.long (g 0)), .second, .val (.long (g (i0 - 1))), .second, .val (.int v5), .val (.int v6)] [(.int (k - (1 : Int32))), (.int v6)]))
      by_cases hc36 : v6 < (k - (1 : Int32))
      · have hlt := (own_ltN hv6 hkk).mp hc36
        rw [dnF, if_pos hlt] at hfin
        obtain ⟨hch1, hch2⟩ := own_ch g' hlt
        refine Go.by (fun t9 k9 => XS.icmpNo X4.here hx rfl (hb hby d6_36) rfl (XT.ii_ge_f hc36) k9) ?_
        have J73 : ∀ (T : State) (X : Stand p l e ({ frames := 0, cells := 0, slots := 0, locals := 0 } : Room) s m #[(.ref o0)] below meth c T locs 0 0) (eT : T.heap = h) (w6 : Int32) (hw6 : w6.toInt = ((chF g' (i0 - 1) i6) : Nat)), Go p.tables e below (fun t o => ∃ v L, o = .returned v ∧ (Q6 Z o0 b k i0 g n0) v t.heap L ∧ FrameEnd s o t L ({ frames := 0, cells := 0, slots := 0, locals := 0 } : Room).cells ({ frames := 0, cells := 0, slots := 0, locals := 0 } : Room).slots) (T.setTop (mkF m 73 #[.val (.ref o0), .val (.long (g 0)), .second, .val (.long (g (i0 - 1))), .second, .val (.int v5), .val (.int w6)] [])) := by
          intro T X eT w6 hw6
          show Go _ _ _ _ (T.setTop (mkF m 73 #[.val (.ref o0), .val (.long (g 0)), .second, .val (.long (g (i0 - 1))), .second, .val (.int v5), .val (.int w6)] []))
          refine Go.by (fun t9 k9 => XS.aloadN X.here hx rfl (hb hby d6_73) rfl rfl k9) ?_
          show Go _ _ _ _ (T.setTop (mkF m 74 #[.val (.ref o0), .val (.long (g 0)), .second, .val (.long (g (i0 - 1))), .second, .val (.int v5), .val (.int w6)] [(.ref o0)]))
          refine Go.items X hx hZ hown (hw _ (List.mem_of_getElem? (i := 17) rfl)) eT H' rfl rfl (hb hby d6_74) fun T5 X5 e5 => ?_
          show Go _ _ _ _ (T5.setTop (mkF m 77 #[.val (.ref o0), .val (.long (g 0)), .second, .val (.long (g (i0 - 1))), .second, .val (.int v5), .val (.int w6)] [(.ref b)]))
          refine Go.by (fun t9 k9 => XS.iload X5.here hx rfl (hb hby d6_77) rfl k9) ?_
          show Go _ _ _ _ (T5.setTop (mkF m 79 #[.val (.ref o0), .val (.long (g 0)), .second, .val (.long (g (i0 - 1))), .second, .val (.int v5), .val (.int w6)] [(.int w6), (.ref b)]))
          refine Go.ldJ X5 hx hZ e5 H' (i := (chF g' (i0 - 1) i6)) hw6 (by omega) rfl rfl (hb hby d6_79) ?_
          show Go _ _ _ _ (T5.setTop (mkF m 80 #[.val (.ref o0), .val (.long (g 0)), .second, .val (.long (g (i0 - 1))), .second, .val (.int v5), .val (.int w6)] [(.long (g' (chF g' (i0 - 1) i6)))]))
          refine Go.by (fun t9 k9 => XT.lloadN X5.here hx rfl (hb hby d6_80) rfl k9) ?_
          show Go _ _ _ _ (T5.setTop (mkF m 81 #[.val (.ref o0), .val (.long (g 0)), .second, .val (.long (g (i0 - 1))), .second, .val (.int v5), .val (.int w6)] [(.long (g (i0 - 1))), (.long (g' (chF g' (i0 - 1) i6)))]))
          refine Go.by (fun t9 k9 => XT.lcmp X5.here hx rfl (hb hby d6_81) rfl k9) ?_
          show Go _ _ _ _ (T5.setTop (mkF m 82 #[.val (.ref o0), .val (.long (g 0)), .second, .val (.long (g (i0 - 1))), .second, .val (.int v5), .val (.int w6)] [(.int (XT.cmpL (g' (chF g' (i0 - 1) i6)) (g (i0 - 1))))]))
          by_cases hc82 : (g' (chF g' (i0 - 1) i6)) < (g (i0 - 1))
          · rw [if_pos hc82] at hfin
            refine Go.by (fun t9 k9 => XS.ifYes X5.here hx rfl (pc0 := 82) (pc' := 88) rfl (hb hby d6_82) rfl (XT.ll_lt_t hc82) (by decide) (by decide) k9) ?_
            show Go _ _ _ _ (T5.setTop (mkF m 88 #[.val (.ref o0), .val (.long (g 0)), .second, .val (.long (g (i0 - 1))), .second, .val (.int v5), .val (.int w6)] []))
            refine Go.by (fun t9 k9 => XS.aloadN X5.here hx rfl (hb hby d6_88) rfl rfl k9) ?_
            show Go _ _ _ _ (T5.setTop (mkF m 89 #[.val (.ref o0), .val (.long (g 0)), .second, .val (.long (g (i0 - 1))), .second, .val (.int v5), .val (.int w6)] [(.ref o0)]))
            refine Go.items X5 hx hZ hown (hw _ (List.mem_of_getElem? (i := 17) rfl)) e5 H' rfl rfl (hb hby d6_89) fun T6 X6 e6 => ?_
            show Go _ _ _ _ (T6.setTop (mkF m 92 #[.val (.ref o0), .val (.long (g 0)), .second, .val (.long (g (i0 - 1))), .second, .val (.int v5), .val (.int w6)] [(.ref b)]))
            refine Go.by (fun t9 k9 => XS.iload X6.here hx rfl (hb hby d6_92) rfl k9) ?_
            show Go _ _ _ _ (T6.setTop (mkF m 94 #[.val (.ref o0), .val (.long (g 0)), .second, .val (.long (g (i0 - 1))), .second, .val (.int v5), .val (.int w6)] [(.int v5), (.ref b)]))
            refine Go.by (fun t9 k9 => XS.aloadN X6.here hx rfl (hb hby d6_94) rfl rfl k9) ?_
            show Go _ _ _ _ (T6.setTop (mkF m 95 #[.val (.ref o0), .val (.long (g 0)), .second, .val (.long (g (i0 - 1))), .second, .val (.int v5), .val (.int w6)] [(.ref o0), (.int v5), (.ref b)]))
            refine Go.items X6 hx hZ hown (hw _ (List.mem_of_getElem? (i := 17) rfl)) e6 H' rfl rfl (hb hby d6_95) fun T7 X7 e7 => ?_
            show Go _ _ _ _ (T7.setTop (mkF m 98 #[.val (.ref o0), .val (.long (g 0)), .second, .val (.long (g (i0 - 1))), .second, .val (.int v5), .val (.int w6)] [(.ref b), (.int v5), (.ref b)]))
            refine Go.by (fun t9 k9 => XS.iload X7.here hx rfl (hb hby d6_98) rfl k9) ?_
            show Go _ _ _ _ (T7.setTop (mkF m 100 #[.val (.ref o0), .val (.long (g 0)), .second, .val (.long (g (i0 - 1))), .second, .val (.int v5), .val (.int w6)] [(.int w6), (.ref b), (.int v5), (.ref b)]))
            refine Go.ldJ X7 hx hZ e7 H' (i := (chF g' (i0 - 1) i6)) hw6 (by omega) rfl rfl (hb hby d6_100) ?_
            show Go _ _ _ _ (T7.setTop (mkF m 101 #[.val (.ref o0), .val (.long (g 0)), .second, .val (.long (g (i0 - 1))), .second, .val (.int v5), .val (.int w6)] [(.long (g' (chF g' (i0 - 1) i6))), (.int v5), (.ref b)]))
            refine Go.stJ X7 hx hZ e7 H' N hz gb (i := i5) hv5 hi5 rfl rfl (hb hby d6_101) fun T8 h8 lc8 X8 e8 N8 hz8 H8 => ?_
            show Go _ _ _ _ (T8.setTop (mkF m 102 #[.val (.ref o0), .val (.long (g 0)), .second, .val (.long (g (i0 - 1))), .second, .val (.int v5), .val (.int w6)] []))
            refine Go.by (fun t9 k9 => XS.iload X8.here hx rfl (hb hby d6_102) rfl k9) ?_
            show Go _ _ _ _ (T8.setTop (mkF m 104 #[.val (.ref o0), .val (.long (g 0)), .second, .val (.long (g (i0 - 1))), .second, .val (.int v5), .val (.int w6)] [(.int w6)]))
            refine Go.by (fun t9 k9 => XS.istore X8.here hx rfl (hb hby d6_104) rfl (l' := #[.val (.ref o0), .val (.long (g 0)), .second, .val (.long (g (i0 - 1))), .second, .val (.int w6), .val (.int w6)]) rfl k9) ?_
            show Go _ _ _ _ (T8.setTop (mkF m 106 #[.val (.ref o0), .val (.long (g 0)), .second, .val (.long (g (i0 - 1))), .second, .val (.int w6), .val (.int w6)] []))
            refine Go.by (fun t9 k9 => XS.iconst X8.here hx rfl (hb hby d6_106) k9) ?_
            show Go _ _ _ _ (T8.setTop (mkF m 107 #[.val (.ref o0), .val (.long (g 0)), .second, .val (.long (g (i0 - 1))), .second, .val (.int w6), .val (.int w6)] [(.int (2 : Int32))]))
            refine Go.by (fun t9 k9 => XS.iload X8.here hx rfl (hb hby d6_107) rfl k9) ?_
            show Go _ _ _ _ (T8.setTop (mkF m 109 #[.val (.ref o0), .val (.long (g 0)), .second, .val (.long (g (i0 - 1))), .second, .val (.int w6), .val (.int w6)] [(.int w6), (.int (2 : Int32))]))
            refine Go.by (fun t9 k9 => XS.imul X8.here hx rfl (hb hby d6_109) rfl k9) ?_
            show Go _ _ _ _ (T8.setTop (mkF m 110 #[.val (.ref o0), .val (.long (g 0)), .second, .val (.long (g (i0 - 1))), .second, .val (.int w6), .val (.int w6)] [(.int ((2 : Int32) * w6))]))
            refine Go.by (fun t9 k9 => XS.iconst X8.here hx rfl (hb hby d6_110) k9) ?_
            show Go _ _ _ _ (T8.setTop (mkF m 111 #[.val (.ref o0), .val (.long (g 0)), .second, .val (.long (g (i0 - 1))), .second, .val (.int w6), .val (.int w6)] [(.int (1 : Int32)), (.int ((2 : Int32) * w6))]))
            refine Go.by (fun t9 k9 => XS.iadd X8.here hx rfl (hb hby d6_111) rfl k9) ?_
            show Go _ _ _ _ (T8.setTop (mkF m 112 #[.val (.ref o0), .val (.long (g 0)), .second, .val (.long (g (i0 - 1))), .second, .val (.int w6), .val (.int w6)] [(.int (((2 : Int32) * w6) + (1 : Int32)))]))
            refine Go.by (fun t9 k9 => XS.istore X8.here hx rfl (hb hby d6_112) rfl (l' := #[.val (.ref o0), .val (.long (g 0)), .second, .val (.long (g (i0 - 1))), .second, .val (.int w6), .val (.int (((2 : Int32) * w6) + (1 : Int32)))]) rfl k9) ?_
            show Go _ _ _ _ (T8.setTop (mkF m 114 #[.val (.ref o0), .val (.long (g 0)), .second, .val (.long (g (i0 - 1))), .second, .val (.int w6), .val (.int (((2 : Int32) * w6) + (1 : Int32)))] []))
            refine Go.by (fun t9 k9 => XS.goto X8.here hx rfl (pc0 := 114) (pc' := 30) rfl (hb hby d6_114) (by decide) (by decide) k9) ?_
            exact ih T8 _ _ X8 e8 N8 hz8 _ _ _ (chF g' (i0 - 1) i6) (2 * (chF g' (i0 - 1) i6) + 1) hw6 (own_dbl hw6 (by omega)) (by omega) (by omega) H8 hfin
          · rw [if_neg hc82] at hfin
            refine Go.by (fun t9 k9 => XS.ifNo X5.here hx rfl (hb hby d6_82) rfl (XT.ll_lt_f hc82) k9) ?_
            show Go _ _ _ _ (T5.setTop (mkF m 85 #[.val (.ref o0), .val (.long (g 0)), .second, .val (.long (g (i0 - 1))), .second, .val (.int v5), .val (.int w6)] []))
            refine Go.by (fun t9 k9 => XS.goto X5.here hx rfl (pc0 := 85) (pc' := 117) rfl (hb hby d6_85) (by decide) (by decide) k9) ?_
            exact J117 T5 _ _ X5 e5 N hz _ _ _ i5 hv5 hi5 H' hfin
        show Go _ _ _ _ (T4.setTop (mkF m 39 #[.val (.ref o0), .val (.long (g 0)), .second, .val (.long (g (i0 - 1))), .second, .val (.int v5), .val (.int v6)] []))
        refine Go.by (fun t9 k9 => XS.iload X4.here hx rfl (hb hby d6_39) rfl k9) ?_
        show Go _ _ _ _ (T4.setTop (mkF m 41 #[.val (.ref o0), .val (.long (g 0)), .second, .val (.long (g (i0 - 1))), .second, .val (.int v5), .val (.int v6)] [(.int v6)]))
        refine Go.by (fun t9 k9 => XS.iconst X4.here hx rfl (hb hby d6_41) k9) ?_
        show Go _ _ _ _ (T4.setTop (mkF m 42 #[.val (.ref o0), .val (.long (g 0)), .second, .val (.long (g (i0 - 1))), .second, .val (.int v5), .val (.int v6)] [(.int (1 : Int32)), (.int v6)]))
        refine Go.by (fun t9 k9 => XS.iadd X4.here hx rfl (hb hby d6_42) rfl k9) ?_
        show Go _ _ _ _ (T4.setTop (mkF m 43 #[.val (.ref o0), .val (.long (g 0)), .second, .val (.long (g (i0 - 1))), .second, .val (.int v5), .val (.int v6)] [(.int (v6 + (1 : Int32)))]))
        refine Go.by (fun t9 k9 => XS.aloadN X4.here hx rfl (hb hby d6_43) rfl rfl k9) ?_
        show Go _ _ _ _ (T4.setTop (mkF m 44 #[.val (.ref o0), .val (.long (g 0)), .second, .val (.long (g (i0 - 1))), .second, .val (.int v5), .val (.int v6)] [(.ref o0), (.int (v6 + (1 : Int32)))]))
        refine Go.sizeF X4 hx hZ hown (hw _ (List.mem_of_getElem? (i := 24) rfl)) e4 H' rfl rfl (hb hby d6_44) fun T9 X9 e9 => ?_
        show Go _ _ _ _ (T9.setTop (mkF m 47 #[.val (.ref o0), .val (.long (g 0)), .second, .val (.long (g (i0 - 1))), .second, .val (.int v5), .val (.int v6)] [(.int (k - (1 : Int32))), (.int (v6 + (1 : Int32)))]))
        by_cases hc47 : (v6 + (1 : Int32)) < (k - (1 : Int32))
        · have hlt1 := (own_ltN (own_inc hv6 (by omega)) hkk).mp hc47
          refine Go.by (fun t9 k9 => XS.icmpNo X9.here hx rfl (hb hby d6_47) rfl (XT.ii_ge_f hc47) k9) ?_
          show Go _ _ _ _ (T9.setTop (mkF m 50 #[.val (.ref o0), .val (.long (g 0)), .second, .val (.long (g (i0 - 1))), .second, .val (.int v5), .val (.int v6)] []))
          refine Go.by (fun t9 k9 => XS.aloadN X9.here hx rfl (hb hby d6_50) rfl rfl k9) ?_
          show Go _ _ _ _ (T9.setTop (mkF m 51 #[.val (.ref o0), .val (.long (g 0)), .second, .val (.long (g (i0 - 1))), .second, .val (.int v5), .val (.int v6)] [(.ref o0)]))
          refine Go.items X9 hx hZ hown (hw _ (List.mem_of_getElem? (i := 17) rfl)) e9 H' rfl rfl (hb hby d6_51) fun T10 X10 e10 => ?_
          show Go _ _ _ _ (T10.setTop (mkF m 54 #[.val (.ref o0), .val (.long (g 0)), .second, .val (.long (g (i0 - 1))), .second, .val (.int v5), .val (.int v6)] [(.ref b)]))
          refine Go.by (fun t9 k9 => XS.iload X10.here hx rfl (hb hby d6_54) rfl k9) ?_
          show Go _ _ _ _ (T10.setTop (mkF m 56 #[.val (.ref o0), .val (.long (g 0)), .second, .val (.long (g (i0 - 1))), .second, .val (.int v5), .val (.int v6)] [(.int v6), (.ref b)]))
          refine Go.by (fun t9 k9 => XS.iconst X10.here hx rfl (hb hby d6_56) k9) ?_
          show Go _ _ _ _ (T10.setTop (mkF m 57 #[.val (.ref o0), .val (.long (g 0)), .second, .val (.long (g (i0 - 1))), .second, .val (.int v5), .val (.int v6)] [(.int (1 : Int32)), (.int v6), (.ref b)]))
          refine Go.by (fun t9 k9 => XS.iadd X10.here hx rfl (hb hby d6_57) rfl k9) ?_
          show Go _ _ _ _ (T10.setTop (mkF m 58 #[.val (.ref o0), .val (.long (g 0)), .second, .val (.long (g (i0 - 1))), .second, .val (.int v5), .val (.int v6)] [(.int (v6 + (1 : Int32))), (.ref b)]))
          refine Go.ldJ X10 hx hZ e10 H' (i := (i6 + 1)) (own_inc hv6 (by omega)) (by omega) rfl rfl (hb hby d6_58) ?_
          show Go _ _ _ _ (T10.setTop (mkF m 59 #[.val (.ref o0), .val (.long (g 0)), .second, .val (.long (g (i0 - 1))), .second, .val (.int v5), .val (.int v6)] [(.long (g' (i6 + 1)))]))
          refine Go.by (fun t9 k9 => XS.aloadN X10.here hx rfl (hb hby d6_59) rfl rfl k9) ?_
          show Go _ _ _ _ (T10.setTop (mkF m 60 #[.val (.ref o0), .val (.long (g 0)), .second, .val (.long (g (i0 - 1))), .second, .val (.int v5), .val (.int v6)] [(.ref o0), (.long (g' (i6 + 1)))]))
          refine Go.items X10 hx hZ hown (hw _ (List.mem_of_getElem? (i := 17) rfl)) e10 H' rfl rfl (hb hby d6_60) fun T11 X11 e11 => ?_
          show Go _ _ _ _ (T11.setTop (mkF m 63 #[.val (.ref o0), .val (.long (g 0)), .second, .val (.long (g (i0 - 1))), .second, .val (.int v5), .val (.int v6)] [(.ref b), (.long (g' (i6 + 1)))]))
          refine Go.by (fun t9 k9 => XS.iload X11.here hx rfl (hb hby d6_63) rfl k9) ?_
          show Go _ _ _ _ (T11.setTop (mkF m 65 #[.val (.ref o0), .val (.long (g 0)), .second, .val (.long (g (i0 - 1))), .second, .val (.int v5), .val (.int v6)] [(.int v6), (.ref b), (.long (g' (i6 + 1)))]))
          refine Go.ldJ X11 hx hZ e11 H' (i := i6) hv6 (by omega) rfl rfl (hb hby d6_65) ?_
          show Go _ _ _ _ (T11.setTop (mkF m 66 #[.val (.ref o0), .val (.long (g 0)), .second, .val (.long (g (i0 - 1))), .second, .val (.int v5), .val (.int v6)] [(.long (g' i6)), (.long (g' (i6 + 1)))]))
          refine Go.by (fun t9 k9 => XT.lcmp X11.here hx rfl (hb hby d6_66) rfl k9) ?_
          show Go _ _ _ _ (T11.setTop (mkF m 67 #[.val (.ref o0), .val (.long (g 0)), .second, .val (.long (g (i0 - 1))), .second, .val (.int v5), .val (.int v6)] [(.int (XT.cmpL (g' (i6 + 1)) (g' i6)))]))
          by_cases hc67 : (g' (i6 + 1)) < (g' i6)
          · refine Go.by (fun t9 k9 => XS.ifNo X11.here hx rfl (hb hby d6_67) rfl (XT.ll_ge_f hc67) k9) ?_
            show Go _ _ _ _ (T11.setTop (mkF m 70 #[.val (.ref o0), .val (.long (g 0)), .second, .val (.long (g (i0 - 1))), .second, .val (.int v5), .val (.int v6)] []))
            refine Go.by (fun t9 k9 => XS.iinc X11.here hx rfl (hb hby d6_70) rfl (l' := #[.val (.ref o0), .val (.long (g 0)), .second, .val (.long (g (i0 - 1))), .second, .val (.int v5), .val (.int (v6 + (1 : Int32)))]) rfl k9) ?_
            exact J73 T11 X11 e11 (v6 + (1 : Int32)) ((own_inc hv6 (by omega)).trans (by simp [chF, hlt1, hc67]))
          · refine Go.by (fun t9 k9 => XS.ifYes X11.here hx rfl (pc0 := 67) (pc' := 73) rfl (hb hby d6_67) rfl (XT.ll_ge_t hc67) (by decide) (by decide) k9) ?_
            exact J73 T11 X11 e11 v6 ((hv6.trans (by first | simp [chF, hlt1, hc67] | simp [chF, hlt1])))
        · have hlt1 : ¬ (i6 + 1 < i0 - 1) := fun q => hc47 ((own_ltN (own_inc hv6 (by omega)) hkk).mpr q)
          refine Go.by (fun t9 k9 => XS.icmpYes X9.here hx rfl (pc0 := 47) (pc' := 73) rfl (hb hby d6_47) rfl (XT.ii_ge_t hc47) (by decide) (by decide) k9) ?_
          exact J73 T9 X9 e9 v6 ((hv6.trans (by first | simp [chF, hlt1, hc67] | simp [chF, hlt1])))
      · rw [dnF, if_neg (fun q => hc36 ((own_ltN hv6 hkk).mpr q))] at hfin
        refine Go.by (fun t9 k9 => XS.icmpYes X4.here hx rfl (pc0 := 36) (pc' := 117) rfl (hb hby d6_36) rfl (XT.ii_ge_t hc36) (by decide) (by decide) k9) ?_
        exact J117 T4 _ _ X4 e4 N hz _ _ _ i5 hv5 hi5 H' hfin
  show Go _ _ _ _ (s₁.setTop (mkF m 0 #[.val (.ref o0), .unset, .unset, .unset, .unset, .unset, .unset] []))
  refine Go.by (fun t9 k9 => XS.aloadN X0.here hx rfl (hb hby d6_0) rfl rfl k9) ?_
  show Go _ _ _ _ (s₁.setTop (mkF m 1 #[.val (.ref o0), .unset, .unset, .unset, .unset, .unset, .unset] [(.ref o0)]))
  refine Go.items X0 hx hZ hown (hw _ (List.mem_of_getElem? (i := 17) rfl)) e0 H rfl rfl (hb hby d6_1) fun T12 X12 e12 => ?_
  show Go _ _ _ _ (T12.setTop (mkF m 4 #[.val (.ref o0), .unset, .unset, .unset, .unset, .unset, .unset] [(.ref b)]))
  refine Go.by (fun t9 k9 => XS.iconst X12.here hx rfl (hb hby d6_4) k9) ?_
  show Go _ _ _ _ (T12.setTop (mkF m 5 #[.val (.ref o0), .unset, .unset, .unset, .unset, .unset, .unset] [(.int (0 : Int32)), (.ref b)]))
  refine Go.ldJ X12 hx hZ e12 H (i := 0) (rfl : (0 : Int32).toInt = ((0 : Nat) : Int)) (by decide) rfl rfl (hb hby d6_5) ?_
  show Go _ _ _ _ (T12.setTop (mkF m 6 #[.val (.ref o0), .unset, .unset, .unset, .unset, .unset, .unset] [(.long (g 0))]))
  refine Go.by (fun t9 k9 => XT.lstoreN X12.here hx rfl (hb hby d6_6) rfl (l' := #[.val (.ref o0), .val (.long (g 0)), .second, .unset, .unset, .unset, .unset]) rfl k9) ?_
  show Go _ _ _ _ (T12.setTop (mkF m 7 #[.val (.ref o0), .val (.long (g 0)), .second, .unset, .unset, .unset, .unset] []))
  refine Go.by (fun t9 k9 => XS.aloadN X12.here hx rfl (hb hby d6_7) rfl rfl k9) ?_
  show Go _ _ _ _ (T12.setTop (mkF m 8 #[.val (.ref o0), .val (.long (g 0)), .second, .unset, .unset, .unset, .unset] [(.ref o0)]))
  refine Go.items X12 hx hZ hown (hw _ (List.mem_of_getElem? (i := 17) rfl)) e12 H rfl rfl (hb hby d6_8) fun T13 X13 e13 => ?_
  show Go _ _ _ _ (T13.setTop (mkF m 11 #[.val (.ref o0), .val (.long (g 0)), .second, .unset, .unset, .unset, .unset] [(.ref b)]))
  refine Go.by (fun t9 k9 => XS.aloadN X13.here hx rfl (hb hby d6_11) rfl rfl k9) ?_
  show Go _ _ _ _ (T13.setTop (mkF m 12 #[.val (.ref o0), .val (.long (g 0)), .second, .unset, .unset, .unset, .unset] [(.ref o0), (.ref b)]))
  refine Go.by (fun t9 k9 => XS.dup X13.here hx rfl (hb hby d6_12) rfl rfl k9) ?_
  show Go _ _ _ _ (T13.setTop (mkF m 13 #[.val (.ref o0), .val (.long (g 0)), .second, .unset, .unset, .unset, .unset] [(.ref o0), (.ref o0), (.ref b)]))
  refine Go.sizeF X13 hx hZ hown (hw _ (List.mem_of_getElem? (i := 24) rfl)) e13 H rfl rfl (hb hby d6_13) fun T14 X14 e14 => ?_
  show Go _ _ _ _ (T14.setTop (mkF m 16 #[.val (.ref o0), .val (.long (g 0)), .second, .unset, .unset, .unset, .unset] [(.int k), (.ref o0), (.ref b)]))
  refine Go.by (fun t9 k9 => XS.iconst X14.here hx rfl (hb hby d6_16) k9) ?_
  show Go _ _ _ _ (T14.setTop (mkF m 17 #[.val (.ref o0), .val (.long (g 0)), .second, .unset, .unset, .unset, .unset] [(.int (1 : Int32)), (.int k), (.ref o0), (.ref b)]))
  refine Go.by (fun t9 k9 => XS.isub X14.here hx rfl (hb hby d6_17) rfl k9) ?_
  show Go _ _ _ _ (T14.setTop (mkF m 18 #[.val (.ref o0), .val (.long (g 0)), .second, .unset, .unset, .unset, .unset] [(.int (k - (1 : Int32))), (.ref o0), (.ref b)]))
  refine Go.by (fun t9 k9 => XT.dupX1 X14.here hx rfl (hb hby d6_18) rfl rfl rfl k9) ?_
  show Go _ _ _ _ (T14.setTop (mkF m 19 #[.val (.ref o0), .val (.long (g 0)), .second, .unset, .unset, .unset, .unset] [(.int (k - (1 : Int32))), (.ref o0), (.int (k - (1 : Int32))), (.ref b)]))
  refine Go.putSize X14 hx hZ hown (hw _ (List.mem_of_getElem? (i := 24) rfl)) (hw _ (List.mem_of_getElem? (i := 25) rfl)) (hw _ (List.mem_of_getElem? (i := 18) rfl)) (hw _ (List.mem_of_getElem? (i := 8) rfl)) e14 H N0 Z0 ga rfl rfl (hb hby d6_19) fun T15 h15 lc15 X15 e15 N15 hz15 H15 => ?_
  show Go _ _ _ _ (T15.setTop (mkF m 22 #[.val (.ref o0), .val (.long (g 0)), .second, .unset, .unset, .unset, .unset] [(.int (k - (1 : Int32))), (.ref b)]))
  refine Go.ldJ X15 hx hZ e15 H15 (i := (i0 - 1)) hkk (by omega) rfl rfl (hb hby d6_22) ?_
  show Go _ _ _ _ (T15.setTop (mkF m 23 #[.val (.ref o0), .val (.long (g 0)), .second, .unset, .unset, .unset, .unset] [(.long (g (i0 - 1)))]))
  refine Go.by (fun t9 k9 => XT.lstoreN X15.here hx rfl (hb hby d6_23) rfl (l' := #[.val (.ref o0), .val (.long (g 0)), .second, .val (.long (g (i0 - 1))), .second, .unset, .unset]) rfl k9) ?_
  show Go _ _ _ _ (T15.setTop (mkF m 24 #[.val (.ref o0), .val (.long (g 0)), .second, .val (.long (g (i0 - 1))), .second, .unset, .unset] []))
  refine Go.by (fun t9 k9 => XS.iconst X15.here hx rfl (hb hby d6_24) k9) ?_
  show Go _ _ _ _ (T15.setTop (mkF m 25 #[.val (.ref o0), .val (.long (g 0)), .second, .val (.long (g (i0 - 1))), .second, .unset, .unset] [(.int (0 : Int32))]))
  refine Go.by (fun t9 k9 => XS.istore X15.here hx rfl (hb hby d6_25) rfl (l' := #[.val (.ref o0), .val (.long (g 0)), .second, .val (.long (g (i0 - 1))), .second, .val (.int (0 : Int32)), .unset]) rfl k9) ?_
  show Go _ _ _ _ (T15.setTop (mkF m 27 #[.val (.ref o0), .val (.long (g 0)), .second, .val (.long (g (i0 - 1))), .second, .val (.int (0 : Int32)), .unset] []))
  refine Go.by (fun t9 k9 => XS.iconst X15.here hx rfl (hb hby d6_27) k9) ?_
  show Go _ _ _ _ (T15.setTop (mkF m 28 #[.val (.ref o0), .val (.long (g 0)), .second, .val (.long (g (i0 - 1))), .second, .val (.int (0 : Int32)), .unset] [(.int (1 : Int32))]))
  refine Go.by (fun t9 k9 => XS.istore X15.here hx rfl (hb hby d6_28) rfl (l' := #[.val (.ref o0), .val (.long (g 0)), .second, .val (.long (g (i0 - 1))), .second, .val (.int (0 : Int32)), .val (.int (1 : Int32))]) rfl k9) ?_
  exact J30 (i0 - 1) T15 _ _ X15 e15 N15 hz15 _ _ _ 0 1 rfl rfl (by omega) (by omega) H15 rfl

theorem pn_0 : plainName "com/example/isolens/isolens/checker/LongHeapRemoveSmallestPinLaw" = true := by first | (simp [plainName, overriddenIn]; done) | decide +kernel
theorem ef_0 (m : MethodId) (q0 : Int64) (q1 : Int64) (q2 : Int64) (q3 : Int64) (q4 : Int64) : entryFrame m #[(.long q0), (.long q1), (.long q2), (.long q3), (.long q4)] maxLocals = mkF m 0 #[.val (.long q0), .second, .val (.long q1), .second, .val (.long q2), .second, .val (.long q3), .second, .val (.long q4), .second, .unset, .unset, .unset, .unset, .unset, .unset, .unset, .unset, .unset, .unset, .unset, .unset, .unset, .unset, .unset, .unset, .unset, .unset, .unset, .unset, .unset, .unset, .unset, .unset, .unset, .unset, .unset, .unset, .unset, .unset, .unset, .unset, .unset, .unset, .unset, .unset, .unset, .unset, .unset] [] := by first | (simp [entryFrame, mkF, argsToLocals, Value.category, maxLocals]; done) | rfl
def Q0 (n0 : Nat) (v : Option Value) (h : Heap) (L : List Loc) : Prop := v = some (.int 1) ∧ Fr n0 L
set_option maxRecDepth 65536 in
set_option maxHeartbeats 40000000 in
theorem rm0 (l : Launch) (Z : State) (a0 : Array Value) (hw : ∀ d ∈ tables_1, d.before a0 Z = true) (ws : List Jvm.Cond) (q0 : Int64) (q1 : Int64) (q2 : Int64) (q3 : Int64) (q4 : Int64)  (h0 : Heap) (n0 : Nat) (Z0 : n0 ≤ h0.size)  :
    MetFree l x (head1 (Jvm.Cond.code x code maxLocals ret :: ws) room_1) (fun a U => a = #[(.long q0), (.long q1), (.long q2), (.long q3), (.long q4)] ∧ Z.Warmed39 U.vm ∧ U.heap = h0) (fun _ _ _ _ _ => True) (fun _ U o U' => ∃ v L, o = .returned v ∧ (Q0 n0) v U'.heap L ∧ FrameEnd U o U' L room_1.cells room_1.slots) := by
  refine MetFree.of_bodySF (plainFor_of_name pn_0) hisR ?_
  intro p e s m args below meth c s₁ Bd hml0 hP hK
  obtain ⟨rfl, hZ, hh⟩ := hP
  have hx := Bd.exec
  have hby := Bd.bytes
  have hml : c.maxLocals = 49 := hml0
  have hown : s.vm.findClass "com/example/isolens/isolens/checker/LongHeapRemoveSmallestPinLaw" = some m.cls := findClass_of_methodNamed Bd.named
  have hnm := (name_of_methodNamed Bd.named Bd.method).1
  have hlk : meth.locks = false := Bd.notSynchronized
  have X0 : Stand p l e room_1 s m #[(.long q0), (.long q1), (.long q2), (.long q3), (.long q4)] below meth c s₁ [] 0 0 := Stand.of_body Bd
  have e0 : s₁.heap = h0 := by rw [← hh, Bd.state]; rfl
  have N0 := Fr.nil n0
  refine Go.by (tb := p.tables) (e := e) (below := below) (F := fun t o => ∃ v L, o = .returned v ∧ (Q0 n0) v t.heap L ∧ FrameEnd s o t L room_1.cells room_1.slots) (fun t k => castTop (ef_0 m q0 q1 q2 q3 q4) k) ?_
  have hz0 : n0 ≤ s₁.heap.size := by rw [e0]; exact Z0
  show Go _ _ _ _ (s₁.setTop (mkF m 0 #[.val (.long q0), .second, .val (.long q1), .second, .val (.long q2), .second, .val (.long q3), .second, .val (.long q4), .second, .unset, .unset, .unset, .unset, .unset, .unset, .unset, .unset, .unset, .unset, .unset, .unset, .unset, .unset, .unset, .unset, .unset, .unset, .unset, .unset, .unset, .unset, .unset, .unset, .unset, .unset, .unset, .unset, .unset, .unset, .unset, .unset, .unset, .unset, .unset, .unset, .unset, .unset, .unset] []))
  refine Go.by (fun t9 k9 => XT.lloadN X0.here hx rfl (hb hby at_0) rfl k9) ?_
  show Go _ _ _ _ (s₁.setTop (mkF m 1 #[.val (.long q0), .second, .val (.long q1), .second, .val (.long q2), .second, .val (.long q3), .second, .val (.long q4), .second, .unset, .unset, .unset, .unset, .unset, .unset, .unset, .unset, .unset, .unset, .unset, .unset, .unset, .unset, .unset, .unset, .unset, .unset, .unset, .unset, .unset, .unset, .unset, .unset, .unset, .unset, .unset, .unset, .unset, .unset, .unset, .unset, .unset, .unset, .unset, .unset, .unset, .unset, .unset] [(.long q0)]))
  refine Go.by (fun t9 k9 => XT.lloadN X0.here hx rfl (hb hby at_1) rfl k9) ?_
  show Go _ _ _ _ (s₁.setTop (mkF m 2 #[.val (.long q0), .second, .val (.long q1), .second, .val (.long q2), .second, .val (.long q3), .second, .val (.long q4), .second, .unset, .unset, .unset, .unset, .unset, .unset, .unset, .unset, .unset, .unset, .unset, .unset, .unset, .unset, .unset, .unset, .unset, .unset, .unset, .unset, .unset, .unset, .unset, .unset, .unset, .unset, .unset, .unset, .unset, .unset, .unset, .unset, .unset, .unset, .unset, .unset, .unset, .unset, .unset] [(.long q1), (.long q0)]))
  refine Go.callS X0 hx hZ (y := (⟨"java/lang/Math", "min", "(JJ)J"⟩ : MethodName)) hown (hw _ (List.mem_of_getElem? (i := 0) rfl)) (hw _ (List.mem_of_getElem? (i := 1) rfl)) (hw _ (List.mem_of_getElem? (i := 2) rfl)) (hw _ (List.mem_of_getElem? (i := 3) rfl)) (by decide) 0 (rm1 l Z a0 hw [] q0 q1 s₁.heap n0 hz0) (some (.long (f1_0 q0 q1))) (fun h' => h' = s₁.heap) (fun _ _ _ q => q) (by decide) (by decide) rfl N0 rfl (by rw [hml]; rfl) (argsL := [(.long q0), (.long q1)]) (rest := []) rfl (lenOf pd0 rfl) rfl (by show 2 * 0 + _ ≤ _; exact Nat.le_of_eq rfl) (hb hby at_2) (by decide) (by decide) fun T1 lc1 X1 N1 eq1 => ?_
  have hz1 : n0 ≤ T1.heap.size := by rw [eq1]; exact hz0
  generalize hv1 : (f1_0 q0 q1) = v1
  show Go _ _ _ _ (T1.setTop (mkF m 5 #[.val (.long q0), .second, .val (.long q1), .second, .val (.long q2), .second, .val (.long q3), .second, .val (.long q4), .second, .unset, .unset, .unset, .unset, .unset, .unset, .unset, .unset, .unset, .unset, .unset, .unset, .unset, .unset, .unset, .unset, .unset, .unset, .unset, .unset, .unset, .unset, .unset, .unset, .unset, .unset, .unset, .unset, .unset, .unset, .unset, .unset, .unset, .unset, .unset, .unset, .unset, .unset, .unset] [(.long v1)]))
  refine Go.by (fun t9 k9 => XT.lstore X1.here hx rfl (hb hby at_5) rfl (l' := #[.val (.long q0), .second, .val (.long q1), .second, .val (.long q2), .second, .val (.long q3), .second, .val (.long q4), .second, .val (.long v1), .second, .unset, .unset, .unset, .unset, .unset, .unset, .unset, .unset, .unset, .unset, .unset, .unset, .unset, .unset, .unset, .unset, .unset, .unset, .unset, .unset, .unset, .unset, .unset, .unset, .unset, .unset, .unset, .unset, .unset, .unset, .unset, .unset, .unset, .unset, .unset, .unset, .unset]) rfl k9) ?_
  show Go _ _ _ _ (T1.setTop (mkF m 7 #[.val (.long q0), .second, .val (.long q1), .second, .val (.long q2), .second, .val (.long q3), .second, .val (.long q4), .second, .val (.long v1), .second, .unset, .unset, .unset, .unset, .unset, .unset, .unset, .unset, .unset, .unset, .unset, .unset, .unset, .unset, .unset, .unset, .unset, .unset, .unset, .unset, .unset, .unset, .unset, .unset, .unset, .unset, .unset, .unset, .unset, .unset, .unset, .unset, .unset, .unset, .unset, .unset, .unset] []))
  refine Go.by (fun t9 k9 => XT.lloadN X1.here hx rfl (hb hby at_7) rfl k9) ?_
  show Go _ _ _ _ (T1.setTop (mkF m 8 #[.val (.long q0), .second, .val (.long q1), .second, .val (.long q2), .second, .val (.long q3), .second, .val (.long q4), .second, .val (.long v1), .second, .unset, .unset, .unset, .unset, .unset, .unset, .unset, .unset, .unset, .unset, .unset, .unset, .unset, .unset, .unset, .unset, .unset, .unset, .unset, .unset, .unset, .unset, .unset, .unset, .unset, .unset, .unset, .unset, .unset, .unset, .unset, .unset, .unset, .unset, .unset, .unset, .unset] [(.long q0)]))
  refine Go.by (fun t9 k9 => XT.lloadN X1.here hx rfl (hb hby at_8) rfl k9) ?_
  show Go _ _ _ _ (T1.setTop (mkF m 9 #[.val (.long q0), .second, .val (.long q1), .second, .val (.long q2), .second, .val (.long q3), .second, .val (.long q4), .second, .val (.long v1), .second, .unset, .unset, .unset, .unset, .unset, .unset, .unset, .unset, .unset, .unset, .unset, .unset, .unset, .unset, .unset, .unset, .unset, .unset, .unset, .unset, .unset, .unset, .unset, .unset, .unset, .unset, .unset, .unset, .unset, .unset, .unset, .unset, .unset, .unset, .unset, .unset, .unset] [(.long q1), (.long q0)]))
  refine Go.callS X1 hx hZ (y := (⟨"java/lang/Math", "max", "(JJ)J"⟩ : MethodName)) hown (hw _ (List.mem_of_getElem? (i := 4) rfl)) (hw _ (List.mem_of_getElem? (i := 5) rfl)) (hw _ (List.mem_of_getElem? (i := 2) rfl)) (hw _ (List.mem_of_getElem? (i := 6) rfl)) (by decide) 0 (rm2 l Z a0 hw [] q0 q1 T1.heap n0 hz1) (some (.long (f2_0 q0 q1))) (fun h' => h' = T1.heap) (fun _ _ _ q => q) (by decide) (by decide) rfl N1 rfl (by rw [hml]; rfl) (argsL := [(.long q0), (.long q1)]) (rest := []) rfl (lenOf pd0 rfl) rfl (by show 2 * 0 + _ ≤ _; exact Nat.le_of_eq rfl) (hb hby at_9) (by decide) (by decide) fun T2 lc2 X2 N2 eq2 => ?_
  have hz2 : n0 ≤ T2.heap.size := by rw [eq2]; exact hz1
  generalize hv2 : (f2_0 q0 q1) = v2
  show Go _ _ _ _ (T2.setTop (mkF m 12 #[.val (.long q0), .second, .val (.long q1), .second, .val (.long q2), .second, .val (.long q3), .second, .val (.long q4), .second, .val (.long v1), .second, .unset, .unset, .unset, .unset, .unset, .unset, .unset, .unset, .unset, .unset, .unset, .unset, .unset, .unset, .unset, .unset, .unset, .unset, .unset, .unset, .unset, .unset, .unset, .unset, .unset, .unset, .unset, .unset, .unset, .unset, .unset, .unset, .unset, .unset, .unset, .unset, .unset] [(.long v2)]))
  refine Go.by (fun t9 k9 => XT.lstore X2.here hx rfl (hb hby at_12) rfl (l' := #[.val (.long q0), .second, .val (.long q1), .second, .val (.long q2), .second, .val (.long q3), .second, .val (.long q4), .second, .val (.long v1), .second, .val (.long v2), .second, .unset, .unset, .unset, .unset, .unset, .unset, .unset, .unset, .unset, .unset, .unset, .unset, .unset, .unset, .unset, .unset, .unset, .unset, .unset, .unset, .unset, .unset, .unset, .unset, .unset, .unset, .unset, .unset, .unset, .unset, .unset, .unset, .unset, .unset, .unset]) rfl k9) ?_
  show Go _ _ _ _ (T2.setTop (mkF m 14 #[.val (.long q0), .second, .val (.long q1), .second, .val (.long q2), .second, .val (.long q3), .second, .val (.long q4), .second, .val (.long v1), .second, .val (.long v2), .second, .unset, .unset, .unset, .unset, .unset, .unset, .unset, .unset, .unset, .unset, .unset, .unset, .unset, .unset, .unset, .unset, .unset, .unset, .unset, .unset, .unset, .unset, .unset, .unset, .unset, .unset, .unset, .unset, .unset, .unset, .unset, .unset, .unset, .unset, .unset] []))
  refine Go.by (fun t9 k9 => XT.lload X2.here hx rfl (hb hby at_14) rfl k9) ?_
  show Go _ _ _ _ (T2.setTop (mkF m 16 #[.val (.long q0), .second, .val (.long q1), .second, .val (.long q2), .second, .val (.long q3), .second, .val (.long q4), .second, .val (.long v1), .second, .val (.long v2), .second, .unset, .unset, .unset, .unset, .unset, .unset, .unset, .unset, .unset, .unset, .unset, .unset, .unset, .unset, .unset, .unset, .unset, .unset, .unset, .unset, .unset, .unset, .unset, .unset, .unset, .unset, .unset, .unset, .unset, .unset, .unset, .unset, .unset, .unset, .unset] [(.long v1)]))
  refine Go.by (fun t9 k9 => XT.lload X2.here hx rfl (hb hby at_16) rfl k9) ?_
  show Go _ _ _ _ (T2.setTop (mkF m 18 #[.val (.long q0), .second, .val (.long q1), .second, .val (.long q2), .second, .val (.long q3), .second, .val (.long q4), .second, .val (.long v1), .second, .val (.long v2), .second, .unset, .unset, .unset, .unset, .unset, .unset, .unset, .unset, .unset, .unset, .unset, .unset, .unset, .unset, .unset, .unset, .unset, .unset, .unset, .unset, .unset, .unset, .unset, .unset, .unset, .unset, .unset, .unset, .unset, .unset, .unset, .unset, .unset, .unset, .unset] [(.long q2), (.long v1)]))
  refine Go.callS X2 hx hZ (y := (⟨"java/lang/Math", "min", "(JJ)J"⟩ : MethodName)) hown (hw _ (List.mem_of_getElem? (i := 0) rfl)) (hw _ (List.mem_of_getElem? (i := 1) rfl)) (hw _ (List.mem_of_getElem? (i := 2) rfl)) (hw _ (List.mem_of_getElem? (i := 3) rfl)) (by decide) 0 (rm1 l Z a0 hw [] v1 q2 T2.heap n0 hz2) (some (.long (f1_0 v1 q2))) (fun h' => h' = T2.heap) (fun _ _ _ q => q) (by decide) (by decide) rfl N2 rfl (by rw [hml]; rfl) (argsL := [(.long v1), (.long q2)]) (rest := []) rfl (lenOf pd0 rfl) rfl (by show 2 * 0 + _ ≤ _; exact Nat.le_of_eq rfl) (hb hby at_18) (by decide) (by decide) fun T3 lc3 X3 N3 eq3 => ?_
  have hz3 : n0 ≤ T3.heap.size := by rw [eq3]; exact hz2
  generalize hv3 : (f1_0 v1 q2) = v3
  show Go _ _ _ _ (T3.setTop (mkF m 21 #[.val (.long q0), .second, .val (.long q1), .second, .val (.long q2), .second, .val (.long q3), .second, .val (.long q4), .second, .val (.long v1), .second, .val (.long v2), .second, .unset, .unset, .unset, .unset, .unset, .unset, .unset, .unset, .unset, .unset, .unset, .unset, .unset, .unset, .unset, .unset, .unset, .unset, .unset, .unset, .unset, .unset, .unset, .unset, .unset, .unset, .unset, .unset, .unset, .unset, .unset, .unset, .unset, .unset, .unset] [(.long v3)]))
  refine Go.by (fun t9 k9 => XT.lstore X3.here hx rfl (hb hby at_21) rfl (l' := #[.val (.long q0), .second, .val (.long q1), .second, .val (.long q2), .second, .val (.long q3), .second, .val (.long q4), .second, .val (.long v1), .second, .val (.long v2), .second, .val (.long v3), .second, .unset, .unset, .unset, .unset, .unset, .unset, .unset, .unset, .unset, .unset, .unset, .unset, .unset, .unset, .unset, .unset, .unset, .unset, .unset, .unset, .unset, .unset, .unset, .unset, .unset, .unset, .unset, .unset, .unset, .unset, .unset, .unset, .unset]) rfl k9) ?_
  show Go _ _ _ _ (T3.setTop (mkF m 23 #[.val (.long q0), .second, .val (.long q1), .second, .val (.long q2), .second, .val (.long q3), .second, .val (.long q4), .second, .val (.long v1), .second, .val (.long v2), .second, .val (.long v3), .second, .unset, .unset, .unset, .unset, .unset, .unset, .unset, .unset, .unset, .unset, .unset, .unset, .unset, .unset, .unset, .unset, .unset, .unset, .unset, .unset, .unset, .unset, .unset, .unset, .unset, .unset, .unset, .unset, .unset, .unset, .unset, .unset, .unset] []))
  refine Go.by (fun t9 k9 => XT.lload X3.here hx rfl (hb hby at_23) rfl k9) ?_
  show Go _ _ _ _ (T3.setTop (mkF m 25 #[.val (.long q0), .second, .val (.long q1), .second, .val (.long q2), .second, .val (.long q3), .second, .val (.long q4), .second, .val (.long v1), .second, .val (.long v2), .second, .val (.long v3), .second, .unset, .unset, .unset, .unset, .unset, .unset, .unset, .unset, .unset, .unset, .unset, .unset, .unset, .unset, .unset, .unset, .unset, .unset, .unset, .unset, .unset, .unset, .unset, .unset, .unset, .unset, .unset, .unset, .unset, .unset, .unset, .unset, .unset] [(.long v2)]))
  refine Go.by (fun t9 k9 => XT.lload X3.here hx rfl (hb hby at_25) rfl k9) ?_
  show Go _ _ _ _ (T3.setTop (mkF m 27 #[.val (.long q0), .second, .val (.long q1), .second, .val (.long q2), .second, .val (.long q3), .second, .val (.long q4), .second, .val (.long v1), .second, .val (.long v2), .second, .val (.long v3), .second, .unset, .unset, .unset, .unset, .unset, .unset, .unset, .unset, .unset, .unset, .unset, .unset, .unset, .unset, .unset, .unset, .unset, .unset, .unset, .unset, .unset, .unset, .unset, .unset, .unset, .unset, .unset, .unset, .unset, .unset, .unset, .unset, .unset] [(.long v1), (.long v2)]))
  refine Go.by (fun t9 k9 => XT.lload X3.here hx rfl (hb hby at_27) rfl k9) ?_
  show Go _ _ _ _ (T3.setTop (mkF m 29 #[.val (.long q0), .second, .val (.long q1), .second, .val (.long q2), .second, .val (.long q3), .second, .val (.long q4), .second, .val (.long v1), .second, .val (.long v2), .second, .val (.long v3), .second, .unset, .unset, .unset, .unset, .unset, .unset, .unset, .unset, .unset, .unset, .unset, .unset, .unset, .unset, .unset, .unset, .unset, .unset, .unset, .unset, .unset, .unset, .unset, .unset, .unset, .unset, .unset, .unset, .unset, .unset, .unset, .unset, .unset] [(.long q2), (.long v1), (.long v2)]))
  refine Go.callS X3 hx hZ (y := (⟨"java/lang/Math", "max", "(JJ)J"⟩ : MethodName)) hown (hw _ (List.mem_of_getElem? (i := 4) rfl)) (hw _ (List.mem_of_getElem? (i := 5) rfl)) (hw _ (List.mem_of_getElem? (i := 2) rfl)) (hw _ (List.mem_of_getElem? (i := 6) rfl)) (by decide) 2 (rm2 l Z a0 hw [] v1 q2 T3.heap n0 hz3) (some (.long (f2_0 v1 q2))) (fun h' => h' = T3.heap) (fun _ _ _ q => q) (by decide) (by decide) rfl N3 rfl (by rw [hml]; rfl) (argsL := [(.long v1), (.long q2)]) (rest := [(.long v2)]) rfl (lenOf pd0 rfl) rfl (by show 2 * 0 + _ ≤ _; exact Nat.le_of_eq rfl) (hb hby at_29) (by decide) (by decide) fun T4 lc4 X4 N4 eq4 => ?_
  have hz4 : n0 ≤ T4.heap.size := by rw [eq4]; exact hz3
  generalize hv4 : (f2_0 v1 q2) = v4
  show Go _ _ _ _ (T4.setTop (mkF m 32 #[.val (.long q0), .second, .val (.long q1), .second, .val (.long q2), .second, .val (.long q3), .second, .val (.long q4), .second, .val (.long v1), .second, .val (.long v2), .second, .val (.long v3), .second, .unset, .unset, .unset, .unset, .unset, .unset, .unset, .unset, .unset, .unset, .unset, .unset, .unset, .unset, .unset, .unset, .unset, .unset, .unset, .unset, .unset, .unset, .unset, .unset, .unset, .unset, .unset, .unset, .unset, .unset, .unset, .unset, .unset] [(.long v4), (.long v2)]))
  refine Go.callS X4 hx hZ (y := (⟨"java/lang/Math", "min", "(JJ)J"⟩ : MethodName)) hown (hw _ (List.mem_of_getElem? (i := 0) rfl)) (hw _ (List.mem_of_getElem? (i := 1) rfl)) (hw _ (List.mem_of_getElem? (i := 2) rfl)) (hw _ (List.mem_of_getElem? (i := 3) rfl)) (by decide) 0 (rm1 l Z a0 hw [] v2 v4 T4.heap n0 hz4) (some (.long (f1_0 v2 v4))) (fun h' => h' = T4.heap) (fun _ _ _ q => q) (by decide) (by decide) rfl N4 rfl (by rw [hml]; rfl) (argsL := [(.long v2), (.long v4)]) (rest := []) rfl (lenOf pd0 rfl) rfl (by show 2 * 0 + _ ≤ _; exact Nat.le_of_eq rfl) (hb hby at_32) (by decide) (by decide) fun T5 lc5 X5 N5 eq5 => ?_
  have hz5 : n0 ≤ T5.heap.size := by rw [eq5]; exact hz4
  generalize hv5 : (f1_0 v2 v4) = v5
  show Go _ _ _ _ (T5.setTop (mkF m 35 #[.val (.long q0), .second, .val (.long q1), .second, .val (.long q2), .second, .val (.long q3), .second, .val (.long q4), .second, .val (.long v1), .second, .val (.long v2), .second, .val (.long v3), .second, .unset, .unset, .unset, .unset, .unset, .unset, .unset, .unset, .unset, .unset, .unset, .unset, .unset, .unset, .unset, .unset, .unset, .unset, .unset, .unset, .unset, .unset, .unset, .unset, .unset, .unset, .unset, .unset, .unset, .unset, .unset, .unset, .unset] [(.long v5)]))
  refine Go.by (fun t9 k9 => XT.lstore X5.here hx rfl (hb hby at_35) rfl (l' := #[.val (.long q0), .second, .val (.long q1), .second, .val (.long q2), .second, .val (.long q3), .second, .val (.long q4), .second, .val (.long v1), .second, .val (.long v2), .second, .val (.long v3), .second, .val (.long v5), .second, .unset, .unset, .unset, .unset, .unset, .unset, .unset, .unset, .unset, .unset, .unset, .unset, .unset, .unset, .unset, .unset, .unset, .unset, .unset, .unset, .unset, .unset, .unset, .unset, .unset, .unset, .unset, .unset, .unset, .unset, .unset]) rfl k9) ?_
  show Go _ _ _ _ (T5.setTop (mkF m 37 #[.val (.long q0), .second, .val (.long q1), .second, .val (.long q2), .second, .val (.long q3), .second, .val (.long q4), .second, .val (.long v1), .second, .val (.long v2), .second, .val (.long v3), .second, .val (.long v5), .second, .unset, .unset, .unset, .unset, .unset, .unset, .unset, .unset, .unset, .unset, .unset, .unset, .unset, .unset, .unset, .unset, .unset, .unset, .unset, .unset, .unset, .unset, .unset, .unset, .unset, .unset, .unset, .unset, .unset, .unset, .unset] []))
  refine Go.by (fun t9 k9 => XT.lload X5.here hx rfl (hb hby at_37) rfl k9) ?_
  show Go _ _ _ _ (T5.setTop (mkF m 39 #[.val (.long q0), .second, .val (.long q1), .second, .val (.long q2), .second, .val (.long q3), .second, .val (.long q4), .second, .val (.long v1), .second, .val (.long v2), .second, .val (.long v3), .second, .val (.long v5), .second, .unset, .unset, .unset, .unset, .unset, .unset, .unset, .unset, .unset, .unset, .unset, .unset, .unset, .unset, .unset, .unset, .unset, .unset, .unset, .unset, .unset, .unset, .unset, .unset, .unset, .unset, .unset, .unset, .unset, .unset, .unset] [(.long v2)]))
  refine Go.by (fun t9 k9 => XT.lload X5.here hx rfl (hb hby at_39) rfl k9) ?_
  show Go _ _ _ _ (T5.setTop (mkF m 41 #[.val (.long q0), .second, .val (.long q1), .second, .val (.long q2), .second, .val (.long q3), .second, .val (.long q4), .second, .val (.long v1), .second, .val (.long v2), .second, .val (.long v3), .second, .val (.long v5), .second, .unset, .unset, .unset, .unset, .unset, .unset, .unset, .unset, .unset, .unset, .unset, .unset, .unset, .unset, .unset, .unset, .unset, .unset, .unset, .unset, .unset, .unset, .unset, .unset, .unset, .unset, .unset, .unset, .unset, .unset, .unset] [(.long q2), (.long v2)]))
  refine Go.callS X5 hx hZ (y := (⟨"java/lang/Math", "max", "(JJ)J"⟩ : MethodName)) hown (hw _ (List.mem_of_getElem? (i := 4) rfl)) (hw _ (List.mem_of_getElem? (i := 5) rfl)) (hw _ (List.mem_of_getElem? (i := 2) rfl)) (hw _ (List.mem_of_getElem? (i := 6) rfl)) (by decide) 0 (rm2 l Z a0 hw [] v2 q2 T5.heap n0 hz5) (some (.long (f2_0 v2 q2))) (fun h' => h' = T5.heap) (fun _ _ _ q => q) (by decide) (by decide) rfl N5 rfl (by rw [hml]; rfl) (argsL := [(.long v2), (.long q2)]) (rest := []) rfl (lenOf pd0 rfl) rfl (by show 2 * 0 + _ ≤ _; exact Nat.le_of_eq rfl) (hb hby at_41) (by decide) (by decide) fun T6 lc6 X6 N6 eq6 => ?_
  have hz6 : n0 ≤ T6.heap.size := by rw [eq6]; exact hz5
  generalize hv6 : (f2_0 v2 q2) = v6
  show Go _ _ _ _ (T6.setTop (mkF m 44 #[.val (.long q0), .second, .val (.long q1), .second, .val (.long q2), .second, .val (.long q3), .second, .val (.long q4), .second, .val (.long v1), .second, .val (.long v2), .second, .val (.long v3), .second, .val (.long v5), .second, .unset, .unset, .unset, .unset, .unset, .unset, .unset, .unset, .unset, .unset, .unset, .unset, .unset, .unset, .unset, .unset, .unset, .unset, .unset, .unset, .unset, .unset, .unset, .unset, .unset, .unset, .unset, .unset, .unset, .unset, .unset] [(.long v6)]))
  refine Go.by (fun t9 k9 => XT.lstore X6.here hx rfl (hb hby at_44) rfl (l' := #[.val (.long q0), .second, .val (.long q1), .second, .val (.long q2), .second, .val (.long q3), .second, .val (.long q4), .second, .val (.long v1), .second, .val (.long v2), .second, .val (.long v3), .second, .val (.long v5), .second, .val (.long v6), .second, .unset, .unset, .unset, .unset, .unset, .unset, .unset, .unset, .unset, .unset, .unset, .unset, .unset, .unset, .unset, .unset, .unset, .unset, .unset, .unset, .unset, .unset, .unset, .unset, .unset, .unset, .unset, .unset, .unset]) rfl k9) ?_
  show Go _ _ _ _ (T6.setTop (mkF m 46 #[.val (.long q0), .second, .val (.long q1), .second, .val (.long q2), .second, .val (.long q3), .second, .val (.long q4), .second, .val (.long v1), .second, .val (.long v2), .second, .val (.long v3), .second, .val (.long v5), .second, .val (.long v6), .second, .unset, .unset, .unset, .unset, .unset, .unset, .unset, .unset, .unset, .unset, .unset, .unset, .unset, .unset, .unset, .unset, .unset, .unset, .unset, .unset, .unset, .unset, .unset, .unset, .unset, .unset, .unset, .unset, .unset] []))
  refine Go.by (fun t9 k9 => XT.lload X6.here hx rfl (hb hby at_46) rfl k9) ?_
  show Go _ _ _ _ (T6.setTop (mkF m 48 #[.val (.long q0), .second, .val (.long q1), .second, .val (.long q2), .second, .val (.long q3), .second, .val (.long q4), .second, .val (.long v1), .second, .val (.long v2), .second, .val (.long v3), .second, .val (.long v5), .second, .val (.long v6), .second, .unset, .unset, .unset, .unset, .unset, .unset, .unset, .unset, .unset, .unset, .unset, .unset, .unset, .unset, .unset, .unset, .unset, .unset, .unset, .unset, .unset, .unset, .unset, .unset, .unset, .unset, .unset, .unset, .unset] [(.long v3)]))
  refine Go.by (fun t9 k9 => XT.lload X6.here hx rfl (hb hby at_48) rfl k9) ?_
  show Go _ _ _ _ (T6.setTop (mkF m 50 #[.val (.long q0), .second, .val (.long q1), .second, .val (.long q2), .second, .val (.long q3), .second, .val (.long q4), .second, .val (.long v1), .second, .val (.long v2), .second, .val (.long v3), .second, .val (.long v5), .second, .val (.long v6), .second, .unset, .unset, .unset, .unset, .unset, .unset, .unset, .unset, .unset, .unset, .unset, .unset, .unset, .unset, .unset, .unset, .unset, .unset, .unset, .unset, .unset, .unset, .unset, .unset, .unset, .unset, .unset, .unset, .unset] [(.long q3), (.long v3)]))
  refine Go.callS X6 hx hZ (y := (⟨"java/lang/Math", "min", "(JJ)J"⟩ : MethodName)) hown (hw _ (List.mem_of_getElem? (i := 0) rfl)) (hw _ (List.mem_of_getElem? (i := 1) rfl)) (hw _ (List.mem_of_getElem? (i := 2) rfl)) (hw _ (List.mem_of_getElem? (i := 3) rfl)) (by decide) 0 (rm1 l Z a0 hw [] v3 q3 T6.heap n0 hz6) (some (.long (f1_0 v3 q3))) (fun h' => h' = T6.heap) (fun _ _ _ q => q) (by decide) (by decide) rfl N6 rfl (by rw [hml]; rfl) (argsL := [(.long v3), (.long q3)]) (rest := []) rfl (lenOf pd0 rfl) rfl (by show 2 * 0 + _ ≤ _; exact Nat.le_of_eq rfl) (hb hby at_50) (by decide) (by decide) fun T7 lc7 X7 N7 eq7 => ?_
  have hz7 : n0 ≤ T7.heap.size := by rw [eq7]; exact hz6
  generalize hv7 : (f1_0 v3 q3) = v7
  show Go _ _ _ _ (T7.setTop (mkF m 53 #[.val (.long q0), .second, .val (.long q1), .second, .val (.long q2), .second, .val (.long q3), .second, .val (.long q4), .second, .val (.long v1), .second, .val (.long v2), .second, .val (.long v3), .second, .val (.long v5), .second, .val (.long v6), .second, .unset, .unset, .unset, .unset, .unset, .unset, .unset, .unset, .unset, .unset, .unset, .unset, .unset, .unset, .unset, .unset, .unset, .unset, .unset, .unset, .unset, .unset, .unset, .unset, .unset, .unset, .unset, .unset, .unset] [(.long v7)]))
  refine Go.by (fun t9 k9 => XT.lstore X7.here hx rfl (hb hby at_53) rfl (l' := #[.val (.long q0), .second, .val (.long q1), .second, .val (.long q2), .second, .val (.long q3), .second, .val (.long q4), .second, .val (.long v1), .second, .val (.long v2), .second, .val (.long v3), .second, .val (.long v5), .second, .val (.long v6), .second, .val (.long v7), .second, .unset, .unset, .unset, .unset, .unset, .unset, .unset, .unset, .unset, .unset, .unset, .unset, .unset, .unset, .unset, .unset, .unset, .unset, .unset, .unset, .unset, .unset, .unset, .unset, .unset, .unset, .unset]) rfl k9) ?_
  show Go _ _ _ _ (T7.setTop (mkF m 55 #[.val (.long q0), .second, .val (.long q1), .second, .val (.long q2), .second, .val (.long q3), .second, .val (.long q4), .second, .val (.long v1), .second, .val (.long v2), .second, .val (.long v3), .second, .val (.long v5), .second, .val (.long v6), .second, .val (.long v7), .second, .unset, .unset, .unset, .unset, .unset, .unset, .unset, .unset, .unset, .unset, .unset, .unset, .unset, .unset, .unset, .unset, .unset, .unset, .unset, .unset, .unset, .unset, .unset, .unset, .unset, .unset, .unset] []))
  refine Go.by (fun t9 k9 => XT.lload X7.here hx rfl (hb hby at_55) rfl k9) ?_
  show Go _ _ _ _ (T7.setTop (mkF m 57 #[.val (.long q0), .second, .val (.long q1), .second, .val (.long q2), .second, .val (.long q3), .second, .val (.long q4), .second, .val (.long v1), .second, .val (.long v2), .second, .val (.long v3), .second, .val (.long v5), .second, .val (.long v6), .second, .val (.long v7), .second, .unset, .unset, .unset, .unset, .unset, .unset, .unset, .unset, .unset, .unset, .unset, .unset, .unset, .unset, .unset, .unset, .unset, .unset, .unset, .unset, .unset, .unset, .unset, .unset, .unset, .unset, .unset] [(.long v5)]))
  refine Go.by (fun t9 k9 => XT.lload X7.here hx rfl (hb hby at_57) rfl k9) ?_
  show Go _ _ _ _ (T7.setTop (mkF m 59 #[.val (.long q0), .second, .val (.long q1), .second, .val (.long q2), .second, .val (.long q3), .second, .val (.long q4), .second, .val (.long v1), .second, .val (.long v2), .second, .val (.long v3), .second, .val (.long v5), .second, .val (.long v6), .second, .val (.long v7), .second, .unset, .unset, .unset, .unset, .unset, .unset, .unset, .unset, .unset, .unset, .unset, .unset, .unset, .unset, .unset, .unset, .unset, .unset, .unset, .unset, .unset, .unset, .unset, .unset, .unset, .unset, .unset] [(.long v3), (.long v5)]))
  refine Go.by (fun t9 k9 => XT.lload X7.here hx rfl (hb hby at_59) rfl k9) ?_
  show Go _ _ _ _ (T7.setTop (mkF m 61 #[.val (.long q0), .second, .val (.long q1), .second, .val (.long q2), .second, .val (.long q3), .second, .val (.long q4), .second, .val (.long v1), .second, .val (.long v2), .second, .val (.long v3), .second, .val (.long v5), .second, .val (.long v6), .second, .val (.long v7), .second, .unset, .unset, .unset, .unset, .unset, .unset, .unset, .unset, .unset, .unset, .unset, .unset, .unset, .unset, .unset, .unset, .unset, .unset, .unset, .unset, .unset, .unset, .unset, .unset, .unset, .unset, .unset] [(.long q3), (.long v3), (.long v5)]))
  refine Go.callS X7 hx hZ (y := (⟨"java/lang/Math", "max", "(JJ)J"⟩ : MethodName)) hown (hw _ (List.mem_of_getElem? (i := 4) rfl)) (hw _ (List.mem_of_getElem? (i := 5) rfl)) (hw _ (List.mem_of_getElem? (i := 2) rfl)) (hw _ (List.mem_of_getElem? (i := 6) rfl)) (by decide) 2 (rm2 l Z a0 hw [] v3 q3 T7.heap n0 hz7) (some (.long (f2_0 v3 q3))) (fun h' => h' = T7.heap) (fun _ _ _ q => q) (by decide) (by decide) rfl N7 rfl (by rw [hml]; rfl) (argsL := [(.long v3), (.long q3)]) (rest := [(.long v5)]) rfl (lenOf pd0 rfl) rfl (by show 2 * 0 + _ ≤ _; exact Nat.le_of_eq rfl) (hb hby at_61) (by decide) (by decide) fun T8 lc8 X8 N8 eq8 => ?_
  have hz8 : n0 ≤ T8.heap.size := by rw [eq8]; exact hz7
  generalize hv8 : (f2_0 v3 q3) = v8
  show Go _ _ _ _ (T8.setTop (mkF m 64 #[.val (.long q0), .second, .val (.long q1), .second, .val (.long q2), .second, .val (.long q3), .second, .val (.long q4), .second, .val (.long v1), .second, .val (.long v2), .second, .val (.long v3), .second, .val (.long v5), .second, .val (.long v6), .second, .val (.long v7), .second, .unset, .unset, .unset, .unset, .unset, .unset, .unset, .unset, .unset, .unset, .unset, .unset, .unset, .unset, .unset, .unset, .unset, .unset, .unset, .unset, .unset, .unset, .unset, .unset, .unset, .unset, .unset] [(.long v8), (.long v5)]))
  refine Go.callS X8 hx hZ (y := (⟨"java/lang/Math", "min", "(JJ)J"⟩ : MethodName)) hown (hw _ (List.mem_of_getElem? (i := 0) rfl)) (hw _ (List.mem_of_getElem? (i := 1) rfl)) (hw _ (List.mem_of_getElem? (i := 2) rfl)) (hw _ (List.mem_of_getElem? (i := 3) rfl)) (by decide) 0 (rm1 l Z a0 hw [] v5 v8 T8.heap n0 hz8) (some (.long (f1_0 v5 v8))) (fun h' => h' = T8.heap) (fun _ _ _ q => q) (by decide) (by decide) rfl N8 rfl (by rw [hml]; rfl) (argsL := [(.long v5), (.long v8)]) (rest := []) rfl (lenOf pd0 rfl) rfl (by show 2 * 0 + _ ≤ _; exact Nat.le_of_eq rfl) (hb hby at_64) (by decide) (by decide) fun T9 lc9 X9 N9 eq9 => ?_
  have hz9 : n0 ≤ T9.heap.size := by rw [eq9]; exact hz8
  generalize hv9 : (f1_0 v5 v8) = v9
  show Go _ _ _ _ (T9.setTop (mkF m 67 #[.val (.long q0), .second, .val (.long q1), .second, .val (.long q2), .second, .val (.long q3), .second, .val (.long q4), .second, .val (.long v1), .second, .val (.long v2), .second, .val (.long v3), .second, .val (.long v5), .second, .val (.long v6), .second, .val (.long v7), .second, .unset, .unset, .unset, .unset, .unset, .unset, .unset, .unset, .unset, .unset, .unset, .unset, .unset, .unset, .unset, .unset, .unset, .unset, .unset, .unset, .unset, .unset, .unset, .unset, .unset, .unset, .unset] [(.long v9)]))
  refine Go.by (fun t9 k9 => XT.lstore X9.here hx rfl (hb hby at_67) rfl (l' := #[.val (.long q0), .second, .val (.long q1), .second, .val (.long q2), .second, .val (.long q3), .second, .val (.long q4), .second, .val (.long v1), .second, .val (.long v2), .second, .val (.long v3), .second, .val (.long v5), .second, .val (.long v6), .second, .val (.long v7), .second, .val (.long v9), .second, .unset, .unset, .unset, .unset, .unset, .unset, .unset, .unset, .unset, .unset, .unset, .unset, .unset, .unset, .unset, .unset, .unset, .unset, .unset, .unset, .unset, .unset, .unset, .unset, .unset]) rfl k9) ?_
  show Go _ _ _ _ (T9.setTop (mkF m 69 #[.val (.long q0), .second, .val (.long q1), .second, .val (.long q2), .second, .val (.long q3), .second, .val (.long q4), .second, .val (.long v1), .second, .val (.long v2), .second, .val (.long v3), .second, .val (.long v5), .second, .val (.long v6), .second, .val (.long v7), .second, .val (.long v9), .second, .unset, .unset, .unset, .unset, .unset, .unset, .unset, .unset, .unset, .unset, .unset, .unset, .unset, .unset, .unset, .unset, .unset, .unset, .unset, .unset, .unset, .unset, .unset, .unset, .unset] []))
  refine Go.by (fun t9 k9 => XT.lload X9.here hx rfl (hb hby at_69) rfl k9) ?_
  show Go _ _ _ _ (T9.setTop (mkF m 71 #[.val (.long q0), .second, .val (.long q1), .second, .val (.long q2), .second, .val (.long q3), .second, .val (.long q4), .second, .val (.long v1), .second, .val (.long v2), .second, .val (.long v3), .second, .val (.long v5), .second, .val (.long v6), .second, .val (.long v7), .second, .val (.long v9), .second, .unset, .unset, .unset, .unset, .unset, .unset, .unset, .unset, .unset, .unset, .unset, .unset, .unset, .unset, .unset, .unset, .unset, .unset, .unset, .unset, .unset, .unset, .unset, .unset, .unset] [(.long v6)]))
  refine Go.by (fun t9 k9 => XT.lload X9.here hx rfl (hb hby at_71) rfl k9) ?_
  show Go _ _ _ _ (T9.setTop (mkF m 73 #[.val (.long q0), .second, .val (.long q1), .second, .val (.long q2), .second, .val (.long q3), .second, .val (.long q4), .second, .val (.long v1), .second, .val (.long v2), .second, .val (.long v3), .second, .val (.long v5), .second, .val (.long v6), .second, .val (.long v7), .second, .val (.long v9), .second, .unset, .unset, .unset, .unset, .unset, .unset, .unset, .unset, .unset, .unset, .unset, .unset, .unset, .unset, .unset, .unset, .unset, .unset, .unset, .unset, .unset, .unset, .unset, .unset, .unset] [(.long v5), (.long v6)]))
  refine Go.by (fun t9 k9 => XT.lload X9.here hx rfl (hb hby at_73) rfl k9) ?_
  show Go _ _ _ _ (T9.setTop (mkF m 75 #[.val (.long q0), .second, .val (.long q1), .second, .val (.long q2), .second, .val (.long q3), .second, .val (.long q4), .second, .val (.long v1), .second, .val (.long v2), .second, .val (.long v3), .second, .val (.long v5), .second, .val (.long v6), .second, .val (.long v7), .second, .val (.long v9), .second, .unset, .unset, .unset, .unset, .unset, .unset, .unset, .unset, .unset, .unset, .unset, .unset, .unset, .unset, .unset, .unset, .unset, .unset, .unset, .unset, .unset, .unset, .unset, .unset, .unset] [(.long q3), (.long v5), (.long v6)]))
  refine Go.callS X9 hx hZ (y := (⟨"java/lang/Math", "max", "(JJ)J"⟩ : MethodName)) hown (hw _ (List.mem_of_getElem? (i := 4) rfl)) (hw _ (List.mem_of_getElem? (i := 5) rfl)) (hw _ (List.mem_of_getElem? (i := 2) rfl)) (hw _ (List.mem_of_getElem? (i := 6) rfl)) (by decide) 2 (rm2 l Z a0 hw [] v5 q3 T9.heap n0 hz9) (some (.long (f2_0 v5 q3))) (fun h' => h' = T9.heap) (fun _ _ _ q => q) (by decide) (by decide) rfl N9 rfl (by rw [hml]; rfl) (argsL := [(.long v5), (.long q3)]) (rest := [(.long v6)]) rfl (lenOf pd0 rfl) rfl (by show 2 * 0 + _ ≤ _; exact Nat.le_of_eq rfl) (hb hby at_75) (by decide) (by decide) fun T10 lc10 X10 N10 eq10 => ?_
  have hz10 : n0 ≤ T10.heap.size := by rw [eq10]; exact hz9
  generalize hv10 : (f2_0 v5 q3) = v10
  show Go _ _ _ _ (T10.setTop (mkF m 78 #[.val (.long q0), .second, .val (.long q1), .second, .val (.long q2), .second, .val (.long q3), .second, .val (.long q4), .second, .val (.long v1), .second, .val (.long v2), .second, .val (.long v3), .second, .val (.long v5), .second, .val (.long v6), .second, .val (.long v7), .second, .val (.long v9), .second, .unset, .unset, .unset, .unset, .unset, .unset, .unset, .unset, .unset, .unset, .unset, .unset, .unset, .unset, .unset, .unset, .unset, .unset, .unset, .unset, .unset, .unset, .unset, .unset, .unset] [(.long v10), (.long v6)]))
  refine Go.callS X10 hx hZ (y := (⟨"java/lang/Math", "min", "(JJ)J"⟩ : MethodName)) hown (hw _ (List.mem_of_getElem? (i := 0) rfl)) (hw _ (List.mem_of_getElem? (i := 1) rfl)) (hw _ (List.mem_of_getElem? (i := 2) rfl)) (hw _ (List.mem_of_getElem? (i := 3) rfl)) (by decide) 0 (rm1 l Z a0 hw [] v6 v10 T10.heap n0 hz10) (some (.long (f1_0 v6 v10))) (fun h' => h' = T10.heap) (fun _ _ _ q => q) (by decide) (by decide) rfl N10 rfl (by rw [hml]; rfl) (argsL := [(.long v6), (.long v10)]) (rest := []) rfl (lenOf pd0 rfl) rfl (by show 2 * 0 + _ ≤ _; exact Nat.le_of_eq rfl) (hb hby at_78) (by decide) (by decide) fun T11 lc11 X11 N11 eq11 => ?_
  have hz11 : n0 ≤ T11.heap.size := by rw [eq11]; exact hz10
  generalize hv11 : (f1_0 v6 v10) = v11
  show Go _ _ _ _ (T11.setTop (mkF m 81 #[.val (.long q0), .second, .val (.long q1), .second, .val (.long q2), .second, .val (.long q3), .second, .val (.long q4), .second, .val (.long v1), .second, .val (.long v2), .second, .val (.long v3), .second, .val (.long v5), .second, .val (.long v6), .second, .val (.long v7), .second, .val (.long v9), .second, .unset, .unset, .unset, .unset, .unset, .unset, .unset, .unset, .unset, .unset, .unset, .unset, .unset, .unset, .unset, .unset, .unset, .unset, .unset, .unset, .unset, .unset, .unset, .unset, .unset] [(.long v11)]))
  refine Go.by (fun t9 k9 => XT.lstore X11.here hx rfl (hb hby at_81) rfl (l' := #[.val (.long q0), .second, .val (.long q1), .second, .val (.long q2), .second, .val (.long q3), .second, .val (.long q4), .second, .val (.long v1), .second, .val (.long v2), .second, .val (.long v3), .second, .val (.long v5), .second, .val (.long v6), .second, .val (.long v7), .second, .val (.long v9), .second, .val (.long v11), .second, .unset, .unset, .unset, .unset, .unset, .unset, .unset, .unset, .unset, .unset, .unset, .unset, .unset, .unset, .unset, .unset, .unset, .unset, .unset, .unset, .unset, .unset, .unset]) rfl k9) ?_
  show Go _ _ _ _ (T11.setTop (mkF m 83 #[.val (.long q0), .second, .val (.long q1), .second, .val (.long q2), .second, .val (.long q3), .second, .val (.long q4), .second, .val (.long v1), .second, .val (.long v2), .second, .val (.long v3), .second, .val (.long v5), .second, .val (.long v6), .second, .val (.long v7), .second, .val (.long v9), .second, .val (.long v11), .second, .unset, .unset, .unset, .unset, .unset, .unset, .unset, .unset, .unset, .unset, .unset, .unset, .unset, .unset, .unset, .unset, .unset, .unset, .unset, .unset, .unset, .unset, .unset] []))
  refine Go.by (fun t9 k9 => XT.lload X11.here hx rfl (hb hby at_83) rfl k9) ?_
  show Go _ _ _ _ (T11.setTop (mkF m 85 #[.val (.long q0), .second, .val (.long q1), .second, .val (.long q2), .second, .val (.long q3), .second, .val (.long q4), .second, .val (.long v1), .second, .val (.long v2), .second, .val (.long v3), .second, .val (.long v5), .second, .val (.long v6), .second, .val (.long v7), .second, .val (.long v9), .second, .val (.long v11), .second, .unset, .unset, .unset, .unset, .unset, .unset, .unset, .unset, .unset, .unset, .unset, .unset, .unset, .unset, .unset, .unset, .unset, .unset, .unset, .unset, .unset, .unset, .unset] [(.long v6)]))
  refine Go.by (fun t9 k9 => XT.lload X11.here hx rfl (hb hby at_85) rfl k9) ?_
  show Go _ _ _ _ (T11.setTop (mkF m 87 #[.val (.long q0), .second, .val (.long q1), .second, .val (.long q2), .second, .val (.long q3), .second, .val (.long q4), .second, .val (.long v1), .second, .val (.long v2), .second, .val (.long v3), .second, .val (.long v5), .second, .val (.long v6), .second, .val (.long v7), .second, .val (.long v9), .second, .val (.long v11), .second, .unset, .unset, .unset, .unset, .unset, .unset, .unset, .unset, .unset, .unset, .unset, .unset, .unset, .unset, .unset, .unset, .unset, .unset, .unset, .unset, .unset, .unset, .unset] [(.long q3), (.long v6)]))
  refine Go.callS X11 hx hZ (y := (⟨"java/lang/Math", "max", "(JJ)J"⟩ : MethodName)) hown (hw _ (List.mem_of_getElem? (i := 4) rfl)) (hw _ (List.mem_of_getElem? (i := 5) rfl)) (hw _ (List.mem_of_getElem? (i := 2) rfl)) (hw _ (List.mem_of_getElem? (i := 6) rfl)) (by decide) 0 (rm2 l Z a0 hw [] v6 q3 T11.heap n0 hz11) (some (.long (f2_0 v6 q3))) (fun h' => h' = T11.heap) (fun _ _ _ q => q) (by decide) (by decide) rfl N11 rfl (by rw [hml]; rfl) (argsL := [(.long v6), (.long q3)]) (rest := []) rfl (lenOf pd0 rfl) rfl (by show 2 * 0 + _ ≤ _; exact Nat.le_of_eq rfl) (hb hby at_87) (by decide) (by decide) fun T12 lc12 X12 N12 eq12 => ?_
  have hz12 : n0 ≤ T12.heap.size := by rw [eq12]; exact hz11
  generalize hv12 : (f2_0 v6 q3) = v12
  show Go _ _ _ _ (T12.setTop (mkF m 90 #[.val (.long q0), .second, .val (.long q1), .second, .val (.long q2), .second, .val (.long q3), .second, .val (.long q4), .second, .val (.long v1), .second, .val (.long v2), .second, .val (.long v3), .second, .val (.long v5), .second, .val (.long v6), .second, .val (.long v7), .second, .val (.long v9), .second, .val (.long v11), .second, .unset, .unset, .unset, .unset, .unset, .unset, .unset, .unset, .unset, .unset, .unset, .unset, .unset, .unset, .unset, .unset, .unset, .unset, .unset, .unset, .unset, .unset, .unset] [(.long v12)]))
  refine Go.by (fun t9 k9 => XT.lstore X12.here hx rfl (hb hby at_90) rfl (l' := #[.val (.long q0), .second, .val (.long q1), .second, .val (.long q2), .second, .val (.long q3), .second, .val (.long q4), .second, .val (.long v1), .second, .val (.long v2), .second, .val (.long v3), .second, .val (.long v5), .second, .val (.long v6), .second, .val (.long v7), .second, .val (.long v9), .second, .val (.long v11), .second, .val (.long v12), .second, .unset, .unset, .unset, .unset, .unset, .unset, .unset, .unset, .unset, .unset, .unset, .unset, .unset, .unset, .unset, .unset, .unset, .unset, .unset, .unset, .unset]) rfl k9) ?_
  show Go _ _ _ _ (T12.setTop (mkF m 92 #[.val (.long q0), .second, .val (.long q1), .second, .val (.long q2), .second, .val (.long q3), .second, .val (.long q4), .second, .val (.long v1), .second, .val (.long v2), .second, .val (.long v3), .second, .val (.long v5), .second, .val (.long v6), .second, .val (.long v7), .second, .val (.long v9), .second, .val (.long v11), .second, .val (.long v12), .second, .unset, .unset, .unset, .unset, .unset, .unset, .unset, .unset, .unset, .unset, .unset, .unset, .unset, .unset, .unset, .unset, .unset, .unset, .unset, .unset, .unset] []))
  refine Go.by (fun t9 k9 => XT.lload X12.here hx rfl (hb hby at_92) rfl k9) ?_
  show Go _ _ _ _ (T12.setTop (mkF m 94 #[.val (.long q0), .second, .val (.long q1), .second, .val (.long q2), .second, .val (.long q3), .second, .val (.long q4), .second, .val (.long v1), .second, .val (.long v2), .second, .val (.long v3), .second, .val (.long v5), .second, .val (.long v6), .second, .val (.long v7), .second, .val (.long v9), .second, .val (.long v11), .second, .val (.long v12), .second, .unset, .unset, .unset, .unset, .unset, .unset, .unset, .unset, .unset, .unset, .unset, .unset, .unset, .unset, .unset, .unset, .unset, .unset, .unset, .unset, .unset] [(.long v7)]))
  refine Go.by (fun t9 k9 => XT.lload X12.here hx rfl (hb hby at_94) rfl k9) ?_
  show Go _ _ _ _ (T12.setTop (mkF m 96 #[.val (.long q0), .second, .val (.long q1), .second, .val (.long q2), .second, .val (.long q3), .second, .val (.long q4), .second, .val (.long v1), .second, .val (.long v2), .second, .val (.long v3), .second, .val (.long v5), .second, .val (.long v6), .second, .val (.long v7), .second, .val (.long v9), .second, .val (.long v11), .second, .val (.long v12), .second, .unset, .unset, .unset, .unset, .unset, .unset, .unset, .unset, .unset, .unset, .unset, .unset, .unset, .unset, .unset, .unset, .unset, .unset, .unset, .unset, .unset] [(.long q4), (.long v7)]))
  refine Go.callS X12 hx hZ (y := (⟨"java/lang/Math", "min", "(JJ)J"⟩ : MethodName)) hown (hw _ (List.mem_of_getElem? (i := 0) rfl)) (hw _ (List.mem_of_getElem? (i := 1) rfl)) (hw _ (List.mem_of_getElem? (i := 2) rfl)) (hw _ (List.mem_of_getElem? (i := 3) rfl)) (by decide) 0 (rm1 l Z a0 hw [] v7 q4 T12.heap n0 hz12) (some (.long (f1_0 v7 q4))) (fun h' => h' = T12.heap) (fun _ _ _ q => q) (by decide) (by decide) rfl N12 rfl (by rw [hml]; rfl) (argsL := [(.long v7), (.long q4)]) (rest := []) rfl (lenOf pd0 rfl) rfl (by show 2 * 0 + _ ≤ _; exact Nat.le_of_eq rfl) (hb hby at_96) (by decide) (by decide) fun T13 lc13 X13 N13 eq13 => ?_
  have hz13 : n0 ≤ T13.heap.size := by rw [eq13]; exact hz12
  generalize hv13 : (f1_0 v7 q4) = v13
  show Go _ _ _ _ (T13.setTop (mkF m 99 #[.val (.long q0), .second, .val (.long q1), .second, .val (.long q2), .second, .val (.long q3), .second, .val (.long q4), .second, .val (.long v1), .second, .val (.long v2), .second, .val (.long v3), .second, .val (.long v5), .second, .val (.long v6), .second, .val (.long v7), .second, .val (.long v9), .second, .val (.long v11), .second, .val (.long v12), .second, .unset, .unset, .unset, .unset, .unset, .unset, .unset, .unset, .unset, .unset, .unset, .unset, .unset, .unset, .unset, .unset, .unset, .unset, .unset, .unset, .unset] [(.long v13)]))
  refine Go.by (fun t9 k9 => XT.lstore X13.here hx rfl (hb hby at_99) rfl (l' := #[.val (.long q0), .second, .val (.long q1), .second, .val (.long q2), .second, .val (.long q3), .second, .val (.long q4), .second, .val (.long v1), .second, .val (.long v2), .second, .val (.long v3), .second, .val (.long v5), .second, .val (.long v6), .second, .val (.long v7), .second, .val (.long v9), .second, .val (.long v11), .second, .val (.long v12), .second, .val (.long v13), .second, .unset, .unset, .unset, .unset, .unset, .unset, .unset, .unset, .unset, .unset, .unset, .unset, .unset, .unset, .unset, .unset, .unset, .unset, .unset]) rfl k9) ?_
  show Go _ _ _ _ (T13.setTop (mkF m 101 #[.val (.long q0), .second, .val (.long q1), .second, .val (.long q2), .second, .val (.long q3), .second, .val (.long q4), .second, .val (.long v1), .second, .val (.long v2), .second, .val (.long v3), .second, .val (.long v5), .second, .val (.long v6), .second, .val (.long v7), .second, .val (.long v9), .second, .val (.long v11), .second, .val (.long v12), .second, .val (.long v13), .second, .unset, .unset, .unset, .unset, .unset, .unset, .unset, .unset, .unset, .unset, .unset, .unset, .unset, .unset, .unset, .unset, .unset, .unset, .unset] []))
  refine Go.by (fun t9 k9 => XT.lload X13.here hx rfl (hb hby at_101) rfl k9) ?_
  show Go _ _ _ _ (T13.setTop (mkF m 103 #[.val (.long q0), .second, .val (.long q1), .second, .val (.long q2), .second, .val (.long q3), .second, .val (.long q4), .second, .val (.long v1), .second, .val (.long v2), .second, .val (.long v3), .second, .val (.long v5), .second, .val (.long v6), .second, .val (.long v7), .second, .val (.long v9), .second, .val (.long v11), .second, .val (.long v12), .second, .val (.long v13), .second, .unset, .unset, .unset, .unset, .unset, .unset, .unset, .unset, .unset, .unset, .unset, .unset, .unset, .unset, .unset, .unset, .unset, .unset, .unset] [(.long v9)]))
  refine Go.by (fun t9 k9 => XT.lload X13.here hx rfl (hb hby at_103) rfl k9) ?_
  show Go _ _ _ _ (T13.setTop (mkF m 105 #[.val (.long q0), .second, .val (.long q1), .second, .val (.long q2), .second, .val (.long q3), .second, .val (.long q4), .second, .val (.long v1), .second, .val (.long v2), .second, .val (.long v3), .second, .val (.long v5), .second, .val (.long v6), .second, .val (.long v7), .second, .val (.long v9), .second, .val (.long v11), .second, .val (.long v12), .second, .val (.long v13), .second, .unset, .unset, .unset, .unset, .unset, .unset, .unset, .unset, .unset, .unset, .unset, .unset, .unset, .unset, .unset, .unset, .unset, .unset, .unset] [(.long v7), (.long v9)]))
  refine Go.by (fun t9 k9 => XT.lload X13.here hx rfl (hb hby at_105) rfl k9) ?_
  show Go _ _ _ _ (T13.setTop (mkF m 107 #[.val (.long q0), .second, .val (.long q1), .second, .val (.long q2), .second, .val (.long q3), .second, .val (.long q4), .second, .val (.long v1), .second, .val (.long v2), .second, .val (.long v3), .second, .val (.long v5), .second, .val (.long v6), .second, .val (.long v7), .second, .val (.long v9), .second, .val (.long v11), .second, .val (.long v12), .second, .val (.long v13), .second, .unset, .unset, .unset, .unset, .unset, .unset, .unset, .unset, .unset, .unset, .unset, .unset, .unset, .unset, .unset, .unset, .unset, .unset, .unset] [(.long q4), (.long v7), (.long v9)]))
  refine Go.callS X13 hx hZ (y := (⟨"java/lang/Math", "max", "(JJ)J"⟩ : MethodName)) hown (hw _ (List.mem_of_getElem? (i := 4) rfl)) (hw _ (List.mem_of_getElem? (i := 5) rfl)) (hw _ (List.mem_of_getElem? (i := 2) rfl)) (hw _ (List.mem_of_getElem? (i := 6) rfl)) (by decide) 2 (rm2 l Z a0 hw [] v7 q4 T13.heap n0 hz13) (some (.long (f2_0 v7 q4))) (fun h' => h' = T13.heap) (fun _ _ _ q => q) (by decide) (by decide) rfl N13 rfl (by rw [hml]; rfl) (argsL := [(.long v7), (.long q4)]) (rest := [(.long v9)]) rfl (lenOf pd0 rfl) rfl (by show 2 * 0 + _ ≤ _; exact Nat.le_of_eq rfl) (hb hby at_107) (by decide) (by decide) fun T14 lc14 X14 N14 eq14 => ?_
  have hz14 : n0 ≤ T14.heap.size := by rw [eq14]; exact hz13
  generalize hv14 : (f2_0 v7 q4) = v14
  show Go _ _ _ _ (T14.setTop (mkF m 110 #[.val (.long q0), .second, .val (.long q1), .second, .val (.long q2), .second, .val (.long q3), .second, .val (.long q4), .second, .val (.long v1), .second, .val (.long v2), .second, .val (.long v3), .second, .val (.long v5), .second, .val (.long v6), .second, .val (.long v7), .second, .val (.long v9), .second, .val (.long v11), .second, .val (.long v12), .second, .val (.long v13), .second, .unset, .unset, .unset, .unset, .unset, .unset, .unset, .unset, .unset, .unset, .unset, .unset, .unset, .unset, .unset, .unset, .unset, .unset, .unset] [(.long v14), (.long v9)]))
  refine Go.callS X14 hx hZ (y := (⟨"java/lang/Math", "min", "(JJ)J"⟩ : MethodName)) hown (hw _ (List.mem_of_getElem? (i := 0) rfl)) (hw _ (List.mem_of_getElem? (i := 1) rfl)) (hw _ (List.mem_of_getElem? (i := 2) rfl)) (hw _ (List.mem_of_getElem? (i := 3) rfl)) (by decide) 0 (rm1 l Z a0 hw [] v9 v14 T14.heap n0 hz14) (some (.long (f1_0 v9 v14))) (fun h' => h' = T14.heap) (fun _ _ _ q => q) (by decide) (by decide) rfl N14 rfl (by rw [hml]; rfl) (argsL := [(.long v9), (.long v14)]) (rest := []) rfl (lenOf pd0 rfl) rfl (by show 2 * 0 + _ ≤ _; exact Nat.le_of_eq rfl) (hb hby at_110) (by decide) (by decide) fun T15 lc15 X15 N15 eq15 => ?_
  have hz15 : n0 ≤ T15.heap.size := by rw [eq15]; exact hz14
  generalize hv15 : (f1_0 v9 v14) = v15
  show Go _ _ _ _ (T15.setTop (mkF m 113 #[.val (.long q0), .second, .val (.long q1), .second, .val (.long q2), .second, .val (.long q3), .second, .val (.long q4), .second, .val (.long v1), .second, .val (.long v2), .second, .val (.long v3), .second, .val (.long v5), .second, .val (.long v6), .second, .val (.long v7), .second, .val (.long v9), .second, .val (.long v11), .second, .val (.long v12), .second, .val (.long v13), .second, .unset, .unset, .unset, .unset, .unset, .unset, .unset, .unset, .unset, .unset, .unset, .unset, .unset, .unset, .unset, .unset, .unset, .unset, .unset] [(.long v15)]))
  refine Go.by (fun t9 k9 => XT.lstore X15.here hx rfl (hb hby at_113) rfl (l' := #[.val (.long q0), .second, .val (.long q1), .second, .val (.long q2), .second, .val (.long q3), .second, .val (.long q4), .second, .val (.long v1), .second, .val (.long v2), .second, .val (.long v3), .second, .val (.long v5), .second, .val (.long v6), .second, .val (.long v7), .second, .val (.long v9), .second, .val (.long v11), .second, .val (.long v12), .second, .val (.long v13), .second, .val (.long v15), .second, .unset, .unset, .unset, .unset, .unset, .unset, .unset, .unset, .unset, .unset, .unset, .unset, .unset, .unset, .unset, .unset, .unset]) rfl k9) ?_
  show Go _ _ _ _ (T15.setTop (mkF m 115 #[.val (.long q0), .second, .val (.long q1), .second, .val (.long q2), .second, .val (.long q3), .second, .val (.long q4), .second, .val (.long v1), .second, .val (.long v2), .second, .val (.long v3), .second, .val (.long v5), .second, .val (.long v6), .second, .val (.long v7), .second, .val (.long v9), .second, .val (.long v11), .second, .val (.long v12), .second, .val (.long v13), .second, .val (.long v15), .second, .unset, .unset, .unset, .unset, .unset, .unset, .unset, .unset, .unset, .unset, .unset, .unset, .unset, .unset, .unset, .unset, .unset] []))
  refine Go.by (fun t9 k9 => XT.lload X15.here hx rfl (hb hby at_115) rfl k9) ?_
  show Go _ _ _ _ (T15.setTop (mkF m 117 #[.val (.long q0), .second, .val (.long q1), .second, .val (.long q2), .second, .val (.long q3), .second, .val (.long q4), .second, .val (.long v1), .second, .val (.long v2), .second, .val (.long v3), .second, .val (.long v5), .second, .val (.long v6), .second, .val (.long v7), .second, .val (.long v9), .second, .val (.long v11), .second, .val (.long v12), .second, .val (.long v13), .second, .val (.long v15), .second, .unset, .unset, .unset, .unset, .unset, .unset, .unset, .unset, .unset, .unset, .unset, .unset, .unset, .unset, .unset, .unset, .unset] [(.long v11)]))
  refine Go.by (fun t9 k9 => XT.lload X15.here hx rfl (hb hby at_117) rfl k9) ?_
  show Go _ _ _ _ (T15.setTop (mkF m 119 #[.val (.long q0), .second, .val (.long q1), .second, .val (.long q2), .second, .val (.long q3), .second, .val (.long q4), .second, .val (.long v1), .second, .val (.long v2), .second, .val (.long v3), .second, .val (.long v5), .second, .val (.long v6), .second, .val (.long v7), .second, .val (.long v9), .second, .val (.long v11), .second, .val (.long v12), .second, .val (.long v13), .second, .val (.long v15), .second, .unset, .unset, .unset, .unset, .unset, .unset, .unset, .unset, .unset, .unset, .unset, .unset, .unset, .unset, .unset, .unset, .unset] [(.long v9), (.long v11)]))
  refine Go.by (fun t9 k9 => XT.lload X15.here hx rfl (hb hby at_119) rfl k9) ?_
  show Go _ _ _ _ (T15.setTop (mkF m 121 #[.val (.long q0), .second, .val (.long q1), .second, .val (.long q2), .second, .val (.long q3), .second, .val (.long q4), .second, .val (.long v1), .second, .val (.long v2), .second, .val (.long v3), .second, .val (.long v5), .second, .val (.long v6), .second, .val (.long v7), .second, .val (.long v9), .second, .val (.long v11), .second, .val (.long v12), .second, .val (.long v13), .second, .val (.long v15), .second, .unset, .unset, .unset, .unset, .unset, .unset, .unset, .unset, .unset, .unset, .unset, .unset, .unset, .unset, .unset, .unset, .unset] [(.long q4), (.long v9), (.long v11)]))
  refine Go.callS X15 hx hZ (y := (⟨"java/lang/Math", "max", "(JJ)J"⟩ : MethodName)) hown (hw _ (List.mem_of_getElem? (i := 4) rfl)) (hw _ (List.mem_of_getElem? (i := 5) rfl)) (hw _ (List.mem_of_getElem? (i := 2) rfl)) (hw _ (List.mem_of_getElem? (i := 6) rfl)) (by decide) 2 (rm2 l Z a0 hw [] v9 q4 T15.heap n0 hz15) (some (.long (f2_0 v9 q4))) (fun h' => h' = T15.heap) (fun _ _ _ q => q) (by decide) (by decide) rfl N15 rfl (by rw [hml]; rfl) (argsL := [(.long v9), (.long q4)]) (rest := [(.long v11)]) rfl (lenOf pd0 rfl) rfl (by show 2 * 0 + _ ≤ _; exact Nat.le_of_eq rfl) (hb hby at_121) (by decide) (by decide) fun T16 lc16 X16 N16 eq16 => ?_
  have hz16 : n0 ≤ T16.heap.size := by rw [eq16]; exact hz15
  generalize hv16 : (f2_0 v9 q4) = v16
  show Go _ _ _ _ (T16.setTop (mkF m 124 #[.val (.long q0), .second, .val (.long q1), .second, .val (.long q2), .second, .val (.long q3), .second, .val (.long q4), .second, .val (.long v1), .second, .val (.long v2), .second, .val (.long v3), .second, .val (.long v5), .second, .val (.long v6), .second, .val (.long v7), .second, .val (.long v9), .second, .val (.long v11), .second, .val (.long v12), .second, .val (.long v13), .second, .val (.long v15), .second, .unset, .unset, .unset, .unset, .unset, .unset, .unset, .unset, .unset, .unset, .unset, .unset, .unset, .unset, .unset, .unset, .unset] [(.long v16), (.long v11)]))
  refine Go.callS X16 hx hZ (y := (⟨"java/lang/Math", "min", "(JJ)J"⟩ : MethodName)) hown (hw _ (List.mem_of_getElem? (i := 0) rfl)) (hw _ (List.mem_of_getElem? (i := 1) rfl)) (hw _ (List.mem_of_getElem? (i := 2) rfl)) (hw _ (List.mem_of_getElem? (i := 3) rfl)) (by decide) 0 (rm1 l Z a0 hw [] v11 v16 T16.heap n0 hz16) (some (.long (f1_0 v11 v16))) (fun h' => h' = T16.heap) (fun _ _ _ q => q) (by decide) (by decide) rfl N16 rfl (by rw [hml]; rfl) (argsL := [(.long v11), (.long v16)]) (rest := []) rfl (lenOf pd0 rfl) rfl (by show 2 * 0 + _ ≤ _; exact Nat.le_of_eq rfl) (hb hby at_124) (by decide) (by decide) fun T17 lc17 X17 N17 eq17 => ?_
  have hz17 : n0 ≤ T17.heap.size := by rw [eq17]; exact hz16
  generalize hv17 : (f1_0 v11 v16) = v17
  show Go _ _ _ _ (T17.setTop (mkF m 127 #[.val (.long q0), .second, .val (.long q1), .second, .val (.long q2), .second, .val (.long q3), .second, .val (.long q4), .second, .val (.long v1), .second, .val (.long v2), .second, .val (.long v3), .second, .val (.long v5), .second, .val (.long v6), .second, .val (.long v7), .second, .val (.long v9), .second, .val (.long v11), .second, .val (.long v12), .second, .val (.long v13), .second, .val (.long v15), .second, .unset, .unset, .unset, .unset, .unset, .unset, .unset, .unset, .unset, .unset, .unset, .unset, .unset, .unset, .unset, .unset, .unset] [(.long v17)]))
  refine Go.by (fun t9 k9 => XT.lstore X17.here hx rfl (hb hby at_127) rfl (l' := #[.val (.long q0), .second, .val (.long q1), .second, .val (.long q2), .second, .val (.long q3), .second, .val (.long q4), .second, .val (.long v1), .second, .val (.long v2), .second, .val (.long v3), .second, .val (.long v5), .second, .val (.long v6), .second, .val (.long v7), .second, .val (.long v9), .second, .val (.long v11), .second, .val (.long v12), .second, .val (.long v13), .second, .val (.long v15), .second, .val (.long v17), .second, .unset, .unset, .unset, .unset, .unset, .unset, .unset, .unset, .unset, .unset, .unset, .unset, .unset, .unset, .unset]) rfl k9) ?_
  show Go _ _ _ _ (T17.setTop (mkF m 129 #[.val (.long q0), .second, .val (.long q1), .second, .val (.long q2), .second, .val (.long q3), .second, .val (.long q4), .second, .val (.long v1), .second, .val (.long v2), .second, .val (.long v3), .second, .val (.long v5), .second, .val (.long v6), .second, .val (.long v7), .second, .val (.long v9), .second, .val (.long v11), .second, .val (.long v12), .second, .val (.long v13), .second, .val (.long v15), .second, .val (.long v17), .second, .unset, .unset, .unset, .unset, .unset, .unset, .unset, .unset, .unset, .unset, .unset, .unset, .unset, .unset, .unset] []))
  refine Go.by (fun t9 k9 => XT.lload X17.here hx rfl (hb hby at_129) rfl k9) ?_
  show Go _ _ _ _ (T17.setTop (mkF m 131 #[.val (.long q0), .second, .val (.long q1), .second, .val (.long q2), .second, .val (.long q3), .second, .val (.long q4), .second, .val (.long v1), .second, .val (.long v2), .second, .val (.long v3), .second, .val (.long v5), .second, .val (.long v6), .second, .val (.long v7), .second, .val (.long v9), .second, .val (.long v11), .second, .val (.long v12), .second, .val (.long v13), .second, .val (.long v15), .second, .val (.long v17), .second, .unset, .unset, .unset, .unset, .unset, .unset, .unset, .unset, .unset, .unset, .unset, .unset, .unset, .unset, .unset] [(.long v12)]))
  refine Go.by (fun t9 k9 => XT.lload X17.here hx rfl (hb hby at_131) rfl k9) ?_
  show Go _ _ _ _ (T17.setTop (mkF m 133 #[.val (.long q0), .second, .val (.long q1), .second, .val (.long q2), .second, .val (.long q3), .second, .val (.long q4), .second, .val (.long v1), .second, .val (.long v2), .second, .val (.long v3), .second, .val (.long v5), .second, .val (.long v6), .second, .val (.long v7), .second, .val (.long v9), .second, .val (.long v11), .second, .val (.long v12), .second, .val (.long v13), .second, .val (.long v15), .second, .val (.long v17), .second, .unset, .unset, .unset, .unset, .unset, .unset, .unset, .unset, .unset, .unset, .unset, .unset, .unset, .unset, .unset] [(.long v11), (.long v12)]))
  refine Go.by (fun t9 k9 => XT.lload X17.here hx rfl (hb hby at_133) rfl k9) ?_
  show Go _ _ _ _ (T17.setTop (mkF m 135 #[.val (.long q0), .second, .val (.long q1), .second, .val (.long q2), .second, .val (.long q3), .second, .val (.long q4), .second, .val (.long v1), .second, .val (.long v2), .second, .val (.long v3), .second, .val (.long v5), .second, .val (.long v6), .second, .val (.long v7), .second, .val (.long v9), .second, .val (.long v11), .second, .val (.long v12), .second, .val (.long v13), .second, .val (.long v15), .second, .val (.long v17), .second, .unset, .unset, .unset, .unset, .unset, .unset, .unset, .unset, .unset, .unset, .unset, .unset, .unset, .unset, .unset] [(.long q4), (.long v11), (.long v12)]))
  refine Go.callS X17 hx hZ (y := (⟨"java/lang/Math", "max", "(JJ)J"⟩ : MethodName)) hown (hw _ (List.mem_of_getElem? (i := 4) rfl)) (hw _ (List.mem_of_getElem? (i := 5) rfl)) (hw _ (List.mem_of_getElem? (i := 2) rfl)) (hw _ (List.mem_of_getElem? (i := 6) rfl)) (by decide) 2 (rm2 l Z a0 hw [] v11 q4 T17.heap n0 hz17) (some (.long (f2_0 v11 q4))) (fun h' => h' = T17.heap) (fun _ _ _ q => q) (by decide) (by decide) rfl N17 rfl (by rw [hml]; rfl) (argsL := [(.long v11), (.long q4)]) (rest := [(.long v12)]) rfl (lenOf pd0 rfl) rfl (by show 2 * 0 + _ ≤ _; exact Nat.le_of_eq rfl) (hb hby at_135) (by decide) (by decide) fun T18 lc18 X18 N18 eq18 => ?_
  have hz18 : n0 ≤ T18.heap.size := by rw [eq18]; exact hz17
  generalize hv18 : (f2_0 v11 q4) = v18
  show Go _ _ _ _ (T18.setTop (mkF m 138 #[.val (.long q0), .second, .val (.long q1), .second, .val (.long q2), .second, .val (.long q3), .second, .val (.long q4), .second, .val (.long v1), .second, .val (.long v2), .second, .val (.long v3), .second, .val (.long v5), .second, .val (.long v6), .second, .val (.long v7), .second, .val (.long v9), .second, .val (.long v11), .second, .val (.long v12), .second, .val (.long v13), .second, .val (.long v15), .second, .val (.long v17), .second, .unset, .unset, .unset, .unset, .unset, .unset, .unset, .unset, .unset, .unset, .unset, .unset, .unset, .unset, .unset] [(.long v18), (.long v12)]))
  refine Go.callS X18 hx hZ (y := (⟨"java/lang/Math", "min", "(JJ)J"⟩ : MethodName)) hown (hw _ (List.mem_of_getElem? (i := 0) rfl)) (hw _ (List.mem_of_getElem? (i := 1) rfl)) (hw _ (List.mem_of_getElem? (i := 2) rfl)) (hw _ (List.mem_of_getElem? (i := 3) rfl)) (by decide) 0 (rm1 l Z a0 hw [] v12 v18 T18.heap n0 hz18) (some (.long (f1_0 v12 v18))) (fun h' => h' = T18.heap) (fun _ _ _ q => q) (by decide) (by decide) rfl N18 rfl (by rw [hml]; rfl) (argsL := [(.long v12), (.long v18)]) (rest := []) rfl (lenOf pd0 rfl) rfl (by show 2 * 0 + _ ≤ _; exact Nat.le_of_eq rfl) (hb hby at_138) (by decide) (by decide) fun T19 lc19 X19 N19 eq19 => ?_
  have hz19 : n0 ≤ T19.heap.size := by rw [eq19]; exact hz18
  generalize hv19 : (f1_0 v12 v18) = v19
  show Go _ _ _ _ (T19.setTop (mkF m 141 #[.val (.long q0), .second, .val (.long q1), .second, .val (.long q2), .second, .val (.long q3), .second, .val (.long q4), .second, .val (.long v1), .second, .val (.long v2), .second, .val (.long v3), .second, .val (.long v5), .second, .val (.long v6), .second, .val (.long v7), .second, .val (.long v9), .second, .val (.long v11), .second, .val (.long v12), .second, .val (.long v13), .second, .val (.long v15), .second, .val (.long v17), .second, .unset, .unset, .unset, .unset, .unset, .unset, .unset, .unset, .unset, .unset, .unset, .unset, .unset, .unset, .unset] [(.long v19)]))
  refine Go.by (fun t9 k9 => XT.lstore X19.here hx rfl (hb hby at_141) rfl (l' := #[.val (.long q0), .second, .val (.long q1), .second, .val (.long q2), .second, .val (.long q3), .second, .val (.long q4), .second, .val (.long v1), .second, .val (.long v2), .second, .val (.long v3), .second, .val (.long v5), .second, .val (.long v6), .second, .val (.long v7), .second, .val (.long v9), .second, .val (.long v11), .second, .val (.long v12), .second, .val (.long v13), .second, .val (.long v15), .second, .val (.long v17), .second, .val (.long v19), .second, .unset, .unset, .unset, .unset, .unset, .unset, .unset, .unset, .unset, .unset, .unset, .unset, .unset]) rfl k9) ?_
  show Go _ _ _ _ (T19.setTop (mkF m 143 #[.val (.long q0), .second, .val (.long q1), .second, .val (.long q2), .second, .val (.long q3), .second, .val (.long q4), .second, .val (.long v1), .second, .val (.long v2), .second, .val (.long v3), .second, .val (.long v5), .second, .val (.long v6), .second, .val (.long v7), .second, .val (.long v9), .second, .val (.long v11), .second, .val (.long v12), .second, .val (.long v13), .second, .val (.long v15), .second, .val (.long v17), .second, .val (.long v19), .second, .unset, .unset, .unset, .unset, .unset, .unset, .unset, .unset, .unset, .unset, .unset, .unset, .unset] []))
  refine Go.by (fun t9 k9 => XT.lload X19.here hx rfl (hb hby at_143) rfl k9) ?_
  show Go _ _ _ _ (T19.setTop (mkF m 145 #[.val (.long q0), .second, .val (.long q1), .second, .val (.long q2), .second, .val (.long q3), .second, .val (.long q4), .second, .val (.long v1), .second, .val (.long v2), .second, .val (.long v3), .second, .val (.long v5), .second, .val (.long v6), .second, .val (.long v7), .second, .val (.long v9), .second, .val (.long v11), .second, .val (.long v12), .second, .val (.long v13), .second, .val (.long v15), .second, .val (.long v17), .second, .val (.long v19), .second, .unset, .unset, .unset, .unset, .unset, .unset, .unset, .unset, .unset, .unset, .unset, .unset, .unset] [(.long v12)]))
  refine Go.by (fun t9 k9 => XT.lload X19.here hx rfl (hb hby at_145) rfl k9) ?_
  show Go _ _ _ _ (T19.setTop (mkF m 147 #[.val (.long q0), .second, .val (.long q1), .second, .val (.long q2), .second, .val (.long q3), .second, .val (.long q4), .second, .val (.long v1), .second, .val (.long v2), .second, .val (.long v3), .second, .val (.long v5), .second, .val (.long v6), .second, .val (.long v7), .second, .val (.long v9), .second, .val (.long v11), .second, .val (.long v12), .second, .val (.long v13), .second, .val (.long v15), .second, .val (.long v17), .second, .val (.long v19), .second, .unset, .unset, .unset, .unset, .unset, .unset, .unset, .unset, .unset, .unset, .unset, .unset, .unset] [(.long q4), (.long v12)]))
  refine Go.callS X19 hx hZ (y := (⟨"java/lang/Math", "max", "(JJ)J"⟩ : MethodName)) hown (hw _ (List.mem_of_getElem? (i := 4) rfl)) (hw _ (List.mem_of_getElem? (i := 5) rfl)) (hw _ (List.mem_of_getElem? (i := 2) rfl)) (hw _ (List.mem_of_getElem? (i := 6) rfl)) (by decide) 0 (rm2 l Z a0 hw [] v12 q4 T19.heap n0 hz19) (some (.long (f2_0 v12 q4))) (fun h' => h' = T19.heap) (fun _ _ _ q => q) (by decide) (by decide) rfl N19 rfl (by rw [hml]; rfl) (argsL := [(.long v12), (.long q4)]) (rest := []) rfl (lenOf pd0 rfl) rfl (by show 2 * 0 + _ ≤ _; exact Nat.le_of_eq rfl) (hb hby at_147) (by decide) (by decide) fun T20 lc20 X20 N20 eq20 => ?_
  have hz20 : n0 ≤ T20.heap.size := by rw [eq20]; exact hz19
  generalize hv20 : (f2_0 v12 q4) = v20
  show Go _ _ _ _ (T20.setTop (mkF m 150 #[.val (.long q0), .second, .val (.long q1), .second, .val (.long q2), .second, .val (.long q3), .second, .val (.long q4), .second, .val (.long v1), .second, .val (.long v2), .second, .val (.long v3), .second, .val (.long v5), .second, .val (.long v6), .second, .val (.long v7), .second, .val (.long v9), .second, .val (.long v11), .second, .val (.long v12), .second, .val (.long v13), .second, .val (.long v15), .second, .val (.long v17), .second, .val (.long v19), .second, .unset, .unset, .unset, .unset, .unset, .unset, .unset, .unset, .unset, .unset, .unset, .unset, .unset] [(.long v20)]))
  refine Go.by (fun t9 k9 => XT.lstore X20.here hx rfl (hb hby at_150) rfl (l' := #[.val (.long q0), .second, .val (.long q1), .second, .val (.long q2), .second, .val (.long q3), .second, .val (.long q4), .second, .val (.long v1), .second, .val (.long v2), .second, .val (.long v3), .second, .val (.long v5), .second, .val (.long v6), .second, .val (.long v7), .second, .val (.long v9), .second, .val (.long v11), .second, .val (.long v12), .second, .val (.long v13), .second, .val (.long v15), .second, .val (.long v17), .second, .val (.long v19), .second, .val (.long v20), .second, .unset, .unset, .unset, .unset, .unset, .unset, .unset, .unset, .unset, .unset, .unset]) rfl k9) ?_
  show Go _ _ _ _ (T20.setTop (mkF m 152 #[.val (.long q0), .second, .val (.long q1), .second, .val (.long q2), .second, .val (.long q3), .second, .val (.long q4), .second, .val (.long v1), .second, .val (.long v2), .second, .val (.long v3), .second, .val (.long v5), .second, .val (.long v6), .second, .val (.long v7), .second, .val (.long v9), .second, .val (.long v11), .second, .val (.long v12), .second, .val (.long v13), .second, .val (.long v15), .second, .val (.long v17), .second, .val (.long v19), .second, .val (.long v20), .second, .unset, .unset, .unset, .unset, .unset, .unset, .unset, .unset, .unset, .unset, .unset] []))
  obtain ⟨T21, h21, X21, e21, E21, A21, D21, -, st21⟩ := newO X20 hx hZ hown (hw _ (List.mem_of_getElem? (i := 7) rfl)) (hw _ (List.mem_of_getElem? (i := 8) rfl)) (hw _ (List.mem_of_getElem? (i := 9) rfl)) rfl (g := (mkF m 152 #[.val (.long q0), .second, .val (.long q1), .second, .val (.long q2), .second, .val (.long q3), .second, .val (.long q4), .second, .val (.long v1), .second, .val (.long v2), .second, .val (.long v3), .second, .val (.long v5), .second, .val (.long v6), .second, .val (.long v7), .second, .val (.long v9), .second, .val (.long v11), .second, .val (.long v12), .second, .val (.long v13), .second, .val (.long v15), .second, .val (.long v17), .second, .val (.long v19), .second, .val (.long v20), .second, .unset, .unset, .unset, .unset, .unset, .unset, .unset, .unset, .unset, .unset, .unset] [])) rfl (hb hby at_152) (by decide) (by decide)
  obtain ⟨a, gsz⟩ : ∃ z, z = T20.heap.size := ⟨_, rfl⟩
  rw [← gsz] at A21 D21 st21
  have Fi : Fld Z h21 a "com/example/isolens/isolens/checker/LongHeap" "items" "[J" .null := D21 (Or.inl (hw _ (List.mem_of_getElem? (i := 18) rfl))) (ty := .array .long) (by decide)
  have Fs : Fld Z h21 a "com/example/isolens/isolens/checker/LongHeap" "size" "I" (.int (0 : Int32)) := D21 (Or.inl (hw _ (List.mem_of_getElem? (i := 25) rfl))) (ty := .int) (by decide)
  have ga : n0 ≤ a := by rw [gsz]; exact hz20
  have hz21 : n0 ≤ h21.size := Nat.le_trans hz20 E21.1
  refine Go.by st21 ?_
  show Go _ _ _ _ (T21.setTop (mkF m 155 #[.val (.long q0), .second, .val (.long q1), .second, .val (.long q2), .second, .val (.long q3), .second, .val (.long q4), .second, .val (.long v1), .second, .val (.long v2), .second, .val (.long v3), .second, .val (.long v5), .second, .val (.long v6), .second, .val (.long v7), .second, .val (.long v9), .second, .val (.long v11), .second, .val (.long v12), .second, .val (.long v13), .second, .val (.long v15), .second, .val (.long v17), .second, .val (.long v19), .second, .val (.long v20), .second, .unset, .unset, .unset, .unset, .unset, .unset, .unset, .unset, .unset, .unset, .unset] [(.ref a)]))
  refine Go.by (fun t9 k9 => XS.dup X21.here hx rfl (hb hby at_155) rfl rfl k9) ?_
  show Go _ _ _ _ (T21.setTop (mkF m 156 #[.val (.long q0), .second, .val (.long q1), .second, .val (.long q2), .second, .val (.long q3), .second, .val (.long q4), .second, .val (.long v1), .second, .val (.long v2), .second, .val (.long v3), .second, .val (.long v5), .second, .val (.long v6), .second, .val (.long v7), .second, .val (.long v9), .second, .val (.long v11), .second, .val (.long v12), .second, .val (.long v13), .second, .val (.long v15), .second, .val (.long v17), .second, .val (.long v19), .second, .val (.long v20), .second, .unset, .unset, .unset, .unset, .unset, .unset, .unset, .unset, .unset, .unset, .unset] [(.ref a), (.ref a)]))
  refine Go.callI X21 hx hZ (y := (⟨"com/example/isolens/isolens/checker/LongHeap", "<init>", "()V"⟩ : MethodName)) rfl hown (hw _ (List.mem_of_getElem? (i := 10) rfl)) (hw _ (List.mem_of_getElem? (i := 11) rfl)) (hw _ (List.mem_of_getElem? (i := 12) rfl)) (hw _ (List.mem_of_getElem? (i := 9) rfl)) (by decide) 1 (rm3 l Z a0 hw [] a h21 n0 hz21 A21 Fi Fs ga) none (fun h' => n0 ≤ h'.size ∧ ∃ b, n0 ≤ b ∧ LH Z h' a b 0 fun _ => 0) (fun _ _ _ q => q) (by decide) (by decide) e21 (b := a) N20 rfl (by rw [hml]; rfl) (argsL := []) (rest := [(.ref a)]) rfl (lenOf pd1 rfl) rfl (by show 2 * 0 + _ ≤ _; exact Nat.le_of_eq rfl) (hb hby at_156) (by decide) (by decide) ?_
  intro T22 lc22 X22 N22 ⟨hz22, b, gb, H22⟩
  show Go _ _ _ _ (T22.setTop (mkF m 159 #[.val (.long q0), .second, .val (.long q1), .second, .val (.long q2), .second, .val (.long q3), .second, .val (.long q4), .second, .val (.long v1), .second, .val (.long v2), .second, .val (.long v3), .second, .val (.long v5), .second, .val (.long v6), .second, .val (.long v7), .second, .val (.long v9), .second, .val (.long v11), .second, .val (.long v12), .second, .val (.long v13), .second, .val (.long v15), .second, .val (.long v17), .second, .val (.long v19), .second, .val (.long v20), .second, .unset, .unset, .unset, .unset, .unset, .unset, .unset, .unset, .unset, .unset, .unset] [(.ref a)]))
  refine Go.by (fun t9 k9 => XS.astore X22.here hx rfl (hb hby at_159) rfl rfl (l' := #[.val (.long q0), .second, .val (.long q1), .second, .val (.long q2), .second, .val (.long q3), .second, .val (.long q4), .second, .val (.long v1), .second, .val (.long v2), .second, .val (.long v3), .second, .val (.long v5), .second, .val (.long v6), .second, .val (.long v7), .second, .val (.long v9), .second, .val (.long v11), .second, .val (.long v12), .second, .val (.long v13), .second, .val (.long v15), .second, .val (.long v17), .second, .val (.long v19), .second, .val (.long v20), .second, .val (.ref a), .unset, .unset, .unset, .unset, .unset, .unset, .unset, .unset, .unset, .unset]) rfl k9) ?_
  show Go _ _ _ _ (T22.setTop (mkF m 161 #[.val (.long q0), .second, .val (.long q1), .second, .val (.long q2), .second, .val (.long q3), .second, .val (.long q4), .second, .val (.long v1), .second, .val (.long v2), .second, .val (.long v3), .second, .val (.long v5), .second, .val (.long v6), .second, .val (.long v7), .second, .val (.long v9), .second, .val (.long v11), .second, .val (.long v12), .second, .val (.long v13), .second, .val (.long v15), .second, .val (.long v17), .second, .val (.long v19), .second, .val (.long v20), .second, .val (.ref a), .unset, .unset, .unset, .unset, .unset, .unset, .unset, .unset, .unset, .unset] []))
  refine Go.by (fun t9 k9 => XS.aload X22.here hx rfl (hb hby at_161) rfl rfl k9) ?_
  show Go _ _ _ _ (T22.setTop (mkF m 163 #[.val (.long q0), .second, .val (.long q1), .second, .val (.long q2), .second, .val (.long q3), .second, .val (.long q4), .second, .val (.long v1), .second, .val (.long v2), .second, .val (.long v3), .second, .val (.long v5), .second, .val (.long v6), .second, .val (.long v7), .second, .val (.long v9), .second, .val (.long v11), .second, .val (.long v12), .second, .val (.long v13), .second, .val (.long v15), .second, .val (.long v17), .second, .val (.long v19), .second, .val (.long v20), .second, .val (.ref a), .unset, .unset, .unset, .unset, .unset, .unset, .unset, .unset, .unset, .unset] [(.ref a)]))
  refine Go.by (fun t9 k9 => XT.lloadN X22.here hx rfl (hb hby at_163) rfl k9) ?_
  show Go _ _ _ _ (T22.setTop (mkF m 164 #[.val (.long q0), .second, .val (.long q1), .second, .val (.long q2), .second, .val (.long q3), .second, .val (.long q4), .second, .val (.long v1), .second, .val (.long v2), .second, .val (.long v3), .second, .val (.long v5), .second, .val (.long v6), .second, .val (.long v7), .second, .val (.long v9), .second, .val (.long v11), .second, .val (.long v12), .second, .val (.long v13), .second, .val (.long v15), .second, .val (.long v17), .second, .val (.long v19), .second, .val (.long v20), .second, .val (.ref a), .unset, .unset, .unset, .unset, .unset, .unset, .unset, .unset, .unset, .unset] [(.long q0), (.ref a)]))
  have hk23 : ((0 : Int32) : Int32).toInt = (0 : Nat) := by decide
  refine Go.callV X22 hx hZ (y := (⟨"com/example/isolens/isolens/checker/LongHeap", "add", "(J)V"⟩ : MethodName)) hown (hw _ (List.mem_of_getElem? (i := 19) rfl)) (hw _ (List.mem_of_getElem? (i := 20) rfl)) (hw _ (List.mem_of_getElem? (i := 21) rfl)) (hw _ (List.mem_of_getElem? (i := 22) rfl)) (hw _ (List.mem_of_getElem? (i := 23) rfl)) (hw _ (List.mem_of_getElem? (i := 9) rfl)) (by decide) 0 (rm5 l Z a0 hw [] a q0 b (0 : Int32) 0 (fun _ => 0) T22.heap n0 hz22 H22 hk23 (by decide) ga gb) (none) (fun h' => n0 ≤ h'.size ∧ LH Z h' a b ((0 : Int32) + (1 : Int32)) (upF 0 (fun _ => 0) 0 q0)) (fun _ _ _ q => q) (by decide) (by decide) rfl H22.1 N22 rfl (by rw [hml]; rfl) (argsL := [(.long q0)]) (rest := []) rfl (lenOf pd2 rfl) rfl (by show 2 * 0 + _ ≤ _; exact Nat.le_of_eq rfl) (hb hby at_164) (by decide) (by decide) ?_
  intro T23 lc23 X23 N23 ⟨hz23, H23⟩
  rw [show ((0 : Int32) + (1 : Int32)) = (1 : Int32) from by decide] at H23
  replace H23 : LH Z T23.heap a b (1 : Int32) (upF 0 (fun _ => 0) 0 q0) := H23
  obtain ⟨g23, hg23⟩ : ∃ z, z = upF 0 (fun _ => 0) 0 q0 := ⟨_, rfl⟩
  rw [← hg23] at H23
  show Go _ _ _ _ (T23.setTop (mkF m 167 #[.val (.long q0), .second, .val (.long q1), .second, .val (.long q2), .second, .val (.long q3), .second, .val (.long q4), .second, .val (.long v1), .second, .val (.long v2), .second, .val (.long v3), .second, .val (.long v5), .second, .val (.long v6), .second, .val (.long v7), .second, .val (.long v9), .second, .val (.long v11), .second, .val (.long v12), .second, .val (.long v13), .second, .val (.long v15), .second, .val (.long v17), .second, .val (.long v19), .second, .val (.long v20), .second, .val (.ref a), .unset, .unset, .unset, .unset, .unset, .unset, .unset, .unset, .unset, .unset] []))
  refine Go.by (fun t9 k9 => XS.aload X23.here hx rfl (hb hby at_167) rfl rfl k9) ?_
  show Go _ _ _ _ (T23.setTop (mkF m 169 #[.val (.long q0), .second, .val (.long q1), .second, .val (.long q2), .second, .val (.long q3), .second, .val (.long q4), .second, .val (.long v1), .second, .val (.long v2), .second, .val (.long v3), .second, .val (.long v5), .second, .val (.long v6), .second, .val (.long v7), .second, .val (.long v9), .second, .val (.long v11), .second, .val (.long v12), .second, .val (.long v13), .second, .val (.long v15), .second, .val (.long v17), .second, .val (.long v19), .second, .val (.long v20), .second, .val (.ref a), .unset, .unset, .unset, .unset, .unset, .unset, .unset, .unset, .unset, .unset] [(.ref a)]))
  refine Go.by (fun t9 k9 => XT.lloadN X23.here hx rfl (hb hby at_169) rfl k9) ?_
  show Go _ _ _ _ (T23.setTop (mkF m 170 #[.val (.long q0), .second, .val (.long q1), .second, .val (.long q2), .second, .val (.long q3), .second, .val (.long q4), .second, .val (.long v1), .second, .val (.long v2), .second, .val (.long v3), .second, .val (.long v5), .second, .val (.long v6), .second, .val (.long v7), .second, .val (.long v9), .second, .val (.long v11), .second, .val (.long v12), .second, .val (.long v13), .second, .val (.long v15), .second, .val (.long v17), .second, .val (.long v19), .second, .val (.long v20), .second, .val (.ref a), .unset, .unset, .unset, .unset, .unset, .unset, .unset, .unset, .unset, .unset] [(.long q1), (.ref a)]))
  have hk24 : ((1 : Int32) : Int32).toInt = (1 : Nat) := by decide
  refine Go.callV X23 hx hZ (y := (⟨"com/example/isolens/isolens/checker/LongHeap", "add", "(J)V"⟩ : MethodName)) hown (hw _ (List.mem_of_getElem? (i := 19) rfl)) (hw _ (List.mem_of_getElem? (i := 20) rfl)) (hw _ (List.mem_of_getElem? (i := 21) rfl)) (hw _ (List.mem_of_getElem? (i := 22) rfl)) (hw _ (List.mem_of_getElem? (i := 23) rfl)) (hw _ (List.mem_of_getElem? (i := 9) rfl)) (by decide) 0 (rm5 l Z a0 hw [] a q1 b (1 : Int32) 1 g23 T23.heap n0 hz23 H23 hk24 (by decide) ga gb) (none) (fun h' => n0 ≤ h'.size ∧ LH Z h' a b ((1 : Int32) + (1 : Int32)) (upF 1 g23 1 q1)) (fun _ _ _ q => q) (by decide) (by decide) rfl H23.1 N23 rfl (by rw [hml]; rfl) (argsL := [(.long q1)]) (rest := []) rfl (lenOf pd2 rfl) rfl (by show 2 * 0 + _ ≤ _; exact Nat.le_of_eq rfl) (hb hby at_170) (by decide) (by decide) ?_
  intro T24 lc24 X24 N24 ⟨hz24, H24⟩
  rw [show ((1 : Int32) + (1 : Int32)) = (2 : Int32) from by decide] at H24
  replace H24 : LH Z T24.heap a b (2 : Int32) (upF 1 g23 1 q1) := H24
  obtain ⟨g24, hg24⟩ : ∃ z, z = upF 1 g23 1 q1 := ⟨_, rfl⟩
  rw [← hg24] at H24
  show Go _ _ _ _ (T24.setTop (mkF m 173 #[.val (.long q0), .second, .val (.long q1), .second, .val (.long q2), .second, .val (.long q3), .second, .val (.long q4), .second, .val (.long v1), .second, .val (.long v2), .second, .val (.long v3), .second, .val (.long v5), .second, .val (.long v6), .second, .val (.long v7), .second, .val (.long v9), .second, .val (.long v11), .second, .val (.long v12), .second, .val (.long v13), .second, .val (.long v15), .second, .val (.long v17), .second, .val (.long v19), .second, .val (.long v20), .second, .val (.ref a), .unset, .unset, .unset, .unset, .unset, .unset, .unset, .unset, .unset, .unset] []))
  refine Go.by (fun t9 k9 => XS.aload X24.here hx rfl (hb hby at_173) rfl rfl k9) ?_
  show Go _ _ _ _ (T24.setTop (mkF m 175 #[.val (.long q0), .second, .val (.long q1), .second, .val (.long q2), .second, .val (.long q3), .second, .val (.long q4), .second, .val (.long v1), .second, .val (.long v2), .second, .val (.long v3), .second, .val (.long v5), .second, .val (.long v6), .second, .val (.long v7), .second, .val (.long v9), .second, .val (.long v11), .second, .val (.long v12), .second, .val (.long v13), .second, .val (.long v15), .second, .val (.long v17), .second, .val (.long v19), .second, .val (.long v20), .second, .val (.ref a), .unset, .unset, .unset, .unset, .unset, .unset, .unset, .unset, .unset, .unset] [(.ref a)]))
  refine Go.by (fun t9 k9 => XT.lload X24.here hx rfl (hb hby at_175) rfl k9) ?_
  show Go _ _ _ _ (T24.setTop (mkF m 177 #[.val (.long q0), .second, .val (.long q1), .second, .val (.long q2), .second, .val (.long q3), .second, .val (.long q4), .second, .val (.long v1), .second, .val (.long v2), .second, .val (.long v3), .second, .val (.long v5), .second, .val (.long v6), .second, .val (.long v7), .second, .val (.long v9), .second, .val (.long v11), .second, .val (.long v12), .second, .val (.long v13), .second, .val (.long v15), .second, .val (.long v17), .second, .val (.long v19), .second, .val (.long v20), .second, .val (.ref a), .unset, .unset, .unset, .unset, .unset, .unset, .unset, .unset, .unset, .unset] [(.long q2), (.ref a)]))
  have hk25 : ((2 : Int32) : Int32).toInt = (2 : Nat) := by decide
  refine Go.callV X24 hx hZ (y := (⟨"com/example/isolens/isolens/checker/LongHeap", "add", "(J)V"⟩ : MethodName)) hown (hw _ (List.mem_of_getElem? (i := 19) rfl)) (hw _ (List.mem_of_getElem? (i := 20) rfl)) (hw _ (List.mem_of_getElem? (i := 21) rfl)) (hw _ (List.mem_of_getElem? (i := 22) rfl)) (hw _ (List.mem_of_getElem? (i := 23) rfl)) (hw _ (List.mem_of_getElem? (i := 9) rfl)) (by decide) 0 (rm5 l Z a0 hw [] a q2 b (2 : Int32) 2 g24 T24.heap n0 hz24 H24 hk25 (by decide) ga gb) (none) (fun h' => n0 ≤ h'.size ∧ LH Z h' a b ((2 : Int32) + (1 : Int32)) (upF 2 g24 2 q2)) (fun _ _ _ q => q) (by decide) (by decide) rfl H24.1 N24 rfl (by rw [hml]; rfl) (argsL := [(.long q2)]) (rest := []) rfl (lenOf pd2 rfl) rfl (by show 2 * 0 + _ ≤ _; exact Nat.le_of_eq rfl) (hb hby at_177) (by decide) (by decide) ?_
  intro T25 lc25 X25 N25 ⟨hz25, H25⟩
  rw [show ((2 : Int32) + (1 : Int32)) = (3 : Int32) from by decide] at H25
  replace H25 : LH Z T25.heap a b (3 : Int32) (upF 2 g24 2 q2) := H25
  obtain ⟨g25, hg25⟩ : ∃ z, z = upF 2 g24 2 q2 := ⟨_, rfl⟩
  rw [← hg25] at H25
  show Go _ _ _ _ (T25.setTop (mkF m 180 #[.val (.long q0), .second, .val (.long q1), .second, .val (.long q2), .second, .val (.long q3), .second, .val (.long q4), .second, .val (.long v1), .second, .val (.long v2), .second, .val (.long v3), .second, .val (.long v5), .second, .val (.long v6), .second, .val (.long v7), .second, .val (.long v9), .second, .val (.long v11), .second, .val (.long v12), .second, .val (.long v13), .second, .val (.long v15), .second, .val (.long v17), .second, .val (.long v19), .second, .val (.long v20), .second, .val (.ref a), .unset, .unset, .unset, .unset, .unset, .unset, .unset, .unset, .unset, .unset] []))
  refine Go.by (fun t9 k9 => XS.aload X25.here hx rfl (hb hby at_180) rfl rfl k9) ?_
  show Go _ _ _ _ (T25.setTop (mkF m 182 #[.val (.long q0), .second, .val (.long q1), .second, .val (.long q2), .second, .val (.long q3), .second, .val (.long q4), .second, .val (.long v1), .second, .val (.long v2), .second, .val (.long v3), .second, .val (.long v5), .second, .val (.long v6), .second, .val (.long v7), .second, .val (.long v9), .second, .val (.long v11), .second, .val (.long v12), .second, .val (.long v13), .second, .val (.long v15), .second, .val (.long v17), .second, .val (.long v19), .second, .val (.long v20), .second, .val (.ref a), .unset, .unset, .unset, .unset, .unset, .unset, .unset, .unset, .unset, .unset] [(.ref a)]))
  refine Go.by (fun t9 k9 => XT.lload X25.here hx rfl (hb hby at_182) rfl k9) ?_
  show Go _ _ _ _ (T25.setTop (mkF m 184 #[.val (.long q0), .second, .val (.long q1), .second, .val (.long q2), .second, .val (.long q3), .second, .val (.long q4), .second, .val (.long v1), .second, .val (.long v2), .second, .val (.long v3), .second, .val (.long v5), .second, .val (.long v6), .second, .val (.long v7), .second, .val (.long v9), .second, .val (.long v11), .second, .val (.long v12), .second, .val (.long v13), .second, .val (.long v15), .second, .val (.long v17), .second, .val (.long v19), .second, .val (.long v20), .second, .val (.ref a), .unset, .unset, .unset, .unset, .unset, .unset, .unset, .unset, .unset, .unset] [(.long q3), (.ref a)]))
  have hk26 : ((3 : Int32) : Int32).toInt = (3 : Nat) := by decide
  refine Go.callV X25 hx hZ (y := (⟨"com/example/isolens/isolens/checker/LongHeap", "add", "(J)V"⟩ : MethodName)) hown (hw _ (List.mem_of_getElem? (i := 19) rfl)) (hw _ (List.mem_of_getElem? (i := 20) rfl)) (hw _ (List.mem_of_getElem? (i := 21) rfl)) (hw _ (List.mem_of_getElem? (i := 22) rfl)) (hw _ (List.mem_of_getElem? (i := 23) rfl)) (hw _ (List.mem_of_getElem? (i := 9) rfl)) (by decide) 0 (rm5 l Z a0 hw [] a q3 b (3 : Int32) 3 g25 T25.heap n0 hz25 H25 hk26 (by decide) ga gb) (none) (fun h' => n0 ≤ h'.size ∧ LH Z h' a b ((3 : Int32) + (1 : Int32)) (upF 3 g25 3 q3)) (fun _ _ _ q => q) (by decide) (by decide) rfl H25.1 N25 rfl (by rw [hml]; rfl) (argsL := [(.long q3)]) (rest := []) rfl (lenOf pd2 rfl) rfl (by show 2 * 0 + _ ≤ _; exact Nat.le_of_eq rfl) (hb hby at_184) (by decide) (by decide) ?_
  intro T26 lc26 X26 N26 ⟨hz26, H26⟩
  rw [show ((3 : Int32) + (1 : Int32)) = (4 : Int32) from by decide] at H26
  replace H26 : LH Z T26.heap a b (4 : Int32) (upF 3 g25 3 q3) := H26
  obtain ⟨g26, hg26⟩ : ∃ z, z = upF 3 g25 3 q3 := ⟨_, rfl⟩
  rw [← hg26] at H26
  show Go _ _ _ _ (T26.setTop (mkF m 187 #[.val (.long q0), .second, .val (.long q1), .second, .val (.long q2), .second, .val (.long q3), .second, .val (.long q4), .second, .val (.long v1), .second, .val (.long v2), .second, .val (.long v3), .second, .val (.long v5), .second, .val (.long v6), .second, .val (.long v7), .second, .val (.long v9), .second, .val (.long v11), .second, .val (.long v12), .second, .val (.long v13), .second, .val (.long v15), .second, .val (.long v17), .second, .val (.long v19), .second, .val (.long v20), .second, .val (.ref a), .unset, .unset, .unset, .unset, .unset, .unset, .unset, .unset, .unset, .unset] []))
  refine Go.by (fun t9 k9 => XS.aload X26.here hx rfl (hb hby at_187) rfl rfl k9) ?_
  show Go _ _ _ _ (T26.setTop (mkF m 189 #[.val (.long q0), .second, .val (.long q1), .second, .val (.long q2), .second, .val (.long q3), .second, .val (.long q4), .second, .val (.long v1), .second, .val (.long v2), .second, .val (.long v3), .second, .val (.long v5), .second, .val (.long v6), .second, .val (.long v7), .second, .val (.long v9), .second, .val (.long v11), .second, .val (.long v12), .second, .val (.long v13), .second, .val (.long v15), .second, .val (.long v17), .second, .val (.long v19), .second, .val (.long v20), .second, .val (.ref a), .unset, .unset, .unset, .unset, .unset, .unset, .unset, .unset, .unset, .unset] [(.ref a)]))
  refine Go.by (fun t9 k9 => XT.lload X26.here hx rfl (hb hby at_189) rfl k9) ?_
  show Go _ _ _ _ (T26.setTop (mkF m 191 #[.val (.long q0), .second, .val (.long q1), .second, .val (.long q2), .second, .val (.long q3), .second, .val (.long q4), .second, .val (.long v1), .second, .val (.long v2), .second, .val (.long v3), .second, .val (.long v5), .second, .val (.long v6), .second, .val (.long v7), .second, .val (.long v9), .second, .val (.long v11), .second, .val (.long v12), .second, .val (.long v13), .second, .val (.long v15), .second, .val (.long v17), .second, .val (.long v19), .second, .val (.long v20), .second, .val (.ref a), .unset, .unset, .unset, .unset, .unset, .unset, .unset, .unset, .unset, .unset] [(.long q4), (.ref a)]))
  have hk27 : ((4 : Int32) : Int32).toInt = (4 : Nat) := by decide
  refine Go.callV X26 hx hZ (y := (⟨"com/example/isolens/isolens/checker/LongHeap", "add", "(J)V"⟩ : MethodName)) hown (hw _ (List.mem_of_getElem? (i := 19) rfl)) (hw _ (List.mem_of_getElem? (i := 20) rfl)) (hw _ (List.mem_of_getElem? (i := 21) rfl)) (hw _ (List.mem_of_getElem? (i := 22) rfl)) (hw _ (List.mem_of_getElem? (i := 23) rfl)) (hw _ (List.mem_of_getElem? (i := 9) rfl)) (by decide) 0 (rm5 l Z a0 hw [] a q4 b (4 : Int32) 4 g26 T26.heap n0 hz26 H26 hk27 (by decide) ga gb) (none) (fun h' => n0 ≤ h'.size ∧ LH Z h' a b ((4 : Int32) + (1 : Int32)) (upF 4 g26 4 q4)) (fun _ _ _ q => q) (by decide) (by decide) rfl H26.1 N26 rfl (by rw [hml]; rfl) (argsL := [(.long q4)]) (rest := []) rfl (lenOf pd2 rfl) rfl (by show 2 * 0 + _ ≤ _; exact Nat.le_of_eq rfl) (hb hby at_191) (by decide) (by decide) ?_
  intro T27 lc27 X27 N27 ⟨hz27, H27⟩
  rw [show ((4 : Int32) + (1 : Int32)) = (5 : Int32) from by decide] at H27
  replace H27 : LH Z T27.heap a b (5 : Int32) (upF 4 g26 4 q4) := H27
  obtain ⟨g27, hg27⟩ : ∃ z, z = upF 4 g26 4 q4 := ⟨_, rfl⟩
  rw [← hg27] at H27
  show Go _ _ _ _ (T27.setTop (mkF m 194 #[.val (.long q0), .second, .val (.long q1), .second, .val (.long q2), .second, .val (.long q3), .second, .val (.long q4), .second, .val (.long v1), .second, .val (.long v2), .second, .val (.long v3), .second, .val (.long v5), .second, .val (.long v6), .second, .val (.long v7), .second, .val (.long v9), .second, .val (.long v11), .second, .val (.long v12), .second, .val (.long v13), .second, .val (.long v15), .second, .val (.long v17), .second, .val (.long v19), .second, .val (.long v20), .second, .val (.ref a), .unset, .unset, .unset, .unset, .unset, .unset, .unset, .unset, .unset, .unset] []))
  refine Go.by (fun t9 k9 => XS.aload X27.here hx rfl (hb hby at_194) rfl rfl k9) ?_
  show Go _ _ _ _ (T27.setTop (mkF m 196 #[.val (.long q0), .second, .val (.long q1), .second, .val (.long q2), .second, .val (.long q3), .second, .val (.long q4), .second, .val (.long v1), .second, .val (.long v2), .second, .val (.long v3), .second, .val (.long v5), .second, .val (.long v6), .second, .val (.long v7), .second, .val (.long v9), .second, .val (.long v11), .second, .val (.long v12), .second, .val (.long v13), .second, .val (.long v15), .second, .val (.long v17), .second, .val (.long v19), .second, .val (.long v20), .second, .val (.ref a), .unset, .unset, .unset, .unset, .unset, .unset, .unset, .unset, .unset, .unset] [(.ref a)]))
  have hk28 : ((5 : Int32) : Int32).toInt = (5 : Nat) := by decide
  refine Go.callV X27 hx hZ (y := (⟨"com/example/isolens/isolens/checker/LongHeap", "removeSmallest", "()J"⟩ : MethodName)) hown (hw _ (List.mem_of_getElem? (i := 26) rfl)) (hw _ (List.mem_of_getElem? (i := 27) rfl)) (hw _ (List.mem_of_getElem? (i := 28) rfl)) (hw _ (List.mem_of_getElem? (i := 29) rfl)) (hw _ (List.mem_of_getElem? (i := 30) rfl)) (hw _ (List.mem_of_getElem? (i := 9) rfl)) (by decide) 0 (rm6 l Z a0 hw [] a b (5 : Int32) 5 g27 T27.heap n0 hz27 H27 hk28 (by decide) (by decide) ga gb) (some (.long (g27 0))) (fun h' => n0 ≤ h'.size ∧ LH Z h' a b ((5 : Int32) - (1 : Int32)) (dnF (5 - 1) g27 (5 - 1) 0 1 (g27 (5 - 1)))) (fun _ _ _ q => q) (by decide) (by decide) rfl H27.1 N27 rfl (by rw [hml]; rfl) (argsL := []) (rest := []) rfl (lenOf pd3 rfl) rfl (by show 2 * 0 + _ ≤ _; exact Nat.le_of_eq rfl) (hb hby at_196) (by decide) (by decide) ?_
  intro T28 lc28 X28 N28 ⟨hz28, H28⟩
  rw [show ((5 : Int32) - (1 : Int32)) = (4 : Int32) from by decide] at H28
  replace H28 : LH Z T28.heap a b (4 : Int32) (dnF 4 g27 4 0 1 (g27 4)) := H28
  obtain ⟨g28, hg28⟩ : ∃ z, z = dnF 4 g27 4 0 1 (g27 4) := ⟨_, rfl⟩
  rw [← hg28] at H28
  show Go _ _ _ _ (T28.setTop (mkF m 199 #[.val (.long q0), .second, .val (.long q1), .second, .val (.long q2), .second, .val (.long q3), .second, .val (.long q4), .second, .val (.long v1), .second, .val (.long v2), .second, .val (.long v3), .second, .val (.long v5), .second, .val (.long v6), .second, .val (.long v7), .second, .val (.long v9), .second, .val (.long v11), .second, .val (.long v12), .second, .val (.long v13), .second, .val (.long v15), .second, .val (.long v17), .second, .val (.long v19), .second, .val (.long v20), .second, .val (.ref a), .unset, .unset, .unset, .unset, .unset, .unset, .unset, .unset, .unset, .unset] [(.long (g27 0))]))
  refine Go.by (fun t9 k9 => XT.lstore X28.here hx rfl (hb hby at_199) rfl (l' := #[.val (.long q0), .second, .val (.long q1), .second, .val (.long q2), .second, .val (.long q3), .second, .val (.long q4), .second, .val (.long v1), .second, .val (.long v2), .second, .val (.long v3), .second, .val (.long v5), .second, .val (.long v6), .second, .val (.long v7), .second, .val (.long v9), .second, .val (.long v11), .second, .val (.long v12), .second, .val (.long v13), .second, .val (.long v15), .second, .val (.long v17), .second, .val (.long v19), .second, .val (.long v20), .second, .val (.ref a), .val (.long (g27 0)), .second, .unset, .unset, .unset, .unset, .unset, .unset, .unset, .unset]) rfl k9) ?_
  show Go _ _ _ _ (T28.setTop (mkF m 201 #[.val (.long q0), .second, .val (.long q1), .second, .val (.long q2), .second, .val (.long q3), .second, .val (.long q4), .second, .val (.long v1), .second, .val (.long v2), .second, .val (.long v3), .second, .val (.long v5), .second, .val (.long v6), .second, .val (.long v7), .second, .val (.long v9), .second, .val (.long v11), .second, .val (.long v12), .second, .val (.long v13), .second, .val (.long v15), .second, .val (.long v17), .second, .val (.long v19), .second, .val (.long v20), .second, .val (.ref a), .val (.long (g27 0)), .second, .unset, .unset, .unset, .unset, .unset, .unset, .unset, .unset] []))
  refine Go.by (fun t9 k9 => XS.aload X28.here hx rfl (hb hby at_201) rfl rfl k9) ?_
  show Go _ _ _ _ (T28.setTop (mkF m 203 #[.val (.long q0), .second, .val (.long q1), .second, .val (.long q2), .second, .val (.long q3), .second, .val (.long q4), .second, .val (.long v1), .second, .val (.long v2), .second, .val (.long v3), .second, .val (.long v5), .second, .val (.long v6), .second, .val (.long v7), .second, .val (.long v9), .second, .val (.long v11), .second, .val (.long v12), .second, .val (.long v13), .second, .val (.long v15), .second, .val (.long v17), .second, .val (.long v19), .second, .val (.long v20), .second, .val (.ref a), .val (.long (g27 0)), .second, .unset, .unset, .unset, .unset, .unset, .unset, .unset, .unset] [(.ref a)]))
  have hk29 : ((4 : Int32) : Int32).toInt = (4 : Nat) := by decide
  refine Go.callV X28 hx hZ (y := (⟨"com/example/isolens/isolens/checker/LongHeap", "removeSmallest", "()J"⟩ : MethodName)) hown (hw _ (List.mem_of_getElem? (i := 26) rfl)) (hw _ (List.mem_of_getElem? (i := 27) rfl)) (hw _ (List.mem_of_getElem? (i := 28) rfl)) (hw _ (List.mem_of_getElem? (i := 29) rfl)) (hw _ (List.mem_of_getElem? (i := 30) rfl)) (hw _ (List.mem_of_getElem? (i := 9) rfl)) (by decide) 0 (rm6 l Z a0 hw [] a b (4 : Int32) 4 g28 T28.heap n0 hz28 H28 hk29 (by decide) (by decide) ga gb) (some (.long (g28 0))) (fun h' => n0 ≤ h'.size ∧ LH Z h' a b ((4 : Int32) - (1 : Int32)) (dnF (4 - 1) g28 (4 - 1) 0 1 (g28 (4 - 1)))) (fun _ _ _ q => q) (by decide) (by decide) rfl H28.1 N28 rfl (by rw [hml]; rfl) (argsL := []) (rest := []) rfl (lenOf pd3 rfl) rfl (by show 2 * 0 + _ ≤ _; exact Nat.le_of_eq rfl) (hb hby at_203) (by decide) (by decide) ?_
  intro T29 lc29 X29 N29 ⟨hz29, H29⟩
  rw [show ((4 : Int32) - (1 : Int32)) = (3 : Int32) from by decide] at H29
  replace H29 : LH Z T29.heap a b (3 : Int32) (dnF 3 g28 3 0 1 (g28 3)) := H29
  obtain ⟨g29, hg29⟩ : ∃ z, z = dnF 3 g28 3 0 1 (g28 3) := ⟨_, rfl⟩
  rw [← hg29] at H29
  show Go _ _ _ _ (T29.setTop (mkF m 206 #[.val (.long q0), .second, .val (.long q1), .second, .val (.long q2), .second, .val (.long q3), .second, .val (.long q4), .second, .val (.long v1), .second, .val (.long v2), .second, .val (.long v3), .second, .val (.long v5), .second, .val (.long v6), .second, .val (.long v7), .second, .val (.long v9), .second, .val (.long v11), .second, .val (.long v12), .second, .val (.long v13), .second, .val (.long v15), .second, .val (.long v17), .second, .val (.long v19), .second, .val (.long v20), .second, .val (.ref a), .val (.long (g27 0)), .second, .unset, .unset, .unset, .unset, .unset, .unset, .unset, .unset] [(.long (g28 0))]))
  refine Go.by (fun t9 k9 => XT.lstore X29.here hx rfl (hb hby at_206) rfl (l' := #[.val (.long q0), .second, .val (.long q1), .second, .val (.long q2), .second, .val (.long q3), .second, .val (.long q4), .second, .val (.long v1), .second, .val (.long v2), .second, .val (.long v3), .second, .val (.long v5), .second, .val (.long v6), .second, .val (.long v7), .second, .val (.long v9), .second, .val (.long v11), .second, .val (.long v12), .second, .val (.long v13), .second, .val (.long v15), .second, .val (.long v17), .second, .val (.long v19), .second, .val (.long v20), .second, .val (.ref a), .val (.long (g27 0)), .second, .val (.long (g28 0)), .second, .unset, .unset, .unset, .unset, .unset, .unset]) rfl k9) ?_
  show Go _ _ _ _ (T29.setTop (mkF m 208 #[.val (.long q0), .second, .val (.long q1), .second, .val (.long q2), .second, .val (.long q3), .second, .val (.long q4), .second, .val (.long v1), .second, .val (.long v2), .second, .val (.long v3), .second, .val (.long v5), .second, .val (.long v6), .second, .val (.long v7), .second, .val (.long v9), .second, .val (.long v11), .second, .val (.long v12), .second, .val (.long v13), .second, .val (.long v15), .second, .val (.long v17), .second, .val (.long v19), .second, .val (.long v20), .second, .val (.ref a), .val (.long (g27 0)), .second, .val (.long (g28 0)), .second, .unset, .unset, .unset, .unset, .unset, .unset] []))
  refine Go.by (fun t9 k9 => XS.aload X29.here hx rfl (hb hby at_208) rfl rfl k9) ?_
  show Go _ _ _ _ (T29.setTop (mkF m 210 #[.val (.long q0), .second, .val (.long q1), .second, .val (.long q2), .second, .val (.long q3), .second, .val (.long q4), .second, .val (.long v1), .second, .val (.long v2), .second, .val (.long v3), .second, .val (.long v5), .second, .val (.long v6), .second, .val (.long v7), .second, .val (.long v9), .second, .val (.long v11), .second, .val (.long v12), .second, .val (.long v13), .second, .val (.long v15), .second, .val (.long v17), .second, .val (.long v19), .second, .val (.long v20), .second, .val (.ref a), .val (.long (g27 0)), .second, .val (.long (g28 0)), .second, .unset, .unset, .unset, .unset, .unset, .unset] [(.ref a)]))
  have hk30 : ((3 : Int32) : Int32).toInt = (3 : Nat) := by decide
  refine Go.callV X29 hx hZ (y := (⟨"com/example/isolens/isolens/checker/LongHeap", "removeSmallest", "()J"⟩ : MethodName)) hown (hw _ (List.mem_of_getElem? (i := 26) rfl)) (hw _ (List.mem_of_getElem? (i := 27) rfl)) (hw _ (List.mem_of_getElem? (i := 28) rfl)) (hw _ (List.mem_of_getElem? (i := 29) rfl)) (hw _ (List.mem_of_getElem? (i := 30) rfl)) (hw _ (List.mem_of_getElem? (i := 9) rfl)) (by decide) 0 (rm6 l Z a0 hw [] a b (3 : Int32) 3 g29 T29.heap n0 hz29 H29 hk30 (by decide) (by decide) ga gb) (some (.long (g29 0))) (fun h' => n0 ≤ h'.size ∧ LH Z h' a b ((3 : Int32) - (1 : Int32)) (dnF (3 - 1) g29 (3 - 1) 0 1 (g29 (3 - 1)))) (fun _ _ _ q => q) (by decide) (by decide) rfl H29.1 N29 rfl (by rw [hml]; rfl) (argsL := []) (rest := []) rfl (lenOf pd3 rfl) rfl (by show 2 * 0 + _ ≤ _; exact Nat.le_of_eq rfl) (hb hby at_210) (by decide) (by decide) ?_
  intro T30 lc30 X30 N30 ⟨hz30, H30⟩
  rw [show ((3 : Int32) - (1 : Int32)) = (2 : Int32) from by decide] at H30
  replace H30 : LH Z T30.heap a b (2 : Int32) (dnF 2 g29 2 0 1 (g29 2)) := H30
  obtain ⟨g30, hg30⟩ : ∃ z, z = dnF 2 g29 2 0 1 (g29 2) := ⟨_, rfl⟩
  rw [← hg30] at H30
  show Go _ _ _ _ (T30.setTop (mkF m 213 #[.val (.long q0), .second, .val (.long q1), .second, .val (.long q2), .second, .val (.long q3), .second, .val (.long q4), .second, .val (.long v1), .second, .val (.long v2), .second, .val (.long v3), .second, .val (.long v5), .second, .val (.long v6), .second, .val (.long v7), .second, .val (.long v9), .second, .val (.long v11), .second, .val (.long v12), .second, .val (.long v13), .second, .val (.long v15), .second, .val (.long v17), .second, .val (.long v19), .second, .val (.long v20), .second, .val (.ref a), .val (.long (g27 0)), .second, .val (.long (g28 0)), .second, .unset, .unset, .unset, .unset, .unset, .unset] [(.long (g29 0))]))
  refine Go.by (fun t9 k9 => XT.lstore X30.here hx rfl (hb hby at_213) rfl (l' := #[.val (.long q0), .second, .val (.long q1), .second, .val (.long q2), .second, .val (.long q3), .second, .val (.long q4), .second, .val (.long v1), .second, .val (.long v2), .second, .val (.long v3), .second, .val (.long v5), .second, .val (.long v6), .second, .val (.long v7), .second, .val (.long v9), .second, .val (.long v11), .second, .val (.long v12), .second, .val (.long v13), .second, .val (.long v15), .second, .val (.long v17), .second, .val (.long v19), .second, .val (.long v20), .second, .val (.ref a), .val (.long (g27 0)), .second, .val (.long (g28 0)), .second, .val (.long (g29 0)), .second, .unset, .unset, .unset, .unset]) rfl k9) ?_
  show Go _ _ _ _ (T30.setTop (mkF m 215 #[.val (.long q0), .second, .val (.long q1), .second, .val (.long q2), .second, .val (.long q3), .second, .val (.long q4), .second, .val (.long v1), .second, .val (.long v2), .second, .val (.long v3), .second, .val (.long v5), .second, .val (.long v6), .second, .val (.long v7), .second, .val (.long v9), .second, .val (.long v11), .second, .val (.long v12), .second, .val (.long v13), .second, .val (.long v15), .second, .val (.long v17), .second, .val (.long v19), .second, .val (.long v20), .second, .val (.ref a), .val (.long (g27 0)), .second, .val (.long (g28 0)), .second, .val (.long (g29 0)), .second, .unset, .unset, .unset, .unset] []))
  refine Go.by (fun t9 k9 => XS.aload X30.here hx rfl (hb hby at_215) rfl rfl k9) ?_
  show Go _ _ _ _ (T30.setTop (mkF m 217 #[.val (.long q0), .second, .val (.long q1), .second, .val (.long q2), .second, .val (.long q3), .second, .val (.long q4), .second, .val (.long v1), .second, .val (.long v2), .second, .val (.long v3), .second, .val (.long v5), .second, .val (.long v6), .second, .val (.long v7), .second, .val (.long v9), .second, .val (.long v11), .second, .val (.long v12), .second, .val (.long v13), .second, .val (.long v15), .second, .val (.long v17), .second, .val (.long v19), .second, .val (.long v20), .second, .val (.ref a), .val (.long (g27 0)), .second, .val (.long (g28 0)), .second, .val (.long (g29 0)), .second, .unset, .unset, .unset, .unset] [(.ref a)]))
  have hk31 : ((2 : Int32) : Int32).toInt = (2 : Nat) := by decide
  refine Go.callV X30 hx hZ (y := (⟨"com/example/isolens/isolens/checker/LongHeap", "removeSmallest", "()J"⟩ : MethodName)) hown (hw _ (List.mem_of_getElem? (i := 26) rfl)) (hw _ (List.mem_of_getElem? (i := 27) rfl)) (hw _ (List.mem_of_getElem? (i := 28) rfl)) (hw _ (List.mem_of_getElem? (i := 29) rfl)) (hw _ (List.mem_of_getElem? (i := 30) rfl)) (hw _ (List.mem_of_getElem? (i := 9) rfl)) (by decide) 0 (rm6 l Z a0 hw [] a b (2 : Int32) 2 g30 T30.heap n0 hz30 H30 hk31 (by decide) (by decide) ga gb) (some (.long (g30 0))) (fun h' => n0 ≤ h'.size ∧ LH Z h' a b ((2 : Int32) - (1 : Int32)) (dnF (2 - 1) g30 (2 - 1) 0 1 (g30 (2 - 1)))) (fun _ _ _ q => q) (by decide) (by decide) rfl H30.1 N30 rfl (by rw [hml]; rfl) (argsL := []) (rest := []) rfl (lenOf pd3 rfl) rfl (by show 2 * 0 + _ ≤ _; exact Nat.le_of_eq rfl) (hb hby at_217) (by decide) (by decide) ?_
  intro T31 lc31 X31 N31 ⟨hz31, H31⟩
  rw [show ((2 : Int32) - (1 : Int32)) = (1 : Int32) from by decide] at H31
  replace H31 : LH Z T31.heap a b (1 : Int32) (dnF 1 g30 1 0 1 (g30 1)) := H31
  obtain ⟨g31, hg31⟩ : ∃ z, z = dnF 1 g30 1 0 1 (g30 1) := ⟨_, rfl⟩
  rw [← hg31] at H31
  show Go _ _ _ _ (T31.setTop (mkF m 220 #[.val (.long q0), .second, .val (.long q1), .second, .val (.long q2), .second, .val (.long q3), .second, .val (.long q4), .second, .val (.long v1), .second, .val (.long v2), .second, .val (.long v3), .second, .val (.long v5), .second, .val (.long v6), .second, .val (.long v7), .second, .val (.long v9), .second, .val (.long v11), .second, .val (.long v12), .second, .val (.long v13), .second, .val (.long v15), .second, .val (.long v17), .second, .val (.long v19), .second, .val (.long v20), .second, .val (.ref a), .val (.long (g27 0)), .second, .val (.long (g28 0)), .second, .val (.long (g29 0)), .second, .unset, .unset, .unset, .unset] [(.long (g30 0))]))
  refine Go.by (fun t9 k9 => XT.lstore X31.here hx rfl (hb hby at_220) rfl (l' := #[.val (.long q0), .second, .val (.long q1), .second, .val (.long q2), .second, .val (.long q3), .second, .val (.long q4), .second, .val (.long v1), .second, .val (.long v2), .second, .val (.long v3), .second, .val (.long v5), .second, .val (.long v6), .second, .val (.long v7), .second, .val (.long v9), .second, .val (.long v11), .second, .val (.long v12), .second, .val (.long v13), .second, .val (.long v15), .second, .val (.long v17), .second, .val (.long v19), .second, .val (.long v20), .second, .val (.ref a), .val (.long (g27 0)), .second, .val (.long (g28 0)), .second, .val (.long (g29 0)), .second, .val (.long (g30 0)), .second, .unset, .unset]) rfl k9) ?_
  show Go _ _ _ _ (T31.setTop (mkF m 222 #[.val (.long q0), .second, .val (.long q1), .second, .val (.long q2), .second, .val (.long q3), .second, .val (.long q4), .second, .val (.long v1), .second, .val (.long v2), .second, .val (.long v3), .second, .val (.long v5), .second, .val (.long v6), .second, .val (.long v7), .second, .val (.long v9), .second, .val (.long v11), .second, .val (.long v12), .second, .val (.long v13), .second, .val (.long v15), .second, .val (.long v17), .second, .val (.long v19), .second, .val (.long v20), .second, .val (.ref a), .val (.long (g27 0)), .second, .val (.long (g28 0)), .second, .val (.long (g29 0)), .second, .val (.long (g30 0)), .second, .unset, .unset] []))
  refine Go.by (fun t9 k9 => XS.aload X31.here hx rfl (hb hby at_222) rfl rfl k9) ?_
  show Go _ _ _ _ (T31.setTop (mkF m 224 #[.val (.long q0), .second, .val (.long q1), .second, .val (.long q2), .second, .val (.long q3), .second, .val (.long q4), .second, .val (.long v1), .second, .val (.long v2), .second, .val (.long v3), .second, .val (.long v5), .second, .val (.long v6), .second, .val (.long v7), .second, .val (.long v9), .second, .val (.long v11), .second, .val (.long v12), .second, .val (.long v13), .second, .val (.long v15), .second, .val (.long v17), .second, .val (.long v19), .second, .val (.long v20), .second, .val (.ref a), .val (.long (g27 0)), .second, .val (.long (g28 0)), .second, .val (.long (g29 0)), .second, .val (.long (g30 0)), .second, .unset, .unset] [(.ref a)]))
  have hk32 : ((1 : Int32) : Int32).toInt = (1 : Nat) := by decide
  refine Go.callV X31 hx hZ (y := (⟨"com/example/isolens/isolens/checker/LongHeap", "removeSmallest", "()J"⟩ : MethodName)) hown (hw _ (List.mem_of_getElem? (i := 26) rfl)) (hw _ (List.mem_of_getElem? (i := 27) rfl)) (hw _ (List.mem_of_getElem? (i := 28) rfl)) (hw _ (List.mem_of_getElem? (i := 29) rfl)) (hw _ (List.mem_of_getElem? (i := 30) rfl)) (hw _ (List.mem_of_getElem? (i := 9) rfl)) (by decide) 0 (rm6 l Z a0 hw [] a b (1 : Int32) 1 g31 T31.heap n0 hz31 H31 hk32 (by decide) (by decide) ga gb) (some (.long (g31 0))) (fun h' => n0 ≤ h'.size ∧ LH Z h' a b ((1 : Int32) - (1 : Int32)) (dnF (1 - 1) g31 (1 - 1) 0 1 (g31 (1 - 1)))) (fun _ _ _ q => q) (by decide) (by decide) rfl H31.1 N31 rfl (by rw [hml]; rfl) (argsL := []) (rest := []) rfl (lenOf pd3 rfl) rfl (by show 2 * 0 + _ ≤ _; exact Nat.le_of_eq rfl) (hb hby at_224) (by decide) (by decide) ?_
  intro T32 lc32 X32 N32 ⟨hz32, H32⟩
  rw [show ((1 : Int32) - (1 : Int32)) = (0 : Int32) from by decide] at H32
  replace H32 : LH Z T32.heap a b (0 : Int32) (dnF 0 g31 0 0 1 (g31 0)) := H32
  obtain ⟨g32, hg32⟩ : ∃ z, z = dnF 0 g31 0 0 1 (g31 0) := ⟨_, rfl⟩
  rw [← hg32] at H32
  show Go _ _ _ _ (T32.setTop (mkF m 227 #[.val (.long q0), .second, .val (.long q1), .second, .val (.long q2), .second, .val (.long q3), .second, .val (.long q4), .second, .val (.long v1), .second, .val (.long v2), .second, .val (.long v3), .second, .val (.long v5), .second, .val (.long v6), .second, .val (.long v7), .second, .val (.long v9), .second, .val (.long v11), .second, .val (.long v12), .second, .val (.long v13), .second, .val (.long v15), .second, .val (.long v17), .second, .val (.long v19), .second, .val (.long v20), .second, .val (.ref a), .val (.long (g27 0)), .second, .val (.long (g28 0)), .second, .val (.long (g29 0)), .second, .val (.long (g30 0)), .second, .unset, .unset] [(.long (g31 0))]))
  refine Go.by (fun t9 k9 => XT.lstore X32.here hx rfl (hb hby at_227) rfl (l' := #[.val (.long q0), .second, .val (.long q1), .second, .val (.long q2), .second, .val (.long q3), .second, .val (.long q4), .second, .val (.long v1), .second, .val (.long v2), .second, .val (.long v3), .second, .val (.long v5), .second, .val (.long v6), .second, .val (.long v7), .second, .val (.long v9), .second, .val (.long v11), .second, .val (.long v12), .second, .val (.long v13), .second, .val (.long v15), .second, .val (.long v17), .second, .val (.long v19), .second, .val (.long v20), .second, .val (.ref a), .val (.long (g27 0)), .second, .val (.long (g28 0)), .second, .val (.long (g29 0)), .second, .val (.long (g30 0)), .second, .val (.long (g31 0)), .second]) rfl k9) ?_
  obtain ⟨S1, S2⟩ := net q0 q1 q2 q3 q4 v1 v2 v3 v5 v6 v7 v9 v11 v12 v13 v15 v17 v19 v20 hv1.symm hv2.symm hv3.symm (hv5.symm.trans (congrArg (mn _) hv4.symm)) hv6.symm hv7.symm (hv9.symm.trans (congrArg (mn _) hv8.symm)) (hv11.symm.trans (congrArg (mn _) hv10.symm)) hv12.symm hv13.symm (hv15.symm.trans (congrArg (mn _) hv14.symm)) (hv17.symm.trans (congrArg (mn _) hv16.symm)) (hv19.symm.trans (congrArg (mn _) hv18.symm)) hv20.symm
  obtain ⟨K1, K2⟩ := heapLaw _ g23 g24 g25 g26 g27 g28 g29 g30 g31 q0 q1 q2 q3 q4 hg23 hg24 hg25 hg26 hg27 hg28 hg29 hg30 hg31
  obtain ⟨q5, q6, q7, q8, q9⟩ := heapLaw' K1 K2 S1 S2
  show Go _ _ _ _ (T32.setTop (mkF m 229 #[.val (.long q0), .second, .val (.long q1), .second, .val (.long q2), .second, .val (.long q3), .second, .val (.long q4), .second, .val (.long v1), .second, .val (.long v2), .second, .val (.long v3), .second, .val (.long v5), .second, .val (.long v6), .second, .val (.long v7), .second, .val (.long v9), .second, .val (.long v11), .second, .val (.long v12), .second, .val (.long v13), .second, .val (.long v15), .second, .val (.long v17), .second, .val (.long v19), .second, .val (.long v20), .second, .val (.ref a), .val (.long (g27 0)), .second, .val (.long (g28 0)), .second, .val (.long (g29 0)), .second, .val (.long (g30 0)), .second, .val (.long (g31 0)), .second] []))
  refine Go.by (fun t9 k9 => XT.lload X32.here hx rfl (hb hby at_229) rfl k9) ?_
  show Go _ _ _ _ (T32.setTop (mkF m 231 #[.val (.long q0), .second, .val (.long q1), .second, .val (.long q2), .second, .val (.long q3), .second, .val (.long q4), .second, .val (.long v1), .second, .val (.long v2), .second, .val (.long v3), .second, .val (.long v5), .second, .val (.long v6), .second, .val (.long v7), .second, .val (.long v9), .second, .val (.long v11), .second, .val (.long v12), .second, .val (.long v13), .second, .val (.long v15), .second, .val (.long v17), .second, .val (.long v19), .second, .val (.long v20), .second, .val (.ref a), .val (.long (g27 0)), .second, .val (.long (g28 0)), .second, .val (.long (g29 0)), .second, .val (.long (g30 0)), .second, .val (.long (g31 0)), .second] [(.long (g27 0))]))
  refine Go.by (fun t9 k9 => XT.lload X32.here hx rfl (hb hby at_231) rfl k9) ?_
  show Go _ _ _ _ (T32.setTop (mkF m 233 #[.val (.long q0), .second, .val (.long q1), .second, .val (.long q2), .second, .val (.long q3), .second, .val (.long q4), .second, .val (.long v1), .second, .val (.long v2), .second, .val (.long v3), .second, .val (.long v5), .second, .val (.long v6), .second, .val (.long v7), .second, .val (.long v9), .second, .val (.long v11), .second, .val (.long v12), .second, .val (.long v13), .second, .val (.long v15), .second, .val (.long v17), .second, .val (.long v19), .second, .val (.long v20), .second, .val (.ref a), .val (.long (g27 0)), .second, .val (.long (g28 0)), .second, .val (.long (g29 0)), .second, .val (.long (g30 0)), .second, .val (.long (g31 0)), .second] [(.long v13), (.long (g27 0))]))
  refine Go.by (fun t9 k9 => XT.lcmp X32.here hx rfl (hb hby at_233) rfl k9) ?_
  show Go _ _ _ _ (T32.setTop (mkF m 234 #[.val (.long q0), .second, .val (.long q1), .second, .val (.long q2), .second, .val (.long q3), .second, .val (.long q4), .second, .val (.long v1), .second, .val (.long v2), .second, .val (.long v3), .second, .val (.long v5), .second, .val (.long v6), .second, .val (.long v7), .second, .val (.long v9), .second, .val (.long v11), .second, .val (.long v12), .second, .val (.long v13), .second, .val (.long v15), .second, .val (.long v17), .second, .val (.long v19), .second, .val (.long v20), .second, .val (.ref a), .val (.long (g27 0)), .second, .val (.long (g28 0)), .second, .val (.long (g29 0)), .second, .val (.long (g30 0)), .second, .val (.long (g31 0)), .second] [(.int (XT.cmpL (g27 0) v13))]))
  refine Go.by (fun t9 k9 => XS.ifNo X32.here hx rfl (hb hby at_234) rfl (XT.ll_ne_f q5) k9) ?_
  show Go _ _ _ _ (T32.setTop (mkF m 237 #[.val (.long q0), .second, .val (.long q1), .second, .val (.long q2), .second, .val (.long q3), .second, .val (.long q4), .second, .val (.long v1), .second, .val (.long v2), .second, .val (.long v3), .second, .val (.long v5), .second, .val (.long v6), .second, .val (.long v7), .second, .val (.long v9), .second, .val (.long v11), .second, .val (.long v12), .second, .val (.long v13), .second, .val (.long v15), .second, .val (.long v17), .second, .val (.long v19), .second, .val (.long v20), .second, .val (.ref a), .val (.long (g27 0)), .second, .val (.long (g28 0)), .second, .val (.long (g29 0)), .second, .val (.long (g30 0)), .second, .val (.long (g31 0)), .second] []))
  refine Go.by (fun t9 k9 => XT.lload X32.here hx rfl (hb hby at_237) rfl k9) ?_
  show Go _ _ _ _ (T32.setTop (mkF m 239 #[.val (.long q0), .second, .val (.long q1), .second, .val (.long q2), .second, .val (.long q3), .second, .val (.long q4), .second, .val (.long v1), .second, .val (.long v2), .second, .val (.long v3), .second, .val (.long v5), .second, .val (.long v6), .second, .val (.long v7), .second, .val (.long v9), .second, .val (.long v11), .second, .val (.long v12), .second, .val (.long v13), .second, .val (.long v15), .second, .val (.long v17), .second, .val (.long v19), .second, .val (.long v20), .second, .val (.ref a), .val (.long (g27 0)), .second, .val (.long (g28 0)), .second, .val (.long (g29 0)), .second, .val (.long (g30 0)), .second, .val (.long (g31 0)), .second] [(.long (g28 0))]))
  refine Go.by (fun t9 k9 => XT.lload X32.here hx rfl (hb hby at_239) rfl k9) ?_
  show Go _ _ _ _ (T32.setTop (mkF m 241 #[.val (.long q0), .second, .val (.long q1), .second, .val (.long q2), .second, .val (.long q3), .second, .val (.long q4), .second, .val (.long v1), .second, .val (.long v2), .second, .val (.long v3), .second, .val (.long v5), .second, .val (.long v6), .second, .val (.long v7), .second, .val (.long v9), .second, .val (.long v11), .second, .val (.long v12), .second, .val (.long v13), .second, .val (.long v15), .second, .val (.long v17), .second, .val (.long v19), .second, .val (.long v20), .second, .val (.ref a), .val (.long (g27 0)), .second, .val (.long (g28 0)), .second, .val (.long (g29 0)), .second, .val (.long (g30 0)), .second, .val (.long (g31 0)), .second] [(.long v15), (.long (g28 0))]))
  refine Go.by (fun t9 k9 => XT.lcmp X32.here hx rfl (hb hby at_241) rfl k9) ?_
  show Go _ _ _ _ (T32.setTop (mkF m 242 #[.val (.long q0), .second, .val (.long q1), .second, .val (.long q2), .second, .val (.long q3), .second, .val (.long q4), .second, .val (.long v1), .second, .val (.long v2), .second, .val (.long v3), .second, .val (.long v5), .second, .val (.long v6), .second, .val (.long v7), .second, .val (.long v9), .second, .val (.long v11), .second, .val (.long v12), .second, .val (.long v13), .second, .val (.long v15), .second, .val (.long v17), .second, .val (.long v19), .second, .val (.long v20), .second, .val (.ref a), .val (.long (g27 0)), .second, .val (.long (g28 0)), .second, .val (.long (g29 0)), .second, .val (.long (g30 0)), .second, .val (.long (g31 0)), .second] [(.int (XT.cmpL (g28 0) v15))]))
  refine Go.by (fun t9 k9 => XS.ifNo X32.here hx rfl (hb hby at_242) rfl (XT.ll_ne_f q6) k9) ?_
  show Go _ _ _ _ (T32.setTop (mkF m 245 #[.val (.long q0), .second, .val (.long q1), .second, .val (.long q2), .second, .val (.long q3), .second, .val (.long q4), .second, .val (.long v1), .second, .val (.long v2), .second, .val (.long v3), .second, .val (.long v5), .second, .val (.long v6), .second, .val (.long v7), .second, .val (.long v9), .second, .val (.long v11), .second, .val (.long v12), .second, .val (.long v13), .second, .val (.long v15), .second, .val (.long v17), .second, .val (.long v19), .second, .val (.long v20), .second, .val (.ref a), .val (.long (g27 0)), .second, .val (.long (g28 0)), .second, .val (.long (g29 0)), .second, .val (.long (g30 0)), .second, .val (.long (g31 0)), .second] []))
  refine Go.by (fun t9 k9 => XT.lload X32.here hx rfl (hb hby at_245) rfl k9) ?_
  show Go _ _ _ _ (T32.setTop (mkF m 247 #[.val (.long q0), .second, .val (.long q1), .second, .val (.long q2), .second, .val (.long q3), .second, .val (.long q4), .second, .val (.long v1), .second, .val (.long v2), .second, .val (.long v3), .second, .val (.long v5), .second, .val (.long v6), .second, .val (.long v7), .second, .val (.long v9), .second, .val (.long v11), .second, .val (.long v12), .second, .val (.long v13), .second, .val (.long v15), .second, .val (.long v17), .second, .val (.long v19), .second, .val (.long v20), .second, .val (.ref a), .val (.long (g27 0)), .second, .val (.long (g28 0)), .second, .val (.long (g29 0)), .second, .val (.long (g30 0)), .second, .val (.long (g31 0)), .second] [(.long (g29 0))]))
  refine Go.by (fun t9 k9 => XT.lload X32.here hx rfl (hb hby at_247) rfl k9) ?_
  show Go _ _ _ _ (T32.setTop (mkF m 249 #[.val (.long q0), .second, .val (.long q1), .second, .val (.long q2), .second, .val (.long q3), .second, .val (.long q4), .second, .val (.long v1), .second, .val (.long v2), .second, .val (.long v3), .second, .val (.long v5), .second, .val (.long v6), .second, .val (.long v7), .second, .val (.long v9), .second, .val (.long v11), .second, .val (.long v12), .second, .val (.long v13), .second, .val (.long v15), .second, .val (.long v17), .second, .val (.long v19), .second, .val (.long v20), .second, .val (.ref a), .val (.long (g27 0)), .second, .val (.long (g28 0)), .second, .val (.long (g29 0)), .second, .val (.long (g30 0)), .second, .val (.long (g31 0)), .second] [(.long v17), (.long (g29 0))]))
  refine Go.by (fun t9 k9 => XT.lcmp X32.here hx rfl (hb hby at_249) rfl k9) ?_
  show Go _ _ _ _ (T32.setTop (mkF m 250 #[.val (.long q0), .second, .val (.long q1), .second, .val (.long q2), .second, .val (.long q3), .second, .val (.long q4), .second, .val (.long v1), .second, .val (.long v2), .second, .val (.long v3), .second, .val (.long v5), .second, .val (.long v6), .second, .val (.long v7), .second, .val (.long v9), .second, .val (.long v11), .second, .val (.long v12), .second, .val (.long v13), .second, .val (.long v15), .second, .val (.long v17), .second, .val (.long v19), .second, .val (.long v20), .second, .val (.ref a), .val (.long (g27 0)), .second, .val (.long (g28 0)), .second, .val (.long (g29 0)), .second, .val (.long (g30 0)), .second, .val (.long (g31 0)), .second] [(.int (XT.cmpL (g29 0) v17))]))
  refine Go.by (fun t9 k9 => XS.ifNo X32.here hx rfl (hb hby at_250) rfl (XT.ll_ne_f q7) k9) ?_
  show Go _ _ _ _ (T32.setTop (mkF m 253 #[.val (.long q0), .second, .val (.long q1), .second, .val (.long q2), .second, .val (.long q3), .second, .val (.long q4), .second, .val (.long v1), .second, .val (.long v2), .second, .val (.long v3), .second, .val (.long v5), .second, .val (.long v6), .second, .val (.long v7), .second, .val (.long v9), .second, .val (.long v11), .second, .val (.long v12), .second, .val (.long v13), .second, .val (.long v15), .second, .val (.long v17), .second, .val (.long v19), .second, .val (.long v20), .second, .val (.ref a), .val (.long (g27 0)), .second, .val (.long (g28 0)), .second, .val (.long (g29 0)), .second, .val (.long (g30 0)), .second, .val (.long (g31 0)), .second] []))
  refine Go.by (fun t9 k9 => XT.lload X32.here hx rfl (hb hby at_253) rfl k9) ?_
  show Go _ _ _ _ (T32.setTop (mkF m 255 #[.val (.long q0), .second, .val (.long q1), .second, .val (.long q2), .second, .val (.long q3), .second, .val (.long q4), .second, .val (.long v1), .second, .val (.long v2), .second, .val (.long v3), .second, .val (.long v5), .second, .val (.long v6), .second, .val (.long v7), .second, .val (.long v9), .second, .val (.long v11), .second, .val (.long v12), .second, .val (.long v13), .second, .val (.long v15), .second, .val (.long v17), .second, .val (.long v19), .second, .val (.long v20), .second, .val (.ref a), .val (.long (g27 0)), .second, .val (.long (g28 0)), .second, .val (.long (g29 0)), .second, .val (.long (g30 0)), .second, .val (.long (g31 0)), .second] [(.long (g30 0))]))
  refine Go.by (fun t9 k9 => XT.lload X32.here hx rfl (hb hby at_255) rfl k9) ?_
  show Go _ _ _ _ (T32.setTop (mkF m 257 #[.val (.long q0), .second, .val (.long q1), .second, .val (.long q2), .second, .val (.long q3), .second, .val (.long q4), .second, .val (.long v1), .second, .val (.long v2), .second, .val (.long v3), .second, .val (.long v5), .second, .val (.long v6), .second, .val (.long v7), .second, .val (.long v9), .second, .val (.long v11), .second, .val (.long v12), .second, .val (.long v13), .second, .val (.long v15), .second, .val (.long v17), .second, .val (.long v19), .second, .val (.long v20), .second, .val (.ref a), .val (.long (g27 0)), .second, .val (.long (g28 0)), .second, .val (.long (g29 0)), .second, .val (.long (g30 0)), .second, .val (.long (g31 0)), .second] [(.long v19), (.long (g30 0))]))
  refine Go.by (fun t9 k9 => XT.lcmp X32.here hx rfl (hb hby at_257) rfl k9) ?_
  show Go _ _ _ _ (T32.setTop (mkF m 258 #[.val (.long q0), .second, .val (.long q1), .second, .val (.long q2), .second, .val (.long q3), .second, .val (.long q4), .second, .val (.long v1), .second, .val (.long v2), .second, .val (.long v3), .second, .val (.long v5), .second, .val (.long v6), .second, .val (.long v7), .second, .val (.long v9), .second, .val (.long v11), .second, .val (.long v12), .second, .val (.long v13), .second, .val (.long v15), .second, .val (.long v17), .second, .val (.long v19), .second, .val (.long v20), .second, .val (.ref a), .val (.long (g27 0)), .second, .val (.long (g28 0)), .second, .val (.long (g29 0)), .second, .val (.long (g30 0)), .second, .val (.long (g31 0)), .second] [(.int (XT.cmpL (g30 0) v19))]))
  refine Go.by (fun t9 k9 => XS.ifNo X32.here hx rfl (hb hby at_258) rfl (XT.ll_ne_f q8) k9) ?_
  show Go _ _ _ _ (T32.setTop (mkF m 261 #[.val (.long q0), .second, .val (.long q1), .second, .val (.long q2), .second, .val (.long q3), .second, .val (.long q4), .second, .val (.long v1), .second, .val (.long v2), .second, .val (.long v3), .second, .val (.long v5), .second, .val (.long v6), .second, .val (.long v7), .second, .val (.long v9), .second, .val (.long v11), .second, .val (.long v12), .second, .val (.long v13), .second, .val (.long v15), .second, .val (.long v17), .second, .val (.long v19), .second, .val (.long v20), .second, .val (.ref a), .val (.long (g27 0)), .second, .val (.long (g28 0)), .second, .val (.long (g29 0)), .second, .val (.long (g30 0)), .second, .val (.long (g31 0)), .second] []))
  refine Go.by (fun t9 k9 => XT.lload X32.here hx rfl (hb hby at_261) rfl k9) ?_
  show Go _ _ _ _ (T32.setTop (mkF m 263 #[.val (.long q0), .second, .val (.long q1), .second, .val (.long q2), .second, .val (.long q3), .second, .val (.long q4), .second, .val (.long v1), .second, .val (.long v2), .second, .val (.long v3), .second, .val (.long v5), .second, .val (.long v6), .second, .val (.long v7), .second, .val (.long v9), .second, .val (.long v11), .second, .val (.long v12), .second, .val (.long v13), .second, .val (.long v15), .second, .val (.long v17), .second, .val (.long v19), .second, .val (.long v20), .second, .val (.ref a), .val (.long (g27 0)), .second, .val (.long (g28 0)), .second, .val (.long (g29 0)), .second, .val (.long (g30 0)), .second, .val (.long (g31 0)), .second] [(.long (g31 0))]))
  refine Go.by (fun t9 k9 => XT.lload X32.here hx rfl (hb hby at_263) rfl k9) ?_
  show Go _ _ _ _ (T32.setTop (mkF m 265 #[.val (.long q0), .second, .val (.long q1), .second, .val (.long q2), .second, .val (.long q3), .second, .val (.long q4), .second, .val (.long v1), .second, .val (.long v2), .second, .val (.long v3), .second, .val (.long v5), .second, .val (.long v6), .second, .val (.long v7), .second, .val (.long v9), .second, .val (.long v11), .second, .val (.long v12), .second, .val (.long v13), .second, .val (.long v15), .second, .val (.long v17), .second, .val (.long v19), .second, .val (.long v20), .second, .val (.ref a), .val (.long (g27 0)), .second, .val (.long (g28 0)), .second, .val (.long (g29 0)), .second, .val (.long (g30 0)), .second, .val (.long (g31 0)), .second] [(.long v20), (.long (g31 0))]))
  refine Go.by (fun t9 k9 => XT.lcmp X32.here hx rfl (hb hby at_265) rfl k9) ?_
  show Go _ _ _ _ (T32.setTop (mkF m 266 #[.val (.long q0), .second, .val (.long q1), .second, .val (.long q2), .second, .val (.long q3), .second, .val (.long q4), .second, .val (.long v1), .second, .val (.long v2), .second, .val (.long v3), .second, .val (.long v5), .second, .val (.long v6), .second, .val (.long v7), .second, .val (.long v9), .second, .val (.long v11), .second, .val (.long v12), .second, .val (.long v13), .second, .val (.long v15), .second, .val (.long v17), .second, .val (.long v19), .second, .val (.long v20), .second, .val (.ref a), .val (.long (g27 0)), .second, .val (.long (g28 0)), .second, .val (.long (g29 0)), .second, .val (.long (g30 0)), .second, .val (.long (g31 0)), .second] [(.int (XT.cmpL (g31 0) v20))]))
  refine Go.by (fun t9 k9 => XS.ifNo X32.here hx rfl (hb hby at_266) rfl (XT.ll_ne_f q9) k9) ?_
  show Go _ _ _ _ (T32.setTop (mkF m 269 #[.val (.long q0), .second, .val (.long q1), .second, .val (.long q2), .second, .val (.long q3), .second, .val (.long q4), .second, .val (.long v1), .second, .val (.long v2), .second, .val (.long v3), .second, .val (.long v5), .second, .val (.long v6), .second, .val (.long v7), .second, .val (.long v9), .second, .val (.long v11), .second, .val (.long v12), .second, .val (.long v13), .second, .val (.long v15), .second, .val (.long v17), .second, .val (.long v19), .second, .val (.long v20), .second, .val (.ref a), .val (.long (g27 0)), .second, .val (.long (g28 0)), .second, .val (.long (g29 0)), .second, .val (.long (g30 0)), .second, .val (.long (g31 0)), .second] []))
  refine Go.by (fun t9 k9 => XS.iconst X32.here hx rfl (hb hby at_269) k9) ?_
  show Go _ _ _ _ (T32.setTop (mkF m 270 #[.val (.long q0), .second, .val (.long q1), .second, .val (.long q2), .second, .val (.long q3), .second, .val (.long q4), .second, .val (.long v1), .second, .val (.long v2), .second, .val (.long v3), .second, .val (.long v5), .second, .val (.long v6), .second, .val (.long v7), .second, .val (.long v9), .second, .val (.long v11), .second, .val (.long v12), .second, .val (.long v13), .second, .val (.long v15), .second, .val (.long v17), .second, .val (.long v19), .second, .val (.long v20), .second, .val (.ref a), .val (.long (g27 0)), .second, .val (.long (g28 0)), .second, .val (.long (g29 0)), .second, .val (.long (g30 0)), .second, .val (.long (g31 0)), .second] [(.int (1 : Int32))]))
  refine Go.by (fun t9 k9 => XS.goto X32.here hx rfl (pc0 := 270) (pc' := 274) rfl (hb hby at_270) (by decide) (by decide) k9) ?_
  show Go _ _ _ _ (T32.setTop (mkF m 274 #[.val (.long q0), .second, .val (.long q1), .second, .val (.long q2), .second, .val (.long q3), .second, .val (.long q4), .second, .val (.long v1), .second, .val (.long v2), .second, .val (.long v3), .second, .val (.long v5), .second, .val (.long v6), .second, .val (.long v7), .second, .val (.long v9), .second, .val (.long v11), .second, .val (.long v12), .second, .val (.long v13), .second, .val (.long v15), .second, .val (.long v17), .second, .val (.long v19), .second, .val (.long v20), .second, .val (.ref a), .val (.long (g27 0)), .second, .val (.long (g28 0)), .second, .val (.long (g29 0)), .second, .val (.long (g30 0)), .second, .val (.long (g31 0)), .second] [(.int (1 : Int32))]))
  exact Go.retZ (Q := Q0 n0) X32 hx hlk Bd.returns (hb hby at_274) ⟨by rfl, N32⟩ (by decide) (by decide)
set_option maxRecDepth 65536 in
set_option maxHeartbeats 40000000 in
theorem comes_1 {Post : Tables → Env → Array Value → State → Outcome → State → Prop} (hpost : ∀ tb e args s v u, (limb_1_1.after args s (.returned v) u = true ∧ limb_1_2.after args s (.returned v) u = true) → FrameEnd s (.returned v) u (Jvm.fieldLocs frame_1_writes args s ++ Jvm.arrayLocs frame_1_arrays args s ++ Jvm.staticLocs frame_1_statics s) 16 128 → Post tb e args s (.returned v) u) :
    ArmFor flags0 classFile x code maxLocals ret World_1 tables_1 room_1 Calls_1 rest_1 Pre_1 Post := by
  intro l hfl _ _ p e ha hc hk s m args below hf hA hF happ hP
  obtain ⟨hcalls, hrest, hpre⟩ := hP
  obtain ⟨-, -, -, hnamed, -, -, -, hat⟩ := (Spec.applies_iff hf).mp happ
  obtain ⟨hg, hn⟩ := and_e (Cond.before_iff.mp (show (Jvm.Cond.and given_1 narrow_1).before args s = true from hpre))
  obtain ⟨ga1, gb1⟩ := and_e hg
  obtain ⟨ga2, gb2⟩ := and_e gb1
  obtain ⟨ga3, gb3⟩ := and_e gb2
  obtain ⟨ga4, gb4⟩ := and_e gb3
  obtain ⟨ga5, gb5⟩ := and_e gb4
  obtain ⟨w0, w1, w2, w3, w4, rfl⟩ : ∃ w0 w1 w2 w3 w4 : Value, args = #[w0, w1, w2, w3, w4] := by
    have hs : args.size = 5 := by simpa [Cond.value, given_1] using ga1
    obtain ⟨L⟩ := args
    match L, hs with
    | [w0, w1, w2, w3, w4], _ => exact ⟨w0, w1, w2, w3, w4, rfl⟩
  have hw := fun d (hd : d ∈ tables_1) => atoms_spec (ws := Jvm.Cond.code x code maxLocals ret :: tables_1) hat d (List.mem_cons_of_mem _ hd)
  obtain ⟨i0, ei0⟩ := isL_v ga2
  obtain rfl : w0 = (.long i0) := Option.some.inj ei0
  obtain ⟨i1, ei1⟩ := isL_v ga3
  obtain rfl : w1 = (.long i1) := Option.some.inj ei1
  obtain ⟨i2, ei2⟩ := isL_v ga4
  obtain rfl : w2 = (.long i2) := Option.some.inj ei2
  obtain ⟨i3, ei3⟩ := isL_v ga5
  obtain rfl : w3 = (.long i3) := Option.some.inj ei3
  obtain ⟨i4, ei4⟩ := isL_v gb5
  obtain rfl : w4 = (.long i4) := Option.some.inj ei4
  obtain ⟨n, o, h1, h2, h3, _, L, rfl, ⟨rfl, N⟩, hq⟩ := rm0 l s _ hw tables_1 i0 i1 i2 i3 i4 s.heap s.heap.size (Nat.le_refl _) p e ha hc hk s m _ below hf ((Spec.applies_iff_loose hf).mp happ).1 ⟨rfl, State.Warmed39.refl s, rfl⟩ trivial
  refine ⟨n, _, h1, h2, h3, hpost _ _ _ _ _ _ ⟨Cond.after_iff.mpr rfl, Cond.after_iff.mpr (eq_i res_at (Term.int_eval (1)) rfl)⟩ ⟨hq.1, hq.2.1, (hq.2.2.sift fun y hy => Or.inr (N y hy)).mono (by decide) (by decide)⟩⟩
theorem main_1_1 : Claimed_1_1 := comes_1 fun _ _ _ _ _ _ h hF => ⟨h.1, hF⟩
theorem main_1_2 : Claimed_1_2 := comes_1 fun _ _ _ _ _ _ h hF => ⟨h.2, hF⟩
end Jvm.Pilot.@@N@@
namespace Jvm.Pilot.@@N@@
open Jvm Jvm.ClassFile Sem Op Lib Jvm.Free Jvm.Stand Jvm.Pilot.@@N@@.Jvm.D
/-! MADE BY PROGRAM (witnessworld.py) out of the Statement's table words and the real class files: 12 classes; the members and pool entries that the words name. The judged class is class 1, her method 1. -/
namespace start1
open Jvm.ClassFile
def u (s : String) : CpInfo := .utf8 (stringToUtf16 s)
/-- a pool by its gaps: so many unusable entries, then the entry; so many at the end -/
def gap : Nat → List CpInfo → List CpInfo
  | 0, r => r
  | n + 1, r => .unusable :: gap n r
def poolList (es : List (Nat × CpInfo)) (last : Nat) : List CpInfo := es.foldr (fun e r => gap e.1 (e.2 :: r)) (gap last [])
def pool (es : List (Nat × CpInfo)) (last : Nat) : Array CpInfo := ⟨poolList es last⟩
def fileOf (pool : Array CpInfo) (this : Nat) (attrs : Array Attribute := #[]) (ms : Array MethodInfo := #[]) (fl : Nat := 33) (sup : Nat := 0) (ifs : Array Nat := #[]) (fds : Array FieldInfo := #[]) : ClassFile where
  minorVersion := 0
  majorVersion := 65
  constantPool := pool
  accessFlags := fl
  thisClass := this
  superClass := sup
  interfaces := ifs
  fields := fds
  methods := ms
  attributes := attrs
def plain (name : String) (sup : Option ClassId) : Class where
  name := name
  kind := .ordinary
  loader := none
  accessFlags := 33
  super := sup
  interfaces := #[]
  cf := none
  fields := #[]
  methods := #[]
  instanceTypes := #[]
  staticTypes := #[]
  resolved := #[]
  callSites := []
  init := .initialized
  statics := none
  mirror := none

def pool0 : Array CpInfo := pool [(5, u "<init>"), (0, u "()V"), (1, .class_ 10), (1, u "java/lang/Object")] 113

def k0c0 : Code := { maxStack := 0, maxLocals := 1, code := object_method_1_code, exceptionTable := #[], attributes := #[] }
def k0m0 : Method := { name := "<init>", desc := "()V", sig := { parameters := [], returnType := none }, accessFlags := 1, code := some k0c0 }
/-- java/lang/Object -/
def k0 : Class := { plain "java/lang/Object" none with
  accessFlags := 33
  interfaces := #[]
  cf := some (fileOf pool0 8 #[] #[{ accessFlags := 1, nameIndex := 5, descriptorIndex := 6, attributes := #[] }] 33 0 #[] #[])
  fields := #[]
  methods := #[k0m0]
  instanceTypes := #[]
  staticTypes := #[]
  resolved := Array.replicate 124 none
  statics := none }

def pool1 : Array CpInfo := pool [(2, .class_ 4), (0, .nameAndType 5 6), (0, u "java/lang/Object"), (0, u "<init>"), (0, u "()V"), (0, .methodref 8 9), (0, .class_ 10), (0, .nameAndType 11 12), (0, u "java/lang/Math"), (0, u "min"), (0, u "(JJ)J"), (0, .methodref 8 14), (0, .nameAndType 15 12), (0, u "max"), (0, .class_ 17), (0, u "com/example/isolens/isolens/checker/LongHeap"), (0, .methodref 16 3), (0, .methodref 16 20), (0, .nameAndType 21 22), (0, u "add"), (0, u "(J)V"), (0, .methodref 16 24), (0, .nameAndType 25 26), (0, u "removeSmallest"), (0, u "()J"), (0, .class_ 28), (0, u "com/example/isolens/isolens/checker/LongHeapRemoveSmallestPinLaw"), (2, u "law"), (0, u "(JJJJJ)Z")] 3

def k1m0 : Method := { name := "<init>", desc := "()V", sig := { parameters := [], returnType := none }, accessFlags := 1, code := none }
def k1c1 : Code := { maxStack := 6, maxLocals := 49, code := code, exceptionTable := #[], attributes := #[] }
def k1m1 : Method := { name := "law", desc := "(JJJJJ)Z", sig := { parameters := [.long, .long, .long, .long, .long], returnType := some .boolean }, accessFlags := 9, code := some k1c1 }
/-- com/example/isolens/isolens/checker/LongHeapRemoveSmallestPinLaw -/
def k1 : Class := { plain "com/example/isolens/isolens/checker/LongHeapRemoveSmallestPinLaw" (some 0) with
  accessFlags := 49
  interfaces := #[]
  cf := some (fileOf pool1 27 #[] #[{ accessFlags := 1, nameIndex := 5, descriptorIndex := 6, attributes := #[] }, { accessFlags := 9, nameIndex := 31, descriptorIndex := 32, attributes := #[] }] 49 2 #[] #[])
  fields := #[]
  methods := #[k1m0, k1m1]
  instanceTypes := #[]
  staticTypes := #[]
  resolved := Array.replicate 36 none
  statics := none }

def pool2 : Array CpInfo := pool [(1, .class_ 2), (0, u "java/lang/Math"), (1, .class_ 6), (1, u "java/lang/Object"), (0, u "<init>"), (0, u "()V"), (89, .class_ 100), (1, u "java/lang/Math$RandomNumberGeneratorHolder"), (20, u "(JJ)J"), (50, u "negativeZeroFloatBits"), (0, u "J"), (2, u "negativeZeroDoubleBits"), (21, u "max"), (2, u "min"), (43, u "$assertionsDisabled"), (0, u "Z"), (91, u "twoToTheDoubleScaleDown"), (0, u "D"), (4, u "twoToTheDoubleScaleUp"), (9, u "E"), (3, u "PI"), (2, u "TAU"), (2, u "DEGREES_TO_RADIANS"), (0, u "RADIANS_TO_DEGREES")] 94

def k2m0 : Method := { name := "<init>", desc := "()V", sig := { parameters := [], returnType := none }, accessFlags := 2, code := none }
def k2c1 : Code := { maxStack := 4, maxLocals := 4, code := jdk_29_method_66_code, exceptionTable := #[], attributes := #[] }
def k2m1 : Method := { name := "max", desc := "(JJ)J", sig := { parameters := [.long, .long], returnType := some .long }, accessFlags := 9, code := some k2c1 }
def k2c2 : Code := { maxStack := 4, maxLocals := 4, code := jdk_29_method_70_code, exceptionTable := #[], attributes := #[] }
def k2m2 : Method := { name := "min", desc := "(JJ)J", sig := { parameters := [.long, .long], returnType := some .long }, accessFlags := 9, code := some k2c2 }
/-- java/lang/Math -/
def k2 : Class := { plain "java/lang/Math" (some 0) with
  accessFlags := 49
  interfaces := #[]
  cf := some (fileOf pool2 1 #[.nestMembers #[98]] #[{ accessFlags := 2, nameIndex := 7, descriptorIndex := 8, attributes := #[] }, { accessFlags := 9, nameIndex := 198, descriptorIndex := 121, attributes := #[] }, { accessFlags := 9, nameIndex := 201, descriptorIndex := 121, attributes := #[] }] 49 4 #[] #[{ accessFlags := 25, nameIndex := 354, descriptorIndex := 339, attributes := #[] }, { accessFlags := 25, nameIndex := 358, descriptorIndex := 339, attributes := #[] }, { accessFlags := 25, nameIndex := 361, descriptorIndex := 339, attributes := #[] }, { accessFlags := 26, nameIndex := 364, descriptorIndex := 339, attributes := #[] }, { accessFlags := 26, nameIndex := 365, descriptorIndex := 339, attributes := #[] }, { accessFlags := 26, nameIndex := 172, descriptorIndex := 173, attributes := #[] }, { accessFlags := 26, nameIndex := 176, descriptorIndex := 173, attributes := #[] }, { accessFlags := 8, nameIndex := 344, descriptorIndex := 339, attributes := #[] }, { accessFlags := 8, nameIndex := 338, descriptorIndex := 339, attributes := #[] }, { accessFlags := 4120, nameIndex := 245, descriptorIndex := 246, attributes := #[] }])
  fields := #[{ name := "E", type := .double, accessFlags := 25, slot := 0, constantValue := 0 }, { name := "PI", type := .double, accessFlags := 25, slot := 1, constantValue := 0 }, { name := "TAU", type := .double, accessFlags := 25, slot := 2, constantValue := 0 }, { name := "DEGREES_TO_RADIANS", type := .double, accessFlags := 26, slot := 3, constantValue := 0 }, { name := "RADIANS_TO_DEGREES", type := .double, accessFlags := 26, slot := 4, constantValue := 0 }, { name := "negativeZeroFloatBits", type := .long, accessFlags := 26, slot := 5, constantValue := 0 }, { name := "negativeZeroDoubleBits", type := .long, accessFlags := 26, slot := 6, constantValue := 0 }, { name := "twoToTheDoubleScaleUp", type := .double, accessFlags := 8, slot := 7, constantValue := 0 }, { name := "twoToTheDoubleScaleDown", type := .double, accessFlags := 8, slot := 8, constantValue := 0 }, { name := "$assertionsDisabled", type := .boolean, accessFlags := 4120, slot := 9, constantValue := 0 }]
  methods := #[k2m0, k2m1, k2m2]
  instanceTypes := #[]
  staticTypes := #[.double, .double, .double, .double, .double, .long, .long, .double, .double, .boolean]
  resolved := Array.replicate 460 none
  statics := none }

def pool3 : Array CpInfo := pool [(1, .methodref 2 3), (0, .class_ 4), (0, .nameAndType 5 6), (0, u "java/lang/Object"), (0, u "<init>"), (0, u "()V"), (0, .fieldref 8 9), (0, .class_ 10), (0, .nameAndType 11 12), (0, u "com/example/isolens/isolens/checker/LongHeap"), (0, u "items"), (0, u "[J"), (0, .fieldref 8 14), (0, .nameAndType 15 16), (0, u "size"), (0, u "I"), (11, u "add"), (0, u "(J)V"), (0, u "removeSmallest"), (0, u "()J")] 2

def k3c0 : Code := { maxStack := 2, maxLocals := 1, code := prog_43_method_1_code, exceptionTable := #[], attributes := #[] }
def k3m0 : Method := { name := "<init>", desc := "()V", sig := { parameters := [], returnType := none }, accessFlags := 0, code := some k3c0 }
def k3c1 : Code := { maxStack := 5, maxLocals := 4, code := prog_43_method_3_code, exceptionTable := #[], attributes := #[] }
def k3m1 : Method := { name := "add", desc := "(J)V", sig := { parameters := [.long], returnType := none }, accessFlags := 0, code := some k3c1 }
def k3c2 : Code := { maxStack := 4, maxLocals := 7, code := prog_43_method_4_code, exceptionTable := #[], attributes := #[] }
def k3m2 : Method := { name := "removeSmallest", desc := "()J", sig := { parameters := [], returnType := some .long }, accessFlags := 0, code := some k3c2 }
/-- com/example/isolens/isolens/checker/LongHeap -/
def k3 : Class := { plain "com/example/isolens/isolens/checker/LongHeap" (some 0) with
  accessFlags := 48
  interfaces := #[]
  cf := some (fileOf pool3 8 #[] #[{ accessFlags := 0, nameIndex := 5, descriptorIndex := 6, attributes := #[] }, { accessFlags := 0, nameIndex := 28, descriptorIndex := 29, attributes := #[] }, { accessFlags := 0, nameIndex := 30, descriptorIndex := 31, attributes := #[] }] 48 2 #[] #[{ accessFlags := 2, nameIndex := 11, descriptorIndex := 12, attributes := #[] }, { accessFlags := 2, nameIndex := 15, descriptorIndex := 16, attributes := #[] }])
  fields := #[{ name := "items", type := (.array .long), accessFlags := 2, slot := 0, constantValue := 0 }, { name := "size", type := .int, accessFlags := 2, slot := 1, constantValue := 0 }]
  methods := #[k3m0, k3m1, k3m2]
  instanceTypes := #[(.array .long), .int]
  staticTypes := #[]
  resolved := Array.replicate 34 none
  statics := none }

def pool4 : Array CpInfo := pool [(1, u "java/lang/Cloneable"), (0, .class_ 1), (0, u "java/lang/Object"), (0, .class_ 3)] 3

/-- java/lang/Cloneable -/
def k4 : Class := { plain "java/lang/Cloneable" (some 0) with
  accessFlags := 1537
  interfaces := #[]
  cf := some (fileOf pool4 2 #[] #[] 1537 4 #[] #[])
  fields := #[]
  methods := #[]
  instanceTypes := #[]
  staticTypes := #[]
  resolved := Array.replicate 8 none
  statics := none }

def pool5 : Array CpInfo := pool [(1, u "java/io/Serializable"), (0, .class_ 1), (0, u "java/lang/Object"), (0, .class_ 3)] 3

/-- java/io/Serializable -/
def k5 : Class := { plain "java/io/Serializable" (some 0) with
  accessFlags := 1537
  interfaces := #[]
  cf := some (fileOf pool5 2 #[] #[] 1537 4 #[] #[])
  fields := #[]
  methods := #[]
  instanceTypes := #[]
  staticTypes := #[]
  resolved := Array.replicate 8 none
  statics := none }

/-- the primitive byte -/
def k6 : Class := { plain "byte" none with kind := .primitive 'B', accessFlags := 0x411 }
/-- [B -/
def k7 : Class := { plain "[B" (some 0) with kind := .array 6 .byte, interfaces := #[4, 5], accessFlags := 1041 }

/-- the primitive int -/
def k8 : Class := { plain "int" none with kind := .primitive 'I', accessFlags := 0x411 }
/-- [I -/
def k9 : Class := { plain "[I" (some 0) with kind := .array 8 .int, interfaces := #[4, 5], accessFlags := 1041 }

/-- the primitive long -/
def k10 : Class := { plain "long" none with kind := .primitive 'J', accessFlags := 0x411 }
/-- [J -/
def k11 : Class := { plain "[J" (some 0) with kind := .array 10 .long, interfaces := #[4, 5], accessFlags := 1041 }

def heap : Heap := #[]
def classes : Array Class := #[k0, k1, k2, k3, k4, k5, k6, k7, k8, k9, k10, k11]
def interned : List (Array UInt16 × Addr) := []
def slotsUsed : Nat := 0
def theMethod : MethodId := ⟨1, 1⟩
def args0 : Array Value := #[.long 5, .long 3, .long 7, .long 1, .long 4]
def aboutOver (below : List Frame) : State where
  vm := { classes := classes, interned := interned.toArray }
  heap := heap
  slotsUsed := slotsUsed
  threads := #[{ frames := .invoking theMethod args0 :: below }]
def below0 : List Frame := [.native { method := ⟨0, 0⟩, args := #[] }]
def about1 : State := aboutOver below0
def p0 : Program := .bare "" "" ""
def e0 : Env := launch0.env 0 0 0
theorem w_frames : about1.frames = Frame.invoking theMethod args0 :: below0 := rfl
set_option maxRecDepth 65536 in
theorem w_args : argsFit about1.vm theMethod args0 = true := by decide +kernel
set_option maxRecDepth 65536 in
theorem w_heap : heapFits about1 = true := by decide +kernel
set_option maxRecDepth 65536 in
theorem w_runnable : about1.curStatus? = some .runnable := by decide +kernel
set_option maxRecDepth 65536 in
theorem w_alone : about1.alone = true := by decide +kernel
set_option maxRecDepth 65536 in
theorem w_named : about1.methodNamed? x = some theMethod := by decide +kernel
set_option maxRecDepth 65536 in
theorem w_hears : about1.hears theMethod below0 = true := by decide +kernel
set_option maxRecDepth 65536 in
theorem w_ripe : about1.ripe theMethod args0 below0 = true := by decide +kernel
theorem w_running : about1.status = .running := rfl
set_option maxRecDepth 65536 in
theorem w_room : about1.hasRoom e0.platform room_1 = true :=
  launch0.hasRoom_least _ room_1 (by decide +kernel) (by decide +kernel) (by decide +kernel) (by decide +kernel) (by decide +kernel) (by decide +kernel)
theorem allAtoms_all (ts : List Jvm.Cond) (a : Array Jvm.Value) (st : Jvm.State) : (allAtoms ts).before a st = ts.all (fun c => c.before a st) := by
  induction ts with
  | nil => rfl
  | cons c t ih =>
    show (Jvm.Cond.and c (allAtoms t)).before a st = _
    rw [Jvm.Cond.before_and, ih, List.all_cons]
def words1 : List Jvm.Cond := Jvm.Cond.code x code maxLocals ret :: tables_1
/-- a 'code' word, met by the world's own term for the bytes: nothing is compared byte by byte -/
theorem code_word {y : MethodName} {bytes : ByteArray} {mx : Nat} {rt : Option FieldType} {a : Array Value} {s : State} {m : MethodId} {meth : Method} {c : Code} (h1 : s.methodNamed? y = some m) (h2 : s.vm.method? m = some meth) (h3 : meth.code = some c) (h4 : c.code = bytes)
    (h5 : (c.maxLocals == mx && c.exceptionTable.isEmpty && decide (c.maxStack ≤ mostOperands) && decide (meth.sig.returnType = rt) && !meth.locks && decide (parseMethodDescriptor y.desc = some meth.sig)) = true) : (Jvm.Cond.code y bytes mx rt).before a s = true := by
  simp only [Bool.and_eq_true, beq_iff_eq, Bool.not_eq_true', decide_eq_true_eq] at h5
  obtain ⟨⟨⟨⟨⟨g1, g2⟩, g3⟩, g4⟩, g5⟩, g6⟩ := h5
  simp [Cond.before, Cond.holds, Cond.value, h1, h2, h3, h4, g1, g2, g3, g4, g5, g6]
def isCode : Jvm.Cond → Bool
  | .code _ _ _ _ => true
  | _ => false
theorem all_split {L : List Jvm.Cond} {P : Jvm.Cond → Bool} (h1 : L.all (fun c => isCode c || P c) = true) (h2 : ∀ c ∈ L.filter isCode, P c = true) : L.all P = true := by
  refine List.all_eq_true.mpr fun c hc => ?_
  have h := List.all_eq_true.mp h1 c hc
  rcases Bool.eq_false_or_eq_true (isCode c) with hi | hi
  · exact h2 c (List.mem_filter.mpr ⟨hc, hi⟩)
  · simpa [hi] using h
set_option maxRecDepth 65536 in
theorem w_c0 : (Jvm.Cond.code x code maxLocals ret).before args0 about1 = true := code_word (m := ⟨1, 1⟩) (meth := k1m1) (c := k1c1) (by decide +kernel) rfl rfl rfl (by decide +kernel)
set_option maxRecDepth 65536 in
theorem w_c1 : (Jvm.Cond.code ({ cls := "java/lang/Math", name := "min", desc := "(JJ)J" } : Jvm.MethodName) jdk_29_method_70_code (4 : Nat) (Option.some Jvm.ClassFile.FieldType.long)).before args0 about1 = true := code_word (m := ⟨2, 2⟩) (meth := k2m2) (c := k2c2) (by decide +kernel) rfl rfl rfl (by decide +kernel)
set_option maxRecDepth 65536 in
theorem w_c2 : (Jvm.Cond.code ({ cls := "java/lang/Math", name := "max", desc := "(JJ)J" } : Jvm.MethodName) jdk_29_method_66_code (4 : Nat) (Option.some Jvm.ClassFile.FieldType.long)).before args0 about1 = true := code_word (m := ⟨2, 1⟩) (meth := k2m1) (c := k2c1) (by decide +kernel) rfl rfl rfl (by decide +kernel)
set_option maxRecDepth 65536 in
theorem w_c3 : (Jvm.Cond.code ({ cls := "com/example/isolens/isolens/checker/LongHeap", name := "<init>", desc := "()V" } : Jvm.MethodName) prog_43_method_1_code (1 : Nat) (Option.none : Option Jvm.ClassFile.FieldType)).before args0 about1 = true := code_word (m := ⟨3, 0⟩) (meth := k3m0) (c := k3c0) (by decide +kernel) rfl rfl rfl (by decide +kernel)
set_option maxRecDepth 65536 in
theorem w_c4 : (Jvm.Cond.code ({ cls := "java/lang/Object", name := "<init>", desc := "()V" } : Jvm.MethodName) object_method_1_code (1 : Nat) (Option.none : Option Jvm.ClassFile.FieldType)).before args0 about1 = true := code_word (m := ⟨0, 0⟩) (meth := k0m0) (c := k0c0) (by decide +kernel) rfl rfl rfl (by decide +kernel)
set_option maxRecDepth 65536 in
theorem w_c5 : (Jvm.Cond.code ({ cls := "com/example/isolens/isolens/checker/LongHeap", name := "add", desc := "(J)V" } : Jvm.MethodName) prog_43_method_3_code (4 : Nat) (Option.none : Option Jvm.ClassFile.FieldType)).before args0 about1 = true := code_word (m := ⟨3, 1⟩) (meth := k3m1) (c := k3c1) (by decide +kernel) rfl rfl rfl (by decide +kernel)
set_option maxRecDepth 65536 in
theorem w_c6 : (Jvm.Cond.code ({ cls := "com/example/isolens/isolens/checker/LongHeap", name := "removeSmallest", desc := "()J" } : Jvm.MethodName) prog_43_method_4_code (7 : Nat) (Option.some Jvm.ClassFile.FieldType.long)).before args0 about1 = true := code_word (m := ⟨3, 2⟩) (meth := k3m2) (c := k3c2) (by decide +kernel) rfl rfl rfl (by decide +kernel)
def codes1 : List Jvm.Cond := [Jvm.Cond.code x code maxLocals ret, Jvm.Cond.code ({ cls := "java/lang/Math", name := "min", desc := "(JJ)J" } : Jvm.MethodName) jdk_29_method_70_code (4 : Nat) (Option.some Jvm.ClassFile.FieldType.long), Jvm.Cond.code ({ cls := "java/lang/Math", name := "max", desc := "(JJ)J" } : Jvm.MethodName) jdk_29_method_66_code (4 : Nat) (Option.some Jvm.ClassFile.FieldType.long), Jvm.Cond.code ({ cls := "com/example/isolens/isolens/checker/LongHeap", name := "<init>", desc := "()V" } : Jvm.MethodName) prog_43_method_1_code (1 : Nat) (Option.none : Option Jvm.ClassFile.FieldType), Jvm.Cond.code ({ cls := "java/lang/Object", name := "<init>", desc := "()V" } : Jvm.MethodName) object_method_1_code (1 : Nat) (Option.none : Option Jvm.ClassFile.FieldType), Jvm.Cond.code ({ cls := "com/example/isolens/isolens/checker/LongHeap", name := "add", desc := "(J)V" } : Jvm.MethodName) prog_43_method_3_code (4 : Nat) (Option.none : Option Jvm.ClassFile.FieldType), Jvm.Cond.code ({ cls := "com/example/isolens/isolens/checker/LongHeap", name := "removeSmallest", desc := "()J" } : Jvm.MethodName) prog_43_method_4_code (7 : Nat) (Option.some Jvm.ClassFile.FieldType.long)]
set_option maxRecDepth 65536 in
theorem codes_eq : words1.filter isCode = codes1 := rfl
theorem w_codes : ∀ c ∈ words1.filter isCode, c.before args0 about1 = true := by
  rw [codes_eq]
  intro c hc
  simp only [codes1, List.mem_cons, List.not_mem_nil, or_false] at hc
  rcases hc with rfl | rfl | rfl | rfl | rfl | rfl | rfl
  · exact w_c0
  · exact w_c1
  · exact w_c2
  · exact w_c3
  · exact w_c4
  · exact w_c5
  · exact w_c6
set_option maxRecDepth 65536 in
theorem w_t1 : (words1.take 24).all (fun c => isCode c || c.before args0 about1) = true := by decide +kernel
set_option maxRecDepth 65536 in
theorem w_t2 : (words1.drop 24).all (fun c => isCode c || c.before args0 about1) = true := by decide +kernel
theorem w_tables : (allAtoms (Jvm.Cond.code x code maxLocals ret :: tables_1)).before args0 about1 = true := by
  rw [allAtoms_all]
  show words1.all (fun c => c.before args0 about1) = true
  refine all_split ?_ w_codes
  rw [← List.take_append_drop 24 words1, List.all_append, w_t1, w_t2]
  rfl
set_option maxRecDepth 65536 in
theorem w_case : (Jvm.Cond.and given_1 narrow_1).before args0 about1 = true := by decide +kernel
theorem w_applies : (headSpec (Jvm.Cond.code x code maxLocals ret :: tables_1) room_1).applies x e0.platform about1 = true :=
  (Spec.applies_iff w_frames).mpr ⟨w_running, w_runnable, w_alone, w_named, w_hears, w_ripe, w_room, w_tables⟩
theorem atStart : AtStart classFile x code maxLocals ret World_1 tables_1 room_1 Calls_1 rest_1 Pre_1 launch0 p0 e0 about1 theMethod args0 below0 :=
  ⟨lists_1, trivial, launch0.admits_env _ _ _, launch0.least_env, fairChoices_fair.cas, fairChoices_fair.clock, w_frames, w_args, w_heap, w_applies, trivial, trivial, w_case⟩
end start1
theorem witness_1 : WitnessClaimed_1 := ⟨start1.p0, start1.e0, start1.about1, start1.theMethod, start1.args0, start1.below0, start1.atStart⟩
end Jvm.Pilot.@@N@@
