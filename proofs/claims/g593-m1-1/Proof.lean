import JvmDerived
import JvmDerived.Pilot.@@N@@Statement
import JvmDerived.Pilot.@@N@@Code
set_option linter.unusedVariables false
set_option linter.unusedSimpArgs false
namespace Jvm.Pilot.@@N@@
open Jvm Jvm.ClassFile Sem Op Lib Jvm.Free Jvm.Stand Jvm.LawKit Jvm.RoadKit Bundle Jvm.Pilot.@@N@@.Jvm.D
section OwnKit
variable {p : Program} {l : Launch} {e : Env} {R : Room} {s : State} {m : MethodId} {args : Array Value} {below : List Frame} {meth : Method} {c : Code} {T : State} {locs : List Loc} {cells slots : Nat} {Z : State} {a0 : Array Value} {h : Heap} {Qr : Option Value → Heap → List Loc → Prop}
/-- from this frame on the run ends, and Q holds of the end -/
def own_G (tb : Tables) (e : Env) (below : List Frame) (T : State) (f : JFrame) (Qe : Outcome → State → Prop) : Prop := ∃ s₂ o, Steps tb e below (T.setTop f) s₂ ∧ s₂.status = .running ∧ Ended s₂ below o ∧ Qe o s₂
theorem own_pre {tb : Tables} {T' : State} {f f' : JFrame} {Qe : Outcome → State → Prop} (k1 : ∀ t, Steps tb e below (T'.setTop f') t → Steps tb e below (T.setTop f) t) (k2 : own_G tb e below T' f' Qe) : own_G tb e below T f Qe := by
  obtain ⟨s2, o, h1, h2⟩ := k2
  exact ⟨s2, o, k1 _ h1, h2⟩
/-- the end of a body: it returned v with Qr; the frame -/
abbrev own_P (R : Room) (s : State) (Qr : Option Value → Heap → List Loc → Prop) : Outcome → State → Prop := fun o U' => ∃ v L, o = .returned v ∧ Qr v U'.heap L ∧ FrameEnd s o U' L R.cells R.slots
/-- a body's contract -/
abbrev own_C (l : Launch) (y : MethodName) (code : ByteArray) (ml : Nat) (ret : Option FieldType) (ws : List Jvm.Cond) (R : Room) (as : Array Value) (Z : State) (h0 : Heap) (Qr : Option Value → Heap → List Loc → Prop) : Prop :=
  MetFree l y (head1 (Jvm.Cond.code y code ml ret :: ws) R) (fun a U => a = as ∧ Z.Warmed39 U.vm ∧ U.heap = h0) (fun _ _ _ _ _ => True) (fun _ U o U' => ∃ v L, o = .returned v ∧ Qr v U'.heap L ∧ FrameEnd U o U' L R.cells R.slots)
theorem own_enter {y : MethodName} {code : ByteArray} {ml : Nat} {ret : Option FieldType} {ws : List Jvm.Cond} {as : Array Value} {LS : Array Slot} {h0 : Heap} (hp : plainFor y = true) (hef : ∀ m, entryFrame m as ml = mkF m 0 LS [])
    (body : ∀ (p : Program) (e : Env) (s : State) (m : MethodId) (below : List Frame) (meth : Method) (c : Code) (s₁ : State), p.tables.exec = Jvm.exec → c.code = code → c.maxLocals = ml → s.vm.findClass y.cls = some m.cls → meth.name = y.name → meth.sig.returnType = ret → meth.locks = false → Z.Warmed39 s.vm → Stand p l e R s m as below meth c s₁ [] 0 0 → s₁.heap = h0 → s.heap = h0 → own_G p.tables e below s₁ (mkF m 0 LS []) (own_P R s Qr)) : own_C l y code ml ret ws R as Z h0 Qr := by
  refine MetFree.of_bodySF hp hisR ?_
  intro p e s m args below meth c s₁ Bd hml0 hP hK
  obtain ⟨rfl, hZ, hh⟩ := hP
  have e0 : s₁.heap = h0 := by rw [← hh, Bd.state]; rfl
  obtain ⟨s2, o, h1, h2⟩ := body p e s m below meth c s₁ Bd.exec Bd.bytes hml0 (findClass_of_methodNamed Bd.named) (name_of_methodNamed Bd.named Bd.method).1 Bd.returns Bd.notSynchronized hZ (Stand.of_body Bd) e0 hh
  exact ⟨s2, o, castTop (hef m) h1, h2⟩
theorem own_retZ (X : Stand p l e R s m args below meth c T locs cells slots) (hx : p.tables.exec = Jvm.exec) (hlk : meth.locks = false) {pc : Nat} {Ls : Array Slot} {z z' : Int32} {rest : List Value} (hret : meth.sig.returnType = some .boolean) (hd : decode c.code pc = .ok (.ireturn, 1)) (hz : nar .boolean z = z')
    (hQ : Qr (some (.int z')) T.heap locs) (hc : cells ≤ R.cells) (hs : slots ≤ R.slots) : own_G p.tables e below T (mkF m pc Ls (.int z :: rest)) (own_P R s Qr) := by
  subst hz
  obtain ⟨fs, hr, hrun, hended, hW, hsame⟩ := X.leave (v := some (.int (nar .boolean z))) (fun h => by rw [hret] at h; cases h) hlk
  exact ⟨_, _, retN X hx hret (by simp) hd hr, hrun, hended, _, _, rfl, hQ, ⟨_, rfl⟩, hW, hsame.mono hc hs⟩
theorem own_retI (X : Stand p l e R s m args below meth c T locs cells slots) (hx : p.tables.exec = Jvm.exec) (hlk : meth.locks = false) {pc : Nat} {Ls : Array Slot} {z : Int32} {rest : List Value} (hret : meth.sig.returnType = some .int) (hd : decode c.code pc = .ok (.ireturn, 1))
    (hQ : Qr (some (.int z)) T.heap locs) (hc : cells ≤ R.cells) (hs : slots ≤ R.slots) : own_G p.tables e below T (mkF m pc Ls (.int z :: rest)) (own_P R s Qr) := by
  obtain ⟨fs, hr, hrun, hended, hW, hsame⟩ := X.leave (v := some (.int z)) (fun h => by rw [hret] at h; cases h) hlk
  exact ⟨_, _, retOut X hx hret rfl (Or.inl ⟨rfl, Or.inl rfl, _, rfl⟩) hd hr, hrun, hended, _, _, rfl, hQ, ⟨_, rfl⟩, hW, hsame.mono hc hs⟩
theorem own_retR (X : Stand p l e R s m args below meth c T locs cells slots) (hx : p.tables.exec = Jvm.exec) (hlk : meth.locks = false) {pc : Nat} {Ls : Array Slot} {w : Value} {t : FieldType} {rest : List Value} (hret : meth.sig.returnType = some t) (hd : decode c.code pc = .ok (.areturn, 1)) (hn : narrow t w = w) (ht : t.isReference = true) (hw : w.isRef = true)
    (hQ : Qr (some w) T.heap locs) (hc : cells ≤ R.cells) (hs : slots ≤ R.slots) : own_G p.tables e below T (mkF m pc Ls (w :: rest)) (own_P R s Qr) := by
  obtain ⟨fs, hr, hrun, hended, hW, hsame⟩ := X.leave (v := some w) (fun h => by rw [hret] at h; cases h) hlk
  exact ⟨_, _, retOut X hx hret hn (Or.inr (Or.inr (Or.inr (Or.inr ⟨rfl, ht, hw⟩)))) hd hr, hrun, hended, _, _, rfl, hQ, ⟨_, rfl⟩, hW, hsame.mono hc hs⟩
theorem own_ret0 (X : Stand p l e R s m args below meth c T locs cells slots) (hx : p.tables.exec = Jvm.exec) (hlk : meth.locks = false) {pc : Nat} {Ls : Array Slot} (hret : meth.sig.returnType = none) (hd : decode c.code pc = .ok (.return_, 1))
    (hQ : Qr none T.heap locs) (hc : cells ≤ R.cells) (hs : slots ≤ R.slots) : own_G p.tables e below T (mkF m pc Ls []) (own_P R s Qr) := by
  obtain ⟨fs, hr, hrun, hended, hW, hsame⟩ := X.leave (v := none) (fun _ => rfl) hlk
  exact ⟨_, _, X.returnOut hx hret hd hr, hrun, hended, _, _, rfl, hQ, ⟨_, rfl⟩, hW, hsame.mono hc hs⟩
theorem own_callV (X : Stand p l e R s m args below meth c T locs cells slots) (hx : p.tables.exec = Jvm.exec) (hZ : Z.Warmed39 s.vm) (eT : T.heap = h) {own C : String} {index : Nat} {y : MethodName} {bytes : ByteArray} {maxL : Nat} {ret : Option FieldType} {R' : Room} {b : Addr} {Qc : Option Value → Heap → List Loc → Prop}
    (hown : s.vm.findClass own = some m.cls) (w1 : (Jvm.Cond.methodLink own index y).before a0 Z = true) (w2 : (Jvm.Cond.declares y).before a0 Z = true) (w3 : (Jvm.Cond.selects C y y).before a0 Z = true) (w4 : (Jvm.Cond.instanceMethod y).before a0 Z = true) (w5 : (Jvm.Cond.code y bytes maxL ret).before a0 Z = true) (w6 : (Jvm.Cond.initialized y.cls).before a0 Z = true)
    (hy : y.cls ≠ "java/lang/invoke/MethodHandle" ∧ y.cls ≠ "java/lang/invoke/VarHandle") (W : Nat) (argsL rest : List Value) (hM : own_C l y bytes maxL ret [] R' (.ref b :: argsL).toArray Z h Qc) (hf : R'.frames + 1 ≤ R.frames) (hl : W + (maxL + 11) + R'.locals ≤ R.locals) (hc : cells + R'.cells ≤ R.cells) (hs : slots + R'.slots ≤ R.slots)
    (E : Exa Z h b C) {g : JFrame} (hg : g.method = m) (hsize : g.locals.size = c.maxLocals) (hlen : ∀ sig, parseMethodDescriptor y.desc = some sig → argsL.length = sig.parameters.length) (hstack : g.stack = argsL.reverse ++ .ref b :: rest) (hW : 2 * g.monitorRoom + (rest.map fun v => v.category).sum ≤ W) (hd : decode c.code g.pc = .ok (.invokevirtual index, 3)) :
    ∃ (T' : State) (L : List Loc) (v : Option Value), Stand p l e R s m args below meth c T' (locs ++ L) (cells + R'.cells) (slots + R'.slots) ∧ Qc v T'.heap L ∧ ∀ target, Steps p.tables e below (T'.setTop { g with pc := g.pc + 3, stack := v.toList ++ rest }) target → Steps p.tables e below (T.setTop g) target := by
  obtain ⟨cq, kq, qa, qb, qc⟩ := isOf hZ eT E
  obtain ⟨v, _, ⟨T2, L2, k2, n2⟩, -, X2, ⟨Lc, hQ, l2, y2, z2⟩, st⟩ := X.virtualBack hx (y := y) (z := y) hown (mvT hZ w1) (mvT hZ w2) (notFace_of_selects (args := #[]) (mvT hZ w3)) (mvT hZ w3) (mvT hZ w4) hy (backOf (W := W) hM hZ w5 w6 hf hl) qa qc (g := g) hg hsize (Steps.refl _) (argsL := argsL) (rest := rest) hlen hstack hW hd (fun _ _ => ⟨rfl, eT, hc, hs⟩)
  dsimp only [Pt.U, Pt.locs, Pt.cells, Pt.slots] at X2 l2 y2 z2 st hQ
  subst l2 y2 z2
  exact ⟨T2, Lc, v, X2, hQ, fun t k => st.trans k⟩
theorem own_callU (X : Stand p l e R s m args below meth c T locs cells slots) (hx : p.tables.exec = Jvm.exec) (hZ : Z.Warmed39 s.vm) (eT : T.heap = h) {own C owner : String} {index : Nat} {y z : MethodName} {bytes : ByteArray} {maxL : Nat} {ret : Option FieldType} {R' : Room} {b : Addr} {Qc : Option Value → Heap → List Loc → Prop}
    (hown : s.vm.findClass own = some m.cls) (w1 : (Jvm.Cond.methodLink own index z).before a0 Z = true) (w0 : (Jvm.Cond.sameMethod z.cls owner z.name z.desc).before a0 Z = true) (w2 : (Jvm.Cond.declares ⟨owner, z.name, z.desc⟩).before a0 Z = true) (w3 : (Jvm.Cond.selects C z y).before a0 Z = true) (w4 : (Jvm.Cond.instanceMethod y).before a0 Z = true) (w5 : (Jvm.Cond.code y bytes maxL ret).before a0 Z = true) (w6 : (Jvm.Cond.initialized y.cls).before a0 Z = true)
    (hy : owner ≠ "java/lang/invoke/MethodHandle" ∧ owner ≠ "java/lang/invoke/VarHandle") (W : Nat) (argsL rest : List Value) (hM : own_C l y bytes maxL ret [] R' (.ref b :: argsL).toArray Z h Qc) (hf : R'.frames + 1 ≤ R.frames) (hl : W + (maxL + 11) + R'.locals ≤ R.locals) (hc : cells + R'.cells ≤ R.cells) (hs : slots + R'.slots ≤ R.slots)
    (E : Exa Z h b C) {g : JFrame} (hg : g.method = m) (hsize : g.locals.size = c.maxLocals) (hlen : ∀ sig, parseMethodDescriptor z.desc = some sig → argsL.length = sig.parameters.length) (hstack : g.stack = argsL.reverse ++ .ref b :: rest) (hW : 2 * g.monitorRoom + (rest.map fun v => v.category).sum ≤ W) (hd : decode c.code g.pc = .ok (.invokevirtual index, 3)) :
    ∃ (T' : State) (L : List Loc) (v : Option Value), Stand p l e R s m args below meth c T' (locs ++ L) (cells + R'.cells) (slots + R'.slots) ∧ Qc v T'.heap L ∧ ∀ target, Steps p.tables e below (T'.setTop { g with pc := g.pc + 3, stack := v.toList ++ rest }) target → Steps p.tables e below (T.setTop g) target := by
  obtain ⟨cq, kq, qa, qb, qc⟩ := isOf hZ eT E
  obtain ⟨v, _, ⟨T2, L2, k2, n2⟩, -, X2, ⟨Lc, hQ, l2, y2, z2⟩, st⟩ := X.virtualBackUp hx (x := z) (y := y) hown (mvT hZ w1) (mvT hZ w0) (mvT hZ w2) hy (mvT hZ w3) (mvT hZ w4) (backOf (W := W) hM hZ w5 w6 hf hl) qa qc (g := g) hg hsize (Steps.refl _) (argsL := argsL) (rest := rest) hlen hstack hW hd (fun _ _ => ⟨rfl, eT, hc, hs⟩)
  dsimp only [Pt.U, Pt.locs, Pt.cells, Pt.slots] at X2 l2 y2 z2 st hQ
  subst l2 y2 z2
  exact ⟨T2, Lc, v, X2, hQ, fun t k => st.trans k⟩
theorem own_callS (X : Stand p l e R s m args below meth c T locs cells slots) (hx : p.tables.exec = Jvm.exec) (hZ : Z.Warmed39 s.vm) (eT : T.heap = h) {own : String} {index : Nat} {y : MethodName} {bytes : ByteArray} {maxL : Nat} {ret : Option FieldType} {R' : Room} {Qc : Option Value → Heap → List Loc → Prop}
    (hown : s.vm.findClass own = some m.cls) (w1 : (Jvm.Cond.methodLink own index y).before a0 Z = true) (w2 : (Jvm.Cond.static y).before a0 Z = true) (w5 : (Jvm.Cond.code y bytes maxL ret).before a0 Z = true) (w6 : (Jvm.Cond.initialized y.cls).before a0 Z = true)
    (hy : y.cls ≠ "java/lang/invoke/MethodHandle" ∧ y.cls ≠ "java/lang/invoke/VarHandle") (W : Nat) (argsL rest : List Value) (hM : own_C l y bytes maxL ret [] R' argsL.toArray Z h Qc) (hf : R'.frames + 1 ≤ R.frames) (hl : W + (maxL + 11) + R'.locals ≤ R.locals) (hc : cells + R'.cells ≤ R.cells) (hs : slots + R'.slots ≤ R.slots)
    {g : JFrame} (hg : g.method = m) (hsize : g.locals.size = c.maxLocals) (hlen : ∀ sig, parseMethodDescriptor y.desc = some sig → argsL.length = sig.parameters.length) (hstack : g.stack = argsL.reverse ++ rest) (hW : 2 * g.monitorRoom + (rest.map fun v => v.category).sum ≤ W) (hd : decode c.code g.pc = .ok (.invokestatic index, 3)) :
    ∃ (T' : State) (L : List Loc) (v : Option Value), Stand p l e R s m args below meth c T' (locs ++ L) (cells + R'.cells) (slots + R'.slots) ∧ Qc v T'.heap L ∧ ∀ target, Steps p.tables e below (T'.setTop { g with pc := g.pc + 3, stack := v.toList ++ rest }) target → Steps p.tables e below (T.setTop g) target := by
  obtain ⟨v, _, ⟨T2, L2, k2, n2⟩, -, X2, ⟨Lc, hQ, l2, y2, z2⟩, st⟩ := Jvm.LawKit.callS X hx (y := y) hown (mvT hZ w1) (mvT hZ w2) (mvT hZ w6) (mvT hZ w5) hy (backOf (W := W) hM hZ w5 w6 hf hl) (g := g) hg hsize (argsL := argsL) (rest := rest) hlen hstack hW hd (fun _ _ => ⟨rfl, eT, hc, hs⟩)
  dsimp only [Pt.U, Pt.locs, Pt.cells, Pt.slots] at X2 l2 y2 z2 st hQ
  subst l2 y2 z2
  exact ⟨T2, Lc, v, X2, hQ, st⟩
theorem own_callI (X : Stand p l e R s m args below meth c T locs cells slots) (hx : p.tables.exec = Jvm.exec) (hZ : Z.Warmed39 s.vm) (eT : T.heap = h) {own : String} {index : Nat} {y : MethodName} {bytes : ByteArray} {maxL : Nat} {R' : Room} {b : Addr} {Qc : Option Value → Heap → List Loc → Prop} (hy1 : y.name = "<init>")
    (hown : s.vm.findClass own = some m.cls) (w1 : (Jvm.Cond.methodLink own index y).before a0 Z = true) (w4 : (Jvm.Cond.instanceMethod y).before a0 Z = true) (w5 : (Jvm.Cond.code y bytes maxL none).before a0 Z = true) (w6 : (Jvm.Cond.initialized y.cls).before a0 Z = true)
    (hy : y.cls ≠ "java/lang/invoke/MethodHandle" ∧ y.cls ≠ "java/lang/invoke/VarHandle") (W : Nat) (argsL rest : List Value) (hM : own_C l y bytes maxL none [] R' (.ref b :: argsL).toArray Z h Qc) (hf : R'.frames + 1 ≤ R.frames) (hl : W + (maxL + 11) + R'.locals ≤ R.locals) (hc : cells + R'.cells ≤ R.cells) (hs : slots + R'.slots ≤ R.slots)
    {g : JFrame} (hg : g.method = m) (hsize : g.locals.size = c.maxLocals) (hlen : ∀ sig, parseMethodDescriptor y.desc = some sig → argsL.length = sig.parameters.length) (hstack : g.stack = argsL.reverse ++ .ref b :: rest) (hW : 2 * g.monitorRoom + (rest.map fun v => v.category).sum ≤ W) (hd : decode c.code g.pc = .ok (.invokespecial index, 3)) :
    ∃ (T' : State) (L : List Loc) (v : Option Value), Stand p l e R s m args below meth c T' (locs ++ L) (cells + R'.cells) (slots + R'.slots) ∧ Qc v T'.heap L ∧ ∀ target, Steps p.tables e below (T'.setTop { g with pc := g.pc + 3, stack := v.toList ++ rest }) target → Steps p.tables e below (T.setTop g) target := by
  obtain ⟨v, _, ⟨T2, L2, k2, n2⟩, -, X2, ⟨Lc, hQ, l2, y2, z2⟩, st⟩ := X.specialBack hx (y := y) hy1 hown (mvT hZ w1) (mvT hZ w4) (mvT hZ w5) hy (backOf (W := W) hM hZ w5 w6 hf hl) (g := g) hg hsize (Steps.refl _) (a := b) (argsL := argsL) (rest := rest) hlen hstack hW hd (fun _ _ => ⟨rfl, eT, hc, hs⟩)
  dsimp only [Pt.U, Pt.locs, Pt.cells, Pt.slots] at X2 l2 y2 z2 st hQ
  subst l2 y2 z2
  exact ⟨T2, Lc, v, X2, hQ, fun t k => st.trans k⟩
/-- a callee that leaves the heap alone: what it returns -/
abbrev own_Q0 (v : Option Value) (h0 : Heap) : Option Value → Heap → List Loc → Prop := fun v' h' L => v' = v ∧ h' = h0 ∧ L = []
abbrev own_R (f n : Nat) : Room := { frames := f, cells := 0, slots := 0, locals := n }
theorem own_pure {f n : Nat} {v : Option Value} {h0 : Heap} {P : State → Option Value → Prop}
    (q : ∃ (T' : State) (L : List Loc) (v' : Option Value), Stand p l e R s m args below meth c T' (locs ++ L) (cells + (own_R f n).cells) (slots + (own_R f n).slots) ∧ own_Q0 v h0 v' T'.heap L ∧ P T' v') : ∃ T', Stand p l e R s m args below meth c T' locs cells slots ∧ T'.heap = h0 ∧ P T' v := by
  obtain ⟨T', L, v', X, ⟨rfl, hh, rfl⟩, k⟩ := q
  rw [List.append_nil] at X
  exact ⟨T', X, hh, k⟩
theorem own_eqI {ar : Array Value} {first st : State} {o : Option Outcome} {idx : List Nat} {t : Term} {n : Int32} (q : (Jvm.Cond.eq t (.int n)).value ar first o st idx = some true) : t.eval ar first o idx st = some (.int n) := by
  simp only [Jvm.Cond.value, Term.eval] at q
  cases ht : t.eval ar first o idx st with
  | none => simp [ht] at q
  | some x => cases x <;> simp [ht] at q ⊢; exact q
theorem own_eqR {ar : Array Value} {first st : State} {o : Option Outcome} {idx : List Nat} {t u : Term} {b : Addr} (q : (Jvm.Cond.eq t u).value ar first o st idx = some true) (hu : u.eval ar first o idx st = some (.ref b)) : t.eval ar first o idx st = some (.ref b) := by
  cases ht : t.eval ar first o idx st with
  | none => simp [Jvm.Cond.value, ht] at q
  | some x => cases x <;> simp [Jvm.Cond.value, ht, hu] at q ⊢; exact q
theorem own_arrlen {ar : Array Value} {st : State} {t : Term} {a : Addr} {cl : Cell} {ty : FieldType} {n : Int32} (A : Arr st st.heap a cl ty) (ht : t.eval ar st none [] st = some (.ref a)) (hl : (Term.length t).eval ar st none [] st = some (.int n)) : cl.slots.size < 2 ^ 31 ∧ cl.slots.size.toInt32 = n := by
  have ha : st.arrayAt? a = some cl := Arr.fin (Vm.Alike.refl _) A
  by_cases q : cl.slots.size < 2 ^ 31
  · rw [len_f ht ha q] at hl
    exact ⟨q, Value.int.inj (Option.some.inj hl)⟩
  · simp [Term.eval, ht, ha, q] at hl
theorem own_neI {a b : Int32} (q : a ≠ b) : (Value.int a) ≠ (Value.int b) := fun z => q (Value.int.inj z)
end OwnKit
section OwnHeap
variable {p : Program} {l : Launch} {e : Env} {R : Room} {s : State} {m : MethodId} {args : Array Value} {below : List Frame} {meth : Method} {c : Code} {T : State} {locs : List Loc} {cells slots : Nat} {Z : State} {a0 : Array Value} {h h' h0 : Heap}
theorem own_extR : Ext h h := ⟨Nat.le_refl _, fun _ _ q => q⟩
theorem own_extE (A : Ext h0 h) (B : Ext h h') : Ext h0 h' := ⟨Nat.le_trans A.1 B.1, fun x c q => B.2 _ _ (A.2 _ _ q)⟩
theorem own_extW {a : Addr} {sl : Nat} {v : Value} (A : Ext h0 h) (W : Wr h h' a sl v) (q : h0.size ≤ a) : Ext h0 h' :=
  ⟨Nat.le_trans A.1 (Keep.of_wr W).1, fun x c hc => (Keep.of_wr W).2.1 x c (A.2 x c hc) fun z => by
    cases List.mem_singleton.mp z; exact absurd (Array.getElem?_eq_some_iff.mp hc).1 (Nat.not_lt.mpr q)⟩
theorem own_stR (X : Stand p l e R s m args below meth c T locs cells slots) (hx : p.tables.exec = Jvm.exec) (hZ : Z.Warmed39 s.vm) (eT : T.heap = h) {a y : Addr} {k : ClassId} {ty : FieldType} {z j : Int32} {vs : List Value} {dv : Value} {C : String} (V : Arv Z h a k ty z vs dv) (hty : ty.isReference = true) (hf : fits ty (.ref y) = true) (O : Ovr Z k C) (E : Exa Z h y C)
    (i : Nat) (hi : j.toNatClampNeg = i) (hl : i < vs.length) (hb : ¬ j < 0 ∧ j < z) (ha : s.heap.size ≤ a) {g : JFrame} (hg : g.method = m) {rest : List Value} (hs : g.stack = .ref y :: .int j :: .ref a :: rest) (hd : decode c.code g.pc = .ok (.aastore, 1)) :
    ∃ T' h', Stand p l e R s m args below meth c T' locs cells slots ∧ T'.heap = h' ∧ Wr h h' a j.toNatClampNeg (.ref y) ∧ Arv Z h' a k ty z (vs.set i (.ref y)) dv ∧ ∀ target, Steps p.tables e below (T'.setTop { g with pc := g.pc + 1, stack := rest }) target → Steps p.tables e below (T.setTop g) target := by
  obtain ⟨cl, A, q1, S, q3, H, G⟩ := V
  obtain ⟨T', h', X', e', W, st⟩ := stR X hx hZ eT A (inb_of S hb) hty (Sto.ofV A q1 O (Ins.self E)) hg hs hd
  exact ⟨T', h', X'.forget (fun y hy => by cases List.mem_singleton.mp hy; exact ha), e', W, Arv.set A q1 S q3 H G hf W i hi hl, st⟩
theorem own_stZ (X : Stand p l e R s m args below meth c T locs cells slots) (hx : p.tables.exec = Jvm.exec) (hZ : Z.Warmed39 s.vm) (eT : T.heap = h) {a : Addr} {k : ClassId} {z j x : Int32} {vs : List Value} {dv : Value} (V : Arv Z h a k .boolean z vs dv)
    (i : Nat) (hi : j.toNatClampNeg = i) (hl : i < vs.length) (hb : ¬ j < 0 ∧ j < z) (ha : s.heap.size ≤ a) {g : JFrame} (hg : g.method = m) {rest : List Value} (hs : g.stack = .int x :: .int j :: .ref a :: rest) (hd : decode c.code g.pc = .ok (.bastore, 1)) :
    ∃ T' h', Stand p l e R s m args below meth c T' locs cells slots ∧ T'.heap = h' ∧ Wr h h' a j.toNatClampNeg (.int (nar .boolean x)) ∧ Arv Z h' a k .boolean z (vs.set i (.int (nar .boolean x))) dv ∧ ∀ target, Steps p.tables e below (T'.setTop { g with pc := g.pc + 1, stack := rest }) target → Steps p.tables e below (T.setTop g) target := by
  obtain ⟨cl, A, q1, S, q3, H, G⟩ := V
  obtain ⟨T', h', X', e', W, st⟩ := stZ X hx hZ eT A (inb_of S hb) hg hs hd
  exact ⟨T', h', X'.forget (fun y hy => by cases List.mem_singleton.mp hy; exact ha), e', W, Arv.set A q1 S q3 H G (fits_nar_bool x) W i hi hl, st⟩
theorem own_stI (X : Stand p l e R s m args below meth c T locs cells slots) (hx : p.tables.exec = Jvm.exec) (hZ : Z.Warmed39 s.vm) (eT : T.heap = h) {a : Addr} {k : ClassId} {z j x : Int32} {vs : List Value} {dv : Value} (V : Arv Z h a k .int z vs dv)
    (i : Nat) (hi : j.toNatClampNeg = i) (hl : i < vs.length) (hb : ¬ j < 0 ∧ j < z) {g : JFrame} (hg : g.method = m) {rest : List Value} (hs : g.stack = .int x :: .int j :: .ref a :: rest) (hd : decode c.code g.pc = .ok (.iastore, 1)) :
    ∃ T' h', Stand p l e R s m args below meth c T' (locs ++ [⟨a, j.toNatClampNeg⟩]) cells slots ∧ T'.heap = h' ∧ Wr h h' a j.toNatClampNeg (.int x) ∧ Arv Z h' a k .int z (vs.set i (.int x)) dv ∧ ∀ target, Steps p.tables e below (T'.setTop { g with pc := g.pc + 1, stack := rest }) target → Steps p.tables e below (T.setTop g) target := by
  obtain ⟨cl, A, q1, S, q3, H, G⟩ := V
  obtain ⟨T', h', X', e', W, st⟩ := stI X hx hZ eT A (inb_of S hb) hg hs hd
  exact ⟨T', h', X', e', W, Arv.set A q1 S q3 H G rfl W i hi hl, st⟩
theorem own_ldR (X : Stand p l e R s m args below meth c T locs cells slots) (hx : p.tables.exec = Jvm.exec) (hZ : Z.Warmed39 s.vm) (eT : T.heap = h) {a : Addr} {k : ClassId} {ty : FieldType} {z j : Int32} {vs : List Value} {dv v : Value} (V : Arv Z h a k ty z vs dv) (hty : ty.isReference = true) (hb : ¬ j < 0 ∧ j < z) (hv : vs.getD j.toNatClampNeg dv = v)
    {g : JFrame} (hg : g.method = m) {rest : List Value} (hs : g.stack = .int j :: .ref a :: rest) (hd : decode c.code g.pc = .ok (.aaload, 1)) : ∀ target, Steps p.tables e below (T.setTop { g with pc := g.pc + 1, stack := v :: rest }) target → Steps p.tables e below (T.setTop g) target := by
  obtain ⟨cl, A, q1, S, q3, H, G⟩ := V
  intro t k
  exact X.aaload hx (by rw [eT]; exact A.1) (State.isArrayOf_alike hZ.alike A.2.1) hty A.2.2 (inb_of S hb) (H.at (inb_of S hb) hv) hg hs hd t k
theorem own_ldZ (X : Stand p l e R s m args below meth c T locs cells slots) (hx : p.tables.exec = Jvm.exec) (hZ : Z.Warmed39 s.vm) (eT : T.heap = h) {a : Addr} {k : ClassId} {z j : Int32} {vs : List Value} {dv v : Value} (V : Arv Z h a k .boolean z vs dv) (hb : ¬ j < 0 ∧ j < z) (hv : vs.getD j.toNatClampNeg dv = v)
    {g : JFrame} (hg : g.method = m) {rest : List Value} (hs : g.stack = .int j :: .ref a :: rest) (hd : decode c.code g.pc = .ok (.baload, 1)) : ∀ target, Steps p.tables e below (T.setTop { g with pc := g.pc + 1, stack := v :: rest }) target → Steps p.tables e below (T.setTop g) target := by
  obtain ⟨cl, A, q1, S, q3, H, G⟩ := V
  intro t k
  exact X.baloadBooleans hx (by rw [eT]; exact A.1) (State.isArrayOf_alike hZ.alike A.2.1) A.2.2 (inb_of S hb) (H.at (inb_of S hb) hv) hg hs hd t k
theorem own_ldI (X : Stand p l e R s m args below meth c T locs cells slots) (hx : p.tables.exec = Jvm.exec) (hZ : Z.Warmed39 s.vm) (eT : T.heap = h) {a : Addr} {k : ClassId} {z j : Int32} {vs : List Value} {dv v : Value} (V : Arv Z h a k .int z vs dv) (hb : ¬ j < 0 ∧ j < z) (hv : vs.getD j.toNatClampNeg dv = v)
    {g : JFrame} (hg : g.method = m) {rest : List Value} (hs : g.stack = .int j :: .ref a :: rest) (hd : decode c.code g.pc = .ok (.iaload, 1)) : ∀ target, Steps p.tables e below (T.setTop { g with pc := g.pc + 1, stack := v :: rest }) target → Steps p.tables e below (T.setTop g) target := by
  obtain ⟨cl, A, q1, S, q3, H, G⟩ := V
  intro t k
  exact X.iaload hx (by rw [eT]; exact A.1) (State.isArrayOf_alike hZ.alike A.2.1) A.2.2 (inb_of S hb) (H.at (inb_of S hb) hv) hg hs hd t k
theorem own_len (X : Stand p l e R s m args below meth c T locs cells slots) (hx : p.tables.exec = Jvm.exec) (hZ : Z.Warmed39 s.vm) (eT : T.heap = h) {a : Addr} {k : ClassId} {ty : FieldType} {z : Int32} {vs : List Value} {dv : Value} (V : Arv Z h a k ty z vs dv)
    {g : JFrame} (hg : g.method = m) {rest : List Value} (hs : g.stack = .ref a :: rest) (hd : decode c.code g.pc = .ok (.arraylength, 1)) : ∀ target, Steps p.tables e below (T.setTop { g with pc := g.pc + 1, stack := .int z :: rest }) target → Steps p.tables e below (T.setTop g) target := by
  obtain ⟨cl, A, q1, S, q3, H, G⟩ := V
  intro t k
  refine X.arraylength hx (by rw [eT]; exact A.1) (State.isArrayOf_alike hZ.alike A.2.1) hg hs hd t ?_
  rw [len_of S q3]; exact k
theorem own_extK {ws : List Addr} (A : Ext h0 h) (K : Keep h h' ws) (q : ∀ x ∈ ws, h0.size ≤ x) : Ext h0 h' :=
  ⟨Nat.le_trans A.1 K.1, fun x c hc => K.2.1 x c (A.2 x c hc) fun z => absurd (Array.getElem?_eq_some_iff.mp hc).1 (Nat.not_lt.mpr (q x z))⟩
theorem own_ltT {z k : Int32} {b : Int} (hu : z.toInt < b) (q : b ≤ k.toInt) : z < k := Int32.lt_iff_toInt_lt.mpr (by omega)
theorem own_ltF {z k : Int32} {a : Int} (hl : a ≤ z.toInt) (q : k.toInt ≤ a) : ¬ z < k := fun y => by have := Int32.lt_iff_toInt_lt.mp y; omega
theorem own_gtT {z k : Int32} {a : Int} (hl : a ≤ z.toInt) (q : k.toInt < a) : k < z := Int32.lt_iff_toInt_lt.mpr (by omega)
theorem own_gtF {z k : Int32} {b : Int} (hu : z.toInt < b) (q : b ≤ k.toInt + 1) : ¬ k < z := fun y => by have := Int32.lt_iff_toInt_lt.mp y; omega
theorem own_eqT {z k : Int32} {a b : Int} (hl : a ≤ z.toInt) (hu : z.toInt < b) (q1 : a = k.toInt) (q2 : b = k.toInt + 1) : z = k := Int32.toInt_inj.mp (by omega)
theorem own_eqL {z k : Int32} {a : Int} (hl : a ≤ z.toInt) (q : k.toInt < a) : ¬ z = k := fun y => by subst y; omega
theorem own_eqU {z k : Int32} {b : Int} (hu : z.toInt < b) (q : b ≤ k.toInt) : ¬ z = k := fun y => by subst y; omega
/-- a callee that makes cells and leaves the old ones alone -/
abbrev own_QA (v : Option Value) (h0 : Heap) (A : Heap → Prop) : Option Value → Heap → List Loc → Prop := fun v' h' L => v' = v ∧ Ext h0 h' ∧ A h' ∧ L = []
abbrev own_RC (f k n lo : Nat) : Room := { frames := f, cells := k, slots := n, locals := lo }
theorem own_grow {R' : Room} {v : Option Value} {A : Heap → Prop} {P : State → Option Value → Prop}
    (q : ∃ (T' : State) (L : List Loc) (v' : Option Value), Stand p l e R s m args below meth c T' (locs ++ L) (cells + R'.cells) (slots + R'.slots) ∧ own_QA v h A v' T'.heap L ∧ P T' v') : ∃ T' h', Stand p l e R s m args below meth c T' locs (cells + R'.cells) (slots + R'.slots) ∧ T'.heap = h' ∧ Ext h h' ∧ A h' ∧ P T' v := by
  obtain ⟨T', L, v', X, ⟨rfl, hh, hA, rfl⟩, k⟩ := q
  rw [List.append_nil] at X
  exact ⟨T', _, X, rfl, hh, hA, k⟩
end OwnHeap

theorem pd_0 : parseMethodDescriptor "()Z" = some ⟨[], some .boolean⟩ := by decide +kernel
theorem own_c11 (z : Int32) (q0 : 0 ≤ z.toInt) (q1 : z.toInt < 11) : z = (0 : Int32) ∨ z = (1 : Int32) ∨ z = (2 : Int32) ∨ z = (3 : Int32) ∨ z = (4 : Int32) ∨ z = (5 : Int32) ∨ z = (6 : Int32) ∨ z = (7 : Int32) ∨ z = (8 : Int32) ∨ z = (9 : Int32) ∨ z = (10 : Int32) := by
  simp only [← Int32.toInt_inj, show (0 : Int32).toInt = 0 from rfl, show (1 : Int32).toInt = 1 from rfl, show (2 : Int32).toInt = 2 from rfl, show (3 : Int32).toInt = 3 from rfl, show (4 : Int32).toInt = 4 from rfl, show (5 : Int32).toInt = 5 from rfl, show (6 : Int32).toInt = 6 from rfl, show (7 : Int32).toInt = 7 from rfl, show (8 : Int32).toInt = 8 from rfl, show (9 : Int32).toInt = 9 from rfl, show (10 : Int32).toInt = 10 from rfl]
  omega
theorem own_r11 (z : Int32) : (z &&& (2147483647 : Int32)) % (11 : Int32) = (0 : Int32) ∨ (z &&& (2147483647 : Int32)) % (11 : Int32) = (1 : Int32) ∨ (z &&& (2147483647 : Int32)) % (11 : Int32) = (2 : Int32) ∨ (z &&& (2147483647 : Int32)) % (11 : Int32) = (3 : Int32) ∨ (z &&& (2147483647 : Int32)) % (11 : Int32) = (4 : Int32) ∨ (z &&& (2147483647 : Int32)) % (11 : Int32) = (5 : Int32) ∨ (z &&& (2147483647 : Int32)) % (11 : Int32) = (6 : Int32) ∨ (z &&& (2147483647 : Int32)) % (11 : Int32) = (7 : Int32) ∨ (z &&& (2147483647 : Int32)) % (11 : Int32) = (8 : Int32) ∨ (z &&& (2147483647 : Int32)) % (11 : Int32) = (9 : Int32) ∨ (z &&& (2147483647 : Int32)) % (11 : Int32) = (10 : Int32) := by
  have q := c_mask z (2147483647 : Int32) 31 (by decide) (by decide)
  have r := (c_irem (z &&& (2147483647 : Int32)) (11 : Int32) 11 rfl).1 (by omega)
  exact own_c11 _ (by omega) (by omega)
def own_F (Z : State) (h : Heap) (w_LIST w_SET w_STREAM w_PAGE w_SLICE w_ONE w_OPTIONAL w_LONG w_INT w_BOOLEAN w_VOID : Addr) : Prop :=
  Sta Z h "com/example/construe/construe/ResultShape" "LIST" "Lcom/example/construe/construe/ResultShape;" (.ref w_LIST) ∧
  Exa Z h w_LIST "com/example/construe/construe/ResultShape" ∧
  Sta Z h "com/example/construe/construe/ResultShape" "SET" "Lcom/example/construe/construe/ResultShape;" (.ref w_SET) ∧
  Exa Z h w_SET "com/example/construe/construe/ResultShape" ∧
  Sta Z h "com/example/construe/construe/ResultShape" "STREAM" "Lcom/example/construe/construe/ResultShape;" (.ref w_STREAM) ∧
  Exa Z h w_STREAM "com/example/construe/construe/ResultShape" ∧
  Sta Z h "com/example/construe/construe/ResultShape" "PAGE" "Lcom/example/construe/construe/ResultShape;" (.ref w_PAGE) ∧
  Exa Z h w_PAGE "com/example/construe/construe/ResultShape" ∧
  Sta Z h "com/example/construe/construe/ResultShape" "SLICE" "Lcom/example/construe/construe/ResultShape;" (.ref w_SLICE) ∧
  Exa Z h w_SLICE "com/example/construe/construe/ResultShape" ∧
  Sta Z h "com/example/construe/construe/ResultShape" "ONE" "Lcom/example/construe/construe/ResultShape;" (.ref w_ONE) ∧
  Exa Z h w_ONE "com/example/construe/construe/ResultShape" ∧
  Sta Z h "com/example/construe/construe/ResultShape" "OPTIONAL" "Lcom/example/construe/construe/ResultShape;" (.ref w_OPTIONAL) ∧
  Exa Z h w_OPTIONAL "com/example/construe/construe/ResultShape" ∧
  Sta Z h "com/example/construe/construe/ResultShape" "LONG" "Lcom/example/construe/construe/ResultShape;" (.ref w_LONG) ∧
  Exa Z h w_LONG "com/example/construe/construe/ResultShape" ∧
  Sta Z h "com/example/construe/construe/ResultShape" "INT" "Lcom/example/construe/construe/ResultShape;" (.ref w_INT) ∧
  Exa Z h w_INT "com/example/construe/construe/ResultShape" ∧
  Sta Z h "com/example/construe/construe/ResultShape" "BOOLEAN" "Lcom/example/construe/construe/ResultShape;" (.ref w_BOOLEAN) ∧
  Exa Z h w_BOOLEAN "com/example/construe/construe/ResultShape" ∧
  Sta Z h "com/example/construe/construe/ResultShape" "VOID" "Lcom/example/construe/construe/ResultShape;" (.ref w_VOID) ∧
  Exa Z h w_VOID "com/example/construe/construe/ResultShape" ∧
  Fld Z h w_LIST "java/lang/Enum" "ordinal" "I" (.int (0 : Int32)) ∧
  Fld Z h w_LONG "java/lang/Enum" "ordinal" "I" (.int (7 : Int32)) ∧
  Fld Z h w_INT "java/lang/Enum" "ordinal" "I" (.int (8 : Int32)) ∧
  Fld Z h w_BOOLEAN "java/lang/Enum" "ordinal" "I" (.int (9 : Int32)) ∧
  Fld Z h w_VOID "java/lang/Enum" "ordinal" "I" (.int (10 : Int32)) ∧
  Fld Z h w_PAGE "java/lang/Enum" "ordinal" "I" (.int (3 : Int32)) ∧
  Fld Z h w_STREAM "java/lang/Enum" "ordinal" "I" (.int (2 : Int32)) ∧
  Fld Z h w_SET "java/lang/Enum" "ordinal" "I" (.int (1 : Int32)) ∧
  Fld Z h w_ONE "java/lang/Enum" "ordinal" "I" (.int (5 : Int32)) ∧
  Fld Z h w_OPTIONAL "java/lang/Enum" "ordinal" "I" (.int (6 : Int32)) ∧
  Fld Z h w_SLICE "java/lang/Enum" "ordinal" "I" (.int (4 : Int32))
theorem own_F_ext {Z : State} {h h' : Heap} {w_LIST w_SET w_STREAM w_PAGE w_SLICE w_ONE w_OPTIONAL w_LONG w_INT w_BOOLEAN w_VOID : Addr} (F : own_F Z h w_LIST w_SET w_STREAM w_PAGE w_SLICE w_ONE w_OPTIONAL w_LONG w_INT w_BOOLEAN w_VOID) (X : Ext h h') : own_F Z h' w_LIST w_SET w_STREAM w_PAGE w_SLICE w_ONE w_OPTIONAL w_LONG w_INT w_BOOLEAN w_VOID := by
  obtain ⟨S_LIST, E_LIST, S_SET, E_SET, S_STREAM, E_STREAM, S_PAGE, E_PAGE, S_SLICE, E_SLICE, S_ONE, E_ONE, S_OPTIONAL, E_OPTIONAL, S_LONG, E_LONG, S_INT, E_INT, S_BOOLEAN, E_BOOLEAN, S_VOID, E_VOID, F_ordinal_LIST, F_ordinal_LONG, F_ordinal_INT, F_ordinal_BOOLEAN, F_ordinal_VOID, F_ordinal_PAGE, F_ordinal_STREAM, F_ordinal_SET, F_ordinal_ONE, F_ordinal_OPTIONAL, F_ordinal_SLICE⟩ := F
  exact ⟨S_LIST.ext X, E_LIST.ext X, S_SET.ext X, E_SET.ext X, S_STREAM.ext X, E_STREAM.ext X, S_PAGE.ext X, E_PAGE.ext X, S_SLICE.ext X, E_SLICE.ext X, S_ONE.ext X, E_ONE.ext X, S_OPTIONAL.ext X, E_OPTIONAL.ext X, S_LONG.ext X, E_LONG.ext X, S_INT.ext X, E_INT.ext X, S_BOOLEAN.ext X, E_BOOLEAN.ext X, S_VOID.ext X, E_VOID.ext X, F_ordinal_LIST.ext X, F_ordinal_LONG.ext X, F_ordinal_INT.ext X, F_ordinal_BOOLEAN.ext X, F_ordinal_VOID.ext X, F_ordinal_PAGE.ext X, F_ordinal_STREAM.ext X, F_ordinal_SET.ext X, F_ordinal_ONE.ext X, F_ordinal_OPTIONAL.ext X, F_ordinal_SLICE.ext X⟩
theorem d1_0 : decode prog_90_method_6_code 0 = .ok (.aload_n 0, 1) := by decide +kernel
theorem d1_1 : decode prog_90_method_6_code 1 = .ok (.getstatic 25, 3) := by decide +kernel
theorem d1_4 : decode prog_90_method_6_code 4 = .ok (.if_acmp .eq 28, 3) := by decide +kernel
theorem d1_7 : decode prog_90_method_6_code 7 = .ok (.aload_n 0, 1) := by decide +kernel
theorem d1_8 : decode prog_90_method_6_code 8 = .ok (.getstatic 28, 3) := by decide +kernel
theorem d1_11 : decode prog_90_method_6_code 11 = .ok (.if_acmp .eq 21, 3) := by decide +kernel
theorem d1_14 : decode prog_90_method_6_code 14 = .ok (.aload_n 0, 1) := by decide +kernel
theorem d1_15 : decode prog_90_method_6_code 15 = .ok (.getstatic 31, 3) := by decide +kernel
theorem d1_18 : decode prog_90_method_6_code 18 = .ok (.if_acmp .eq 14, 3) := by decide +kernel
theorem d1_21 : decode prog_90_method_6_code 21 = .ok (.aload_n 0, 1) := by decide +kernel
theorem d1_22 : decode prog_90_method_6_code 22 = .ok (.getstatic 34, 3) := by decide +kernel
theorem d1_25 : decode prog_90_method_6_code 25 = .ok (.if_acmp .eq 7, 3) := by decide +kernel
theorem d1_28 : decode prog_90_method_6_code 28 = .ok (.iconst 1, 1) := by decide +kernel
theorem d1_29 : decode prog_90_method_6_code 29 = .ok (.goto 4, 3) := by decide +kernel
theorem d1_33 : decode prog_90_method_6_code 33 = .ok (.ireturn, 1) := by decide +kernel
set_option maxRecDepth 65536 in
set_option maxHeartbeats 40000000 in
theorem own_b1_LIST (l : Launch) (Z : State) (a0 : Array Value) (hw : ∀ d ∈ tables_1, d.before a0 Z = true) (ws : List Jvm.Cond) (w_LIST w_SET w_STREAM w_PAGE w_SLICE w_ONE w_OPTIONAL w_LONG w_INT w_BOOLEAN w_VOID : Addr) (h0 : Heap) (F : own_F Z h0 w_LIST w_SET w_STREAM w_PAGE w_SLICE w_ONE w_OPTIONAL w_LONG w_INT w_BOOLEAN w_VOID)  :
    own_C l (⟨"com/example/construe/construe/ResultShape", "holdsRows", "()Z"⟩ : MethodName) prog_90_method_6_code 1 (some .boolean) ws (own_R 0 0) #[(.ref w_LIST)] Z h0 (own_Q0 (some (.int (1 : Int32))) h0) := by
  have F0 := F
  obtain ⟨S_LIST, E_LIST, S_SET, E_SET, S_STREAM, E_STREAM, S_PAGE, E_PAGE, S_SLICE, E_SLICE, S_ONE, E_ONE, S_OPTIONAL, E_OPTIONAL, S_LONG, E_LONG, S_INT, E_INT, S_BOOLEAN, E_BOOLEAN, S_VOID, E_VOID, F_ordinal_LIST, F_ordinal_LONG, F_ordinal_INT, F_ordinal_BOOLEAN, F_ordinal_VOID, F_ordinal_PAGE, F_ordinal_STREAM, F_ordinal_SET, F_ordinal_ONE, F_ordinal_OPTIONAL, F_ordinal_SLICE⟩ := F
  refine own_enter (LS := #[rv w_LIST]) (plainFor_of_name (by first | (simp [plainName, overriddenIn, x]; done) | decide +kernel)) (fun m => by first | (simp [entryFrame, mkF, argsToLocals, Value.category, maxLocals]; done) | rfl) ?_
  intro p e s m below meth c s₁ hx hby hml hown0 hnm hret hlk hZ X0 e0 hsh
  have hown : s.vm.findClass "com/example/construe/construe/ResultShape" = some m.cls := hown0
  refine own_pre (T' := s₁) (f' := (mkF m 1 #[rv w_LIST] [(.ref w_LIST)])) (fun t k => XS.aloadN X0.here hx rfl (hb hby d1_0) rfl rfl k) ?_
  obtain ⟨T1, X1, e1, st1⟩ := getS2 X0 hx hZ hown (host := "") (Or.inl (hw _ (List.mem_of_getElem? (i := 33) rfl))) Via.refl e0 S_LONG (g := (mkF m 1 #[rv w_LIST] [(.ref w_LIST)])) rfl (hb hby d1_1)
  refine own_pre (T' := T1) (f' := (mkF m 4 #[rv w_LIST] [(.ref w_LONG), (.ref w_LIST)])) (fun t k => st1 t k) ?_
  refine own_pre (T' := T1) (f' := (mkF m 7 #[rv w_LIST] [])) (fun t k => Jvm.RoadKit.acmp (g := (mkF m 4 #[rv w_LIST] [(.ref w_LONG), (.ref w_LIST)])) X1 hx rfl rfl rfl (pc0 := 4) (pc' := 7) (same := false) rfl (hb hby d1_4) rfl (decide_eq_false fun q => (Fld.ne F_ordinal_LIST F_ordinal_LONG (own_neI (by decide))) (Value.ref.inj q)) (by decide) (by decide) k) ?_
  refine own_pre (T' := T1) (f' := (mkF m 8 #[rv w_LIST] [(.ref w_LIST)])) (fun t k => XS.aloadN X1.here hx rfl (hb hby d1_7) rfl rfl k) ?_
  obtain ⟨T2, X2, e2, st2⟩ := getS2 X1 hx hZ hown (host := "") (Or.inl (hw _ (List.mem_of_getElem? (i := 34) rfl))) Via.refl e1 S_INT (g := (mkF m 8 #[rv w_LIST] [(.ref w_LIST)])) rfl (hb hby d1_8)
  refine own_pre (T' := T2) (f' := (mkF m 11 #[rv w_LIST] [(.ref w_INT), (.ref w_LIST)])) (fun t k => st2 t k) ?_
  refine own_pre (T' := T2) (f' := (mkF m 14 #[rv w_LIST] [])) (fun t k => Jvm.RoadKit.acmp (g := (mkF m 11 #[rv w_LIST] [(.ref w_INT), (.ref w_LIST)])) X2 hx rfl rfl rfl (pc0 := 11) (pc' := 14) (same := false) rfl (hb hby d1_11) rfl (decide_eq_false fun q => (Fld.ne F_ordinal_LIST F_ordinal_INT (own_neI (by decide))) (Value.ref.inj q)) (by decide) (by decide) k) ?_
  refine own_pre (T' := T2) (f' := (mkF m 15 #[rv w_LIST] [(.ref w_LIST)])) (fun t k => XS.aloadN X2.here hx rfl (hb hby d1_14) rfl rfl k) ?_
  obtain ⟨T3, X3, e3, st3⟩ := getS2 X2 hx hZ hown (host := "") (Or.inl (hw _ (List.mem_of_getElem? (i := 35) rfl))) Via.refl e2 S_BOOLEAN (g := (mkF m 15 #[rv w_LIST] [(.ref w_LIST)])) rfl (hb hby d1_15)
  refine own_pre (T' := T3) (f' := (mkF m 18 #[rv w_LIST] [(.ref w_BOOLEAN), (.ref w_LIST)])) (fun t k => st3 t k) ?_
  refine own_pre (T' := T3) (f' := (mkF m 21 #[rv w_LIST] [])) (fun t k => Jvm.RoadKit.acmp (g := (mkF m 18 #[rv w_LIST] [(.ref w_BOOLEAN), (.ref w_LIST)])) X3 hx rfl rfl rfl (pc0 := 18) (pc' := 21) (same := false) rfl (hb hby d1_18) rfl (decide_eq_false fun q => (Fld.ne F_ordinal_LIST F_ordinal_BOOLEAN (own_neI (by decide))) (Value.ref.inj q)) (by decide) (by decide) k) ?_
  refine own_pre (T' := T3) (f' := (mkF m 22 #[rv w_LIST] [(.ref w_LIST)])) (fun t k => XS.aloadN X3.here hx rfl (hb hby d1_21) rfl rfl k) ?_
  obtain ⟨T4, X4, e4, st4⟩ := getS2 X3 hx hZ hown (host := "") (Or.inl (hw _ (List.mem_of_getElem? (i := 36) rfl))) Via.refl e3 S_VOID (g := (mkF m 22 #[rv w_LIST] [(.ref w_LIST)])) rfl (hb hby d1_22)
  refine own_pre (T' := T4) (f' := (mkF m 25 #[rv w_LIST] [(.ref w_VOID), (.ref w_LIST)])) (fun t k => st4 t k) ?_
  refine own_pre (T' := T4) (f' := (mkF m 28 #[rv w_LIST] [])) (fun t k => Jvm.RoadKit.acmp (g := (mkF m 25 #[rv w_LIST] [(.ref w_VOID), (.ref w_LIST)])) X4 hx rfl rfl rfl (pc0 := 25) (pc' := 28) (same := false) rfl (hb hby d1_25) rfl (decide_eq_false fun q => (Fld.ne F_ordinal_LIST F_ordinal_VOID (own_neI (by decide))) (Value.ref.inj q)) (by decide) (by decide) k) ?_
  refine own_pre (T' := T4) (f' := (mkF m 29 #[rv w_LIST] [(.int (1 : Int32))])) (fun t k => XS.iconst X4.here hx rfl (hb hby d1_28) k) ?_
  refine own_pre (T' := T4) (f' := (mkF m 33 #[rv w_LIST] [(.int (1 : Int32))])) (fun t k => XS.goto X4.here hx rfl (pc0 := 29) (pc' := 33) rfl (hb hby d1_29) (by decide) (by decide) k) ?_
  exact own_retZ X4 hx hlk hret (hb hby d1_33) rfl (⟨rfl, e4, rfl⟩) (by decide) (by decide)
set_option maxRecDepth 65536 in
set_option maxHeartbeats 40000000 in
theorem own_b1_SET (l : Launch) (Z : State) (a0 : Array Value) (hw : ∀ d ∈ tables_1, d.before a0 Z = true) (ws : List Jvm.Cond) (w_LIST w_SET w_STREAM w_PAGE w_SLICE w_ONE w_OPTIONAL w_LONG w_INT w_BOOLEAN w_VOID : Addr) (h0 : Heap) (F : own_F Z h0 w_LIST w_SET w_STREAM w_PAGE w_SLICE w_ONE w_OPTIONAL w_LONG w_INT w_BOOLEAN w_VOID)  :
    own_C l (⟨"com/example/construe/construe/ResultShape", "holdsRows", "()Z"⟩ : MethodName) prog_90_method_6_code 1 (some .boolean) ws (own_R 0 0) #[(.ref w_SET)] Z h0 (own_Q0 (some (.int (1 : Int32))) h0) := by
  have F0 := F
  obtain ⟨S_LIST, E_LIST, S_SET, E_SET, S_STREAM, E_STREAM, S_PAGE, E_PAGE, S_SLICE, E_SLICE, S_ONE, E_ONE, S_OPTIONAL, E_OPTIONAL, S_LONG, E_LONG, S_INT, E_INT, S_BOOLEAN, E_BOOLEAN, S_VOID, E_VOID, F_ordinal_LIST, F_ordinal_LONG, F_ordinal_INT, F_ordinal_BOOLEAN, F_ordinal_VOID, F_ordinal_PAGE, F_ordinal_STREAM, F_ordinal_SET, F_ordinal_ONE, F_ordinal_OPTIONAL, F_ordinal_SLICE⟩ := F
  refine own_enter (LS := #[rv w_SET]) (plainFor_of_name (by first | (simp [plainName, overriddenIn, x]; done) | decide +kernel)) (fun m => by first | (simp [entryFrame, mkF, argsToLocals, Value.category, maxLocals]; done) | rfl) ?_
  intro p e s m below meth c s₁ hx hby hml hown0 hnm hret hlk hZ X0 e0 hsh
  have hown : s.vm.findClass "com/example/construe/construe/ResultShape" = some m.cls := hown0
  refine own_pre (T' := s₁) (f' := (mkF m 1 #[rv w_SET] [(.ref w_SET)])) (fun t k => XS.aloadN X0.here hx rfl (hb hby d1_0) rfl rfl k) ?_
  obtain ⟨T1, X1, e1, st1⟩ := getS2 X0 hx hZ hown (host := "") (Or.inl (hw _ (List.mem_of_getElem? (i := 33) rfl))) Via.refl e0 S_LONG (g := (mkF m 1 #[rv w_SET] [(.ref w_SET)])) rfl (hb hby d1_1)
  refine own_pre (T' := T1) (f' := (mkF m 4 #[rv w_SET] [(.ref w_LONG), (.ref w_SET)])) (fun t k => st1 t k) ?_
  refine own_pre (T' := T1) (f' := (mkF m 7 #[rv w_SET] [])) (fun t k => Jvm.RoadKit.acmp (g := (mkF m 4 #[rv w_SET] [(.ref w_LONG), (.ref w_SET)])) X1 hx rfl rfl rfl (pc0 := 4) (pc' := 7) (same := false) rfl (hb hby d1_4) rfl (decide_eq_false fun q => (Fld.ne F_ordinal_SET F_ordinal_LONG (own_neI (by decide))) (Value.ref.inj q)) (by decide) (by decide) k) ?_
  refine own_pre (T' := T1) (f' := (mkF m 8 #[rv w_SET] [(.ref w_SET)])) (fun t k => XS.aloadN X1.here hx rfl (hb hby d1_7) rfl rfl k) ?_
  obtain ⟨T2, X2, e2, st2⟩ := getS2 X1 hx hZ hown (host := "") (Or.inl (hw _ (List.mem_of_getElem? (i := 34) rfl))) Via.refl e1 S_INT (g := (mkF m 8 #[rv w_SET] [(.ref w_SET)])) rfl (hb hby d1_8)
  refine own_pre (T' := T2) (f' := (mkF m 11 #[rv w_SET] [(.ref w_INT), (.ref w_SET)])) (fun t k => st2 t k) ?_
  refine own_pre (T' := T2) (f' := (mkF m 14 #[rv w_SET] [])) (fun t k => Jvm.RoadKit.acmp (g := (mkF m 11 #[rv w_SET] [(.ref w_INT), (.ref w_SET)])) X2 hx rfl rfl rfl (pc0 := 11) (pc' := 14) (same := false) rfl (hb hby d1_11) rfl (decide_eq_false fun q => (Fld.ne F_ordinal_SET F_ordinal_INT (own_neI (by decide))) (Value.ref.inj q)) (by decide) (by decide) k) ?_
  refine own_pre (T' := T2) (f' := (mkF m 15 #[rv w_SET] [(.ref w_SET)])) (fun t k => XS.aloadN X2.here hx rfl (hb hby d1_14) rfl rfl k) ?_
  obtain ⟨T3, X3, e3, st3⟩ := getS2 X2 hx hZ hown (host := "") (Or.inl (hw _ (List.mem_of_getElem? (i := 35) rfl))) Via.refl e2 S_BOOLEAN (g := (mkF m 15 #[rv w_SET] [(.ref w_SET)])) rfl (hb hby d1_15)
  refine own_pre (T' := T3) (f' := (mkF m 18 #[rv w_SET] [(.ref w_BOOLEAN), (.ref w_SET)])) (fun t k => st3 t k) ?_
  refine own_pre (T' := T3) (f' := (mkF m 21 #[rv w_SET] [])) (fun t k => Jvm.RoadKit.acmp (g := (mkF m 18 #[rv w_SET] [(.ref w_BOOLEAN), (.ref w_SET)])) X3 hx rfl rfl rfl (pc0 := 18) (pc' := 21) (same := false) rfl (hb hby d1_18) rfl (decide_eq_false fun q => (Fld.ne F_ordinal_SET F_ordinal_BOOLEAN (own_neI (by decide))) (Value.ref.inj q)) (by decide) (by decide) k) ?_
  refine own_pre (T' := T3) (f' := (mkF m 22 #[rv w_SET] [(.ref w_SET)])) (fun t k => XS.aloadN X3.here hx rfl (hb hby d1_21) rfl rfl k) ?_
  obtain ⟨T4, X4, e4, st4⟩ := getS2 X3 hx hZ hown (host := "") (Or.inl (hw _ (List.mem_of_getElem? (i := 36) rfl))) Via.refl e3 S_VOID (g := (mkF m 22 #[rv w_SET] [(.ref w_SET)])) rfl (hb hby d1_22)
  refine own_pre (T' := T4) (f' := (mkF m 25 #[rv w_SET] [(.ref w_VOID), (.ref w_SET)])) (fun t k => st4 t k) ?_
  refine own_pre (T' := T4) (f' := (mkF m 28 #[rv w_SET] [])) (fun t k => Jvm.RoadKit.acmp (g := (mkF m 25 #[rv w_SET] [(.ref w_VOID), (.ref w_SET)])) X4 hx rfl rfl rfl (pc0 := 25) (pc' := 28) (same := false) rfl (hb hby d1_25) rfl (decide_eq_false fun q => (Fld.ne F_ordinal_SET F_ordinal_VOID (own_neI (by decide))) (Value.ref.inj q)) (by decide) (by decide) k) ?_
  refine own_pre (T' := T4) (f' := (mkF m 29 #[rv w_SET] [(.int (1 : Int32))])) (fun t k => XS.iconst X4.here hx rfl (hb hby d1_28) k) ?_
  refine own_pre (T' := T4) (f' := (mkF m 33 #[rv w_SET] [(.int (1 : Int32))])) (fun t k => XS.goto X4.here hx rfl (pc0 := 29) (pc' := 33) rfl (hb hby d1_29) (by decide) (by decide) k) ?_
  exact own_retZ X4 hx hlk hret (hb hby d1_33) rfl (⟨rfl, e4, rfl⟩) (by decide) (by decide)
set_option maxRecDepth 65536 in
set_option maxHeartbeats 40000000 in
theorem own_b1_STREAM (l : Launch) (Z : State) (a0 : Array Value) (hw : ∀ d ∈ tables_1, d.before a0 Z = true) (ws : List Jvm.Cond) (w_LIST w_SET w_STREAM w_PAGE w_SLICE w_ONE w_OPTIONAL w_LONG w_INT w_BOOLEAN w_VOID : Addr) (h0 : Heap) (F : own_F Z h0 w_LIST w_SET w_STREAM w_PAGE w_SLICE w_ONE w_OPTIONAL w_LONG w_INT w_BOOLEAN w_VOID)  :
    own_C l (⟨"com/example/construe/construe/ResultShape", "holdsRows", "()Z"⟩ : MethodName) prog_90_method_6_code 1 (some .boolean) ws (own_R 0 0) #[(.ref w_STREAM)] Z h0 (own_Q0 (some (.int (1 : Int32))) h0) := by
  have F0 := F
  obtain ⟨S_LIST, E_LIST, S_SET, E_SET, S_STREAM, E_STREAM, S_PAGE, E_PAGE, S_SLICE, E_SLICE, S_ONE, E_ONE, S_OPTIONAL, E_OPTIONAL, S_LONG, E_LONG, S_INT, E_INT, S_BOOLEAN, E_BOOLEAN, S_VOID, E_VOID, F_ordinal_LIST, F_ordinal_LONG, F_ordinal_INT, F_ordinal_BOOLEAN, F_ordinal_VOID, F_ordinal_PAGE, F_ordinal_STREAM, F_ordinal_SET, F_ordinal_ONE, F_ordinal_OPTIONAL, F_ordinal_SLICE⟩ := F
  refine own_enter (LS := #[rv w_STREAM]) (plainFor_of_name (by first | (simp [plainName, overriddenIn, x]; done) | decide +kernel)) (fun m => by first | (simp [entryFrame, mkF, argsToLocals, Value.category, maxLocals]; done) | rfl) ?_
  intro p e s m below meth c s₁ hx hby hml hown0 hnm hret hlk hZ X0 e0 hsh
  have hown : s.vm.findClass "com/example/construe/construe/ResultShape" = some m.cls := hown0
  refine own_pre (T' := s₁) (f' := (mkF m 1 #[rv w_STREAM] [(.ref w_STREAM)])) (fun t k => XS.aloadN X0.here hx rfl (hb hby d1_0) rfl rfl k) ?_
  obtain ⟨T1, X1, e1, st1⟩ := getS2 X0 hx hZ hown (host := "") (Or.inl (hw _ (List.mem_of_getElem? (i := 33) rfl))) Via.refl e0 S_LONG (g := (mkF m 1 #[rv w_STREAM] [(.ref w_STREAM)])) rfl (hb hby d1_1)
  refine own_pre (T' := T1) (f' := (mkF m 4 #[rv w_STREAM] [(.ref w_LONG), (.ref w_STREAM)])) (fun t k => st1 t k) ?_
  refine own_pre (T' := T1) (f' := (mkF m 7 #[rv w_STREAM] [])) (fun t k => Jvm.RoadKit.acmp (g := (mkF m 4 #[rv w_STREAM] [(.ref w_LONG), (.ref w_STREAM)])) X1 hx rfl rfl rfl (pc0 := 4) (pc' := 7) (same := false) rfl (hb hby d1_4) rfl (decide_eq_false fun q => (Fld.ne F_ordinal_STREAM F_ordinal_LONG (own_neI (by decide))) (Value.ref.inj q)) (by decide) (by decide) k) ?_
  refine own_pre (T' := T1) (f' := (mkF m 8 #[rv w_STREAM] [(.ref w_STREAM)])) (fun t k => XS.aloadN X1.here hx rfl (hb hby d1_7) rfl rfl k) ?_
  obtain ⟨T2, X2, e2, st2⟩ := getS2 X1 hx hZ hown (host := "") (Or.inl (hw _ (List.mem_of_getElem? (i := 34) rfl))) Via.refl e1 S_INT (g := (mkF m 8 #[rv w_STREAM] [(.ref w_STREAM)])) rfl (hb hby d1_8)
  refine own_pre (T' := T2) (f' := (mkF m 11 #[rv w_STREAM] [(.ref w_INT), (.ref w_STREAM)])) (fun t k => st2 t k) ?_
  refine own_pre (T' := T2) (f' := (mkF m 14 #[rv w_STREAM] [])) (fun t k => Jvm.RoadKit.acmp (g := (mkF m 11 #[rv w_STREAM] [(.ref w_INT), (.ref w_STREAM)])) X2 hx rfl rfl rfl (pc0 := 11) (pc' := 14) (same := false) rfl (hb hby d1_11) rfl (decide_eq_false fun q => (Fld.ne F_ordinal_STREAM F_ordinal_INT (own_neI (by decide))) (Value.ref.inj q)) (by decide) (by decide) k) ?_
  refine own_pre (T' := T2) (f' := (mkF m 15 #[rv w_STREAM] [(.ref w_STREAM)])) (fun t k => XS.aloadN X2.here hx rfl (hb hby d1_14) rfl rfl k) ?_
  obtain ⟨T3, X3, e3, st3⟩ := getS2 X2 hx hZ hown (host := "") (Or.inl (hw _ (List.mem_of_getElem? (i := 35) rfl))) Via.refl e2 S_BOOLEAN (g := (mkF m 15 #[rv w_STREAM] [(.ref w_STREAM)])) rfl (hb hby d1_15)
  refine own_pre (T' := T3) (f' := (mkF m 18 #[rv w_STREAM] [(.ref w_BOOLEAN), (.ref w_STREAM)])) (fun t k => st3 t k) ?_
  refine own_pre (T' := T3) (f' := (mkF m 21 #[rv w_STREAM] [])) (fun t k => Jvm.RoadKit.acmp (g := (mkF m 18 #[rv w_STREAM] [(.ref w_BOOLEAN), (.ref w_STREAM)])) X3 hx rfl rfl rfl (pc0 := 18) (pc' := 21) (same := false) rfl (hb hby d1_18) rfl (decide_eq_false fun q => (Fld.ne F_ordinal_STREAM F_ordinal_BOOLEAN (own_neI (by decide))) (Value.ref.inj q)) (by decide) (by decide) k) ?_
  refine own_pre (T' := T3) (f' := (mkF m 22 #[rv w_STREAM] [(.ref w_STREAM)])) (fun t k => XS.aloadN X3.here hx rfl (hb hby d1_21) rfl rfl k) ?_
  obtain ⟨T4, X4, e4, st4⟩ := getS2 X3 hx hZ hown (host := "") (Or.inl (hw _ (List.mem_of_getElem? (i := 36) rfl))) Via.refl e3 S_VOID (g := (mkF m 22 #[rv w_STREAM] [(.ref w_STREAM)])) rfl (hb hby d1_22)
  refine own_pre (T' := T4) (f' := (mkF m 25 #[rv w_STREAM] [(.ref w_VOID), (.ref w_STREAM)])) (fun t k => st4 t k) ?_
  refine own_pre (T' := T4) (f' := (mkF m 28 #[rv w_STREAM] [])) (fun t k => Jvm.RoadKit.acmp (g := (mkF m 25 #[rv w_STREAM] [(.ref w_VOID), (.ref w_STREAM)])) X4 hx rfl rfl rfl (pc0 := 25) (pc' := 28) (same := false) rfl (hb hby d1_25) rfl (decide_eq_false fun q => (Fld.ne F_ordinal_STREAM F_ordinal_VOID (own_neI (by decide))) (Value.ref.inj q)) (by decide) (by decide) k) ?_
  refine own_pre (T' := T4) (f' := (mkF m 29 #[rv w_STREAM] [(.int (1 : Int32))])) (fun t k => XS.iconst X4.here hx rfl (hb hby d1_28) k) ?_
  refine own_pre (T' := T4) (f' := (mkF m 33 #[rv w_STREAM] [(.int (1 : Int32))])) (fun t k => XS.goto X4.here hx rfl (pc0 := 29) (pc' := 33) rfl (hb hby d1_29) (by decide) (by decide) k) ?_
  exact own_retZ X4 hx hlk hret (hb hby d1_33) rfl (⟨rfl, e4, rfl⟩) (by decide) (by decide)
set_option maxRecDepth 65536 in
set_option maxHeartbeats 40000000 in
theorem own_b1_PAGE (l : Launch) (Z : State) (a0 : Array Value) (hw : ∀ d ∈ tables_1, d.before a0 Z = true) (ws : List Jvm.Cond) (w_LIST w_SET w_STREAM w_PAGE w_SLICE w_ONE w_OPTIONAL w_LONG w_INT w_BOOLEAN w_VOID : Addr) (h0 : Heap) (F : own_F Z h0 w_LIST w_SET w_STREAM w_PAGE w_SLICE w_ONE w_OPTIONAL w_LONG w_INT w_BOOLEAN w_VOID)  :
    own_C l (⟨"com/example/construe/construe/ResultShape", "holdsRows", "()Z"⟩ : MethodName) prog_90_method_6_code 1 (some .boolean) ws (own_R 0 0) #[(.ref w_PAGE)] Z h0 (own_Q0 (some (.int (1 : Int32))) h0) := by
  have F0 := F
  obtain ⟨S_LIST, E_LIST, S_SET, E_SET, S_STREAM, E_STREAM, S_PAGE, E_PAGE, S_SLICE, E_SLICE, S_ONE, E_ONE, S_OPTIONAL, E_OPTIONAL, S_LONG, E_LONG, S_INT, E_INT, S_BOOLEAN, E_BOOLEAN, S_VOID, E_VOID, F_ordinal_LIST, F_ordinal_LONG, F_ordinal_INT, F_ordinal_BOOLEAN, F_ordinal_VOID, F_ordinal_PAGE, F_ordinal_STREAM, F_ordinal_SET, F_ordinal_ONE, F_ordinal_OPTIONAL, F_ordinal_SLICE⟩ := F
  refine own_enter (LS := #[rv w_PAGE]) (plainFor_of_name (by first | (simp [plainName, overriddenIn, x]; done) | decide +kernel)) (fun m => by first | (simp [entryFrame, mkF, argsToLocals, Value.category, maxLocals]; done) | rfl) ?_
  intro p e s m below meth c s₁ hx hby hml hown0 hnm hret hlk hZ X0 e0 hsh
  have hown : s.vm.findClass "com/example/construe/construe/ResultShape" = some m.cls := hown0
  refine own_pre (T' := s₁) (f' := (mkF m 1 #[rv w_PAGE] [(.ref w_PAGE)])) (fun t k => XS.aloadN X0.here hx rfl (hb hby d1_0) rfl rfl k) ?_
  obtain ⟨T1, X1, e1, st1⟩ := getS2 X0 hx hZ hown (host := "") (Or.inl (hw _ (List.mem_of_getElem? (i := 33) rfl))) Via.refl e0 S_LONG (g := (mkF m 1 #[rv w_PAGE] [(.ref w_PAGE)])) rfl (hb hby d1_1)
  refine own_pre (T' := T1) (f' := (mkF m 4 #[rv w_PAGE] [(.ref w_LONG), (.ref w_PAGE)])) (fun t k => st1 t k) ?_
  refine own_pre (T' := T1) (f' := (mkF m 7 #[rv w_PAGE] [])) (fun t k => Jvm.RoadKit.acmp (g := (mkF m 4 #[rv w_PAGE] [(.ref w_LONG), (.ref w_PAGE)])) X1 hx rfl rfl rfl (pc0 := 4) (pc' := 7) (same := false) rfl (hb hby d1_4) rfl (decide_eq_false fun q => (Fld.ne F_ordinal_PAGE F_ordinal_LONG (own_neI (by decide))) (Value.ref.inj q)) (by decide) (by decide) k) ?_
  refine own_pre (T' := T1) (f' := (mkF m 8 #[rv w_PAGE] [(.ref w_PAGE)])) (fun t k => XS.aloadN X1.here hx rfl (hb hby d1_7) rfl rfl k) ?_
  obtain ⟨T2, X2, e2, st2⟩ := getS2 X1 hx hZ hown (host := "") (Or.inl (hw _ (List.mem_of_getElem? (i := 34) rfl))) Via.refl e1 S_INT (g := (mkF m 8 #[rv w_PAGE] [(.ref w_PAGE)])) rfl (hb hby d1_8)
  refine own_pre (T' := T2) (f' := (mkF m 11 #[rv w_PAGE] [(.ref w_INT), (.ref w_PAGE)])) (fun t k => st2 t k) ?_
  refine own_pre (T' := T2) (f' := (mkF m 14 #[rv w_PAGE] [])) (fun t k => Jvm.RoadKit.acmp (g := (mkF m 11 #[rv w_PAGE] [(.ref w_INT), (.ref w_PAGE)])) X2 hx rfl rfl rfl (pc0 := 11) (pc' := 14) (same := false) rfl (hb hby d1_11) rfl (decide_eq_false fun q => (Fld.ne F_ordinal_PAGE F_ordinal_INT (own_neI (by decide))) (Value.ref.inj q)) (by decide) (by decide) k) ?_
  refine own_pre (T' := T2) (f' := (mkF m 15 #[rv w_PAGE] [(.ref w_PAGE)])) (fun t k => XS.aloadN X2.here hx rfl (hb hby d1_14) rfl rfl k) ?_
  obtain ⟨T3, X3, e3, st3⟩ := getS2 X2 hx hZ hown (host := "") (Or.inl (hw _ (List.mem_of_getElem? (i := 35) rfl))) Via.refl e2 S_BOOLEAN (g := (mkF m 15 #[rv w_PAGE] [(.ref w_PAGE)])) rfl (hb hby d1_15)
  refine own_pre (T' := T3) (f' := (mkF m 18 #[rv w_PAGE] [(.ref w_BOOLEAN), (.ref w_PAGE)])) (fun t k => st3 t k) ?_
  refine own_pre (T' := T3) (f' := (mkF m 21 #[rv w_PAGE] [])) (fun t k => Jvm.RoadKit.acmp (g := (mkF m 18 #[rv w_PAGE] [(.ref w_BOOLEAN), (.ref w_PAGE)])) X3 hx rfl rfl rfl (pc0 := 18) (pc' := 21) (same := false) rfl (hb hby d1_18) rfl (decide_eq_false fun q => (Fld.ne F_ordinal_PAGE F_ordinal_BOOLEAN (own_neI (by decide))) (Value.ref.inj q)) (by decide) (by decide) k) ?_
  refine own_pre (T' := T3) (f' := (mkF m 22 #[rv w_PAGE] [(.ref w_PAGE)])) (fun t k => XS.aloadN X3.here hx rfl (hb hby d1_21) rfl rfl k) ?_
  obtain ⟨T4, X4, e4, st4⟩ := getS2 X3 hx hZ hown (host := "") (Or.inl (hw _ (List.mem_of_getElem? (i := 36) rfl))) Via.refl e3 S_VOID (g := (mkF m 22 #[rv w_PAGE] [(.ref w_PAGE)])) rfl (hb hby d1_22)
  refine own_pre (T' := T4) (f' := (mkF m 25 #[rv w_PAGE] [(.ref w_VOID), (.ref w_PAGE)])) (fun t k => st4 t k) ?_
  refine own_pre (T' := T4) (f' := (mkF m 28 #[rv w_PAGE] [])) (fun t k => Jvm.RoadKit.acmp (g := (mkF m 25 #[rv w_PAGE] [(.ref w_VOID), (.ref w_PAGE)])) X4 hx rfl rfl rfl (pc0 := 25) (pc' := 28) (same := false) rfl (hb hby d1_25) rfl (decide_eq_false fun q => (Fld.ne F_ordinal_PAGE F_ordinal_VOID (own_neI (by decide))) (Value.ref.inj q)) (by decide) (by decide) k) ?_
  refine own_pre (T' := T4) (f' := (mkF m 29 #[rv w_PAGE] [(.int (1 : Int32))])) (fun t k => XS.iconst X4.here hx rfl (hb hby d1_28) k) ?_
  refine own_pre (T' := T4) (f' := (mkF m 33 #[rv w_PAGE] [(.int (1 : Int32))])) (fun t k => XS.goto X4.here hx rfl (pc0 := 29) (pc' := 33) rfl (hb hby d1_29) (by decide) (by decide) k) ?_
  exact own_retZ X4 hx hlk hret (hb hby d1_33) rfl (⟨rfl, e4, rfl⟩) (by decide) (by decide)
set_option maxRecDepth 65536 in
set_option maxHeartbeats 40000000 in
theorem own_b1_SLICE (l : Launch) (Z : State) (a0 : Array Value) (hw : ∀ d ∈ tables_1, d.before a0 Z = true) (ws : List Jvm.Cond) (w_LIST w_SET w_STREAM w_PAGE w_SLICE w_ONE w_OPTIONAL w_LONG w_INT w_BOOLEAN w_VOID : Addr) (h0 : Heap) (F : own_F Z h0 w_LIST w_SET w_STREAM w_PAGE w_SLICE w_ONE w_OPTIONAL w_LONG w_INT w_BOOLEAN w_VOID)  :
    own_C l (⟨"com/example/construe/construe/ResultShape", "holdsRows", "()Z"⟩ : MethodName) prog_90_method_6_code 1 (some .boolean) ws (own_R 0 0) #[(.ref w_SLICE)] Z h0 (own_Q0 (some (.int (1 : Int32))) h0) := by
  have F0 := F
  obtain ⟨S_LIST, E_LIST, S_SET, E_SET, S_STREAM, E_STREAM, S_PAGE, E_PAGE, S_SLICE, E_SLICE, S_ONE, E_ONE, S_OPTIONAL, E_OPTIONAL, S_LONG, E_LONG, S_INT, E_INT, S_BOOLEAN, E_BOOLEAN, S_VOID, E_VOID, F_ordinal_LIST, F_ordinal_LONG, F_ordinal_INT, F_ordinal_BOOLEAN, F_ordinal_VOID, F_ordinal_PAGE, F_ordinal_STREAM, F_ordinal_SET, F_ordinal_ONE, F_ordinal_OPTIONAL, F_ordinal_SLICE⟩ := F
  refine own_enter (LS := #[rv w_SLICE]) (plainFor_of_name (by first | (simp [plainName, overriddenIn, x]; done) | decide +kernel)) (fun m => by first | (simp [entryFrame, mkF, argsToLocals, Value.category, maxLocals]; done) | rfl) ?_
  intro p e s m below meth c s₁ hx hby hml hown0 hnm hret hlk hZ X0 e0 hsh
  have hown : s.vm.findClass "com/example/construe/construe/ResultShape" = some m.cls := hown0
  refine own_pre (T' := s₁) (f' := (mkF m 1 #[rv w_SLICE] [(.ref w_SLICE)])) (fun t k => XS.aloadN X0.here hx rfl (hb hby d1_0) rfl rfl k) ?_
  obtain ⟨T1, X1, e1, st1⟩ := getS2 X0 hx hZ hown (host := "") (Or.inl (hw _ (List.mem_of_getElem? (i := 33) rfl))) Via.refl e0 S_LONG (g := (mkF m 1 #[rv w_SLICE] [(.ref w_SLICE)])) rfl (hb hby d1_1)
  refine own_pre (T' := T1) (f' := (mkF m 4 #[rv w_SLICE] [(.ref w_LONG), (.ref w_SLICE)])) (fun t k => st1 t k) ?_
  refine own_pre (T' := T1) (f' := (mkF m 7 #[rv w_SLICE] [])) (fun t k => Jvm.RoadKit.acmp (g := (mkF m 4 #[rv w_SLICE] [(.ref w_LONG), (.ref w_SLICE)])) X1 hx rfl rfl rfl (pc0 := 4) (pc' := 7) (same := false) rfl (hb hby d1_4) rfl (decide_eq_false fun q => (Fld.ne F_ordinal_SLICE F_ordinal_LONG (own_neI (by decide))) (Value.ref.inj q)) (by decide) (by decide) k) ?_
  refine own_pre (T' := T1) (f' := (mkF m 8 #[rv w_SLICE] [(.ref w_SLICE)])) (fun t k => XS.aloadN X1.here hx rfl (hb hby d1_7) rfl rfl k) ?_
  obtain ⟨T2, X2, e2, st2⟩ := getS2 X1 hx hZ hown (host := "") (Or.inl (hw _ (List.mem_of_getElem? (i := 34) rfl))) Via.refl e1 S_INT (g := (mkF m 8 #[rv w_SLICE] [(.ref w_SLICE)])) rfl (hb hby d1_8)
  refine own_pre (T' := T2) (f' := (mkF m 11 #[rv w_SLICE] [(.ref w_INT), (.ref w_SLICE)])) (fun t k => st2 t k) ?_
  refine own_pre (T' := T2) (f' := (mkF m 14 #[rv w_SLICE] [])) (fun t k => Jvm.RoadKit.acmp (g := (mkF m 11 #[rv w_SLICE] [(.ref w_INT), (.ref w_SLICE)])) X2 hx rfl rfl rfl (pc0 := 11) (pc' := 14) (same := false) rfl (hb hby d1_11) rfl (decide_eq_false fun q => (Fld.ne F_ordinal_SLICE F_ordinal_INT (own_neI (by decide))) (Value.ref.inj q)) (by decide) (by decide) k) ?_
  refine own_pre (T' := T2) (f' := (mkF m 15 #[rv w_SLICE] [(.ref w_SLICE)])) (fun t k => XS.aloadN X2.here hx rfl (hb hby d1_14) rfl rfl k) ?_
  obtain ⟨T3, X3, e3, st3⟩ := getS2 X2 hx hZ hown (host := "") (Or.inl (hw _ (List.mem_of_getElem? (i := 35) rfl))) Via.refl e2 S_BOOLEAN (g := (mkF m 15 #[rv w_SLICE] [(.ref w_SLICE)])) rfl (hb hby d1_15)
  refine own_pre (T' := T3) (f' := (mkF m 18 #[rv w_SLICE] [(.ref w_BOOLEAN), (.ref w_SLICE)])) (fun t k => st3 t k) ?_
  refine own_pre (T' := T3) (f' := (mkF m 21 #[rv w_SLICE] [])) (fun t k => Jvm.RoadKit.acmp (g := (mkF m 18 #[rv w_SLICE] [(.ref w_BOOLEAN), (.ref w_SLICE)])) X3 hx rfl rfl rfl (pc0 := 18) (pc' := 21) (same := false) rfl (hb hby d1_18) rfl (decide_eq_false fun q => (Fld.ne F_ordinal_SLICE F_ordinal_BOOLEAN (own_neI (by decide))) (Value.ref.inj q)) (by decide) (by decide) k) ?_
  refine own_pre (T' := T3) (f' := (mkF m 22 #[rv w_SLICE] [(.ref w_SLICE)])) (fun t k => XS.aloadN X3.here hx rfl (hb hby d1_21) rfl rfl k) ?_
  obtain ⟨T4, X4, e4, st4⟩ := getS2 X3 hx hZ hown (host := "") (Or.inl (hw _ (List.mem_of_getElem? (i := 36) rfl))) Via.refl e3 S_VOID (g := (mkF m 22 #[rv w_SLICE] [(.ref w_SLICE)])) rfl (hb hby d1_22)
  refine own_pre (T' := T4) (f' := (mkF m 25 #[rv w_SLICE] [(.ref w_VOID), (.ref w_SLICE)])) (fun t k => st4 t k) ?_
  refine own_pre (T' := T4) (f' := (mkF m 28 #[rv w_SLICE] [])) (fun t k => Jvm.RoadKit.acmp (g := (mkF m 25 #[rv w_SLICE] [(.ref w_VOID), (.ref w_SLICE)])) X4 hx rfl rfl rfl (pc0 := 25) (pc' := 28) (same := false) rfl (hb hby d1_25) rfl (decide_eq_false fun q => (Fld.ne F_ordinal_SLICE F_ordinal_VOID (own_neI (by decide))) (Value.ref.inj q)) (by decide) (by decide) k) ?_
  refine own_pre (T' := T4) (f' := (mkF m 29 #[rv w_SLICE] [(.int (1 : Int32))])) (fun t k => XS.iconst X4.here hx rfl (hb hby d1_28) k) ?_
  refine own_pre (T' := T4) (f' := (mkF m 33 #[rv w_SLICE] [(.int (1 : Int32))])) (fun t k => XS.goto X4.here hx rfl (pc0 := 29) (pc' := 33) rfl (hb hby d1_29) (by decide) (by decide) k) ?_
  exact own_retZ X4 hx hlk hret (hb hby d1_33) rfl (⟨rfl, e4, rfl⟩) (by decide) (by decide)
set_option maxRecDepth 65536 in
set_option maxHeartbeats 40000000 in
theorem own_b1_ONE (l : Launch) (Z : State) (a0 : Array Value) (hw : ∀ d ∈ tables_1, d.before a0 Z = true) (ws : List Jvm.Cond) (w_LIST w_SET w_STREAM w_PAGE w_SLICE w_ONE w_OPTIONAL w_LONG w_INT w_BOOLEAN w_VOID : Addr) (h0 : Heap) (F : own_F Z h0 w_LIST w_SET w_STREAM w_PAGE w_SLICE w_ONE w_OPTIONAL w_LONG w_INT w_BOOLEAN w_VOID)  :
    own_C l (⟨"com/example/construe/construe/ResultShape", "holdsRows", "()Z"⟩ : MethodName) prog_90_method_6_code 1 (some .boolean) ws (own_R 0 0) #[(.ref w_ONE)] Z h0 (own_Q0 (some (.int (1 : Int32))) h0) := by
  have F0 := F
  obtain ⟨S_LIST, E_LIST, S_SET, E_SET, S_STREAM, E_STREAM, S_PAGE, E_PAGE, S_SLICE, E_SLICE, S_ONE, E_ONE, S_OPTIONAL, E_OPTIONAL, S_LONG, E_LONG, S_INT, E_INT, S_BOOLEAN, E_BOOLEAN, S_VOID, E_VOID, F_ordinal_LIST, F_ordinal_LONG, F_ordinal_INT, F_ordinal_BOOLEAN, F_ordinal_VOID, F_ordinal_PAGE, F_ordinal_STREAM, F_ordinal_SET, F_ordinal_ONE, F_ordinal_OPTIONAL, F_ordinal_SLICE⟩ := F
  refine own_enter (LS := #[rv w_ONE]) (plainFor_of_name (by first | (simp [plainName, overriddenIn, x]; done) | decide +kernel)) (fun m => by first | (simp [entryFrame, mkF, argsToLocals, Value.category, maxLocals]; done) | rfl) ?_
  intro p e s m below meth c s₁ hx hby hml hown0 hnm hret hlk hZ X0 e0 hsh
  have hown : s.vm.findClass "com/example/construe/construe/ResultShape" = some m.cls := hown0
  refine own_pre (T' := s₁) (f' := (mkF m 1 #[rv w_ONE] [(.ref w_ONE)])) (fun t k => XS.aloadN X0.here hx rfl (hb hby d1_0) rfl rfl k) ?_
  obtain ⟨T1, X1, e1, st1⟩ := getS2 X0 hx hZ hown (host := "") (Or.inl (hw _ (List.mem_of_getElem? (i := 33) rfl))) Via.refl e0 S_LONG (g := (mkF m 1 #[rv w_ONE] [(.ref w_ONE)])) rfl (hb hby d1_1)
  refine own_pre (T' := T1) (f' := (mkF m 4 #[rv w_ONE] [(.ref w_LONG), (.ref w_ONE)])) (fun t k => st1 t k) ?_
  refine own_pre (T' := T1) (f' := (mkF m 7 #[rv w_ONE] [])) (fun t k => Jvm.RoadKit.acmp (g := (mkF m 4 #[rv w_ONE] [(.ref w_LONG), (.ref w_ONE)])) X1 hx rfl rfl rfl (pc0 := 4) (pc' := 7) (same := false) rfl (hb hby d1_4) rfl (decide_eq_false fun q => (Fld.ne F_ordinal_ONE F_ordinal_LONG (own_neI (by decide))) (Value.ref.inj q)) (by decide) (by decide) k) ?_
  refine own_pre (T' := T1) (f' := (mkF m 8 #[rv w_ONE] [(.ref w_ONE)])) (fun t k => XS.aloadN X1.here hx rfl (hb hby d1_7) rfl rfl k) ?_
  obtain ⟨T2, X2, e2, st2⟩ := getS2 X1 hx hZ hown (host := "") (Or.inl (hw _ (List.mem_of_getElem? (i := 34) rfl))) Via.refl e1 S_INT (g := (mkF m 8 #[rv w_ONE] [(.ref w_ONE)])) rfl (hb hby d1_8)
  refine own_pre (T' := T2) (f' := (mkF m 11 #[rv w_ONE] [(.ref w_INT), (.ref w_ONE)])) (fun t k => st2 t k) ?_
  refine own_pre (T' := T2) (f' := (mkF m 14 #[rv w_ONE] [])) (fun t k => Jvm.RoadKit.acmp (g := (mkF m 11 #[rv w_ONE] [(.ref w_INT), (.ref w_ONE)])) X2 hx rfl rfl rfl (pc0 := 11) (pc' := 14) (same := false) rfl (hb hby d1_11) rfl (decide_eq_false fun q => (Fld.ne F_ordinal_ONE F_ordinal_INT (own_neI (by decide))) (Value.ref.inj q)) (by decide) (by decide) k) ?_
  refine own_pre (T' := T2) (f' := (mkF m 15 #[rv w_ONE] [(.ref w_ONE)])) (fun t k => XS.aloadN X2.here hx rfl (hb hby d1_14) rfl rfl k) ?_
  obtain ⟨T3, X3, e3, st3⟩ := getS2 X2 hx hZ hown (host := "") (Or.inl (hw _ (List.mem_of_getElem? (i := 35) rfl))) Via.refl e2 S_BOOLEAN (g := (mkF m 15 #[rv w_ONE] [(.ref w_ONE)])) rfl (hb hby d1_15)
  refine own_pre (T' := T3) (f' := (mkF m 18 #[rv w_ONE] [(.ref w_BOOLEAN), (.ref w_ONE)])) (fun t k => st3 t k) ?_
  refine own_pre (T' := T3) (f' := (mkF m 21 #[rv w_ONE] [])) (fun t k => Jvm.RoadKit.acmp (g := (mkF m 18 #[rv w_ONE] [(.ref w_BOOLEAN), (.ref w_ONE)])) X3 hx rfl rfl rfl (pc0 := 18) (pc' := 21) (same := false) rfl (hb hby d1_18) rfl (decide_eq_false fun q => (Fld.ne F_ordinal_ONE F_ordinal_BOOLEAN (own_neI (by decide))) (Value.ref.inj q)) (by decide) (by decide) k) ?_
  refine own_pre (T' := T3) (f' := (mkF m 22 #[rv w_ONE] [(.ref w_ONE)])) (fun t k => XS.aloadN X3.here hx rfl (hb hby d1_21) rfl rfl k) ?_
  obtain ⟨T4, X4, e4, st4⟩ := getS2 X3 hx hZ hown (host := "") (Or.inl (hw _ (List.mem_of_getElem? (i := 36) rfl))) Via.refl e3 S_VOID (g := (mkF m 22 #[rv w_ONE] [(.ref w_ONE)])) rfl (hb hby d1_22)
  refine own_pre (T' := T4) (f' := (mkF m 25 #[rv w_ONE] [(.ref w_VOID), (.ref w_ONE)])) (fun t k => st4 t k) ?_
  refine own_pre (T' := T4) (f' := (mkF m 28 #[rv w_ONE] [])) (fun t k => Jvm.RoadKit.acmp (g := (mkF m 25 #[rv w_ONE] [(.ref w_VOID), (.ref w_ONE)])) X4 hx rfl rfl rfl (pc0 := 25) (pc' := 28) (same := false) rfl (hb hby d1_25) rfl (decide_eq_false fun q => (Fld.ne F_ordinal_ONE F_ordinal_VOID (own_neI (by decide))) (Value.ref.inj q)) (by decide) (by decide) k) ?_
  refine own_pre (T' := T4) (f' := (mkF m 29 #[rv w_ONE] [(.int (1 : Int32))])) (fun t k => XS.iconst X4.here hx rfl (hb hby d1_28) k) ?_
  refine own_pre (T' := T4) (f' := (mkF m 33 #[rv w_ONE] [(.int (1 : Int32))])) (fun t k => XS.goto X4.here hx rfl (pc0 := 29) (pc' := 33) rfl (hb hby d1_29) (by decide) (by decide) k) ?_
  exact own_retZ X4 hx hlk hret (hb hby d1_33) rfl (⟨rfl, e4, rfl⟩) (by decide) (by decide)
set_option maxRecDepth 65536 in
set_option maxHeartbeats 40000000 in
theorem own_b1_OPTIONAL (l : Launch) (Z : State) (a0 : Array Value) (hw : ∀ d ∈ tables_1, d.before a0 Z = true) (ws : List Jvm.Cond) (w_LIST w_SET w_STREAM w_PAGE w_SLICE w_ONE w_OPTIONAL w_LONG w_INT w_BOOLEAN w_VOID : Addr) (h0 : Heap) (F : own_F Z h0 w_LIST w_SET w_STREAM w_PAGE w_SLICE w_ONE w_OPTIONAL w_LONG w_INT w_BOOLEAN w_VOID)  :
    own_C l (⟨"com/example/construe/construe/ResultShape", "holdsRows", "()Z"⟩ : MethodName) prog_90_method_6_code 1 (some .boolean) ws (own_R 0 0) #[(.ref w_OPTIONAL)] Z h0 (own_Q0 (some (.int (1 : Int32))) h0) := by
  have F0 := F
  obtain ⟨S_LIST, E_LIST, S_SET, E_SET, S_STREAM, E_STREAM, S_PAGE, E_PAGE, S_SLICE, E_SLICE, S_ONE, E_ONE, S_OPTIONAL, E_OPTIONAL, S_LONG, E_LONG, S_INT, E_INT, S_BOOLEAN, E_BOOLEAN, S_VOID, E_VOID, F_ordinal_LIST, F_ordinal_LONG, F_ordinal_INT, F_ordinal_BOOLEAN, F_ordinal_VOID, F_ordinal_PAGE, F_ordinal_STREAM, F_ordinal_SET, F_ordinal_ONE, F_ordinal_OPTIONAL, F_ordinal_SLICE⟩ := F
  refine own_enter (LS := #[rv w_OPTIONAL]) (plainFor_of_name (by first | (simp [plainName, overriddenIn, x]; done) | decide +kernel)) (fun m => by first | (simp [entryFrame, mkF, argsToLocals, Value.category, maxLocals]; done) | rfl) ?_
  intro p e s m below meth c s₁ hx hby hml hown0 hnm hret hlk hZ X0 e0 hsh
  have hown : s.vm.findClass "com/example/construe/construe/ResultShape" = some m.cls := hown0
  refine own_pre (T' := s₁) (f' := (mkF m 1 #[rv w_OPTIONAL] [(.ref w_OPTIONAL)])) (fun t k => XS.aloadN X0.here hx rfl (hb hby d1_0) rfl rfl k) ?_
  obtain ⟨T1, X1, e1, st1⟩ := getS2 X0 hx hZ hown (host := "") (Or.inl (hw _ (List.mem_of_getElem? (i := 33) rfl))) Via.refl e0 S_LONG (g := (mkF m 1 #[rv w_OPTIONAL] [(.ref w_OPTIONAL)])) rfl (hb hby d1_1)
  refine own_pre (T' := T1) (f' := (mkF m 4 #[rv w_OPTIONAL] [(.ref w_LONG), (.ref w_OPTIONAL)])) (fun t k => st1 t k) ?_
  refine own_pre (T' := T1) (f' := (mkF m 7 #[rv w_OPTIONAL] [])) (fun t k => Jvm.RoadKit.acmp (g := (mkF m 4 #[rv w_OPTIONAL] [(.ref w_LONG), (.ref w_OPTIONAL)])) X1 hx rfl rfl rfl (pc0 := 4) (pc' := 7) (same := false) rfl (hb hby d1_4) rfl (decide_eq_false fun q => (Fld.ne F_ordinal_OPTIONAL F_ordinal_LONG (own_neI (by decide))) (Value.ref.inj q)) (by decide) (by decide) k) ?_
  refine own_pre (T' := T1) (f' := (mkF m 8 #[rv w_OPTIONAL] [(.ref w_OPTIONAL)])) (fun t k => XS.aloadN X1.here hx rfl (hb hby d1_7) rfl rfl k) ?_
  obtain ⟨T2, X2, e2, st2⟩ := getS2 X1 hx hZ hown (host := "") (Or.inl (hw _ (List.mem_of_getElem? (i := 34) rfl))) Via.refl e1 S_INT (g := (mkF m 8 #[rv w_OPTIONAL] [(.ref w_OPTIONAL)])) rfl (hb hby d1_8)
  refine own_pre (T' := T2) (f' := (mkF m 11 #[rv w_OPTIONAL] [(.ref w_INT), (.ref w_OPTIONAL)])) (fun t k => st2 t k) ?_
  refine own_pre (T' := T2) (f' := (mkF m 14 #[rv w_OPTIONAL] [])) (fun t k => Jvm.RoadKit.acmp (g := (mkF m 11 #[rv w_OPTIONAL] [(.ref w_INT), (.ref w_OPTIONAL)])) X2 hx rfl rfl rfl (pc0 := 11) (pc' := 14) (same := false) rfl (hb hby d1_11) rfl (decide_eq_false fun q => (Fld.ne F_ordinal_OPTIONAL F_ordinal_INT (own_neI (by decide))) (Value.ref.inj q)) (by decide) (by decide) k) ?_
  refine own_pre (T' := T2) (f' := (mkF m 15 #[rv w_OPTIONAL] [(.ref w_OPTIONAL)])) (fun t k => XS.aloadN X2.here hx rfl (hb hby d1_14) rfl rfl k) ?_
  obtain ⟨T3, X3, e3, st3⟩ := getS2 X2 hx hZ hown (host := "") (Or.inl (hw _ (List.mem_of_getElem? (i := 35) rfl))) Via.refl e2 S_BOOLEAN (g := (mkF m 15 #[rv w_OPTIONAL] [(.ref w_OPTIONAL)])) rfl (hb hby d1_15)
  refine own_pre (T' := T3) (f' := (mkF m 18 #[rv w_OPTIONAL] [(.ref w_BOOLEAN), (.ref w_OPTIONAL)])) (fun t k => st3 t k) ?_
  refine own_pre (T' := T3) (f' := (mkF m 21 #[rv w_OPTIONAL] [])) (fun t k => Jvm.RoadKit.acmp (g := (mkF m 18 #[rv w_OPTIONAL] [(.ref w_BOOLEAN), (.ref w_OPTIONAL)])) X3 hx rfl rfl rfl (pc0 := 18) (pc' := 21) (same := false) rfl (hb hby d1_18) rfl (decide_eq_false fun q => (Fld.ne F_ordinal_OPTIONAL F_ordinal_BOOLEAN (own_neI (by decide))) (Value.ref.inj q)) (by decide) (by decide) k) ?_
  refine own_pre (T' := T3) (f' := (mkF m 22 #[rv w_OPTIONAL] [(.ref w_OPTIONAL)])) (fun t k => XS.aloadN X3.here hx rfl (hb hby d1_21) rfl rfl k) ?_
  obtain ⟨T4, X4, e4, st4⟩ := getS2 X3 hx hZ hown (host := "") (Or.inl (hw _ (List.mem_of_getElem? (i := 36) rfl))) Via.refl e3 S_VOID (g := (mkF m 22 #[rv w_OPTIONAL] [(.ref w_OPTIONAL)])) rfl (hb hby d1_22)
  refine own_pre (T' := T4) (f' := (mkF m 25 #[rv w_OPTIONAL] [(.ref w_VOID), (.ref w_OPTIONAL)])) (fun t k => st4 t k) ?_
  refine own_pre (T' := T4) (f' := (mkF m 28 #[rv w_OPTIONAL] [])) (fun t k => Jvm.RoadKit.acmp (g := (mkF m 25 #[rv w_OPTIONAL] [(.ref w_VOID), (.ref w_OPTIONAL)])) X4 hx rfl rfl rfl (pc0 := 25) (pc' := 28) (same := false) rfl (hb hby d1_25) rfl (decide_eq_false fun q => (Fld.ne F_ordinal_OPTIONAL F_ordinal_VOID (own_neI (by decide))) (Value.ref.inj q)) (by decide) (by decide) k) ?_
  refine own_pre (T' := T4) (f' := (mkF m 29 #[rv w_OPTIONAL] [(.int (1 : Int32))])) (fun t k => XS.iconst X4.here hx rfl (hb hby d1_28) k) ?_
  refine own_pre (T' := T4) (f' := (mkF m 33 #[rv w_OPTIONAL] [(.int (1 : Int32))])) (fun t k => XS.goto X4.here hx rfl (pc0 := 29) (pc' := 33) rfl (hb hby d1_29) (by decide) (by decide) k) ?_
  exact own_retZ X4 hx hlk hret (hb hby d1_33) rfl (⟨rfl, e4, rfl⟩) (by decide) (by decide)
theorem d1_32 : decode prog_90_method_6_code 32 = .ok (.iconst 0, 1) := by decide +kernel
set_option maxRecDepth 65536 in
set_option maxHeartbeats 40000000 in
theorem own_b1_LONG (l : Launch) (Z : State) (a0 : Array Value) (hw : ∀ d ∈ tables_1, d.before a0 Z = true) (ws : List Jvm.Cond) (w_LIST w_SET w_STREAM w_PAGE w_SLICE w_ONE w_OPTIONAL w_LONG w_INT w_BOOLEAN w_VOID : Addr) (h0 : Heap) (F : own_F Z h0 w_LIST w_SET w_STREAM w_PAGE w_SLICE w_ONE w_OPTIONAL w_LONG w_INT w_BOOLEAN w_VOID)  :
    own_C l (⟨"com/example/construe/construe/ResultShape", "holdsRows", "()Z"⟩ : MethodName) prog_90_method_6_code 1 (some .boolean) ws (own_R 0 0) #[(.ref w_LONG)] Z h0 (own_Q0 (some (.int (0 : Int32))) h0) := by
  have F0 := F
  obtain ⟨S_LIST, E_LIST, S_SET, E_SET, S_STREAM, E_STREAM, S_PAGE, E_PAGE, S_SLICE, E_SLICE, S_ONE, E_ONE, S_OPTIONAL, E_OPTIONAL, S_LONG, E_LONG, S_INT, E_INT, S_BOOLEAN, E_BOOLEAN, S_VOID, E_VOID, F_ordinal_LIST, F_ordinal_LONG, F_ordinal_INT, F_ordinal_BOOLEAN, F_ordinal_VOID, F_ordinal_PAGE, F_ordinal_STREAM, F_ordinal_SET, F_ordinal_ONE, F_ordinal_OPTIONAL, F_ordinal_SLICE⟩ := F
  refine own_enter (LS := #[rv w_LONG]) (plainFor_of_name (by first | (simp [plainName, overriddenIn, x]; done) | decide +kernel)) (fun m => by first | (simp [entryFrame, mkF, argsToLocals, Value.category, maxLocals]; done) | rfl) ?_
  intro p e s m below meth c s₁ hx hby hml hown0 hnm hret hlk hZ X0 e0 hsh
  have hown : s.vm.findClass "com/example/construe/construe/ResultShape" = some m.cls := hown0
  refine own_pre (T' := s₁) (f' := (mkF m 1 #[rv w_LONG] [(.ref w_LONG)])) (fun t k => XS.aloadN X0.here hx rfl (hb hby d1_0) rfl rfl k) ?_
  obtain ⟨T1, X1, e1, st1⟩ := getS2 X0 hx hZ hown (host := "") (Or.inl (hw _ (List.mem_of_getElem? (i := 33) rfl))) Via.refl e0 S_LONG (g := (mkF m 1 #[rv w_LONG] [(.ref w_LONG)])) rfl (hb hby d1_1)
  refine own_pre (T' := T1) (f' := (mkF m 4 #[rv w_LONG] [(.ref w_LONG), (.ref w_LONG)])) (fun t k => st1 t k) ?_
  refine own_pre (T' := T1) (f' := (mkF m 32 #[rv w_LONG] [])) (fun t k => Jvm.RoadKit.acmp (g := (mkF m 4 #[rv w_LONG] [(.ref w_LONG), (.ref w_LONG)])) X1 hx rfl rfl rfl (pc0 := 4) (pc' := 32) (same := true) rfl (hb hby d1_4) rfl (decide_eq_true rfl) (by decide) (by decide) k) ?_
  refine own_pre (T' := T1) (f' := (mkF m 33 #[rv w_LONG] [(.int (0 : Int32))])) (fun t k => XS.iconst X1.here hx rfl (hb hby d1_32) k) ?_
  exact own_retZ X1 hx hlk hret (hb hby d1_33) rfl (⟨rfl, e1, rfl⟩) (by decide) (by decide)
set_option maxRecDepth 65536 in
set_option maxHeartbeats 40000000 in
theorem own_b1_INT (l : Launch) (Z : State) (a0 : Array Value) (hw : ∀ d ∈ tables_1, d.before a0 Z = true) (ws : List Jvm.Cond) (w_LIST w_SET w_STREAM w_PAGE w_SLICE w_ONE w_OPTIONAL w_LONG w_INT w_BOOLEAN w_VOID : Addr) (h0 : Heap) (F : own_F Z h0 w_LIST w_SET w_STREAM w_PAGE w_SLICE w_ONE w_OPTIONAL w_LONG w_INT w_BOOLEAN w_VOID)  :
    own_C l (⟨"com/example/construe/construe/ResultShape", "holdsRows", "()Z"⟩ : MethodName) prog_90_method_6_code 1 (some .boolean) ws (own_R 0 0) #[(.ref w_INT)] Z h0 (own_Q0 (some (.int (0 : Int32))) h0) := by
  have F0 := F
  obtain ⟨S_LIST, E_LIST, S_SET, E_SET, S_STREAM, E_STREAM, S_PAGE, E_PAGE, S_SLICE, E_SLICE, S_ONE, E_ONE, S_OPTIONAL, E_OPTIONAL, S_LONG, E_LONG, S_INT, E_INT, S_BOOLEAN, E_BOOLEAN, S_VOID, E_VOID, F_ordinal_LIST, F_ordinal_LONG, F_ordinal_INT, F_ordinal_BOOLEAN, F_ordinal_VOID, F_ordinal_PAGE, F_ordinal_STREAM, F_ordinal_SET, F_ordinal_ONE, F_ordinal_OPTIONAL, F_ordinal_SLICE⟩ := F
  refine own_enter (LS := #[rv w_INT]) (plainFor_of_name (by first | (simp [plainName, overriddenIn, x]; done) | decide +kernel)) (fun m => by first | (simp [entryFrame, mkF, argsToLocals, Value.category, maxLocals]; done) | rfl) ?_
  intro p e s m below meth c s₁ hx hby hml hown0 hnm hret hlk hZ X0 e0 hsh
  have hown : s.vm.findClass "com/example/construe/construe/ResultShape" = some m.cls := hown0
  refine own_pre (T' := s₁) (f' := (mkF m 1 #[rv w_INT] [(.ref w_INT)])) (fun t k => XS.aloadN X0.here hx rfl (hb hby d1_0) rfl rfl k) ?_
  obtain ⟨T1, X1, e1, st1⟩ := getS2 X0 hx hZ hown (host := "") (Or.inl (hw _ (List.mem_of_getElem? (i := 33) rfl))) Via.refl e0 S_LONG (g := (mkF m 1 #[rv w_INT] [(.ref w_INT)])) rfl (hb hby d1_1)
  refine own_pre (T' := T1) (f' := (mkF m 4 #[rv w_INT] [(.ref w_LONG), (.ref w_INT)])) (fun t k => st1 t k) ?_
  refine own_pre (T' := T1) (f' := (mkF m 7 #[rv w_INT] [])) (fun t k => Jvm.RoadKit.acmp (g := (mkF m 4 #[rv w_INT] [(.ref w_LONG), (.ref w_INT)])) X1 hx rfl rfl rfl (pc0 := 4) (pc' := 7) (same := false) rfl (hb hby d1_4) rfl (decide_eq_false fun q => (Fld.ne F_ordinal_INT F_ordinal_LONG (own_neI (by decide))) (Value.ref.inj q)) (by decide) (by decide) k) ?_
  refine own_pre (T' := T1) (f' := (mkF m 8 #[rv w_INT] [(.ref w_INT)])) (fun t k => XS.aloadN X1.here hx rfl (hb hby d1_7) rfl rfl k) ?_
  obtain ⟨T2, X2, e2, st2⟩ := getS2 X1 hx hZ hown (host := "") (Or.inl (hw _ (List.mem_of_getElem? (i := 34) rfl))) Via.refl e1 S_INT (g := (mkF m 8 #[rv w_INT] [(.ref w_INT)])) rfl (hb hby d1_8)
  refine own_pre (T' := T2) (f' := (mkF m 11 #[rv w_INT] [(.ref w_INT), (.ref w_INT)])) (fun t k => st2 t k) ?_
  refine own_pre (T' := T2) (f' := (mkF m 32 #[rv w_INT] [])) (fun t k => Jvm.RoadKit.acmp (g := (mkF m 11 #[rv w_INT] [(.ref w_INT), (.ref w_INT)])) X2 hx rfl rfl rfl (pc0 := 11) (pc' := 32) (same := true) rfl (hb hby d1_11) rfl (decide_eq_true rfl) (by decide) (by decide) k) ?_
  refine own_pre (T' := T2) (f' := (mkF m 33 #[rv w_INT] [(.int (0 : Int32))])) (fun t k => XS.iconst X2.here hx rfl (hb hby d1_32) k) ?_
  exact own_retZ X2 hx hlk hret (hb hby d1_33) rfl (⟨rfl, e2, rfl⟩) (by decide) (by decide)
set_option maxRecDepth 65536 in
set_option maxHeartbeats 40000000 in
theorem own_b1_BOOLEAN (l : Launch) (Z : State) (a0 : Array Value) (hw : ∀ d ∈ tables_1, d.before a0 Z = true) (ws : List Jvm.Cond) (w_LIST w_SET w_STREAM w_PAGE w_SLICE w_ONE w_OPTIONAL w_LONG w_INT w_BOOLEAN w_VOID : Addr) (h0 : Heap) (F : own_F Z h0 w_LIST w_SET w_STREAM w_PAGE w_SLICE w_ONE w_OPTIONAL w_LONG w_INT w_BOOLEAN w_VOID)  :
    own_C l (⟨"com/example/construe/construe/ResultShape", "holdsRows", "()Z"⟩ : MethodName) prog_90_method_6_code 1 (some .boolean) ws (own_R 0 0) #[(.ref w_BOOLEAN)] Z h0 (own_Q0 (some (.int (0 : Int32))) h0) := by
  have F0 := F
  obtain ⟨S_LIST, E_LIST, S_SET, E_SET, S_STREAM, E_STREAM, S_PAGE, E_PAGE, S_SLICE, E_SLICE, S_ONE, E_ONE, S_OPTIONAL, E_OPTIONAL, S_LONG, E_LONG, S_INT, E_INT, S_BOOLEAN, E_BOOLEAN, S_VOID, E_VOID, F_ordinal_LIST, F_ordinal_LONG, F_ordinal_INT, F_ordinal_BOOLEAN, F_ordinal_VOID, F_ordinal_PAGE, F_ordinal_STREAM, F_ordinal_SET, F_ordinal_ONE, F_ordinal_OPTIONAL, F_ordinal_SLICE⟩ := F
  refine own_enter (LS := #[rv w_BOOLEAN]) (plainFor_of_name (by first | (simp [plainName, overriddenIn, x]; done) | decide +kernel)) (fun m => by first | (simp [entryFrame, mkF, argsToLocals, Value.category, maxLocals]; done) | rfl) ?_
  intro p e s m below meth c s₁ hx hby hml hown0 hnm hret hlk hZ X0 e0 hsh
  have hown : s.vm.findClass "com/example/construe/construe/ResultShape" = some m.cls := hown0
  refine own_pre (T' := s₁) (f' := (mkF m 1 #[rv w_BOOLEAN] [(.ref w_BOOLEAN)])) (fun t k => XS.aloadN X0.here hx rfl (hb hby d1_0) rfl rfl k) ?_
  obtain ⟨T1, X1, e1, st1⟩ := getS2 X0 hx hZ hown (host := "") (Or.inl (hw _ (List.mem_of_getElem? (i := 33) rfl))) Via.refl e0 S_LONG (g := (mkF m 1 #[rv w_BOOLEAN] [(.ref w_BOOLEAN)])) rfl (hb hby d1_1)
  refine own_pre (T' := T1) (f' := (mkF m 4 #[rv w_BOOLEAN] [(.ref w_LONG), (.ref w_BOOLEAN)])) (fun t k => st1 t k) ?_
  refine own_pre (T' := T1) (f' := (mkF m 7 #[rv w_BOOLEAN] [])) (fun t k => Jvm.RoadKit.acmp (g := (mkF m 4 #[rv w_BOOLEAN] [(.ref w_LONG), (.ref w_BOOLEAN)])) X1 hx rfl rfl rfl (pc0 := 4) (pc' := 7) (same := false) rfl (hb hby d1_4) rfl (decide_eq_false fun q => (Fld.ne F_ordinal_BOOLEAN F_ordinal_LONG (own_neI (by decide))) (Value.ref.inj q)) (by decide) (by decide) k) ?_
  refine own_pre (T' := T1) (f' := (mkF m 8 #[rv w_BOOLEAN] [(.ref w_BOOLEAN)])) (fun t k => XS.aloadN X1.here hx rfl (hb hby d1_7) rfl rfl k) ?_
  obtain ⟨T2, X2, e2, st2⟩ := getS2 X1 hx hZ hown (host := "") (Or.inl (hw _ (List.mem_of_getElem? (i := 34) rfl))) Via.refl e1 S_INT (g := (mkF m 8 #[rv w_BOOLEAN] [(.ref w_BOOLEAN)])) rfl (hb hby d1_8)
  refine own_pre (T' := T2) (f' := (mkF m 11 #[rv w_BOOLEAN] [(.ref w_INT), (.ref w_BOOLEAN)])) (fun t k => st2 t k) ?_
  refine own_pre (T' := T2) (f' := (mkF m 14 #[rv w_BOOLEAN] [])) (fun t k => Jvm.RoadKit.acmp (g := (mkF m 11 #[rv w_BOOLEAN] [(.ref w_INT), (.ref w_BOOLEAN)])) X2 hx rfl rfl rfl (pc0 := 11) (pc' := 14) (same := false) rfl (hb hby d1_11) rfl (decide_eq_false fun q => (Fld.ne F_ordinal_BOOLEAN F_ordinal_INT (own_neI (by decide))) (Value.ref.inj q)) (by decide) (by decide) k) ?_
  refine own_pre (T' := T2) (f' := (mkF m 15 #[rv w_BOOLEAN] [(.ref w_BOOLEAN)])) (fun t k => XS.aloadN X2.here hx rfl (hb hby d1_14) rfl rfl k) ?_
  obtain ⟨T3, X3, e3, st3⟩ := getS2 X2 hx hZ hown (host := "") (Or.inl (hw _ (List.mem_of_getElem? (i := 35) rfl))) Via.refl e2 S_BOOLEAN (g := (mkF m 15 #[rv w_BOOLEAN] [(.ref w_BOOLEAN)])) rfl (hb hby d1_15)
  refine own_pre (T' := T3) (f' := (mkF m 18 #[rv w_BOOLEAN] [(.ref w_BOOLEAN), (.ref w_BOOLEAN)])) (fun t k => st3 t k) ?_
  refine own_pre (T' := T3) (f' := (mkF m 32 #[rv w_BOOLEAN] [])) (fun t k => Jvm.RoadKit.acmp (g := (mkF m 18 #[rv w_BOOLEAN] [(.ref w_BOOLEAN), (.ref w_BOOLEAN)])) X3 hx rfl rfl rfl (pc0 := 18) (pc' := 32) (same := true) rfl (hb hby d1_18) rfl (decide_eq_true rfl) (by decide) (by decide) k) ?_
  refine own_pre (T' := T3) (f' := (mkF m 33 #[rv w_BOOLEAN] [(.int (0 : Int32))])) (fun t k => XS.iconst X3.here hx rfl (hb hby d1_32) k) ?_
  exact own_retZ X3 hx hlk hret (hb hby d1_33) rfl (⟨rfl, e3, rfl⟩) (by decide) (by decide)
set_option maxRecDepth 65536 in
set_option maxHeartbeats 40000000 in
theorem own_b1_VOID (l : Launch) (Z : State) (a0 : Array Value) (hw : ∀ d ∈ tables_1, d.before a0 Z = true) (ws : List Jvm.Cond) (w_LIST w_SET w_STREAM w_PAGE w_SLICE w_ONE w_OPTIONAL w_LONG w_INT w_BOOLEAN w_VOID : Addr) (h0 : Heap) (F : own_F Z h0 w_LIST w_SET w_STREAM w_PAGE w_SLICE w_ONE w_OPTIONAL w_LONG w_INT w_BOOLEAN w_VOID)  :
    own_C l (⟨"com/example/construe/construe/ResultShape", "holdsRows", "()Z"⟩ : MethodName) prog_90_method_6_code 1 (some .boolean) ws (own_R 0 0) #[(.ref w_VOID)] Z h0 (own_Q0 (some (.int (0 : Int32))) h0) := by
  have F0 := F
  obtain ⟨S_LIST, E_LIST, S_SET, E_SET, S_STREAM, E_STREAM, S_PAGE, E_PAGE, S_SLICE, E_SLICE, S_ONE, E_ONE, S_OPTIONAL, E_OPTIONAL, S_LONG, E_LONG, S_INT, E_INT, S_BOOLEAN, E_BOOLEAN, S_VOID, E_VOID, F_ordinal_LIST, F_ordinal_LONG, F_ordinal_INT, F_ordinal_BOOLEAN, F_ordinal_VOID, F_ordinal_PAGE, F_ordinal_STREAM, F_ordinal_SET, F_ordinal_ONE, F_ordinal_OPTIONAL, F_ordinal_SLICE⟩ := F
  refine own_enter (LS := #[rv w_VOID]) (plainFor_of_name (by first | (simp [plainName, overriddenIn, x]; done) | decide +kernel)) (fun m => by first | (simp [entryFrame, mkF, argsToLocals, Value.category, maxLocals]; done) | rfl) ?_
  intro p e s m below meth c s₁ hx hby hml hown0 hnm hret hlk hZ X0 e0 hsh
  have hown : s.vm.findClass "com/example/construe/construe/ResultShape" = some m.cls := hown0
  refine own_pre (T' := s₁) (f' := (mkF m 1 #[rv w_VOID] [(.ref w_VOID)])) (fun t k => XS.aloadN X0.here hx rfl (hb hby d1_0) rfl rfl k) ?_
  obtain ⟨T1, X1, e1, st1⟩ := getS2 X0 hx hZ hown (host := "") (Or.inl (hw _ (List.mem_of_getElem? (i := 33) rfl))) Via.refl e0 S_LONG (g := (mkF m 1 #[rv w_VOID] [(.ref w_VOID)])) rfl (hb hby d1_1)
  refine own_pre (T' := T1) (f' := (mkF m 4 #[rv w_VOID] [(.ref w_LONG), (.ref w_VOID)])) (fun t k => st1 t k) ?_
  refine own_pre (T' := T1) (f' := (mkF m 7 #[rv w_VOID] [])) (fun t k => Jvm.RoadKit.acmp (g := (mkF m 4 #[rv w_VOID] [(.ref w_LONG), (.ref w_VOID)])) X1 hx rfl rfl rfl (pc0 := 4) (pc' := 7) (same := false) rfl (hb hby d1_4) rfl (decide_eq_false fun q => (Fld.ne F_ordinal_VOID F_ordinal_LONG (own_neI (by decide))) (Value.ref.inj q)) (by decide) (by decide) k) ?_
  refine own_pre (T' := T1) (f' := (mkF m 8 #[rv w_VOID] [(.ref w_VOID)])) (fun t k => XS.aloadN X1.here hx rfl (hb hby d1_7) rfl rfl k) ?_
  obtain ⟨T2, X2, e2, st2⟩ := getS2 X1 hx hZ hown (host := "") (Or.inl (hw _ (List.mem_of_getElem? (i := 34) rfl))) Via.refl e1 S_INT (g := (mkF m 8 #[rv w_VOID] [(.ref w_VOID)])) rfl (hb hby d1_8)
  refine own_pre (T' := T2) (f' := (mkF m 11 #[rv w_VOID] [(.ref w_INT), (.ref w_VOID)])) (fun t k => st2 t k) ?_
  refine own_pre (T' := T2) (f' := (mkF m 14 #[rv w_VOID] [])) (fun t k => Jvm.RoadKit.acmp (g := (mkF m 11 #[rv w_VOID] [(.ref w_INT), (.ref w_VOID)])) X2 hx rfl rfl rfl (pc0 := 11) (pc' := 14) (same := false) rfl (hb hby d1_11) rfl (decide_eq_false fun q => (Fld.ne F_ordinal_VOID F_ordinal_INT (own_neI (by decide))) (Value.ref.inj q)) (by decide) (by decide) k) ?_
  refine own_pre (T' := T2) (f' := (mkF m 15 #[rv w_VOID] [(.ref w_VOID)])) (fun t k => XS.aloadN X2.here hx rfl (hb hby d1_14) rfl rfl k) ?_
  obtain ⟨T3, X3, e3, st3⟩ := getS2 X2 hx hZ hown (host := "") (Or.inl (hw _ (List.mem_of_getElem? (i := 35) rfl))) Via.refl e2 S_BOOLEAN (g := (mkF m 15 #[rv w_VOID] [(.ref w_VOID)])) rfl (hb hby d1_15)
  refine own_pre (T' := T3) (f' := (mkF m 18 #[rv w_VOID] [(.ref w_BOOLEAN), (.ref w_VOID)])) (fun t k => st3 t k) ?_
  refine own_pre (T' := T3) (f' := (mkF m 21 #[rv w_VOID] [])) (fun t k => Jvm.RoadKit.acmp (g := (mkF m 18 #[rv w_VOID] [(.ref w_BOOLEAN), (.ref w_VOID)])) X3 hx rfl rfl rfl (pc0 := 18) (pc' := 21) (same := false) rfl (hb hby d1_18) rfl (decide_eq_false fun q => (Fld.ne F_ordinal_VOID F_ordinal_BOOLEAN (own_neI (by decide))) (Value.ref.inj q)) (by decide) (by decide) k) ?_
  refine own_pre (T' := T3) (f' := (mkF m 22 #[rv w_VOID] [(.ref w_VOID)])) (fun t k => XS.aloadN X3.here hx rfl (hb hby d1_21) rfl rfl k) ?_
  obtain ⟨T4, X4, e4, st4⟩ := getS2 X3 hx hZ hown (host := "") (Or.inl (hw _ (List.mem_of_getElem? (i := 36) rfl))) Via.refl e3 S_VOID (g := (mkF m 22 #[rv w_VOID] [(.ref w_VOID)])) rfl (hb hby d1_22)
  refine own_pre (T' := T4) (f' := (mkF m 25 #[rv w_VOID] [(.ref w_VOID), (.ref w_VOID)])) (fun t k => st4 t k) ?_
  refine own_pre (T' := T4) (f' := (mkF m 32 #[rv w_VOID] [])) (fun t k => Jvm.RoadKit.acmp (g := (mkF m 25 #[rv w_VOID] [(.ref w_VOID), (.ref w_VOID)])) X4 hx rfl rfl rfl (pc0 := 25) (pc' := 32) (same := true) rfl (hb hby d1_25) rfl (decide_eq_true rfl) (by decide) (by decide) k) ?_
  refine own_pre (T' := T4) (f' := (mkF m 33 #[rv w_VOID] [(.int (0 : Int32))])) (fun t k => XS.iconst X4.here hx rfl (hb hby d1_32) k) ?_
  exact own_retZ X4 hx hlk hret (hb hby d1_33) rfl (⟨rfl, e4, rfl⟩) (by decide) (by decide)
set_option maxRecDepth 65536 in
set_option maxHeartbeats 40000000 in
theorem own_law (l : Launch) (Z : State) (a0 : Array Value) (hw : ∀ d ∈ tables_1, d.before a0 Z = true) (ws : List Jvm.Cond) (w_LIST w_SET w_STREAM w_PAGE w_SLICE w_ONE w_OPTIONAL w_LONG w_INT w_BOOLEAN w_VOID : Addr) (h0 : Heap) (F : own_F Z h0 w_LIST w_SET w_STREAM w_PAGE w_SLICE w_ONE w_OPTIONAL w_LONG w_INT w_BOOLEAN w_VOID) (p1 : Int32) :
    own_C l x code maxLocals ret ws room_1 #[(.int p1)] Z h0 (fun v _ L => v = some (.int (1 : Int32)) ∧ Fr h0.size L) := by
  have F0 := F
  obtain ⟨S_LIST, E_LIST, S_SET, E_SET, S_STREAM, E_STREAM, S_PAGE, E_PAGE, S_SLICE, E_SLICE, S_ONE, E_ONE, S_OPTIONAL, E_OPTIONAL, S_LONG, E_LONG, S_INT, E_INT, S_BOOLEAN, E_BOOLEAN, S_VOID, E_VOID, F_ordinal_LIST, F_ordinal_LONG, F_ordinal_INT, F_ordinal_BOOLEAN, F_ordinal_VOID, F_ordinal_PAGE, F_ordinal_STREAM, F_ordinal_SET, F_ordinal_ONE, F_ordinal_OPTIONAL, F_ordinal_SLICE⟩ := F
  refine own_enter (LS := #[iv p1, .unset, .unset, .unset]) (plainFor_of_name (by first | (simp [plainName, overriddenIn, x]; done) | decide +kernel)) (fun m => by first | (simp [entryFrame, mkF, argsToLocals, Value.category, maxLocals]; done) | rfl) ?_
  intro p e s m below meth c s₁ hx hby hml hown0 hnm hret hlk hZ X0 e0 hsh
  have hown : s.vm.findClass "com/example/construe/construe/ResultShapeHoldsRowsPinLaw" = some m.cls := hown0
  refine own_pre (T' := s₁) (f' := (mkF m 2 #[iv p1, .unset, .unset, .unset] [(.int (11 : Int32))])) (fun t k => XS.bipush X0.here hx rfl (hb hby at_0) k) ?_
  obtain ⟨T1, h1, k1, X1, e1, E1, A1, O1, st1⟩ := newR X0 hx hZ hown (hw _ (List.mem_of_getElem? (i := 0) rfl)) (hw _ (List.mem_of_getElem? (i := 1) rfl)) e0 (g := (mkF m 2 #[iv p1, .unset, .unset, .unset] [(.int (11 : Int32))])) rfl (hb hby at_2) rfl (by decide) (cap := 11) (by decide) (by decide) (by decide) (by decide)
  obtain ⟨b1, g1⟩ : ∃ z, z = h0.size := ⟨_, rfl⟩
  rw [← g1] at A1 st1
  have V1 : Arv Z h1 b1 k1 (.object "com/example/construe/construe/ResultShape") (11 : Int32) [.null, .null, .null, .null, .null, .null, .null, .null, .null, .null, .null] .null := (Arv.new A1 (by decide)).pad (pad_rep [] .null 11)
  have ge1_h0 : h0.size ≤ b1 := by rw [g1]; exact Nat.le_refl _
  have EX1_h0 : Ext h0 h1 := E1
  refine own_pre (T' := T1) (f' := (mkF m 5 #[iv p1, .unset, .unset, .unset] [(.ref b1)])) (fun t k => st1 t k) ?_
  refine own_pre (T' := T1) (f' := (mkF m 6 #[iv p1, .unset, .unset, .unset] [(.ref b1), (.ref b1)])) (fun t k => XS.dup X1.here hx rfl (hb hby at_5) rfl rfl k) ?_
  refine own_pre (T' := T1) (f' := (mkF m 7 #[iv p1, .unset, .unset, .unset] [(.int (0 : Int32)), (.ref b1), (.ref b1)])) (fun t k => XS.iconst X1.here hx rfl (hb hby at_6) k) ?_
  obtain ⟨T2, X2, e2, st2⟩ := getS2 X1 hx hZ hown (host := "") (Or.inl (hw _ (List.mem_of_getElem? (i := 2) rfl))) Via.refl e1 (S_LIST.ext EX1_h0) (g := (mkF m 7 #[iv p1, .unset, .unset, .unset] [(.int (0 : Int32)), (.ref b1), (.ref b1)])) rfl (hb hby at_7)
  refine own_pre (T' := T2) (f' := (mkF m 10 #[iv p1, .unset, .unset, .unset] [(.ref w_LIST), (.int (0 : Int32)), (.ref b1), (.ref b1)])) (fun t k => st2 t k) ?_
  obtain ⟨T3, h3, X3, e3, W3, Y3, st3⟩ := own_stR X2 hx hZ e2 V1 rfl rfl O1 (E_LIST.ext EX1_h0) 0 rfl (Nat.le_of_ble_eq_true rfl) (by decide) (by rw [hsh]; exact ge1_h0) (g := (mkF m 10 #[iv p1, .unset, .unset, .unset] [(.ref w_LIST), (.int (0 : Int32)), (.ref b1), (.ref b1)])) rfl rfl (hb hby at_10)
  have V3 : Arv Z h3 b1 k1 (.object "com/example/construe/construe/ResultShape") (11 : Int32) [(.ref w_LIST), .null, .null, .null, .null, .null, .null, .null, .null, .null, .null] .null := Y3
  have EX3_h0 : Ext h0 h3 := own_extW EX1_h0 W3 ge1_h0
  refine own_pre (T' := T3) (f' := (mkF m 11 #[iv p1, .unset, .unset, .unset] [(.ref b1)])) (fun t k => st3 t k) ?_
  refine own_pre (T' := T3) (f' := (mkF m 12 #[iv p1, .unset, .unset, .unset] [(.ref b1), (.ref b1)])) (fun t k => XS.dup X3.here hx rfl (hb hby at_11) rfl rfl k) ?_
  refine own_pre (T' := T3) (f' := (mkF m 13 #[iv p1, .unset, .unset, .unset] [(.int (1 : Int32)), (.ref b1), (.ref b1)])) (fun t k => XS.iconst X3.here hx rfl (hb hby at_12) k) ?_
  obtain ⟨T4, X4, e4, st4⟩ := getS2 X3 hx hZ hown (host := "") (Or.inl (hw _ (List.mem_of_getElem? (i := 6) rfl))) Via.refl e3 (S_SET.ext EX3_h0) (g := (mkF m 13 #[iv p1, .unset, .unset, .unset] [(.int (1 : Int32)), (.ref b1), (.ref b1)])) rfl (hb hby at_13)
  refine own_pre (T' := T4) (f' := (mkF m 16 #[iv p1, .unset, .unset, .unset] [(.ref w_SET), (.int (1 : Int32)), (.ref b1), (.ref b1)])) (fun t k => st4 t k) ?_
  obtain ⟨T5, h5, X5, e5, W5, Y5, st5⟩ := own_stR X4 hx hZ e4 V3 rfl rfl O1 (E_SET.ext EX3_h0) 1 rfl (Nat.le_of_ble_eq_true rfl) (by decide) (by rw [hsh]; exact ge1_h0) (g := (mkF m 16 #[iv p1, .unset, .unset, .unset] [(.ref w_SET), (.int (1 : Int32)), (.ref b1), (.ref b1)])) rfl rfl (hb hby at_16)
  have V5 : Arv Z h5 b1 k1 (.object "com/example/construe/construe/ResultShape") (11 : Int32) [(.ref w_LIST), (.ref w_SET), .null, .null, .null, .null, .null, .null, .null, .null, .null] .null := Y5
  have EX5_h0 : Ext h0 h5 := own_extW EX3_h0 W5 ge1_h0
  refine own_pre (T' := T5) (f' := (mkF m 17 #[iv p1, .unset, .unset, .unset] [(.ref b1)])) (fun t k => st5 t k) ?_
  refine own_pre (T' := T5) (f' := (mkF m 18 #[iv p1, .unset, .unset, .unset] [(.ref b1), (.ref b1)])) (fun t k => XS.dup X5.here hx rfl (hb hby at_17) rfl rfl k) ?_
  refine own_pre (T' := T5) (f' := (mkF m 19 #[iv p1, .unset, .unset, .unset] [(.int (2 : Int32)), (.ref b1), (.ref b1)])) (fun t k => XS.iconst X5.here hx rfl (hb hby at_18) k) ?_
  obtain ⟨T6, X6, e6, st6⟩ := getS2 X5 hx hZ hown (host := "") (Or.inl (hw _ (List.mem_of_getElem? (i := 8) rfl))) Via.refl e5 (S_STREAM.ext EX5_h0) (g := (mkF m 19 #[iv p1, .unset, .unset, .unset] [(.int (2 : Int32)), (.ref b1), (.ref b1)])) rfl (hb hby at_19)
  refine own_pre (T' := T6) (f' := (mkF m 22 #[iv p1, .unset, .unset, .unset] [(.ref w_STREAM), (.int (2 : Int32)), (.ref b1), (.ref b1)])) (fun t k => st6 t k) ?_
  obtain ⟨T7, h7, X7, e7, W7, Y7, st7⟩ := own_stR X6 hx hZ e6 V5 rfl rfl O1 (E_STREAM.ext EX5_h0) 2 rfl (Nat.le_of_ble_eq_true rfl) (by decide) (by rw [hsh]; exact ge1_h0) (g := (mkF m 22 #[iv p1, .unset, .unset, .unset] [(.ref w_STREAM), (.int (2 : Int32)), (.ref b1), (.ref b1)])) rfl rfl (hb hby at_22)
  have V7 : Arv Z h7 b1 k1 (.object "com/example/construe/construe/ResultShape") (11 : Int32) [(.ref w_LIST), (.ref w_SET), (.ref w_STREAM), .null, .null, .null, .null, .null, .null, .null, .null] .null := Y7
  have EX7_h0 : Ext h0 h7 := own_extW EX5_h0 W7 ge1_h0
  refine own_pre (T' := T7) (f' := (mkF m 23 #[iv p1, .unset, .unset, .unset] [(.ref b1)])) (fun t k => st7 t k) ?_
  refine own_pre (T' := T7) (f' := (mkF m 24 #[iv p1, .unset, .unset, .unset] [(.ref b1), (.ref b1)])) (fun t k => XS.dup X7.here hx rfl (hb hby at_23) rfl rfl k) ?_
  refine own_pre (T' := T7) (f' := (mkF m 25 #[iv p1, .unset, .unset, .unset] [(.int (3 : Int32)), (.ref b1), (.ref b1)])) (fun t k => XS.iconst X7.here hx rfl (hb hby at_24) k) ?_
  obtain ⟨T8, X8, e8, st8⟩ := getS2 X7 hx hZ hown (host := "") (Or.inl (hw _ (List.mem_of_getElem? (i := 10) rfl))) Via.refl e7 (S_PAGE.ext EX7_h0) (g := (mkF m 25 #[iv p1, .unset, .unset, .unset] [(.int (3 : Int32)), (.ref b1), (.ref b1)])) rfl (hb hby at_25)
  refine own_pre (T' := T8) (f' := (mkF m 28 #[iv p1, .unset, .unset, .unset] [(.ref w_PAGE), (.int (3 : Int32)), (.ref b1), (.ref b1)])) (fun t k => st8 t k) ?_
  obtain ⟨T9, h9, X9, e9, W9, Y9, st9⟩ := own_stR X8 hx hZ e8 V7 rfl rfl O1 (E_PAGE.ext EX7_h0) 3 rfl (Nat.le_of_ble_eq_true rfl) (by decide) (by rw [hsh]; exact ge1_h0) (g := (mkF m 28 #[iv p1, .unset, .unset, .unset] [(.ref w_PAGE), (.int (3 : Int32)), (.ref b1), (.ref b1)])) rfl rfl (hb hby at_28)
  have V9 : Arv Z h9 b1 k1 (.object "com/example/construe/construe/ResultShape") (11 : Int32) [(.ref w_LIST), (.ref w_SET), (.ref w_STREAM), (.ref w_PAGE), .null, .null, .null, .null, .null, .null, .null] .null := Y9
  have EX9_h0 : Ext h0 h9 := own_extW EX7_h0 W9 ge1_h0
  refine own_pre (T' := T9) (f' := (mkF m 29 #[iv p1, .unset, .unset, .unset] [(.ref b1)])) (fun t k => st9 t k) ?_
  refine own_pre (T' := T9) (f' := (mkF m 30 #[iv p1, .unset, .unset, .unset] [(.ref b1), (.ref b1)])) (fun t k => XS.dup X9.here hx rfl (hb hby at_29) rfl rfl k) ?_
  refine own_pre (T' := T9) (f' := (mkF m 31 #[iv p1, .unset, .unset, .unset] [(.int (4 : Int32)), (.ref b1), (.ref b1)])) (fun t k => XS.iconst X9.here hx rfl (hb hby at_30) k) ?_
  obtain ⟨T10, X10, e10, st10⟩ := getS2 X9 hx hZ hown (host := "") (Or.inl (hw _ (List.mem_of_getElem? (i := 12) rfl))) Via.refl e9 (S_SLICE.ext EX9_h0) (g := (mkF m 31 #[iv p1, .unset, .unset, .unset] [(.int (4 : Int32)), (.ref b1), (.ref b1)])) rfl (hb hby at_31)
  refine own_pre (T' := T10) (f' := (mkF m 34 #[iv p1, .unset, .unset, .unset] [(.ref w_SLICE), (.int (4 : Int32)), (.ref b1), (.ref b1)])) (fun t k => st10 t k) ?_
  obtain ⟨T11, h11, X11, e11, W11, Y11, st11⟩ := own_stR X10 hx hZ e10 V9 rfl rfl O1 (E_SLICE.ext EX9_h0) 4 rfl (Nat.le_of_ble_eq_true rfl) (by decide) (by rw [hsh]; exact ge1_h0) (g := (mkF m 34 #[iv p1, .unset, .unset, .unset] [(.ref w_SLICE), (.int (4 : Int32)), (.ref b1), (.ref b1)])) rfl rfl (hb hby at_34)
  have V11 : Arv Z h11 b1 k1 (.object "com/example/construe/construe/ResultShape") (11 : Int32) [(.ref w_LIST), (.ref w_SET), (.ref w_STREAM), (.ref w_PAGE), (.ref w_SLICE), .null, .null, .null, .null, .null, .null] .null := Y11
  have EX11_h0 : Ext h0 h11 := own_extW EX9_h0 W11 ge1_h0
  refine own_pre (T' := T11) (f' := (mkF m 35 #[iv p1, .unset, .unset, .unset] [(.ref b1)])) (fun t k => st11 t k) ?_
  refine own_pre (T' := T11) (f' := (mkF m 36 #[iv p1, .unset, .unset, .unset] [(.ref b1), (.ref b1)])) (fun t k => XS.dup X11.here hx rfl (hb hby at_35) rfl rfl k) ?_
  refine own_pre (T' := T11) (f' := (mkF m 37 #[iv p1, .unset, .unset, .unset] [(.int (5 : Int32)), (.ref b1), (.ref b1)])) (fun t k => XS.iconst X11.here hx rfl (hb hby at_36) k) ?_
  obtain ⟨T12, X12, e12, st12⟩ := getS2 X11 hx hZ hown (host := "") (Or.inl (hw _ (List.mem_of_getElem? (i := 14) rfl))) Via.refl e11 (S_ONE.ext EX11_h0) (g := (mkF m 37 #[iv p1, .unset, .unset, .unset] [(.int (5 : Int32)), (.ref b1), (.ref b1)])) rfl (hb hby at_37)
  refine own_pre (T' := T12) (f' := (mkF m 40 #[iv p1, .unset, .unset, .unset] [(.ref w_ONE), (.int (5 : Int32)), (.ref b1), (.ref b1)])) (fun t k => st12 t k) ?_
  obtain ⟨T13, h13, X13, e13, W13, Y13, st13⟩ := own_stR X12 hx hZ e12 V11 rfl rfl O1 (E_ONE.ext EX11_h0) 5 rfl (Nat.le_of_ble_eq_true rfl) (by decide) (by rw [hsh]; exact ge1_h0) (g := (mkF m 40 #[iv p1, .unset, .unset, .unset] [(.ref w_ONE), (.int (5 : Int32)), (.ref b1), (.ref b1)])) rfl rfl (hb hby at_40)
  have V13 : Arv Z h13 b1 k1 (.object "com/example/construe/construe/ResultShape") (11 : Int32) [(.ref w_LIST), (.ref w_SET), (.ref w_STREAM), (.ref w_PAGE), (.ref w_SLICE), (.ref w_ONE), .null, .null, .null, .null, .null] .null := Y13
  have EX13_h0 : Ext h0 h13 := own_extW EX11_h0 W13 ge1_h0
  refine own_pre (T' := T13) (f' := (mkF m 41 #[iv p1, .unset, .unset, .unset] [(.ref b1)])) (fun t k => st13 t k) ?_
  refine own_pre (T' := T13) (f' := (mkF m 42 #[iv p1, .unset, .unset, .unset] [(.ref b1), (.ref b1)])) (fun t k => XS.dup X13.here hx rfl (hb hby at_41) rfl rfl k) ?_
  refine own_pre (T' := T13) (f' := (mkF m 44 #[iv p1, .unset, .unset, .unset] [(.int (6 : Int32)), (.ref b1), (.ref b1)])) (fun t k => XS.bipush X13.here hx rfl (hb hby at_42) k) ?_
  obtain ⟨T14, X14, e14, st14⟩ := getS2 X13 hx hZ hown (host := "") (Or.inl (hw _ (List.mem_of_getElem? (i := 16) rfl))) Via.refl e13 (S_OPTIONAL.ext EX13_h0) (g := (mkF m 44 #[iv p1, .unset, .unset, .unset] [(.int (6 : Int32)), (.ref b1), (.ref b1)])) rfl (hb hby at_44)
  refine own_pre (T' := T14) (f' := (mkF m 47 #[iv p1, .unset, .unset, .unset] [(.ref w_OPTIONAL), (.int (6 : Int32)), (.ref b1), (.ref b1)])) (fun t k => st14 t k) ?_
  obtain ⟨T15, h15, X15, e15, W15, Y15, st15⟩ := own_stR X14 hx hZ e14 V13 rfl rfl O1 (E_OPTIONAL.ext EX13_h0) 6 rfl (Nat.le_of_ble_eq_true rfl) (by decide) (by rw [hsh]; exact ge1_h0) (g := (mkF m 47 #[iv p1, .unset, .unset, .unset] [(.ref w_OPTIONAL), (.int (6 : Int32)), (.ref b1), (.ref b1)])) rfl rfl (hb hby at_47)
  have V15 : Arv Z h15 b1 k1 (.object "com/example/construe/construe/ResultShape") (11 : Int32) [(.ref w_LIST), (.ref w_SET), (.ref w_STREAM), (.ref w_PAGE), (.ref w_SLICE), (.ref w_ONE), (.ref w_OPTIONAL), .null, .null, .null, .null] .null := Y15
  have EX15_h0 : Ext h0 h15 := own_extW EX13_h0 W15 ge1_h0
  refine own_pre (T' := T15) (f' := (mkF m 48 #[iv p1, .unset, .unset, .unset] [(.ref b1)])) (fun t k => st15 t k) ?_
  refine own_pre (T' := T15) (f' := (mkF m 49 #[iv p1, .unset, .unset, .unset] [(.ref b1), (.ref b1)])) (fun t k => XS.dup X15.here hx rfl (hb hby at_48) rfl rfl k) ?_
  refine own_pre (T' := T15) (f' := (mkF m 51 #[iv p1, .unset, .unset, .unset] [(.int (7 : Int32)), (.ref b1), (.ref b1)])) (fun t k => XS.bipush X15.here hx rfl (hb hby at_49) k) ?_
  obtain ⟨T16, X16, e16, st16⟩ := getS2 X15 hx hZ hown (host := "") (Or.inl (hw _ (List.mem_of_getElem? (i := 18) rfl))) Via.refl e15 (S_LONG.ext EX15_h0) (g := (mkF m 51 #[iv p1, .unset, .unset, .unset] [(.int (7 : Int32)), (.ref b1), (.ref b1)])) rfl (hb hby at_51)
  refine own_pre (T' := T16) (f' := (mkF m 54 #[iv p1, .unset, .unset, .unset] [(.ref w_LONG), (.int (7 : Int32)), (.ref b1), (.ref b1)])) (fun t k => st16 t k) ?_
  obtain ⟨T17, h17, X17, e17, W17, Y17, st17⟩ := own_stR X16 hx hZ e16 V15 rfl rfl O1 (E_LONG.ext EX15_h0) 7 rfl (Nat.le_of_ble_eq_true rfl) (by decide) (by rw [hsh]; exact ge1_h0) (g := (mkF m 54 #[iv p1, .unset, .unset, .unset] [(.ref w_LONG), (.int (7 : Int32)), (.ref b1), (.ref b1)])) rfl rfl (hb hby at_54)
  have V17 : Arv Z h17 b1 k1 (.object "com/example/construe/construe/ResultShape") (11 : Int32) [(.ref w_LIST), (.ref w_SET), (.ref w_STREAM), (.ref w_PAGE), (.ref w_SLICE), (.ref w_ONE), (.ref w_OPTIONAL), (.ref w_LONG), .null, .null, .null] .null := Y17
  have EX17_h0 : Ext h0 h17 := own_extW EX15_h0 W17 ge1_h0
  refine own_pre (T' := T17) (f' := (mkF m 55 #[iv p1, .unset, .unset, .unset] [(.ref b1)])) (fun t k => st17 t k) ?_
  refine own_pre (T' := T17) (f' := (mkF m 56 #[iv p1, .unset, .unset, .unset] [(.ref b1), (.ref b1)])) (fun t k => XS.dup X17.here hx rfl (hb hby at_55) rfl rfl k) ?_
  refine own_pre (T' := T17) (f' := (mkF m 58 #[iv p1, .unset, .unset, .unset] [(.int (8 : Int32)), (.ref b1), (.ref b1)])) (fun t k => XS.bipush X17.here hx rfl (hb hby at_56) k) ?_
  obtain ⟨T18, X18, e18, st18⟩ := getS2 X17 hx hZ hown (host := "") (Or.inl (hw _ (List.mem_of_getElem? (i := 20) rfl))) Via.refl e17 (S_INT.ext EX17_h0) (g := (mkF m 58 #[iv p1, .unset, .unset, .unset] [(.int (8 : Int32)), (.ref b1), (.ref b1)])) rfl (hb hby at_58)
  refine own_pre (T' := T18) (f' := (mkF m 61 #[iv p1, .unset, .unset, .unset] [(.ref w_INT), (.int (8 : Int32)), (.ref b1), (.ref b1)])) (fun t k => st18 t k) ?_
  obtain ⟨T19, h19, X19, e19, W19, Y19, st19⟩ := own_stR X18 hx hZ e18 V17 rfl rfl O1 (E_INT.ext EX17_h0) 8 rfl (Nat.le_of_ble_eq_true rfl) (by decide) (by rw [hsh]; exact ge1_h0) (g := (mkF m 61 #[iv p1, .unset, .unset, .unset] [(.ref w_INT), (.int (8 : Int32)), (.ref b1), (.ref b1)])) rfl rfl (hb hby at_61)
  have V19 : Arv Z h19 b1 k1 (.object "com/example/construe/construe/ResultShape") (11 : Int32) [(.ref w_LIST), (.ref w_SET), (.ref w_STREAM), (.ref w_PAGE), (.ref w_SLICE), (.ref w_ONE), (.ref w_OPTIONAL), (.ref w_LONG), (.ref w_INT), .null, .null] .null := Y19
  have EX19_h0 : Ext h0 h19 := own_extW EX17_h0 W19 ge1_h0
  refine own_pre (T' := T19) (f' := (mkF m 62 #[iv p1, .unset, .unset, .unset] [(.ref b1)])) (fun t k => st19 t k) ?_
  refine own_pre (T' := T19) (f' := (mkF m 63 #[iv p1, .unset, .unset, .unset] [(.ref b1), (.ref b1)])) (fun t k => XS.dup X19.here hx rfl (hb hby at_62) rfl rfl k) ?_
  refine own_pre (T' := T19) (f' := (mkF m 65 #[iv p1, .unset, .unset, .unset] [(.int (9 : Int32)), (.ref b1), (.ref b1)])) (fun t k => XS.bipush X19.here hx rfl (hb hby at_63) k) ?_
  obtain ⟨T20, X20, e20, st20⟩ := getS2 X19 hx hZ hown (host := "") (Or.inl (hw _ (List.mem_of_getElem? (i := 22) rfl))) Via.refl e19 (S_BOOLEAN.ext EX19_h0) (g := (mkF m 65 #[iv p1, .unset, .unset, .unset] [(.int (9 : Int32)), (.ref b1), (.ref b1)])) rfl (hb hby at_65)
  refine own_pre (T' := T20) (f' := (mkF m 68 #[iv p1, .unset, .unset, .unset] [(.ref w_BOOLEAN), (.int (9 : Int32)), (.ref b1), (.ref b1)])) (fun t k => st20 t k) ?_
  obtain ⟨T21, h21, X21, e21, W21, Y21, st21⟩ := own_stR X20 hx hZ e20 V19 rfl rfl O1 (E_BOOLEAN.ext EX19_h0) 9 rfl (Nat.le_of_ble_eq_true rfl) (by decide) (by rw [hsh]; exact ge1_h0) (g := (mkF m 68 #[iv p1, .unset, .unset, .unset] [(.ref w_BOOLEAN), (.int (9 : Int32)), (.ref b1), (.ref b1)])) rfl rfl (hb hby at_68)
  have V21 : Arv Z h21 b1 k1 (.object "com/example/construe/construe/ResultShape") (11 : Int32) [(.ref w_LIST), (.ref w_SET), (.ref w_STREAM), (.ref w_PAGE), (.ref w_SLICE), (.ref w_ONE), (.ref w_OPTIONAL), (.ref w_LONG), (.ref w_INT), (.ref w_BOOLEAN), .null] .null := Y21
  have EX21_h0 : Ext h0 h21 := own_extW EX19_h0 W21 ge1_h0
  refine own_pre (T' := T21) (f' := (mkF m 69 #[iv p1, .unset, .unset, .unset] [(.ref b1)])) (fun t k => st21 t k) ?_
  refine own_pre (T' := T21) (f' := (mkF m 70 #[iv p1, .unset, .unset, .unset] [(.ref b1), (.ref b1)])) (fun t k => XS.dup X21.here hx rfl (hb hby at_69) rfl rfl k) ?_
  refine own_pre (T' := T21) (f' := (mkF m 72 #[iv p1, .unset, .unset, .unset] [(.int (10 : Int32)), (.ref b1), (.ref b1)])) (fun t k => XS.bipush X21.here hx rfl (hb hby at_70) k) ?_
  obtain ⟨T22, X22, e22, st22⟩ := getS2 X21 hx hZ hown (host := "") (Or.inl (hw _ (List.mem_of_getElem? (i := 24) rfl))) Via.refl e21 (S_VOID.ext EX21_h0) (g := (mkF m 72 #[iv p1, .unset, .unset, .unset] [(.int (10 : Int32)), (.ref b1), (.ref b1)])) rfl (hb hby at_72)
  refine own_pre (T' := T22) (f' := (mkF m 75 #[iv p1, .unset, .unset, .unset] [(.ref w_VOID), (.int (10 : Int32)), (.ref b1), (.ref b1)])) (fun t k => st22 t k) ?_
  obtain ⟨T23, h23, X23, e23, W23, Y23, st23⟩ := own_stR X22 hx hZ e22 V21 rfl rfl O1 (E_VOID.ext EX21_h0) 10 rfl (Nat.le_of_ble_eq_true rfl) (by decide) (by rw [hsh]; exact ge1_h0) (g := (mkF m 75 #[iv p1, .unset, .unset, .unset] [(.ref w_VOID), (.int (10 : Int32)), (.ref b1), (.ref b1)])) rfl rfl (hb hby at_75)
  have V23 : Arv Z h23 b1 k1 (.object "com/example/construe/construe/ResultShape") (11 : Int32) [(.ref w_LIST), (.ref w_SET), (.ref w_STREAM), (.ref w_PAGE), (.ref w_SLICE), (.ref w_ONE), (.ref w_OPTIONAL), (.ref w_LONG), (.ref w_INT), (.ref w_BOOLEAN), (.ref w_VOID)] .null := Y23
  have EX23_h0 : Ext h0 h23 := own_extW EX21_h0 W23 ge1_h0
  refine own_pre (T' := T23) (f' := (mkF m 76 #[iv p1, .unset, .unset, .unset] [(.ref b1)])) (fun t k => st23 t k) ?_
  refine own_pre (T' := T23) (f' := (mkF m 77 #[iv p1, rv b1, .unset, .unset] [])) (fun t k => XS.astoreN X23.here hx rfl (hb hby at_76) rfl rfl (l' := #[iv p1, rv b1, .unset, .unset]) rfl k) ?_
  refine own_pre (T' := T23) (f' := (mkF m 79 #[iv p1, rv b1, .unset, .unset] [(.int (11 : Int32))])) (fun t k => XS.bipush X23.here hx rfl (hb hby at_77) k) ?_
  obtain ⟨T24, h24, k24, X24, e24, E24, A24, st24⟩ := newP X23 hx hZ (hw _ (List.mem_of_getElem? (i := 26) rfl)) e23 (g := (mkF m 79 #[iv p1, rv b1, .unset, .unset] [(.int (11 : Int32))])) rfl (hb hby at_79) rfl (by decide) (cap := 11) (by decide) (by decide) (by decide) (by decide)
  obtain ⟨b24, g24⟩ : ∃ z, z = h23.size := ⟨_, rfl⟩
  rw [← g24] at A24 st24
  have V24 : Arv Z h24 b24 k24 .boolean (11 : Int32) [(.int (0 : Int32)), (.int (0 : Int32)), (.int (0 : Int32)), (.int (0 : Int32)), (.int (0 : Int32)), (.int (0 : Int32)), (.int (0 : Int32)), (.int (0 : Int32)), (.int (0 : Int32)), (.int (0 : Int32)), (.int (0 : Int32))] (.int (0 : Int32)) := (Arv.new A24 (by decide)).pad (pad_rep [] (.int (0 : Int32)) 11)
  have ge24_h0 : h0.size ≤ b24 := by rw [g24]; exact EX23_h0.1
  have ge24_h23 : h23.size ≤ b24 := by rw [g24]; exact Nat.le_refl _
  have EX24_h0 : Ext h0 h24 := own_extE EX23_h0 E24
  have EX24_h23 : Ext h23 h24 := E24
  refine own_pre (T' := T24) (f' := (mkF m 81 #[iv p1, rv b1, .unset, .unset] [(.ref b24)])) (fun t k => st24 t k) ?_
  refine own_pre (T' := T24) (f' := (mkF m 82 #[iv p1, rv b1, .unset, .unset] [(.ref b24), (.ref b24)])) (fun t k => XS.dup X24.here hx rfl (hb hby at_81) rfl rfl k) ?_
  refine own_pre (T' := T24) (f' := (mkF m 83 #[iv p1, rv b1, .unset, .unset] [(.int (0 : Int32)), (.ref b24), (.ref b24)])) (fun t k => XS.iconst X24.here hx rfl (hb hby at_82) k) ?_
  refine own_pre (T' := T24) (f' := (mkF m 84 #[iv p1, rv b1, .unset, .unset] [(.int (1 : Int32)), (.int (0 : Int32)), (.ref b24), (.ref b24)])) (fun t k => XS.iconst X24.here hx rfl (hb hby at_83) k) ?_
  obtain ⟨T25, h25, X25, e25, W25, Y25, st25⟩ := own_stZ X24 hx hZ e24 V24 0 rfl (Nat.le_of_ble_eq_true rfl) (by decide) (by rw [hsh]; exact ge24_h0) (g := (mkF m 84 #[iv p1, rv b1, .unset, .unset] [(.int (1 : Int32)), (.int (0 : Int32)), (.ref b24), (.ref b24)])) rfl rfl (hb hby at_84)
  have V25 : Arv Z h25 b24 k24 .boolean (11 : Int32) [(.int (1 : Int32)), (.int (0 : Int32)), (.int (0 : Int32)), (.int (0 : Int32)), (.int (0 : Int32)), (.int (0 : Int32)), (.int (0 : Int32)), (.int (0 : Int32)), (.int (0 : Int32)), (.int (0 : Int32)), (.int (0 : Int32))] (.int (0 : Int32)) := Y25
  have EX25_h0 : Ext h0 h25 := own_extW EX24_h0 W25 ge24_h0
  have EX25_h23 : Ext h23 h25 := own_extW EX24_h23 W25 ge24_h23
  refine own_pre (T' := T25) (f' := (mkF m 85 #[iv p1, rv b1, .unset, .unset] [(.ref b24)])) (fun t k => st25 t k) ?_
  refine own_pre (T' := T25) (f' := (mkF m 86 #[iv p1, rv b1, .unset, .unset] [(.ref b24), (.ref b24)])) (fun t k => XS.dup X25.here hx rfl (hb hby at_85) rfl rfl k) ?_
  refine own_pre (T' := T25) (f' := (mkF m 87 #[iv p1, rv b1, .unset, .unset] [(.int (1 : Int32)), (.ref b24), (.ref b24)])) (fun t k => XS.iconst X25.here hx rfl (hb hby at_86) k) ?_
  refine own_pre (T' := T25) (f' := (mkF m 88 #[iv p1, rv b1, .unset, .unset] [(.int (1 : Int32)), (.int (1 : Int32)), (.ref b24), (.ref b24)])) (fun t k => XS.iconst X25.here hx rfl (hb hby at_87) k) ?_
  obtain ⟨T26, h26, X26, e26, W26, Y26, st26⟩ := own_stZ X25 hx hZ e25 V25 1 rfl (Nat.le_of_ble_eq_true rfl) (by decide) (by rw [hsh]; exact ge24_h0) (g := (mkF m 88 #[iv p1, rv b1, .unset, .unset] [(.int (1 : Int32)), (.int (1 : Int32)), (.ref b24), (.ref b24)])) rfl rfl (hb hby at_88)
  have V26 : Arv Z h26 b24 k24 .boolean (11 : Int32) [(.int (1 : Int32)), (.int (1 : Int32)), (.int (0 : Int32)), (.int (0 : Int32)), (.int (0 : Int32)), (.int (0 : Int32)), (.int (0 : Int32)), (.int (0 : Int32)), (.int (0 : Int32)), (.int (0 : Int32)), (.int (0 : Int32))] (.int (0 : Int32)) := Y26
  have EX26_h0 : Ext h0 h26 := own_extW EX25_h0 W26 ge24_h0
  have EX26_h23 : Ext h23 h26 := own_extW EX25_h23 W26 ge24_h23
  refine own_pre (T' := T26) (f' := (mkF m 89 #[iv p1, rv b1, .unset, .unset] [(.ref b24)])) (fun t k => st26 t k) ?_
  refine own_pre (T' := T26) (f' := (mkF m 90 #[iv p1, rv b1, .unset, .unset] [(.ref b24), (.ref b24)])) (fun t k => XS.dup X26.here hx rfl (hb hby at_89) rfl rfl k) ?_
  refine own_pre (T' := T26) (f' := (mkF m 91 #[iv p1, rv b1, .unset, .unset] [(.int (2 : Int32)), (.ref b24), (.ref b24)])) (fun t k => XS.iconst X26.here hx rfl (hb hby at_90) k) ?_
  refine own_pre (T' := T26) (f' := (mkF m 92 #[iv p1, rv b1, .unset, .unset] [(.int (1 : Int32)), (.int (2 : Int32)), (.ref b24), (.ref b24)])) (fun t k => XS.iconst X26.here hx rfl (hb hby at_91) k) ?_
  obtain ⟨T27, h27, X27, e27, W27, Y27, st27⟩ := own_stZ X26 hx hZ e26 V26 2 rfl (Nat.le_of_ble_eq_true rfl) (by decide) (by rw [hsh]; exact ge24_h0) (g := (mkF m 92 #[iv p1, rv b1, .unset, .unset] [(.int (1 : Int32)), (.int (2 : Int32)), (.ref b24), (.ref b24)])) rfl rfl (hb hby at_92)
  have V27 : Arv Z h27 b24 k24 .boolean (11 : Int32) [(.int (1 : Int32)), (.int (1 : Int32)), (.int (1 : Int32)), (.int (0 : Int32)), (.int (0 : Int32)), (.int (0 : Int32)), (.int (0 : Int32)), (.int (0 : Int32)), (.int (0 : Int32)), (.int (0 : Int32)), (.int (0 : Int32))] (.int (0 : Int32)) := Y27
  have EX27_h0 : Ext h0 h27 := own_extW EX26_h0 W27 ge24_h0
  have EX27_h23 : Ext h23 h27 := own_extW EX26_h23 W27 ge24_h23
  refine own_pre (T' := T27) (f' := (mkF m 93 #[iv p1, rv b1, .unset, .unset] [(.ref b24)])) (fun t k => st27 t k) ?_
  refine own_pre (T' := T27) (f' := (mkF m 94 #[iv p1, rv b1, .unset, .unset] [(.ref b24), (.ref b24)])) (fun t k => XS.dup X27.here hx rfl (hb hby at_93) rfl rfl k) ?_
  refine own_pre (T' := T27) (f' := (mkF m 95 #[iv p1, rv b1, .unset, .unset] [(.int (3 : Int32)), (.ref b24), (.ref b24)])) (fun t k => XS.iconst X27.here hx rfl (hb hby at_94) k) ?_
  refine own_pre (T' := T27) (f' := (mkF m 96 #[iv p1, rv b1, .unset, .unset] [(.int (1 : Int32)), (.int (3 : Int32)), (.ref b24), (.ref b24)])) (fun t k => XS.iconst X27.here hx rfl (hb hby at_95) k) ?_
  obtain ⟨T28, h28, X28, e28, W28, Y28, st28⟩ := own_stZ X27 hx hZ e27 V27 3 rfl (Nat.le_of_ble_eq_true rfl) (by decide) (by rw [hsh]; exact ge24_h0) (g := (mkF m 96 #[iv p1, rv b1, .unset, .unset] [(.int (1 : Int32)), (.int (3 : Int32)), (.ref b24), (.ref b24)])) rfl rfl (hb hby at_96)
  have V28 : Arv Z h28 b24 k24 .boolean (11 : Int32) [(.int (1 : Int32)), (.int (1 : Int32)), (.int (1 : Int32)), (.int (1 : Int32)), (.int (0 : Int32)), (.int (0 : Int32)), (.int (0 : Int32)), (.int (0 : Int32)), (.int (0 : Int32)), (.int (0 : Int32)), (.int (0 : Int32))] (.int (0 : Int32)) := Y28
  have EX28_h0 : Ext h0 h28 := own_extW EX27_h0 W28 ge24_h0
  have EX28_h23 : Ext h23 h28 := own_extW EX27_h23 W28 ge24_h23
  refine own_pre (T' := T28) (f' := (mkF m 97 #[iv p1, rv b1, .unset, .unset] [(.ref b24)])) (fun t k => st28 t k) ?_
  refine own_pre (T' := T28) (f' := (mkF m 98 #[iv p1, rv b1, .unset, .unset] [(.ref b24), (.ref b24)])) (fun t k => XS.dup X28.here hx rfl (hb hby at_97) rfl rfl k) ?_
  refine own_pre (T' := T28) (f' := (mkF m 99 #[iv p1, rv b1, .unset, .unset] [(.int (4 : Int32)), (.ref b24), (.ref b24)])) (fun t k => XS.iconst X28.here hx rfl (hb hby at_98) k) ?_
  refine own_pre (T' := T28) (f' := (mkF m 100 #[iv p1, rv b1, .unset, .unset] [(.int (1 : Int32)), (.int (4 : Int32)), (.ref b24), (.ref b24)])) (fun t k => XS.iconst X28.here hx rfl (hb hby at_99) k) ?_
  obtain ⟨T29, h29, X29, e29, W29, Y29, st29⟩ := own_stZ X28 hx hZ e28 V28 4 rfl (Nat.le_of_ble_eq_true rfl) (by decide) (by rw [hsh]; exact ge24_h0) (g := (mkF m 100 #[iv p1, rv b1, .unset, .unset] [(.int (1 : Int32)), (.int (4 : Int32)), (.ref b24), (.ref b24)])) rfl rfl (hb hby at_100)
  have V29 : Arv Z h29 b24 k24 .boolean (11 : Int32) [(.int (1 : Int32)), (.int (1 : Int32)), (.int (1 : Int32)), (.int (1 : Int32)), (.int (1 : Int32)), (.int (0 : Int32)), (.int (0 : Int32)), (.int (0 : Int32)), (.int (0 : Int32)), (.int (0 : Int32)), (.int (0 : Int32))] (.int (0 : Int32)) := Y29
  have EX29_h0 : Ext h0 h29 := own_extW EX28_h0 W29 ge24_h0
  have EX29_h23 : Ext h23 h29 := own_extW EX28_h23 W29 ge24_h23
  refine own_pre (T' := T29) (f' := (mkF m 101 #[iv p1, rv b1, .unset, .unset] [(.ref b24)])) (fun t k => st29 t k) ?_
  refine own_pre (T' := T29) (f' := (mkF m 102 #[iv p1, rv b1, .unset, .unset] [(.ref b24), (.ref b24)])) (fun t k => XS.dup X29.here hx rfl (hb hby at_101) rfl rfl k) ?_
  refine own_pre (T' := T29) (f' := (mkF m 103 #[iv p1, rv b1, .unset, .unset] [(.int (5 : Int32)), (.ref b24), (.ref b24)])) (fun t k => XS.iconst X29.here hx rfl (hb hby at_102) k) ?_
  refine own_pre (T' := T29) (f' := (mkF m 104 #[iv p1, rv b1, .unset, .unset] [(.int (1 : Int32)), (.int (5 : Int32)), (.ref b24), (.ref b24)])) (fun t k => XS.iconst X29.here hx rfl (hb hby at_103) k) ?_
  obtain ⟨T30, h30, X30, e30, W30, Y30, st30⟩ := own_stZ X29 hx hZ e29 V29 5 rfl (Nat.le_of_ble_eq_true rfl) (by decide) (by rw [hsh]; exact ge24_h0) (g := (mkF m 104 #[iv p1, rv b1, .unset, .unset] [(.int (1 : Int32)), (.int (5 : Int32)), (.ref b24), (.ref b24)])) rfl rfl (hb hby at_104)
  have V30 : Arv Z h30 b24 k24 .boolean (11 : Int32) [(.int (1 : Int32)), (.int (1 : Int32)), (.int (1 : Int32)), (.int (1 : Int32)), (.int (1 : Int32)), (.int (1 : Int32)), (.int (0 : Int32)), (.int (0 : Int32)), (.int (0 : Int32)), (.int (0 : Int32)), (.int (0 : Int32))] (.int (0 : Int32)) := Y30
  have EX30_h0 : Ext h0 h30 := own_extW EX29_h0 W30 ge24_h0
  have EX30_h23 : Ext h23 h30 := own_extW EX29_h23 W30 ge24_h23
  refine own_pre (T' := T30) (f' := (mkF m 105 #[iv p1, rv b1, .unset, .unset] [(.ref b24)])) (fun t k => st30 t k) ?_
  refine own_pre (T' := T30) (f' := (mkF m 106 #[iv p1, rv b1, .unset, .unset] [(.ref b24), (.ref b24)])) (fun t k => XS.dup X30.here hx rfl (hb hby at_105) rfl rfl k) ?_
  refine own_pre (T' := T30) (f' := (mkF m 108 #[iv p1, rv b1, .unset, .unset] [(.int (6 : Int32)), (.ref b24), (.ref b24)])) (fun t k => XS.bipush X30.here hx rfl (hb hby at_106) k) ?_
  refine own_pre (T' := T30) (f' := (mkF m 109 #[iv p1, rv b1, .unset, .unset] [(.int (1 : Int32)), (.int (6 : Int32)), (.ref b24), (.ref b24)])) (fun t k => XS.iconst X30.here hx rfl (hb hby at_108) k) ?_
  obtain ⟨T31, h31, X31, e31, W31, Y31, st31⟩ := own_stZ X30 hx hZ e30 V30 6 rfl (Nat.le_of_ble_eq_true rfl) (by decide) (by rw [hsh]; exact ge24_h0) (g := (mkF m 109 #[iv p1, rv b1, .unset, .unset] [(.int (1 : Int32)), (.int (6 : Int32)), (.ref b24), (.ref b24)])) rfl rfl (hb hby at_109)
  have V31 : Arv Z h31 b24 k24 .boolean (11 : Int32) [(.int (1 : Int32)), (.int (1 : Int32)), (.int (1 : Int32)), (.int (1 : Int32)), (.int (1 : Int32)), (.int (1 : Int32)), (.int (1 : Int32)), (.int (0 : Int32)), (.int (0 : Int32)), (.int (0 : Int32)), (.int (0 : Int32))] (.int (0 : Int32)) := Y31
  have EX31_h0 : Ext h0 h31 := own_extW EX30_h0 W31 ge24_h0
  have EX31_h23 : Ext h23 h31 := own_extW EX30_h23 W31 ge24_h23
  refine own_pre (T' := T31) (f' := (mkF m 110 #[iv p1, rv b1, .unset, .unset] [(.ref b24)])) (fun t k => st31 t k) ?_
  refine own_pre (T' := T31) (f' := (mkF m 111 #[iv p1, rv b1, .unset, .unset] [(.ref b24), (.ref b24)])) (fun t k => XS.dup X31.here hx rfl (hb hby at_110) rfl rfl k) ?_
  refine own_pre (T' := T31) (f' := (mkF m 113 #[iv p1, rv b1, .unset, .unset] [(.int (7 : Int32)), (.ref b24), (.ref b24)])) (fun t k => XS.bipush X31.here hx rfl (hb hby at_111) k) ?_
  refine own_pre (T' := T31) (f' := (mkF m 114 #[iv p1, rv b1, .unset, .unset] [(.int (0 : Int32)), (.int (7 : Int32)), (.ref b24), (.ref b24)])) (fun t k => XS.iconst X31.here hx rfl (hb hby at_113) k) ?_
  obtain ⟨T32, h32, X32, e32, W32, Y32, st32⟩ := own_stZ X31 hx hZ e31 V31 7 rfl (Nat.le_of_ble_eq_true rfl) (by decide) (by rw [hsh]; exact ge24_h0) (g := (mkF m 114 #[iv p1, rv b1, .unset, .unset] [(.int (0 : Int32)), (.int (7 : Int32)), (.ref b24), (.ref b24)])) rfl rfl (hb hby at_114)
  have V32 : Arv Z h32 b24 k24 .boolean (11 : Int32) [(.int (1 : Int32)), (.int (1 : Int32)), (.int (1 : Int32)), (.int (1 : Int32)), (.int (1 : Int32)), (.int (1 : Int32)), (.int (1 : Int32)), (.int (0 : Int32)), (.int (0 : Int32)), (.int (0 : Int32)), (.int (0 : Int32))] (.int (0 : Int32)) := Y32
  have EX32_h0 : Ext h0 h32 := own_extW EX31_h0 W32 ge24_h0
  have EX32_h23 : Ext h23 h32 := own_extW EX31_h23 W32 ge24_h23
  refine own_pre (T' := T32) (f' := (mkF m 115 #[iv p1, rv b1, .unset, .unset] [(.ref b24)])) (fun t k => st32 t k) ?_
  refine own_pre (T' := T32) (f' := (mkF m 116 #[iv p1, rv b1, .unset, .unset] [(.ref b24), (.ref b24)])) (fun t k => XS.dup X32.here hx rfl (hb hby at_115) rfl rfl k) ?_
  refine own_pre (T' := T32) (f' := (mkF m 118 #[iv p1, rv b1, .unset, .unset] [(.int (8 : Int32)), (.ref b24), (.ref b24)])) (fun t k => XS.bipush X32.here hx rfl (hb hby at_116) k) ?_
  refine own_pre (T' := T32) (f' := (mkF m 119 #[iv p1, rv b1, .unset, .unset] [(.int (0 : Int32)), (.int (8 : Int32)), (.ref b24), (.ref b24)])) (fun t k => XS.iconst X32.here hx rfl (hb hby at_118) k) ?_
  obtain ⟨T33, h33, X33, e33, W33, Y33, st33⟩ := own_stZ X32 hx hZ e32 V32 8 rfl (Nat.le_of_ble_eq_true rfl) (by decide) (by rw [hsh]; exact ge24_h0) (g := (mkF m 119 #[iv p1, rv b1, .unset, .unset] [(.int (0 : Int32)), (.int (8 : Int32)), (.ref b24), (.ref b24)])) rfl rfl (hb hby at_119)
  have V33 : Arv Z h33 b24 k24 .boolean (11 : Int32) [(.int (1 : Int32)), (.int (1 : Int32)), (.int (1 : Int32)), (.int (1 : Int32)), (.int (1 : Int32)), (.int (1 : Int32)), (.int (1 : Int32)), (.int (0 : Int32)), (.int (0 : Int32)), (.int (0 : Int32)), (.int (0 : Int32))] (.int (0 : Int32)) := Y33
  have EX33_h0 : Ext h0 h33 := own_extW EX32_h0 W33 ge24_h0
  have EX33_h23 : Ext h23 h33 := own_extW EX32_h23 W33 ge24_h23
  refine own_pre (T' := T33) (f' := (mkF m 120 #[iv p1, rv b1, .unset, .unset] [(.ref b24)])) (fun t k => st33 t k) ?_
  refine own_pre (T' := T33) (f' := (mkF m 121 #[iv p1, rv b1, .unset, .unset] [(.ref b24), (.ref b24)])) (fun t k => XS.dup X33.here hx rfl (hb hby at_120) rfl rfl k) ?_
  refine own_pre (T' := T33) (f' := (mkF m 123 #[iv p1, rv b1, .unset, .unset] [(.int (9 : Int32)), (.ref b24), (.ref b24)])) (fun t k => XS.bipush X33.here hx rfl (hb hby at_121) k) ?_
  refine own_pre (T' := T33) (f' := (mkF m 124 #[iv p1, rv b1, .unset, .unset] [(.int (0 : Int32)), (.int (9 : Int32)), (.ref b24), (.ref b24)])) (fun t k => XS.iconst X33.here hx rfl (hb hby at_123) k) ?_
  obtain ⟨T34, h34, X34, e34, W34, Y34, st34⟩ := own_stZ X33 hx hZ e33 V33 9 rfl (Nat.le_of_ble_eq_true rfl) (by decide) (by rw [hsh]; exact ge24_h0) (g := (mkF m 124 #[iv p1, rv b1, .unset, .unset] [(.int (0 : Int32)), (.int (9 : Int32)), (.ref b24), (.ref b24)])) rfl rfl (hb hby at_124)
  have V34 : Arv Z h34 b24 k24 .boolean (11 : Int32) [(.int (1 : Int32)), (.int (1 : Int32)), (.int (1 : Int32)), (.int (1 : Int32)), (.int (1 : Int32)), (.int (1 : Int32)), (.int (1 : Int32)), (.int (0 : Int32)), (.int (0 : Int32)), (.int (0 : Int32)), (.int (0 : Int32))] (.int (0 : Int32)) := Y34
  have EX34_h0 : Ext h0 h34 := own_extW EX33_h0 W34 ge24_h0
  have EX34_h23 : Ext h23 h34 := own_extW EX33_h23 W34 ge24_h23
  refine own_pre (T' := T34) (f' := (mkF m 125 #[iv p1, rv b1, .unset, .unset] [(.ref b24)])) (fun t k => st34 t k) ?_
  refine own_pre (T' := T34) (f' := (mkF m 126 #[iv p1, rv b1, .unset, .unset] [(.ref b24), (.ref b24)])) (fun t k => XS.dup X34.here hx rfl (hb hby at_125) rfl rfl k) ?_
  refine own_pre (T' := T34) (f' := (mkF m 128 #[iv p1, rv b1, .unset, .unset] [(.int (10 : Int32)), (.ref b24), (.ref b24)])) (fun t k => XS.bipush X34.here hx rfl (hb hby at_126) k) ?_
  refine own_pre (T' := T34) (f' := (mkF m 129 #[iv p1, rv b1, .unset, .unset] [(.int (0 : Int32)), (.int (10 : Int32)), (.ref b24), (.ref b24)])) (fun t k => XS.iconst X34.here hx rfl (hb hby at_128) k) ?_
  obtain ⟨T35, h35, X35, e35, W35, Y35, st35⟩ := own_stZ X34 hx hZ e34 V34 10 rfl (Nat.le_of_ble_eq_true rfl) (by decide) (by rw [hsh]; exact ge24_h0) (g := (mkF m 129 #[iv p1, rv b1, .unset, .unset] [(.int (0 : Int32)), (.int (10 : Int32)), (.ref b24), (.ref b24)])) rfl rfl (hb hby at_129)
  have V35 : Arv Z h35 b24 k24 .boolean (11 : Int32) [(.int (1 : Int32)), (.int (1 : Int32)), (.int (1 : Int32)), (.int (1 : Int32)), (.int (1 : Int32)), (.int (1 : Int32)), (.int (1 : Int32)), (.int (0 : Int32)), (.int (0 : Int32)), (.int (0 : Int32)), (.int (0 : Int32))] (.int (0 : Int32)) := Y35
  have EX35_h0 : Ext h0 h35 := own_extW EX34_h0 W35 ge24_h0
  have EX35_h23 : Ext h23 h35 := own_extW EX34_h23 W35 ge24_h23
  refine own_pre (T' := T35) (f' := (mkF m 130 #[iv p1, rv b1, .unset, .unset] [(.ref b24)])) (fun t k => st35 t k) ?_
  refine own_pre (T' := T35) (f' := (mkF m 131 #[iv p1, rv b1, rv b24, .unset] [])) (fun t k => XS.astoreN X35.here hx rfl (hb hby at_130) rfl rfl (l' := #[iv p1, rv b1, rv b24, .unset]) rfl k) ?_
  refine own_pre (T' := T35) (f' := (mkF m 132 #[iv p1, rv b1, rv b24, .unset] [(.int p1)])) (fun t k => XS.iloadN X35.here hx rfl (hb hby at_131) rfl k) ?_
  refine own_pre (T' := T35) (f' := (mkF m 134 #[iv p1, rv b1, rv b24, .unset] [(.int (2147483647 : Int32)), (.int p1)])) (fun t k => X35.ldcInt hx hown (mvT hZ (hw _ (List.mem_of_getElem? (i := 27) rfl))) (g := (mkF m 132 #[iv p1, rv b1, rv b24, .unset] [(.int p1)])) rfl (hb hby at_132) t k) ?_
  refine own_pre (T' := T35) (f' := (mkF m 135 #[iv p1, rv b1, rv b24, .unset] [(.int (p1 &&& (2147483647 : Int32)))])) (fun t k => XS.iand X35.here hx rfl (hb hby at_134) rfl k) ?_
  refine own_pre (T' := T35) (f' := (mkF m 137 #[iv p1, rv b1, rv b24, .unset] [(.int (11 : Int32)), (.int (p1 &&& (2147483647 : Int32)))])) (fun t k => XS.bipush X35.here hx rfl (hb hby at_135) k) ?_
  refine own_pre (T' := T35) (f' := (mkF m 138 #[iv p1, rv b1, rv b24, .unset] [(.int ((p1 &&& (2147483647 : Int32)) % (11 : Int32)))])) (fun t k => iremM X35 hx rfl (hb hby at_137) rfl (by decide) k) ?_
  rcases own_r11 p1 with hj | hj | hj | hj | hj | hj | hj | hj | hj | hj | hj
  · rw [hj]
    refine own_pre (T' := T35) (f' := (mkF m 139 #[iv p1, rv b1, rv b24, iv (0 : Int32)] [])) (fun t k => XS.istoreN X35.here hx rfl (hb hby at_138) rfl (l' := #[iv p1, rv b1, rv b24, iv (0 : Int32)]) rfl k) ?_
    refine own_pre (T' := T35) (f' := (mkF m 140 #[iv p1, rv b1, rv b24, iv (0 : Int32)] [(.ref b1)])) (fun t k => XS.aloadN X35.here hx rfl (hb hby at_139) rfl rfl k) ?_
    refine own_pre (T' := T35) (f' := (mkF m 141 #[iv p1, rv b1, rv b24, iv (0 : Int32)] [(.int (0 : Int32)), (.ref b1)])) (fun t k => XS.iloadN X35.here hx rfl (hb hby at_140) rfl k) ?_
    refine own_pre (T' := T35) (f' := (mkF m 142 #[iv p1, rv b1, rv b24, iv (0 : Int32)] [(.ref w_LIST)])) (fun t k => own_ldR X35 hx hZ e35 (V23.ext EX35_h23) rfl (by decide) rfl (g := (mkF m 141 #[iv p1, rv b1, rv b24, iv (0 : Int32)] [(.int (0 : Int32)), (.ref b1)])) rfl rfl (hb hby at_141) t k) ?_
    obtain ⟨T36, X36, e36, st36⟩ := own_pure (f := 0) (n := 0) (v := (some (.int (1 : Int32)))) (own_callV X35 hx hZ e35 (y := (⟨"com/example/construe/construe/ResultShape", "holdsRows", "()Z"⟩ : MethodName)) hown (hw _ (List.mem_of_getElem? (i := 28) rfl)) (hw _ (List.mem_of_getElem? (i := 29) rfl)) (hw _ (List.mem_of_getElem? (i := 31) rfl)) (hw _ (List.mem_of_getElem? (i := 30) rfl)) (hw _ (List.mem_of_getElem? (i := 32) rfl)) (hw _ (List.mem_of_getElem? (i := 3) rfl)) (by decide) 0 [] [] (own_b1_LIST l Z a0 hw [] w_LIST w_SET w_STREAM w_PAGE w_SLICE w_ONE w_OPTIONAL w_LONG w_INT w_BOOLEAN w_VOID h35 (own_F_ext F0 EX35_h0)) (by decide) (by decide) (by decide) (by decide) (E_LIST.ext EX35_h0) (g := (mkF m 142 #[iv p1, rv b1, rv b24, iv (0 : Int32)] [(.ref w_LIST)])) rfl (by rw [hml]; rfl) (lenOf pd_0 rfl) rfl (by show 2 * 0 + _ ≤ _; exact Nat.le_of_eq rfl) (hb hby at_142))
    refine own_pre (T' := T36) (f' := (mkF m 145 #[iv p1, rv b1, rv b24, iv (0 : Int32)] [(.int (1 : Int32))])) (fun t k => st36 t k) ?_
    refine own_pre (T' := T36) (f' := (mkF m 146 #[iv p1, rv b1, rv b24, iv (0 : Int32)] [(.ref b24), (.int (1 : Int32))])) (fun t k => XS.aloadN X36.here hx rfl (hb hby at_145) rfl rfl k) ?_
    refine own_pre (T' := T36) (f' := (mkF m 147 #[iv p1, rv b1, rv b24, iv (0 : Int32)] [(.int (0 : Int32)), (.ref b24), (.int (1 : Int32))])) (fun t k => XS.iloadN X36.here hx rfl (hb hby at_146) rfl k) ?_
    refine own_pre (T' := T36) (f' := (mkF m 148 #[iv p1, rv b1, rv b24, iv (0 : Int32)] [(.int (1 : Int32)), (.int (1 : Int32))])) (fun t k => own_ldZ X36 hx hZ e36 V35 (by decide) rfl (g := (mkF m 147 #[iv p1, rv b1, rv b24, iv (0 : Int32)] [(.int (0 : Int32)), (.ref b24), (.int (1 : Int32))])) rfl rfl (hb hby at_147) t k) ?_
    refine own_pre (T' := T36) (f' := (mkF m 151 #[iv p1, rv b1, rv b24, iv (0 : Int32)] [])) (fun t k => XS.icmpNo X36.here hx rfl (hb hby at_148) rfl (teq (by decide : (1 : Int32) = (1 : Int32))).2 k) ?_
    refine own_pre (T' := T36) (f' := (mkF m 152 #[iv p1, rv b1, rv b24, iv (0 : Int32)] [(.int (1 : Int32))])) (fun t k => XS.iconst X36.here hx rfl (hb hby at_151) k) ?_
    refine own_pre (T' := T36) (f' := (mkF m 156 #[iv p1, rv b1, rv b24, iv (0 : Int32)] [(.int (1 : Int32))])) (fun t k => XS.goto X36.here hx rfl (pc0 := 152) (pc' := 156) rfl (hb hby at_152) (by decide) (by decide) k) ?_
    exact own_retZ X36 hx hlk hret (hb hby at_156) rfl (⟨rfl, Fr.nil _⟩) (by decide) (by decide)
  · rw [hj]
    refine own_pre (T' := T35) (f' := (mkF m 139 #[iv p1, rv b1, rv b24, iv (1 : Int32)] [])) (fun t k => XS.istoreN X35.here hx rfl (hb hby at_138) rfl (l' := #[iv p1, rv b1, rv b24, iv (1 : Int32)]) rfl k) ?_
    refine own_pre (T' := T35) (f' := (mkF m 140 #[iv p1, rv b1, rv b24, iv (1 : Int32)] [(.ref b1)])) (fun t k => XS.aloadN X35.here hx rfl (hb hby at_139) rfl rfl k) ?_
    refine own_pre (T' := T35) (f' := (mkF m 141 #[iv p1, rv b1, rv b24, iv (1 : Int32)] [(.int (1 : Int32)), (.ref b1)])) (fun t k => XS.iloadN X35.here hx rfl (hb hby at_140) rfl k) ?_
    refine own_pre (T' := T35) (f' := (mkF m 142 #[iv p1, rv b1, rv b24, iv (1 : Int32)] [(.ref w_SET)])) (fun t k => own_ldR X35 hx hZ e35 (V23.ext EX35_h23) rfl (by decide) rfl (g := (mkF m 141 #[iv p1, rv b1, rv b24, iv (1 : Int32)] [(.int (1 : Int32)), (.ref b1)])) rfl rfl (hb hby at_141) t k) ?_
    obtain ⟨T37, X37, e37, st37⟩ := own_pure (f := 0) (n := 0) (v := (some (.int (1 : Int32)))) (own_callV X35 hx hZ e35 (y := (⟨"com/example/construe/construe/ResultShape", "holdsRows", "()Z"⟩ : MethodName)) hown (hw _ (List.mem_of_getElem? (i := 28) rfl)) (hw _ (List.mem_of_getElem? (i := 29) rfl)) (hw _ (List.mem_of_getElem? (i := 31) rfl)) (hw _ (List.mem_of_getElem? (i := 30) rfl)) (hw _ (List.mem_of_getElem? (i := 32) rfl)) (hw _ (List.mem_of_getElem? (i := 3) rfl)) (by decide) 0 [] [] (own_b1_SET l Z a0 hw [] w_LIST w_SET w_STREAM w_PAGE w_SLICE w_ONE w_OPTIONAL w_LONG w_INT w_BOOLEAN w_VOID h35 (own_F_ext F0 EX35_h0)) (by decide) (by decide) (by decide) (by decide) (E_SET.ext EX35_h0) (g := (mkF m 142 #[iv p1, rv b1, rv b24, iv (1 : Int32)] [(.ref w_SET)])) rfl (by rw [hml]; rfl) (lenOf pd_0 rfl) rfl (by show 2 * 0 + _ ≤ _; exact Nat.le_of_eq rfl) (hb hby at_142))
    refine own_pre (T' := T37) (f' := (mkF m 145 #[iv p1, rv b1, rv b24, iv (1 : Int32)] [(.int (1 : Int32))])) (fun t k => st37 t k) ?_
    refine own_pre (T' := T37) (f' := (mkF m 146 #[iv p1, rv b1, rv b24, iv (1 : Int32)] [(.ref b24), (.int (1 : Int32))])) (fun t k => XS.aloadN X37.here hx rfl (hb hby at_145) rfl rfl k) ?_
    refine own_pre (T' := T37) (f' := (mkF m 147 #[iv p1, rv b1, rv b24, iv (1 : Int32)] [(.int (1 : Int32)), (.ref b24), (.int (1 : Int32))])) (fun t k => XS.iloadN X37.here hx rfl (hb hby at_146) rfl k) ?_
    refine own_pre (T' := T37) (f' := (mkF m 148 #[iv p1, rv b1, rv b24, iv (1 : Int32)] [(.int (1 : Int32)), (.int (1 : Int32))])) (fun t k => own_ldZ X37 hx hZ e37 V35 (by decide) rfl (g := (mkF m 147 #[iv p1, rv b1, rv b24, iv (1 : Int32)] [(.int (1 : Int32)), (.ref b24), (.int (1 : Int32))])) rfl rfl (hb hby at_147) t k) ?_
    refine own_pre (T' := T37) (f' := (mkF m 151 #[iv p1, rv b1, rv b24, iv (1 : Int32)] [])) (fun t k => XS.icmpNo X37.here hx rfl (hb hby at_148) rfl (teq (by decide : (1 : Int32) = (1 : Int32))).2 k) ?_
    refine own_pre (T' := T37) (f' := (mkF m 152 #[iv p1, rv b1, rv b24, iv (1 : Int32)] [(.int (1 : Int32))])) (fun t k => XS.iconst X37.here hx rfl (hb hby at_151) k) ?_
    refine own_pre (T' := T37) (f' := (mkF m 156 #[iv p1, rv b1, rv b24, iv (1 : Int32)] [(.int (1 : Int32))])) (fun t k => XS.goto X37.here hx rfl (pc0 := 152) (pc' := 156) rfl (hb hby at_152) (by decide) (by decide) k) ?_
    exact own_retZ X37 hx hlk hret (hb hby at_156) rfl (⟨rfl, Fr.nil _⟩) (by decide) (by decide)
  · rw [hj]
    refine own_pre (T' := T35) (f' := (mkF m 139 #[iv p1, rv b1, rv b24, iv (2 : Int32)] [])) (fun t k => XS.istoreN X35.here hx rfl (hb hby at_138) rfl (l' := #[iv p1, rv b1, rv b24, iv (2 : Int32)]) rfl k) ?_
    refine own_pre (T' := T35) (f' := (mkF m 140 #[iv p1, rv b1, rv b24, iv (2 : Int32)] [(.ref b1)])) (fun t k => XS.aloadN X35.here hx rfl (hb hby at_139) rfl rfl k) ?_
    refine own_pre (T' := T35) (f' := (mkF m 141 #[iv p1, rv b1, rv b24, iv (2 : Int32)] [(.int (2 : Int32)), (.ref b1)])) (fun t k => XS.iloadN X35.here hx rfl (hb hby at_140) rfl k) ?_
    refine own_pre (T' := T35) (f' := (mkF m 142 #[iv p1, rv b1, rv b24, iv (2 : Int32)] [(.ref w_STREAM)])) (fun t k => own_ldR X35 hx hZ e35 (V23.ext EX35_h23) rfl (by decide) rfl (g := (mkF m 141 #[iv p1, rv b1, rv b24, iv (2 : Int32)] [(.int (2 : Int32)), (.ref b1)])) rfl rfl (hb hby at_141) t k) ?_
    obtain ⟨T38, X38, e38, st38⟩ := own_pure (f := 0) (n := 0) (v := (some (.int (1 : Int32)))) (own_callV X35 hx hZ e35 (y := (⟨"com/example/construe/construe/ResultShape", "holdsRows", "()Z"⟩ : MethodName)) hown (hw _ (List.mem_of_getElem? (i := 28) rfl)) (hw _ (List.mem_of_getElem? (i := 29) rfl)) (hw _ (List.mem_of_getElem? (i := 31) rfl)) (hw _ (List.mem_of_getElem? (i := 30) rfl)) (hw _ (List.mem_of_getElem? (i := 32) rfl)) (hw _ (List.mem_of_getElem? (i := 3) rfl)) (by decide) 0 [] [] (own_b1_STREAM l Z a0 hw [] w_LIST w_SET w_STREAM w_PAGE w_SLICE w_ONE w_OPTIONAL w_LONG w_INT w_BOOLEAN w_VOID h35 (own_F_ext F0 EX35_h0)) (by decide) (by decide) (by decide) (by decide) (E_STREAM.ext EX35_h0) (g := (mkF m 142 #[iv p1, rv b1, rv b24, iv (2 : Int32)] [(.ref w_STREAM)])) rfl (by rw [hml]; rfl) (lenOf pd_0 rfl) rfl (by show 2 * 0 + _ ≤ _; exact Nat.le_of_eq rfl) (hb hby at_142))
    refine own_pre (T' := T38) (f' := (mkF m 145 #[iv p1, rv b1, rv b24, iv (2 : Int32)] [(.int (1 : Int32))])) (fun t k => st38 t k) ?_
    refine own_pre (T' := T38) (f' := (mkF m 146 #[iv p1, rv b1, rv b24, iv (2 : Int32)] [(.ref b24), (.int (1 : Int32))])) (fun t k => XS.aloadN X38.here hx rfl (hb hby at_145) rfl rfl k) ?_
    refine own_pre (T' := T38) (f' := (mkF m 147 #[iv p1, rv b1, rv b24, iv (2 : Int32)] [(.int (2 : Int32)), (.ref b24), (.int (1 : Int32))])) (fun t k => XS.iloadN X38.here hx rfl (hb hby at_146) rfl k) ?_
    refine own_pre (T' := T38) (f' := (mkF m 148 #[iv p1, rv b1, rv b24, iv (2 : Int32)] [(.int (1 : Int32)), (.int (1 : Int32))])) (fun t k => own_ldZ X38 hx hZ e38 V35 (by decide) rfl (g := (mkF m 147 #[iv p1, rv b1, rv b24, iv (2 : Int32)] [(.int (2 : Int32)), (.ref b24), (.int (1 : Int32))])) rfl rfl (hb hby at_147) t k) ?_
    refine own_pre (T' := T38) (f' := (mkF m 151 #[iv p1, rv b1, rv b24, iv (2 : Int32)] [])) (fun t k => XS.icmpNo X38.here hx rfl (hb hby at_148) rfl (teq (by decide : (1 : Int32) = (1 : Int32))).2 k) ?_
    refine own_pre (T' := T38) (f' := (mkF m 152 #[iv p1, rv b1, rv b24, iv (2 : Int32)] [(.int (1 : Int32))])) (fun t k => XS.iconst X38.here hx rfl (hb hby at_151) k) ?_
    refine own_pre (T' := T38) (f' := (mkF m 156 #[iv p1, rv b1, rv b24, iv (2 : Int32)] [(.int (1 : Int32))])) (fun t k => XS.goto X38.here hx rfl (pc0 := 152) (pc' := 156) rfl (hb hby at_152) (by decide) (by decide) k) ?_
    exact own_retZ X38 hx hlk hret (hb hby at_156) rfl (⟨rfl, Fr.nil _⟩) (by decide) (by decide)
  · rw [hj]
    refine own_pre (T' := T35) (f' := (mkF m 139 #[iv p1, rv b1, rv b24, iv (3 : Int32)] [])) (fun t k => XS.istoreN X35.here hx rfl (hb hby at_138) rfl (l' := #[iv p1, rv b1, rv b24, iv (3 : Int32)]) rfl k) ?_
    refine own_pre (T' := T35) (f' := (mkF m 140 #[iv p1, rv b1, rv b24, iv (3 : Int32)] [(.ref b1)])) (fun t k => XS.aloadN X35.here hx rfl (hb hby at_139) rfl rfl k) ?_
    refine own_pre (T' := T35) (f' := (mkF m 141 #[iv p1, rv b1, rv b24, iv (3 : Int32)] [(.int (3 : Int32)), (.ref b1)])) (fun t k => XS.iloadN X35.here hx rfl (hb hby at_140) rfl k) ?_
    refine own_pre (T' := T35) (f' := (mkF m 142 #[iv p1, rv b1, rv b24, iv (3 : Int32)] [(.ref w_PAGE)])) (fun t k => own_ldR X35 hx hZ e35 (V23.ext EX35_h23) rfl (by decide) rfl (g := (mkF m 141 #[iv p1, rv b1, rv b24, iv (3 : Int32)] [(.int (3 : Int32)), (.ref b1)])) rfl rfl (hb hby at_141) t k) ?_
    obtain ⟨T39, X39, e39, st39⟩ := own_pure (f := 0) (n := 0) (v := (some (.int (1 : Int32)))) (own_callV X35 hx hZ e35 (y := (⟨"com/example/construe/construe/ResultShape", "holdsRows", "()Z"⟩ : MethodName)) hown (hw _ (List.mem_of_getElem? (i := 28) rfl)) (hw _ (List.mem_of_getElem? (i := 29) rfl)) (hw _ (List.mem_of_getElem? (i := 31) rfl)) (hw _ (List.mem_of_getElem? (i := 30) rfl)) (hw _ (List.mem_of_getElem? (i := 32) rfl)) (hw _ (List.mem_of_getElem? (i := 3) rfl)) (by decide) 0 [] [] (own_b1_PAGE l Z a0 hw [] w_LIST w_SET w_STREAM w_PAGE w_SLICE w_ONE w_OPTIONAL w_LONG w_INT w_BOOLEAN w_VOID h35 (own_F_ext F0 EX35_h0)) (by decide) (by decide) (by decide) (by decide) (E_PAGE.ext EX35_h0) (g := (mkF m 142 #[iv p1, rv b1, rv b24, iv (3 : Int32)] [(.ref w_PAGE)])) rfl (by rw [hml]; rfl) (lenOf pd_0 rfl) rfl (by show 2 * 0 + _ ≤ _; exact Nat.le_of_eq rfl) (hb hby at_142))
    refine own_pre (T' := T39) (f' := (mkF m 145 #[iv p1, rv b1, rv b24, iv (3 : Int32)] [(.int (1 : Int32))])) (fun t k => st39 t k) ?_
    refine own_pre (T' := T39) (f' := (mkF m 146 #[iv p1, rv b1, rv b24, iv (3 : Int32)] [(.ref b24), (.int (1 : Int32))])) (fun t k => XS.aloadN X39.here hx rfl (hb hby at_145) rfl rfl k) ?_
    refine own_pre (T' := T39) (f' := (mkF m 147 #[iv p1, rv b1, rv b24, iv (3 : Int32)] [(.int (3 : Int32)), (.ref b24), (.int (1 : Int32))])) (fun t k => XS.iloadN X39.here hx rfl (hb hby at_146) rfl k) ?_
    refine own_pre (T' := T39) (f' := (mkF m 148 #[iv p1, rv b1, rv b24, iv (3 : Int32)] [(.int (1 : Int32)), (.int (1 : Int32))])) (fun t k => own_ldZ X39 hx hZ e39 V35 (by decide) rfl (g := (mkF m 147 #[iv p1, rv b1, rv b24, iv (3 : Int32)] [(.int (3 : Int32)), (.ref b24), (.int (1 : Int32))])) rfl rfl (hb hby at_147) t k) ?_
    refine own_pre (T' := T39) (f' := (mkF m 151 #[iv p1, rv b1, rv b24, iv (3 : Int32)] [])) (fun t k => XS.icmpNo X39.here hx rfl (hb hby at_148) rfl (teq (by decide : (1 : Int32) = (1 : Int32))).2 k) ?_
    refine own_pre (T' := T39) (f' := (mkF m 152 #[iv p1, rv b1, rv b24, iv (3 : Int32)] [(.int (1 : Int32))])) (fun t k => XS.iconst X39.here hx rfl (hb hby at_151) k) ?_
    refine own_pre (T' := T39) (f' := (mkF m 156 #[iv p1, rv b1, rv b24, iv (3 : Int32)] [(.int (1 : Int32))])) (fun t k => XS.goto X39.here hx rfl (pc0 := 152) (pc' := 156) rfl (hb hby at_152) (by decide) (by decide) k) ?_
    exact own_retZ X39 hx hlk hret (hb hby at_156) rfl (⟨rfl, Fr.nil _⟩) (by decide) (by decide)
  · rw [hj]
    refine own_pre (T' := T35) (f' := (mkF m 139 #[iv p1, rv b1, rv b24, iv (4 : Int32)] [])) (fun t k => XS.istoreN X35.here hx rfl (hb hby at_138) rfl (l' := #[iv p1, rv b1, rv b24, iv (4 : Int32)]) rfl k) ?_
    refine own_pre (T' := T35) (f' := (mkF m 140 #[iv p1, rv b1, rv b24, iv (4 : Int32)] [(.ref b1)])) (fun t k => XS.aloadN X35.here hx rfl (hb hby at_139) rfl rfl k) ?_
    refine own_pre (T' := T35) (f' := (mkF m 141 #[iv p1, rv b1, rv b24, iv (4 : Int32)] [(.int (4 : Int32)), (.ref b1)])) (fun t k => XS.iloadN X35.here hx rfl (hb hby at_140) rfl k) ?_
    refine own_pre (T' := T35) (f' := (mkF m 142 #[iv p1, rv b1, rv b24, iv (4 : Int32)] [(.ref w_SLICE)])) (fun t k => own_ldR X35 hx hZ e35 (V23.ext EX35_h23) rfl (by decide) rfl (g := (mkF m 141 #[iv p1, rv b1, rv b24, iv (4 : Int32)] [(.int (4 : Int32)), (.ref b1)])) rfl rfl (hb hby at_141) t k) ?_
    obtain ⟨T40, X40, e40, st40⟩ := own_pure (f := 0) (n := 0) (v := (some (.int (1 : Int32)))) (own_callV X35 hx hZ e35 (y := (⟨"com/example/construe/construe/ResultShape", "holdsRows", "()Z"⟩ : MethodName)) hown (hw _ (List.mem_of_getElem? (i := 28) rfl)) (hw _ (List.mem_of_getElem? (i := 29) rfl)) (hw _ (List.mem_of_getElem? (i := 31) rfl)) (hw _ (List.mem_of_getElem? (i := 30) rfl)) (hw _ (List.mem_of_getElem? (i := 32) rfl)) (hw _ (List.mem_of_getElem? (i := 3) rfl)) (by decide) 0 [] [] (own_b1_SLICE l Z a0 hw [] w_LIST w_SET w_STREAM w_PAGE w_SLICE w_ONE w_OPTIONAL w_LONG w_INT w_BOOLEAN w_VOID h35 (own_F_ext F0 EX35_h0)) (by decide) (by decide) (by decide) (by decide) (E_SLICE.ext EX35_h0) (g := (mkF m 142 #[iv p1, rv b1, rv b24, iv (4 : Int32)] [(.ref w_SLICE)])) rfl (by rw [hml]; rfl) (lenOf pd_0 rfl) rfl (by show 2 * 0 + _ ≤ _; exact Nat.le_of_eq rfl) (hb hby at_142))
    refine own_pre (T' := T40) (f' := (mkF m 145 #[iv p1, rv b1, rv b24, iv (4 : Int32)] [(.int (1 : Int32))])) (fun t k => st40 t k) ?_
    refine own_pre (T' := T40) (f' := (mkF m 146 #[iv p1, rv b1, rv b24, iv (4 : Int32)] [(.ref b24), (.int (1 : Int32))])) (fun t k => XS.aloadN X40.here hx rfl (hb hby at_145) rfl rfl k) ?_
    refine own_pre (T' := T40) (f' := (mkF m 147 #[iv p1, rv b1, rv b24, iv (4 : Int32)] [(.int (4 : Int32)), (.ref b24), (.int (1 : Int32))])) (fun t k => XS.iloadN X40.here hx rfl (hb hby at_146) rfl k) ?_
    refine own_pre (T' := T40) (f' := (mkF m 148 #[iv p1, rv b1, rv b24, iv (4 : Int32)] [(.int (1 : Int32)), (.int (1 : Int32))])) (fun t k => own_ldZ X40 hx hZ e40 V35 (by decide) rfl (g := (mkF m 147 #[iv p1, rv b1, rv b24, iv (4 : Int32)] [(.int (4 : Int32)), (.ref b24), (.int (1 : Int32))])) rfl rfl (hb hby at_147) t k) ?_
    refine own_pre (T' := T40) (f' := (mkF m 151 #[iv p1, rv b1, rv b24, iv (4 : Int32)] [])) (fun t k => XS.icmpNo X40.here hx rfl (hb hby at_148) rfl (teq (by decide : (1 : Int32) = (1 : Int32))).2 k) ?_
    refine own_pre (T' := T40) (f' := (mkF m 152 #[iv p1, rv b1, rv b24, iv (4 : Int32)] [(.int (1 : Int32))])) (fun t k => XS.iconst X40.here hx rfl (hb hby at_151) k) ?_
    refine own_pre (T' := T40) (f' := (mkF m 156 #[iv p1, rv b1, rv b24, iv (4 : Int32)] [(.int (1 : Int32))])) (fun t k => XS.goto X40.here hx rfl (pc0 := 152) (pc' := 156) rfl (hb hby at_152) (by decide) (by decide) k) ?_
    exact own_retZ X40 hx hlk hret (hb hby at_156) rfl (⟨rfl, Fr.nil _⟩) (by decide) (by decide)
  · rw [hj]
    refine own_pre (T' := T35) (f' := (mkF m 139 #[iv p1, rv b1, rv b24, iv (5 : Int32)] [])) (fun t k => XS.istoreN X35.here hx rfl (hb hby at_138) rfl (l' := #[iv p1, rv b1, rv b24, iv (5 : Int32)]) rfl k) ?_
    refine own_pre (T' := T35) (f' := (mkF m 140 #[iv p1, rv b1, rv b24, iv (5 : Int32)] [(.ref b1)])) (fun t k => XS.aloadN X35.here hx rfl (hb hby at_139) rfl rfl k) ?_
    refine own_pre (T' := T35) (f' := (mkF m 141 #[iv p1, rv b1, rv b24, iv (5 : Int32)] [(.int (5 : Int32)), (.ref b1)])) (fun t k => XS.iloadN X35.here hx rfl (hb hby at_140) rfl k) ?_
    refine own_pre (T' := T35) (f' := (mkF m 142 #[iv p1, rv b1, rv b24, iv (5 : Int32)] [(.ref w_ONE)])) (fun t k => own_ldR X35 hx hZ e35 (V23.ext EX35_h23) rfl (by decide) rfl (g := (mkF m 141 #[iv p1, rv b1, rv b24, iv (5 : Int32)] [(.int (5 : Int32)), (.ref b1)])) rfl rfl (hb hby at_141) t k) ?_
    obtain ⟨T41, X41, e41, st41⟩ := own_pure (f := 0) (n := 0) (v := (some (.int (1 : Int32)))) (own_callV X35 hx hZ e35 (y := (⟨"com/example/construe/construe/ResultShape", "holdsRows", "()Z"⟩ : MethodName)) hown (hw _ (List.mem_of_getElem? (i := 28) rfl)) (hw _ (List.mem_of_getElem? (i := 29) rfl)) (hw _ (List.mem_of_getElem? (i := 31) rfl)) (hw _ (List.mem_of_getElem? (i := 30) rfl)) (hw _ (List.mem_of_getElem? (i := 32) rfl)) (hw _ (List.mem_of_getElem? (i := 3) rfl)) (by decide) 0 [] [] (own_b1_ONE l Z a0 hw [] w_LIST w_SET w_STREAM w_PAGE w_SLICE w_ONE w_OPTIONAL w_LONG w_INT w_BOOLEAN w_VOID h35 (own_F_ext F0 EX35_h0)) (by decide) (by decide) (by decide) (by decide) (E_ONE.ext EX35_h0) (g := (mkF m 142 #[iv p1, rv b1, rv b24, iv (5 : Int32)] [(.ref w_ONE)])) rfl (by rw [hml]; rfl) (lenOf pd_0 rfl) rfl (by show 2 * 0 + _ ≤ _; exact Nat.le_of_eq rfl) (hb hby at_142))
    refine own_pre (T' := T41) (f' := (mkF m 145 #[iv p1, rv b1, rv b24, iv (5 : Int32)] [(.int (1 : Int32))])) (fun t k => st41 t k) ?_
    refine own_pre (T' := T41) (f' := (mkF m 146 #[iv p1, rv b1, rv b24, iv (5 : Int32)] [(.ref b24), (.int (1 : Int32))])) (fun t k => XS.aloadN X41.here hx rfl (hb hby at_145) rfl rfl k) ?_
    refine own_pre (T' := T41) (f' := (mkF m 147 #[iv p1, rv b1, rv b24, iv (5 : Int32)] [(.int (5 : Int32)), (.ref b24), (.int (1 : Int32))])) (fun t k => XS.iloadN X41.here hx rfl (hb hby at_146) rfl k) ?_
    refine own_pre (T' := T41) (f' := (mkF m 148 #[iv p1, rv b1, rv b24, iv (5 : Int32)] [(.int (1 : Int32)), (.int (1 : Int32))])) (fun t k => own_ldZ X41 hx hZ e41 V35 (by decide) rfl (g := (mkF m 147 #[iv p1, rv b1, rv b24, iv (5 : Int32)] [(.int (5 : Int32)), (.ref b24), (.int (1 : Int32))])) rfl rfl (hb hby at_147) t k) ?_
    refine own_pre (T' := T41) (f' := (mkF m 151 #[iv p1, rv b1, rv b24, iv (5 : Int32)] [])) (fun t k => XS.icmpNo X41.here hx rfl (hb hby at_148) rfl (teq (by decide : (1 : Int32) = (1 : Int32))).2 k) ?_
    refine own_pre (T' := T41) (f' := (mkF m 152 #[iv p1, rv b1, rv b24, iv (5 : Int32)] [(.int (1 : Int32))])) (fun t k => XS.iconst X41.here hx rfl (hb hby at_151) k) ?_
    refine own_pre (T' := T41) (f' := (mkF m 156 #[iv p1, rv b1, rv b24, iv (5 : Int32)] [(.int (1 : Int32))])) (fun t k => XS.goto X41.here hx rfl (pc0 := 152) (pc' := 156) rfl (hb hby at_152) (by decide) (by decide) k) ?_
    exact own_retZ X41 hx hlk hret (hb hby at_156) rfl (⟨rfl, Fr.nil _⟩) (by decide) (by decide)
  · rw [hj]
    refine own_pre (T' := T35) (f' := (mkF m 139 #[iv p1, rv b1, rv b24, iv (6 : Int32)] [])) (fun t k => XS.istoreN X35.here hx rfl (hb hby at_138) rfl (l' := #[iv p1, rv b1, rv b24, iv (6 : Int32)]) rfl k) ?_
    refine own_pre (T' := T35) (f' := (mkF m 140 #[iv p1, rv b1, rv b24, iv (6 : Int32)] [(.ref b1)])) (fun t k => XS.aloadN X35.here hx rfl (hb hby at_139) rfl rfl k) ?_
    refine own_pre (T' := T35) (f' := (mkF m 141 #[iv p1, rv b1, rv b24, iv (6 : Int32)] [(.int (6 : Int32)), (.ref b1)])) (fun t k => XS.iloadN X35.here hx rfl (hb hby at_140) rfl k) ?_
    refine own_pre (T' := T35) (f' := (mkF m 142 #[iv p1, rv b1, rv b24, iv (6 : Int32)] [(.ref w_OPTIONAL)])) (fun t k => own_ldR X35 hx hZ e35 (V23.ext EX35_h23) rfl (by decide) rfl (g := (mkF m 141 #[iv p1, rv b1, rv b24, iv (6 : Int32)] [(.int (6 : Int32)), (.ref b1)])) rfl rfl (hb hby at_141) t k) ?_
    obtain ⟨T42, X42, e42, st42⟩ := own_pure (f := 0) (n := 0) (v := (some (.int (1 : Int32)))) (own_callV X35 hx hZ e35 (y := (⟨"com/example/construe/construe/ResultShape", "holdsRows", "()Z"⟩ : MethodName)) hown (hw _ (List.mem_of_getElem? (i := 28) rfl)) (hw _ (List.mem_of_getElem? (i := 29) rfl)) (hw _ (List.mem_of_getElem? (i := 31) rfl)) (hw _ (List.mem_of_getElem? (i := 30) rfl)) (hw _ (List.mem_of_getElem? (i := 32) rfl)) (hw _ (List.mem_of_getElem? (i := 3) rfl)) (by decide) 0 [] [] (own_b1_OPTIONAL l Z a0 hw [] w_LIST w_SET w_STREAM w_PAGE w_SLICE w_ONE w_OPTIONAL w_LONG w_INT w_BOOLEAN w_VOID h35 (own_F_ext F0 EX35_h0)) (by decide) (by decide) (by decide) (by decide) (E_OPTIONAL.ext EX35_h0) (g := (mkF m 142 #[iv p1, rv b1, rv b24, iv (6 : Int32)] [(.ref w_OPTIONAL)])) rfl (by rw [hml]; rfl) (lenOf pd_0 rfl) rfl (by show 2 * 0 + _ ≤ _; exact Nat.le_of_eq rfl) (hb hby at_142))
    refine own_pre (T' := T42) (f' := (mkF m 145 #[iv p1, rv b1, rv b24, iv (6 : Int32)] [(.int (1 : Int32))])) (fun t k => st42 t k) ?_
    refine own_pre (T' := T42) (f' := (mkF m 146 #[iv p1, rv b1, rv b24, iv (6 : Int32)] [(.ref b24), (.int (1 : Int32))])) (fun t k => XS.aloadN X42.here hx rfl (hb hby at_145) rfl rfl k) ?_
    refine own_pre (T' := T42) (f' := (mkF m 147 #[iv p1, rv b1, rv b24, iv (6 : Int32)] [(.int (6 : Int32)), (.ref b24), (.int (1 : Int32))])) (fun t k => XS.iloadN X42.here hx rfl (hb hby at_146) rfl k) ?_
    refine own_pre (T' := T42) (f' := (mkF m 148 #[iv p1, rv b1, rv b24, iv (6 : Int32)] [(.int (1 : Int32)), (.int (1 : Int32))])) (fun t k => own_ldZ X42 hx hZ e42 V35 (by decide) rfl (g := (mkF m 147 #[iv p1, rv b1, rv b24, iv (6 : Int32)] [(.int (6 : Int32)), (.ref b24), (.int (1 : Int32))])) rfl rfl (hb hby at_147) t k) ?_
    refine own_pre (T' := T42) (f' := (mkF m 151 #[iv p1, rv b1, rv b24, iv (6 : Int32)] [])) (fun t k => XS.icmpNo X42.here hx rfl (hb hby at_148) rfl (teq (by decide : (1 : Int32) = (1 : Int32))).2 k) ?_
    refine own_pre (T' := T42) (f' := (mkF m 152 #[iv p1, rv b1, rv b24, iv (6 : Int32)] [(.int (1 : Int32))])) (fun t k => XS.iconst X42.here hx rfl (hb hby at_151) k) ?_
    refine own_pre (T' := T42) (f' := (mkF m 156 #[iv p1, rv b1, rv b24, iv (6 : Int32)] [(.int (1 : Int32))])) (fun t k => XS.goto X42.here hx rfl (pc0 := 152) (pc' := 156) rfl (hb hby at_152) (by decide) (by decide) k) ?_
    exact own_retZ X42 hx hlk hret (hb hby at_156) rfl (⟨rfl, Fr.nil _⟩) (by decide) (by decide)
  · rw [hj]
    refine own_pre (T' := T35) (f' := (mkF m 139 #[iv p1, rv b1, rv b24, iv (7 : Int32)] [])) (fun t k => XS.istoreN X35.here hx rfl (hb hby at_138) rfl (l' := #[iv p1, rv b1, rv b24, iv (7 : Int32)]) rfl k) ?_
    refine own_pre (T' := T35) (f' := (mkF m 140 #[iv p1, rv b1, rv b24, iv (7 : Int32)] [(.ref b1)])) (fun t k => XS.aloadN X35.here hx rfl (hb hby at_139) rfl rfl k) ?_
    refine own_pre (T' := T35) (f' := (mkF m 141 #[iv p1, rv b1, rv b24, iv (7 : Int32)] [(.int (7 : Int32)), (.ref b1)])) (fun t k => XS.iloadN X35.here hx rfl (hb hby at_140) rfl k) ?_
    refine own_pre (T' := T35) (f' := (mkF m 142 #[iv p1, rv b1, rv b24, iv (7 : Int32)] [(.ref w_LONG)])) (fun t k => own_ldR X35 hx hZ e35 (V23.ext EX35_h23) rfl (by decide) rfl (g := (mkF m 141 #[iv p1, rv b1, rv b24, iv (7 : Int32)] [(.int (7 : Int32)), (.ref b1)])) rfl rfl (hb hby at_141) t k) ?_
    obtain ⟨T43, X43, e43, st43⟩ := own_pure (f := 0) (n := 0) (v := (some (.int (0 : Int32)))) (own_callV X35 hx hZ e35 (y := (⟨"com/example/construe/construe/ResultShape", "holdsRows", "()Z"⟩ : MethodName)) hown (hw _ (List.mem_of_getElem? (i := 28) rfl)) (hw _ (List.mem_of_getElem? (i := 29) rfl)) (hw _ (List.mem_of_getElem? (i := 31) rfl)) (hw _ (List.mem_of_getElem? (i := 30) rfl)) (hw _ (List.mem_of_getElem? (i := 32) rfl)) (hw _ (List.mem_of_getElem? (i := 3) rfl)) (by decide) 0 [] [] (own_b1_LONG l Z a0 hw [] w_LIST w_SET w_STREAM w_PAGE w_SLICE w_ONE w_OPTIONAL w_LONG w_INT w_BOOLEAN w_VOID h35 (own_F_ext F0 EX35_h0)) (by decide) (by decide) (by decide) (by decide) (E_LONG.ext EX35_h0) (g := (mkF m 142 #[iv p1, rv b1, rv b24, iv (7 : Int32)] [(.ref w_LONG)])) rfl (by rw [hml]; rfl) (lenOf pd_0 rfl) rfl (by show 2 * 0 + _ ≤ _; exact Nat.le_of_eq rfl) (hb hby at_142))
    refine own_pre (T' := T43) (f' := (mkF m 145 #[iv p1, rv b1, rv b24, iv (7 : Int32)] [(.int (0 : Int32))])) (fun t k => st43 t k) ?_
    refine own_pre (T' := T43) (f' := (mkF m 146 #[iv p1, rv b1, rv b24, iv (7 : Int32)] [(.ref b24), (.int (0 : Int32))])) (fun t k => XS.aloadN X43.here hx rfl (hb hby at_145) rfl rfl k) ?_
    refine own_pre (T' := T43) (f' := (mkF m 147 #[iv p1, rv b1, rv b24, iv (7 : Int32)] [(.int (7 : Int32)), (.ref b24), (.int (0 : Int32))])) (fun t k => XS.iloadN X43.here hx rfl (hb hby at_146) rfl k) ?_
    refine own_pre (T' := T43) (f' := (mkF m 148 #[iv p1, rv b1, rv b24, iv (7 : Int32)] [(.int (0 : Int32)), (.int (0 : Int32))])) (fun t k => own_ldZ X43 hx hZ e43 V35 (by decide) rfl (g := (mkF m 147 #[iv p1, rv b1, rv b24, iv (7 : Int32)] [(.int (7 : Int32)), (.ref b24), (.int (0 : Int32))])) rfl rfl (hb hby at_147) t k) ?_
    refine own_pre (T' := T43) (f' := (mkF m 151 #[iv p1, rv b1, rv b24, iv (7 : Int32)] [])) (fun t k => XS.icmpNo X43.here hx rfl (hb hby at_148) rfl (teq (by decide : (0 : Int32) = (0 : Int32))).2 k) ?_
    refine own_pre (T' := T43) (f' := (mkF m 152 #[iv p1, rv b1, rv b24, iv (7 : Int32)] [(.int (1 : Int32))])) (fun t k => XS.iconst X43.here hx rfl (hb hby at_151) k) ?_
    refine own_pre (T' := T43) (f' := (mkF m 156 #[iv p1, rv b1, rv b24, iv (7 : Int32)] [(.int (1 : Int32))])) (fun t k => XS.goto X43.here hx rfl (pc0 := 152) (pc' := 156) rfl (hb hby at_152) (by decide) (by decide) k) ?_
    exact own_retZ X43 hx hlk hret (hb hby at_156) rfl (⟨rfl, Fr.nil _⟩) (by decide) (by decide)
  · rw [hj]
    refine own_pre (T' := T35) (f' := (mkF m 139 #[iv p1, rv b1, rv b24, iv (8 : Int32)] [])) (fun t k => XS.istoreN X35.here hx rfl (hb hby at_138) rfl (l' := #[iv p1, rv b1, rv b24, iv (8 : Int32)]) rfl k) ?_
    refine own_pre (T' := T35) (f' := (mkF m 140 #[iv p1, rv b1, rv b24, iv (8 : Int32)] [(.ref b1)])) (fun t k => XS.aloadN X35.here hx rfl (hb hby at_139) rfl rfl k) ?_
    refine own_pre (T' := T35) (f' := (mkF m 141 #[iv p1, rv b1, rv b24, iv (8 : Int32)] [(.int (8 : Int32)), (.ref b1)])) (fun t k => XS.iloadN X35.here hx rfl (hb hby at_140) rfl k) ?_
    refine own_pre (T' := T35) (f' := (mkF m 142 #[iv p1, rv b1, rv b24, iv (8 : Int32)] [(.ref w_INT)])) (fun t k => own_ldR X35 hx hZ e35 (V23.ext EX35_h23) rfl (by decide) rfl (g := (mkF m 141 #[iv p1, rv b1, rv b24, iv (8 : Int32)] [(.int (8 : Int32)), (.ref b1)])) rfl rfl (hb hby at_141) t k) ?_
    obtain ⟨T44, X44, e44, st44⟩ := own_pure (f := 0) (n := 0) (v := (some (.int (0 : Int32)))) (own_callV X35 hx hZ e35 (y := (⟨"com/example/construe/construe/ResultShape", "holdsRows", "()Z"⟩ : MethodName)) hown (hw _ (List.mem_of_getElem? (i := 28) rfl)) (hw _ (List.mem_of_getElem? (i := 29) rfl)) (hw _ (List.mem_of_getElem? (i := 31) rfl)) (hw _ (List.mem_of_getElem? (i := 30) rfl)) (hw _ (List.mem_of_getElem? (i := 32) rfl)) (hw _ (List.mem_of_getElem? (i := 3) rfl)) (by decide) 0 [] [] (own_b1_INT l Z a0 hw [] w_LIST w_SET w_STREAM w_PAGE w_SLICE w_ONE w_OPTIONAL w_LONG w_INT w_BOOLEAN w_VOID h35 (own_F_ext F0 EX35_h0)) (by decide) (by decide) (by decide) (by decide) (E_INT.ext EX35_h0) (g := (mkF m 142 #[iv p1, rv b1, rv b24, iv (8 : Int32)] [(.ref w_INT)])) rfl (by rw [hml]; rfl) (lenOf pd_0 rfl) rfl (by show 2 * 0 + _ ≤ _; exact Nat.le_of_eq rfl) (hb hby at_142))
    refine own_pre (T' := T44) (f' := (mkF m 145 #[iv p1, rv b1, rv b24, iv (8 : Int32)] [(.int (0 : Int32))])) (fun t k => st44 t k) ?_
    refine own_pre (T' := T44) (f' := (mkF m 146 #[iv p1, rv b1, rv b24, iv (8 : Int32)] [(.ref b24), (.int (0 : Int32))])) (fun t k => XS.aloadN X44.here hx rfl (hb hby at_145) rfl rfl k) ?_
    refine own_pre (T' := T44) (f' := (mkF m 147 #[iv p1, rv b1, rv b24, iv (8 : Int32)] [(.int (8 : Int32)), (.ref b24), (.int (0 : Int32))])) (fun t k => XS.iloadN X44.here hx rfl (hb hby at_146) rfl k) ?_
    refine own_pre (T' := T44) (f' := (mkF m 148 #[iv p1, rv b1, rv b24, iv (8 : Int32)] [(.int (0 : Int32)), (.int (0 : Int32))])) (fun t k => own_ldZ X44 hx hZ e44 V35 (by decide) rfl (g := (mkF m 147 #[iv p1, rv b1, rv b24, iv (8 : Int32)] [(.int (8 : Int32)), (.ref b24), (.int (0 : Int32))])) rfl rfl (hb hby at_147) t k) ?_
    refine own_pre (T' := T44) (f' := (mkF m 151 #[iv p1, rv b1, rv b24, iv (8 : Int32)] [])) (fun t k => XS.icmpNo X44.here hx rfl (hb hby at_148) rfl (teq (by decide : (0 : Int32) = (0 : Int32))).2 k) ?_
    refine own_pre (T' := T44) (f' := (mkF m 152 #[iv p1, rv b1, rv b24, iv (8 : Int32)] [(.int (1 : Int32))])) (fun t k => XS.iconst X44.here hx rfl (hb hby at_151) k) ?_
    refine own_pre (T' := T44) (f' := (mkF m 156 #[iv p1, rv b1, rv b24, iv (8 : Int32)] [(.int (1 : Int32))])) (fun t k => XS.goto X44.here hx rfl (pc0 := 152) (pc' := 156) rfl (hb hby at_152) (by decide) (by decide) k) ?_
    exact own_retZ X44 hx hlk hret (hb hby at_156) rfl (⟨rfl, Fr.nil _⟩) (by decide) (by decide)
  · rw [hj]
    refine own_pre (T' := T35) (f' := (mkF m 139 #[iv p1, rv b1, rv b24, iv (9 : Int32)] [])) (fun t k => XS.istoreN X35.here hx rfl (hb hby at_138) rfl (l' := #[iv p1, rv b1, rv b24, iv (9 : Int32)]) rfl k) ?_
    refine own_pre (T' := T35) (f' := (mkF m 140 #[iv p1, rv b1, rv b24, iv (9 : Int32)] [(.ref b1)])) (fun t k => XS.aloadN X35.here hx rfl (hb hby at_139) rfl rfl k) ?_
    refine own_pre (T' := T35) (f' := (mkF m 141 #[iv p1, rv b1, rv b24, iv (9 : Int32)] [(.int (9 : Int32)), (.ref b1)])) (fun t k => XS.iloadN X35.here hx rfl (hb hby at_140) rfl k) ?_
    refine own_pre (T' := T35) (f' := (mkF m 142 #[iv p1, rv b1, rv b24, iv (9 : Int32)] [(.ref w_BOOLEAN)])) (fun t k => own_ldR X35 hx hZ e35 (V23.ext EX35_h23) rfl (by decide) rfl (g := (mkF m 141 #[iv p1, rv b1, rv b24, iv (9 : Int32)] [(.int (9 : Int32)), (.ref b1)])) rfl rfl (hb hby at_141) t k) ?_
    obtain ⟨T45, X45, e45, st45⟩ := own_pure (f := 0) (n := 0) (v := (some (.int (0 : Int32)))) (own_callV X35 hx hZ e35 (y := (⟨"com/example/construe/construe/ResultShape", "holdsRows", "()Z"⟩ : MethodName)) hown (hw _ (List.mem_of_getElem? (i := 28) rfl)) (hw _ (List.mem_of_getElem? (i := 29) rfl)) (hw _ (List.mem_of_getElem? (i := 31) rfl)) (hw _ (List.mem_of_getElem? (i := 30) rfl)) (hw _ (List.mem_of_getElem? (i := 32) rfl)) (hw _ (List.mem_of_getElem? (i := 3) rfl)) (by decide) 0 [] [] (own_b1_BOOLEAN l Z a0 hw [] w_LIST w_SET w_STREAM w_PAGE w_SLICE w_ONE w_OPTIONAL w_LONG w_INT w_BOOLEAN w_VOID h35 (own_F_ext F0 EX35_h0)) (by decide) (by decide) (by decide) (by decide) (E_BOOLEAN.ext EX35_h0) (g := (mkF m 142 #[iv p1, rv b1, rv b24, iv (9 : Int32)] [(.ref w_BOOLEAN)])) rfl (by rw [hml]; rfl) (lenOf pd_0 rfl) rfl (by show 2 * 0 + _ ≤ _; exact Nat.le_of_eq rfl) (hb hby at_142))
    refine own_pre (T' := T45) (f' := (mkF m 145 #[iv p1, rv b1, rv b24, iv (9 : Int32)] [(.int (0 : Int32))])) (fun t k => st45 t k) ?_
    refine own_pre (T' := T45) (f' := (mkF m 146 #[iv p1, rv b1, rv b24, iv (9 : Int32)] [(.ref b24), (.int (0 : Int32))])) (fun t k => XS.aloadN X45.here hx rfl (hb hby at_145) rfl rfl k) ?_
    refine own_pre (T' := T45) (f' := (mkF m 147 #[iv p1, rv b1, rv b24, iv (9 : Int32)] [(.int (9 : Int32)), (.ref b24), (.int (0 : Int32))])) (fun t k => XS.iloadN X45.here hx rfl (hb hby at_146) rfl k) ?_
    refine own_pre (T' := T45) (f' := (mkF m 148 #[iv p1, rv b1, rv b24, iv (9 : Int32)] [(.int (0 : Int32)), (.int (0 : Int32))])) (fun t k => own_ldZ X45 hx hZ e45 V35 (by decide) rfl (g := (mkF m 147 #[iv p1, rv b1, rv b24, iv (9 : Int32)] [(.int (9 : Int32)), (.ref b24), (.int (0 : Int32))])) rfl rfl (hb hby at_147) t k) ?_
    refine own_pre (T' := T45) (f' := (mkF m 151 #[iv p1, rv b1, rv b24, iv (9 : Int32)] [])) (fun t k => XS.icmpNo X45.here hx rfl (hb hby at_148) rfl (teq (by decide : (0 : Int32) = (0 : Int32))).2 k) ?_
    refine own_pre (T' := T45) (f' := (mkF m 152 #[iv p1, rv b1, rv b24, iv (9 : Int32)] [(.int (1 : Int32))])) (fun t k => XS.iconst X45.here hx rfl (hb hby at_151) k) ?_
    refine own_pre (T' := T45) (f' := (mkF m 156 #[iv p1, rv b1, rv b24, iv (9 : Int32)] [(.int (1 : Int32))])) (fun t k => XS.goto X45.here hx rfl (pc0 := 152) (pc' := 156) rfl (hb hby at_152) (by decide) (by decide) k) ?_
    exact own_retZ X45 hx hlk hret (hb hby at_156) rfl (⟨rfl, Fr.nil _⟩) (by decide) (by decide)
  · rw [hj]
    refine own_pre (T' := T35) (f' := (mkF m 139 #[iv p1, rv b1, rv b24, iv (10 : Int32)] [])) (fun t k => XS.istoreN X35.here hx rfl (hb hby at_138) rfl (l' := #[iv p1, rv b1, rv b24, iv (10 : Int32)]) rfl k) ?_
    refine own_pre (T' := T35) (f' := (mkF m 140 #[iv p1, rv b1, rv b24, iv (10 : Int32)] [(.ref b1)])) (fun t k => XS.aloadN X35.here hx rfl (hb hby at_139) rfl rfl k) ?_
    refine own_pre (T' := T35) (f' := (mkF m 141 #[iv p1, rv b1, rv b24, iv (10 : Int32)] [(.int (10 : Int32)), (.ref b1)])) (fun t k => XS.iloadN X35.here hx rfl (hb hby at_140) rfl k) ?_
    refine own_pre (T' := T35) (f' := (mkF m 142 #[iv p1, rv b1, rv b24, iv (10 : Int32)] [(.ref w_VOID)])) (fun t k => own_ldR X35 hx hZ e35 (V23.ext EX35_h23) rfl (by decide) rfl (g := (mkF m 141 #[iv p1, rv b1, rv b24, iv (10 : Int32)] [(.int (10 : Int32)), (.ref b1)])) rfl rfl (hb hby at_141) t k) ?_
    obtain ⟨T46, X46, e46, st46⟩ := own_pure (f := 0) (n := 0) (v := (some (.int (0 : Int32)))) (own_callV X35 hx hZ e35 (y := (⟨"com/example/construe/construe/ResultShape", "holdsRows", "()Z"⟩ : MethodName)) hown (hw _ (List.mem_of_getElem? (i := 28) rfl)) (hw _ (List.mem_of_getElem? (i := 29) rfl)) (hw _ (List.mem_of_getElem? (i := 31) rfl)) (hw _ (List.mem_of_getElem? (i := 30) rfl)) (hw _ (List.mem_of_getElem? (i := 32) rfl)) (hw _ (List.mem_of_getElem? (i := 3) rfl)) (by decide) 0 [] [] (own_b1_VOID l Z a0 hw [] w_LIST w_SET w_STREAM w_PAGE w_SLICE w_ONE w_OPTIONAL w_LONG w_INT w_BOOLEAN w_VOID h35 (own_F_ext F0 EX35_h0)) (by decide) (by decide) (by decide) (by decide) (E_VOID.ext EX35_h0) (g := (mkF m 142 #[iv p1, rv b1, rv b24, iv (10 : Int32)] [(.ref w_VOID)])) rfl (by rw [hml]; rfl) (lenOf pd_0 rfl) rfl (by show 2 * 0 + _ ≤ _; exact Nat.le_of_eq rfl) (hb hby at_142))
    refine own_pre (T' := T46) (f' := (mkF m 145 #[iv p1, rv b1, rv b24, iv (10 : Int32)] [(.int (0 : Int32))])) (fun t k => st46 t k) ?_
    refine own_pre (T' := T46) (f' := (mkF m 146 #[iv p1, rv b1, rv b24, iv (10 : Int32)] [(.ref b24), (.int (0 : Int32))])) (fun t k => XS.aloadN X46.here hx rfl (hb hby at_145) rfl rfl k) ?_
    refine own_pre (T' := T46) (f' := (mkF m 147 #[iv p1, rv b1, rv b24, iv (10 : Int32)] [(.int (10 : Int32)), (.ref b24), (.int (0 : Int32))])) (fun t k => XS.iloadN X46.here hx rfl (hb hby at_146) rfl k) ?_
    refine own_pre (T' := T46) (f' := (mkF m 148 #[iv p1, rv b1, rv b24, iv (10 : Int32)] [(.int (0 : Int32)), (.int (0 : Int32))])) (fun t k => own_ldZ X46 hx hZ e46 V35 (by decide) rfl (g := (mkF m 147 #[iv p1, rv b1, rv b24, iv (10 : Int32)] [(.int (10 : Int32)), (.ref b24), (.int (0 : Int32))])) rfl rfl (hb hby at_147) t k) ?_
    refine own_pre (T' := T46) (f' := (mkF m 151 #[iv p1, rv b1, rv b24, iv (10 : Int32)] [])) (fun t k => XS.icmpNo X46.here hx rfl (hb hby at_148) rfl (teq (by decide : (0 : Int32) = (0 : Int32))).2 k) ?_
    refine own_pre (T' := T46) (f' := (mkF m 152 #[iv p1, rv b1, rv b24, iv (10 : Int32)] [(.int (1 : Int32))])) (fun t k => XS.iconst X46.here hx rfl (hb hby at_151) k) ?_
    refine own_pre (T' := T46) (f' := (mkF m 156 #[iv p1, rv b1, rv b24, iv (10 : Int32)] [(.int (1 : Int32))])) (fun t k => XS.goto X46.here hx rfl (pc0 := 152) (pc' := 156) rfl (hb hby at_152) (by decide) (by decide) k) ?_
    exact own_retZ X46 hx hlk hret (hb hby at_156) rfl (⟨rfl, Fr.nil _⟩) (by decide) (by decide)
set_option maxRecDepth 65536 in
set_option maxHeartbeats 40000000 in
theorem comes_1 {Post : Tables → Env → Array Value → State → Outcome → State → Prop} (hpost : ∀ tb e args s v u, (limb_1_1.after args s (.returned v) u = true ∧ limb_1_2.after args s (.returned v) u = true ∧ True) → FrameEnd s (.returned v) u (Jvm.fieldLocs frame_1_writes args s ++ Jvm.arrayLocs frame_1_arrays args s ++ Jvm.staticLocs frame_1_statics s) 16 128 → Post tb e args s (.returned v) u) :
    ArmFor flags0 classFile x code maxLocals ret World_1 tables_1 room_1 Calls_1 rest_1 Pre_1 Post := by
  intro l hfl _ _ p e ha hc hk s m args below hf hA hF happ hP
  obtain ⟨hcalls, hrest, hpre⟩ := hP
  obtain ⟨-, -, -, hnamed, -, -, -, hat⟩ := (Spec.applies_iff hf).mp happ
  obtain ⟨hg, hn⟩ := and_e (Cond.before_iff.mp (show (Jvm.Cond.and given_1 narrow_1).before args s = true from hpre))
  obtain ⟨gv0, gr0⟩ := and_e hg
  obtain ⟨w0, rfl⟩ : ∃ w0 : Value, args = #[w0] := by
    have hs : args.size = 1 := by simpa [Cond.value, given_1] using gv0
    obtain ⟨L⟩ := args
    match L, hs with
    | [w0], _ => exact ⟨w0, rfl⟩
  have hw := fun d (hd : d ∈ tables_1) => atoms_spec (ws := Jvm.Cond.code x code maxLocals ret :: tables_1) hat d (List.mem_cons_of_mem _ hd)
  have hfit : Fit s := fun {y c} hc i hi => by
    obtain ⟨ha, rfl⟩ := Array.getElem?_eq_some_iff.mp hc
    have q := List.all_eq_true.mp ((Array.all_eq_true_iff_forall_mem.mp hF) _ (Array.getElem_mem ha)) i (List.mem_range.mpr hi)
    simpa [Array.getElem?_eq_getElem hi] using q
  obtain ⟨i0, ei0⟩ := is_v gr0
  obtain rfl : w0 = (.int i0) := Option.some.inj ei0
  obtain ⟨nw0, nr0⟩ := and_e hn
  obtain ⟨nw1, nr1⟩ := and_e nr0
  obtain ⟨nw2, nr2⟩ := and_e nr1
  obtain ⟨nw3, nr3⟩ := and_e nr2
  obtain ⟨nw4, nr4⟩ := and_e nr3
  obtain ⟨nw5, nr5⟩ := and_e nr4
  obtain ⟨nw6, nr6⟩ := and_e nr5
  obtain ⟨nw7, nr7⟩ := and_e nr6
  obtain ⟨nw8, nr8⟩ := and_e nr7
  obtain ⟨nw9, nr9⟩ := and_e nr8
  obtain ⟨nw10, nr10⟩ := and_e nr9
  obtain ⟨nw11, nr11⟩ := and_e nr10
  obtain ⟨nw12, nr12⟩ := and_e nr11
  obtain ⟨nw13, nr13⟩ := and_e nr12
  obtain ⟨nw14, nr14⟩ := and_e nr13
  obtain ⟨nw15, nr15⟩ := and_e nr14
  obtain ⟨nw16, nr16⟩ := and_e nr15
  obtain ⟨nw17, nr17⟩ := and_e nr16
  obtain ⟨nw18, nr18⟩ := and_e nr17
  obtain ⟨nw19, nr19⟩ := and_e nr18
  obtain ⟨nw20, nr20⟩ := and_e nr19
  obtain ⟨w_LIST, ev_LIST⟩ := exa_v nw0
  obtain ⟨w_SET, ev_SET⟩ := exa_v nw1
  obtain ⟨w_STREAM, ev_STREAM⟩ := exa_v nw2
  obtain ⟨w_PAGE, ev_PAGE⟩ := exa_v nw3
  obtain ⟨w_SLICE, ev_SLICE⟩ := exa_v nw4
  obtain ⟨w_ONE, ev_ONE⟩ := exa_v nw5
  obtain ⟨w_OPTIONAL, ev_OPTIONAL⟩ := exa_v nw6
  obtain ⟨w_LONG, ev_LONG⟩ := exa_v nw7
  obtain ⟨w_INT, ev_INT⟩ := exa_v nw8
  obtain ⟨w_BOOLEAN, ev_BOOLEAN⟩ := exa_v nw9
  obtain ⟨w_VOID, ev_VOID⟩ := exa_v nw10
  have F : own_F s s.heap w_LIST w_SET w_STREAM w_PAGE w_SLICE w_ONE w_OPTIONAL w_LONG w_INT w_BOOLEAN w_VOID := ⟨Sta.start ev_LIST (Or.inr ⟨(hw _ (List.mem_of_getElem? (i := 3) rfl)), (hw _ (List.mem_of_getElem? (i := 4) rfl))⟩), Exa.start ev_LIST nw0, Sta.start ev_SET (Or.inr ⟨(hw _ (List.mem_of_getElem? (i := 3) rfl)), (hw _ (List.mem_of_getElem? (i := 7) rfl))⟩), Exa.start ev_SET nw1, Sta.start ev_STREAM (Or.inr ⟨(hw _ (List.mem_of_getElem? (i := 3) rfl)), (hw _ (List.mem_of_getElem? (i := 9) rfl))⟩), Exa.start ev_STREAM nw2, Sta.start ev_PAGE (Or.inr ⟨(hw _ (List.mem_of_getElem? (i := 3) rfl)), (hw _ (List.mem_of_getElem? (i := 11) rfl))⟩), Exa.start ev_PAGE nw3, Sta.start ev_SLICE (Or.inr ⟨(hw _ (List.mem_of_getElem? (i := 3) rfl)), (hw _ (List.mem_of_getElem? (i := 13) rfl))⟩), Exa.start ev_SLICE nw4, Sta.start ev_ONE (Or.inr ⟨(hw _ (List.mem_of_getElem? (i := 3) rfl)), (hw _ (List.mem_of_getElem? (i := 15) rfl))⟩), Exa.start ev_ONE nw5, Sta.start ev_OPTIONAL (Or.inr ⟨(hw _ (List.mem_of_getElem? (i := 3) rfl)), (hw _ (List.mem_of_getElem? (i := 17) rfl))⟩), Exa.start ev_OPTIONAL nw6, Sta.start ev_LONG (Or.inr ⟨(hw _ (List.mem_of_getElem? (i := 3) rfl)), (hw _ (List.mem_of_getElem? (i := 19) rfl))⟩), Exa.start ev_LONG nw7, Sta.start ev_INT (Or.inr ⟨(hw _ (List.mem_of_getElem? (i := 3) rfl)), (hw _ (List.mem_of_getElem? (i := 21) rfl))⟩), Exa.start ev_INT nw8, Sta.start ev_BOOLEAN (Or.inr ⟨(hw _ (List.mem_of_getElem? (i := 3) rfl)), (hw _ (List.mem_of_getElem? (i := 23) rfl))⟩), Exa.start ev_BOOLEAN nw9, Sta.start ev_VOID (Or.inr ⟨(hw _ (List.mem_of_getElem? (i := 3) rfl)), (hw _ (List.mem_of_getElem? (i := 25) rfl))⟩), Exa.start ev_VOID nw10, Fld.start ((fld_at ev_LIST).symm.trans (own_eqI nw11)), Fld.start ((fld_at ev_LONG).symm.trans (own_eqI nw12)), Fld.start ((fld_at ev_INT).symm.trans (own_eqI nw13)), Fld.start ((fld_at ev_BOOLEAN).symm.trans (own_eqI nw14)), Fld.start ((fld_at ev_VOID).symm.trans (own_eqI nw15)), Fld.start ((fld_at ev_PAGE).symm.trans (own_eqI nw16)), Fld.start ((fld_at ev_STREAM).symm.trans (own_eqI nw17)), Fld.start ((fld_at ev_SET).symm.trans (own_eqI nw18)), Fld.start ((fld_at ev_ONE).symm.trans (own_eqI nw19)), Fld.start ((fld_at ev_OPTIONAL).symm.trans (own_eqI nw20)), Fld.start ((fld_at ev_SLICE).symm.trans (own_eqI nr20))⟩
  obtain ⟨n, o, h1, h2, h3, _, L, rfl, ⟨rfl, N⟩, hq⟩ := own_law l s _ hw tables_1 w_LIST w_SET w_STREAM w_PAGE w_SLICE w_ONE w_OPTIONAL w_LONG w_INT w_BOOLEAN w_VOID s.heap F i0  p e ha hc hk s m _ below hf ((Spec.applies_iff_loose hf).mp happ).1 ⟨rfl, State.Warmed39.refl s, rfl⟩ trivial
  refine ⟨n, _, h1, h2, h3, hpost _ _ _ _ _ _ ⟨Cond.after_iff.mpr rfl, Cond.after_iff.mpr (eq_i res_at (Term.int_eval (1)) rfl), trivial⟩ ⟨hq.1, hq.2.1, (hq.2.2.sift fun y hy => Or.inr (N y hy)).mono (by decide) (by decide)⟩⟩
theorem main_1_1 : Claimed_1_1 := comes_1 fun _ _ _ _ _ _ h hF => ⟨h.1, hF⟩
theorem main_1_2 : Claimed_1_2 := comes_1 fun _ _ _ _ _ _ h hF => ⟨h.2.1, hF⟩
end Jvm.Pilot.@@N@@
namespace Jvm.Pilot.@@N@@
open Jvm Jvm.ClassFile Sem Op Lib Jvm.Free Jvm.Stand Jvm.Pilot.@@N@@.Jvm.D
/-! MADE BY PROGRAM (witnessworld.py) out of the Statement's table words and the real class files: 15 classes; the members and pool entries that the words name. The judged class is class 1, her method 1. -/
namespace start1
open Jvm.ClassFile
def u (s : String) : CpInfo := .utf8 (stringToUtf16 s)
/-- a pool by its gaps: so many unusable entries, then the entry; so many at the end -/
def gap : Nat → List CpInfo → List CpInfo
  | 0, r => r
  | n + 1, r => .unusable :: gap n r
def poolList (es : List (Nat × CpInfo)) (last : Nat) : List CpInfo := es.foldr (fun e r => gap e.1 (e.2 :: r)) (gap last [])
def pool (es : List (Nat × CpInfo)) (last : Nat) : Array CpInfo := ⟨poolList es last⟩
def fileOf (pool : Array CpInfo) (this : Nat) (attrs : Array Attribute := #[]) (ms : Array MethodInfo := #[]) (fl : Nat := 33) (sup : Nat := 0) (ifs : Array Nat := #[]) (fds : Array FieldInfo := #[]) : ClassFile where
  minorVersion := 0
  majorVersion := 65
  constantPool := pool
  accessFlags := fl
  thisClass := this
  superClass := sup
  interfaces := ifs
  fields := fds
  methods := ms
  attributes := attrs
def plain (name : String) (sup : Option ClassId) : Class where
  name := name
  kind := .ordinary
  loader := none
  accessFlags := 33
  super := sup
  interfaces := #[]
  cf := none
  fields := #[]
  methods := #[]
  instanceTypes := #[]
  staticTypes := #[]
  resolved := #[]
  callSites := []
  init := .initialized
  statics := none
  mirror := none

def pool0 : Array CpInfo := pool [(5, u "<init>"), (0, u "()V"), (1, .class_ 10), (1, u "java/lang/Object")] 113

def k0m0 : Method := { name := "<init>", desc := "()V", sig := { parameters := [], returnType := none }, accessFlags := 1, code := none }
/-- java/lang/Object -/
def k0 : Class := { plain "java/lang/Object" none with
  accessFlags := 33
  interfaces := #[]
  cf := some (fileOf pool0 8 #[] #[{ accessFlags := 1, nameIndex := 5, descriptorIndex := 6, attributes := #[] }] 33 0 #[] #[])
  fields := #[]
  methods := #[k0m0]
  instanceTypes := #[]
  staticTypes := #[]
  resolved := Array.replicate 124 none
  statics := none }

def pool1 : Array CpInfo := pool [(2, .class_ 4), (1, u "java/lang/Object"), (0, u "<init>"), (0, u "()V"), (0, .class_ 8), (0, u "com/example/construe/construe/ResultShape"), (0, .fieldref 7 10), (0, .nameAndType 11 12), (0, u "LIST"), (0, u "Lcom/example/construe/construe/ResultShape;"), (0, .fieldref 7 14), (0, .nameAndType 15 12), (0, u "SET"), (0, .fieldref 7 17), (0, .nameAndType 18 12), (0, u "STREAM"), (0, .fieldref 7 20), (0, .nameAndType 21 12), (0, u "PAGE"), (0, .fieldref 7 23), (0, .nameAndType 24 12), (0, u "SLICE"), (0, .fieldref 7 26), (0, .nameAndType 27 12), (0, u "ONE"), (0, .fieldref 7 29), (0, .nameAndType 30 12), (0, u "OPTIONAL"), (0, .fieldref 7 32), (0, .nameAndType 33 12), (0, u "LONG"), (0, .fieldref 7 35), (0, .nameAndType 36 12), (0, u "INT"), (0, .fieldref 7 38), (0, .nameAndType 39 12), (0, u "BOOLEAN"), (0, .fieldref 7 41), (0, .nameAndType 42 12), (0, u "VOID"), (0, .integer 2147483647), (0, .methodref 7 45), (0, .nameAndType 46 47), (0, u "holdsRows"), (0, u "()Z"), (0, .class_ 49), (0, u "com/example/construe/construe/ResultShapeHoldsRowsPinLaw"), (2, u "law"), (0, u "(I)Z")] 7

def k1m0 : Method := { name := "<init>", desc := "()V", sig := { parameters := [], returnType := none }, accessFlags := 1, code := none }
def k1c1 : Code := { maxStack := 4, maxLocals := 4, code := code, exceptionTable := #[], attributes := #[] }
def k1m1 : Method := { name := "law", desc := "(I)Z", sig := { parameters := [.int], returnType := some .boolean }, accessFlags := 9, code := some k1c1 }
/-- com/example/construe/construe/ResultShapeHoldsRowsPinLaw -/
def k1 : Class := { plain "com/example/construe/construe/ResultShapeHoldsRowsPinLaw" (some 0) with
  accessFlags := 49
  interfaces := #[]
  cf := some (fileOf pool1 48 #[] #[{ accessFlags := 1, nameIndex := 5, descriptorIndex := 6, attributes := #[] }, { accessFlags := 9, nameIndex := 52, descriptorIndex := 53, attributes := #[] }] 49 2 #[] #[])
  fields := #[]
  methods := #[k1m0, k1m1]
  instanceTypes := #[]
  staticTypes := #[]
  resolved := Array.replicate 61 none
  statics := none }

def pool2 : Array CpInfo := pool [(1, .class_ 2), (0, u "java/lang/constant/Constable"), (0, .class_ 4), (0, u "java/lang/Object")] 6

/-- java/lang/constant/Constable -/
def k2 : Class := { plain "java/lang/constant/Constable" (some 0) with
  accessFlags := 1537
  interfaces := #[]
  cf := some (fileOf pool2 1 #[] #[] 1537 3 #[] #[])
  fields := #[]
  methods := #[]
  instanceTypes := #[]
  staticTypes := #[]
  resolved := Array.replicate 11 none
  statics := none }

def pool3 : Array CpInfo := pool [(1, .class_ 2), (0, u "java/lang/Comparable"), (0, .class_ 4), (0, u "java/lang/Object")] 7

/-- java/lang/Comparable -/
def k3 : Class := { plain "java/lang/Comparable" (some 0) with
  accessFlags := 1537
  interfaces := #[]
  cf := some (fileOf pool3 1 #[] #[] 1537 3 #[] #[])
  fields := #[]
  methods := #[]
  instanceTypes := #[]
  staticTypes := #[]
  resolved := Array.replicate 12 none
  statics := none }

def pool4 : Array CpInfo := pool [(1, .class_ 2), (0, u "java/io/Serializable"), (0, .class_ 4), (0, u "java/lang/Object")] 2

/-- java/io/Serializable -/
def k4 : Class := { plain "java/io/Serializable" (some 0) with
  accessFlags := 1537
  interfaces := #[]
  cf := some (fileOf pool4 1 #[] #[] 1537 3 #[] #[])
  fields := #[]
  methods := #[]
  instanceTypes := #[]
  staticTypes := #[]
  resolved := Array.replicate 7 none
  statics := none }

def pool5 : Array CpInfo := pool [(2, .class_ 4), (1, u "java/lang/Enum"), (0, u "name"), (0, u "Ljava/lang/String;"), (2, u "ordinal"), (0, u "I"), (1, .class_ 14), (1, u "java/lang/Object"), (4, u "hash"), (86, .class_ 108), (1, u "java/lang/Enum$EnumDesc"), (2, .class_ 112), (0, u "java/lang/constant/Constable"), (0, .class_ 114), (0, u "java/lang/Comparable"), (0, .class_ 116), (0, u "java/io/Serializable")] 87

/-- java/lang/Enum -/
def k5 : Class := { plain "java/lang/Enum" (some 0) with
  accessFlags := 1057
  interfaces := #[2, 3, 4]
  cf := some (fileOf pool5 2 #[.nestMembers #[106]] #[] 1057 12 #[111, 113, 115] #[{ accessFlags := 18, nameIndex := 5, descriptorIndex := 6, attributes := #[] }, { accessFlags := 18, nameIndex := 9, descriptorIndex := 10, attributes := #[] }, { accessFlags := 2, nameIndex := 19, descriptorIndex := 10, attributes := #[] }])
  fields := #[{ name := "name", type := (.object "java/lang/String"), accessFlags := 18, slot := 0, constantValue := 0 }, { name := "ordinal", type := .int, accessFlags := 18, slot := 1, constantValue := 0 }, { name := "hash", type := .int, accessFlags := 2, slot := 2, constantValue := 0 }]
  methods := #[]
  instanceTypes := #[(.object "java/lang/String"), .int, .int]
  staticTypes := #[]
  resolved := Array.replicate 204 none
  statics := none }

def pool6 : Array CpInfo := pool [(1, .class_ 2), (0, u "com/example/construe/construe/ResultShape"), (2, u "LIST"), (0, u "Lcom/example/construe/construe/ResultShape;"), (2, u "SET"), (2, u "STREAM"), (2, u "PAGE"), (2, u "SLICE"), (2, u "ONE"), (2, u "OPTIONAL"), (0, .fieldref 1 26), (0, .nameAndType 27 6), (0, u "LONG"), (0, .fieldref 1 29), (0, .nameAndType 30 6), (0, u "INT"), (0, .fieldref 1 32), (0, .nameAndType 33 6), (0, u "BOOLEAN"), (0, .fieldref 1 35), (0, .nameAndType 36 6), (0, u "VOID"), (2, u "$VALUES"), (0, u "[Lcom/example/construe/construe/ResultShape;"), (6, .class_ 49), (1, u "java/lang/Enum"), (14, u "holders"), (0, u "Ljava/util/List;"), (2, u "value"), (0, u "Ljava/lang/String;"), (92, u "()Z"), (57, u "OF_ENTITY"), (0, u "Ljava/util/Map;"), (13, u "OF_VALUE"), (98, u "holdsRows")] 112

def k6c0 : Code := { maxStack := 2, maxLocals := 1, code := prog_90_method_6_code, exceptionTable := #[], attributes := #[] }
def k6m0 : Method := { name := "holdsRows", desc := "()Z", sig := { parameters := [], returnType := some .boolean }, accessFlags := 0, code := some k6c0 }
/-- com/example/construe/construe/ResultShape -/
def k6 : Class := { plain "com/example/construe/construe/ResultShape" (some 5) with
  accessFlags := 16432
  interfaces := #[]
  cf := some (fileOf pool6 1 #[] #[{ accessFlags := 0, nameIndex := 334, descriptorIndex := 162, attributes := #[] }] 16432 47 #[] #[{ accessFlags := 16409, nameIndex := 5, descriptorIndex := 6, attributes := #[] }, { accessFlags := 16409, nameIndex := 9, descriptorIndex := 6, attributes := #[] }, { accessFlags := 16409, nameIndex := 12, descriptorIndex := 6, attributes := #[] }, { accessFlags := 16409, nameIndex := 15, descriptorIndex := 6, attributes := #[] }, { accessFlags := 16409, nameIndex := 18, descriptorIndex := 6, attributes := #[] }, { accessFlags := 16409, nameIndex := 21, descriptorIndex := 6, attributes := #[] }, { accessFlags := 16409, nameIndex := 24, descriptorIndex := 6, attributes := #[] }, { accessFlags := 16409, nameIndex := 27, descriptorIndex := 6, attributes := #[] }, { accessFlags := 16409, nameIndex := 30, descriptorIndex := 6, attributes := #[] }, { accessFlags := 16409, nameIndex := 33, descriptorIndex := 6, attributes := #[] }, { accessFlags := 16409, nameIndex := 36, descriptorIndex := 6, attributes := #[] }, { accessFlags := 26, nameIndex := 220, descriptorIndex := 221, attributes := #[] }, { accessFlags := 26, nameIndex := 235, descriptorIndex := 221, attributes := #[] }, { accessFlags := 18, nameIndex := 64, descriptorIndex := 65, attributes := #[] }, { accessFlags := 18, nameIndex := 68, descriptorIndex := 69, attributes := #[] }, { accessFlags := 4122, nameIndex := 39, descriptorIndex := 40, attributes := #[] }])
  fields := #[{ name := "LIST", type := (.object "com/example/construe/construe/ResultShape"), accessFlags := 16409, slot := 0, constantValue := 0 }, { name := "SET", type := (.object "com/example/construe/construe/ResultShape"), accessFlags := 16409, slot := 1, constantValue := 0 }, { name := "STREAM", type := (.object "com/example/construe/construe/ResultShape"), accessFlags := 16409, slot := 2, constantValue := 0 }, { name := "PAGE", type := (.object "com/example/construe/construe/ResultShape"), accessFlags := 16409, slot := 3, constantValue := 0 }, { name := "SLICE", type := (.object "com/example/construe/construe/ResultShape"), accessFlags := 16409, slot := 4, constantValue := 0 }, { name := "ONE", type := (.object "com/example/construe/construe/ResultShape"), accessFlags := 16409, slot := 5, constantValue := 0 }, { name := "OPTIONAL", type := (.object "com/example/construe/construe/ResultShape"), accessFlags := 16409, slot := 6, constantValue := 0 }, { name := "LONG", type := (.object "com/example/construe/construe/ResultShape"), accessFlags := 16409, slot := 7, constantValue := 0 }, { name := "INT", type := (.object "com/example/construe/construe/ResultShape"), accessFlags := 16409, slot := 8, constantValue := 0 }, { name := "BOOLEAN", type := (.object "com/example/construe/construe/ResultShape"), accessFlags := 16409, slot := 9, constantValue := 0 }, { name := "VOID", type := (.object "com/example/construe/construe/ResultShape"), accessFlags := 16409, slot := 10, constantValue := 0 }, { name := "OF_ENTITY", type := (.object "java/util/Map"), accessFlags := 26, slot := 11, constantValue := 0 }, { name := "OF_VALUE", type := (.object "java/util/Map"), accessFlags := 26, slot := 12, constantValue := 0 }, { name := "holders", type := (.object "java/util/List"), accessFlags := 18, slot := 3, constantValue := 0 }, { name := "value", type := (.object "java/lang/String"), accessFlags := 18, slot := 4, constantValue := 0 }, { name := "$VALUES", type := (.array (.object "com/example/construe/construe/ResultShape")), accessFlags := 4122, slot := 13, constantValue := 0 }]
  methods := #[k6m0]
  instanceTypes := #[(.object "java/lang/String"), .int, .int, (.object "java/util/List"), (.object "java/lang/String")]
  staticTypes := #[(.object "com/example/construe/construe/ResultShape"), (.object "com/example/construe/construe/ResultShape"), (.object "com/example/construe/construe/ResultShape"), (.object "com/example/construe/construe/ResultShape"), (.object "com/example/construe/construe/ResultShape"), (.object "com/example/construe/construe/ResultShape"), (.object "com/example/construe/construe/ResultShape"), (.object "com/example/construe/construe/ResultShape"), (.object "com/example/construe/construe/ResultShape"), (.object "com/example/construe/construe/ResultShape"), (.object "com/example/construe/construe/ResultShape"), (.object "java/util/Map"), (.object "java/util/Map"), (.array (.object "com/example/construe/construe/ResultShape"))]
  resolved := Array.replicate 447 none
  statics := some 0 }

def pool7 : Array CpInfo := pool [(1, u "java/lang/Cloneable"), (0, .class_ 1), (0, u "java/lang/Object"), (0, .class_ 3)] 3

/-- java/lang/Cloneable -/
def k7 : Class := { plain "java/lang/Cloneable" (some 0) with
  accessFlags := 1537
  interfaces := #[]
  cf := some (fileOf pool7 2 #[] #[] 1537 4 #[] #[])
  fields := #[]
  methods := #[]
  instanceTypes := #[]
  staticTypes := #[]
  resolved := Array.replicate 8 none
  statics := none }

/-- the primitive boolean -/
def k8 : Class := { plain "boolean" none with kind := .primitive 'Z', accessFlags := 0x411 }
/-- [Z -/
def k9 : Class := { plain "[Z" (some 0) with kind := .array 8 .boolean, interfaces := #[7, 4], accessFlags := 1041 }

/-- the primitive byte -/
def k10 : Class := { plain "byte" none with kind := .primitive 'B', accessFlags := 0x411 }
/-- [B -/
def k11 : Class := { plain "[B" (some 0) with kind := .array 10 .byte, interfaces := #[7, 4], accessFlags := 1041 }

/-- the primitive int -/
def k12 : Class := { plain "int" none with kind := .primitive 'I', accessFlags := 0x411 }
/-- [I -/
def k13 : Class := { plain "[I" (some 0) with kind := .array 12 .int, interfaces := #[7, 4], accessFlags := 1041 }

/-- [Lcom/example/construe/construe/ResultShape; -/
def k14 : Class := { plain "[Lcom/example/construe/construe/ResultShape;" (some 0) with kind := .array 6 (.object "com/example/construe/construe/ResultShape"), interfaces := #[7, 4], accessFlags := 1041 }

def heap : Heap := #[{ cls := 6, slots := #[.ref 1, .ref 2, .ref 3, .ref 4, .ref 5, .ref 6, .ref 7, .ref 8, .ref 9, .ref 10, .ref 11, .null, .null, .null], vm := .statics 6 },
  { cls := 6, slots := #[.null, .int 0, .int 0, .null, .null], vm := .none },
  { cls := 6, slots := #[.null, .int 1, .int 0, .null, .null], vm := .none },
  { cls := 6, slots := #[.null, .int 2, .int 0, .null, .null], vm := .none },
  { cls := 6, slots := #[.null, .int 3, .int 0, .null, .null], vm := .none },
  { cls := 6, slots := #[.null, .int 4, .int 0, .null, .null], vm := .none },
  { cls := 6, slots := #[.null, .int 5, .int 0, .null, .null], vm := .none },
  { cls := 6, slots := #[.null, .int 6, .int 0, .null, .null], vm := .none },
  { cls := 6, slots := #[.null, .int 7, .int 0, .null, .null], vm := .none },
  { cls := 6, slots := #[.null, .int 8, .int 0, .null, .null], vm := .none },
  { cls := 6, slots := #[.null, .int 9, .int 0, .null, .null], vm := .none },
  { cls := 6, slots := #[.null, .int 10, .int 0, .null, .null], vm := .none }]
def classes : Array Class := #[k0, k1, k2, k3, k4, k5, k6, k7, k8, k9, k10, k11, k12, k13, k14]
def interned : List (Array UInt16 × Addr) := []
def slotsUsed : Nat := 69
def theMethod : MethodId := ⟨1, 1⟩
def args0 : Array Value := #[.int 5]
def aboutOver (below : List Frame) : State where
  vm := { classes := classes, interned := interned.toArray }
  heap := heap
  slotsUsed := slotsUsed
  threads := #[{ frames := .invoking theMethod args0 :: below }]
def below0 : List Frame := [.native { method := ⟨0, 0⟩, args := #[] }]
def about1 : State := aboutOver below0
def p0 : Program := .bare "" "" ""
def e0 : Env := launch0.env 0 0 0
theorem w_frames : about1.frames = Frame.invoking theMethod args0 :: below0 := rfl
set_option maxRecDepth 65536 in
theorem w_args : argsFit about1.vm theMethod args0 = true := by decide +kernel
set_option maxRecDepth 65536 in
theorem w_heap : heapFits about1 = true := by decide +kernel
set_option maxRecDepth 65536 in
theorem w_runnable : about1.curStatus? = some .runnable := by decide +kernel
set_option maxRecDepth 65536 in
theorem w_alone : about1.alone = true := by decide +kernel
set_option maxRecDepth 65536 in
theorem w_named : about1.methodNamed? x = some theMethod := by decide +kernel
set_option maxRecDepth 65536 in
theorem w_hears : about1.hears theMethod below0 = true := by decide +kernel
set_option maxRecDepth 65536 in
theorem w_ripe : about1.ripe theMethod args0 below0 = true := by decide +kernel
theorem w_running : about1.status = .running := rfl
set_option maxRecDepth 65536 in
theorem w_room : about1.hasRoom e0.platform room_1 = true :=
  launch0.hasRoom_least _ room_1 (by decide +kernel) (by decide +kernel) (by decide +kernel) (by decide +kernel) (by decide +kernel) (by decide +kernel)
theorem allAtoms_all (ts : List Jvm.Cond) (a : Array Jvm.Value) (st : Jvm.State) : (allAtoms ts).before a st = ts.all (fun c => c.before a st) := by
  induction ts with
  | nil => rfl
  | cons c t ih =>
    show (Jvm.Cond.and c (allAtoms t)).before a st = _
    rw [Jvm.Cond.before_and, ih, List.all_cons]
def words1 : List Jvm.Cond := Jvm.Cond.code x code maxLocals ret :: tables_1
/-- a 'code' word, met by the world's own term for the bytes: nothing is compared byte by byte -/
theorem code_word {y : MethodName} {bytes : ByteArray} {mx : Nat} {rt : Option FieldType} {a : Array Value} {s : State} {m : MethodId} {meth : Method} {c : Code} (h1 : s.methodNamed? y = some m) (h2 : s.vm.method? m = some meth) (h3 : meth.code = some c) (h4 : c.code = bytes)
    (h5 : (c.maxLocals == mx && c.exceptionTable.isEmpty && decide (c.maxStack ≤ mostOperands) && decide (meth.sig.returnType = rt) && !meth.locks && decide (parseMethodDescriptor y.desc = some meth.sig)) = true) : (Jvm.Cond.code y bytes mx rt).before a s = true := by
  simp only [Bool.and_eq_true, beq_iff_eq, Bool.not_eq_true', decide_eq_true_eq] at h5
  obtain ⟨⟨⟨⟨⟨g1, g2⟩, g3⟩, g4⟩, g5⟩, g6⟩ := h5
  simp [Cond.before, Cond.holds, Cond.value, h1, h2, h3, h4, g1, g2, g3, g4, g5, g6]
def isCode : Jvm.Cond → Bool
  | .code _ _ _ _ => true
  | _ => false
theorem all_split {L : List Jvm.Cond} {P : Jvm.Cond → Bool} (h1 : L.all (fun c => isCode c || P c) = true) (h2 : ∀ c ∈ L.filter isCode, P c = true) : L.all P = true := by
  refine List.all_eq_true.mpr fun c hc => ?_
  have h := List.all_eq_true.mp h1 c hc
  rcases Bool.eq_false_or_eq_true (isCode c) with hi | hi
  · exact h2 c (List.mem_filter.mpr ⟨hc, hi⟩)
  · simpa [hi] using h
set_option maxRecDepth 65536 in
theorem w_c0 : (Jvm.Cond.code x code maxLocals ret).before args0 about1 = true := code_word (m := ⟨1, 1⟩) (meth := k1m1) (c := k1c1) (by decide +kernel) rfl rfl rfl (by decide +kernel)
set_option maxRecDepth 65536 in
theorem w_c1 : (Jvm.Cond.code ({ cls := "com/example/construe/construe/ResultShape", name := "holdsRows", desc := "()Z" } : Jvm.MethodName) prog_90_method_6_code (1 : Nat) (Option.some Jvm.ClassFile.FieldType.boolean)).before args0 about1 = true := code_word (m := ⟨6, 0⟩) (meth := k6m0) (c := k6c0) (by decide +kernel) rfl rfl rfl (by decide +kernel)
def codes1 : List Jvm.Cond := [Jvm.Cond.code x code maxLocals ret, Jvm.Cond.code ({ cls := "com/example/construe/construe/ResultShape", name := "holdsRows", desc := "()Z" } : Jvm.MethodName) prog_90_method_6_code (1 : Nat) (Option.some Jvm.ClassFile.FieldType.boolean)]
set_option maxRecDepth 65536 in
theorem codes_eq : words1.filter isCode = codes1 := rfl
theorem w_codes : ∀ c ∈ words1.filter isCode, c.before args0 about1 = true := by
  rw [codes_eq]
  intro c hc
  simp only [codes1, List.mem_cons, List.not_mem_nil, or_false] at hc
  rcases hc with rfl | rfl
  · exact w_c0
  · exact w_c1
set_option maxRecDepth 65536 in
theorem w_t1 : (words1.take 24).all (fun c => isCode c || c.before args0 about1) = true := by decide +kernel
set_option maxRecDepth 65536 in
theorem w_t2 : (words1.drop 24).all (fun c => isCode c || c.before args0 about1) = true := by decide +kernel
theorem w_tables : (allAtoms (Jvm.Cond.code x code maxLocals ret :: tables_1)).before args0 about1 = true := by
  rw [allAtoms_all]
  show words1.all (fun c => c.before args0 about1) = true
  refine all_split ?_ w_codes
  rw [← List.take_append_drop 24 words1, List.all_append, w_t1, w_t2]
  rfl
set_option maxRecDepth 65536 in
theorem w_case : (Jvm.Cond.and given_1 narrow_1).before args0 about1 = true := by decide +kernel
theorem w_applies : (headSpec (Jvm.Cond.code x code maxLocals ret :: tables_1) room_1).applies x e0.platform about1 = true :=
  (Spec.applies_iff w_frames).mpr ⟨w_running, w_runnable, w_alone, w_named, w_hears, w_ripe, w_room, w_tables⟩
theorem atStart : AtStart classFile x code maxLocals ret World_1 tables_1 room_1 Calls_1 rest_1 Pre_1 launch0 p0 e0 about1 theMethod args0 below0 :=
  ⟨lists_1, trivial, launch0.admits_env _ _ _, launch0.least_env, fairChoices_fair.cas, fairChoices_fair.clock, w_frames, w_args, w_heap, w_applies, trivial, trivial, w_case⟩
end start1
theorem witness_1 : WitnessClaimed_1 := ⟨start1.p0, start1.e0, start1.about1, start1.theMethod, start1.args0, start1.below0, start1.atStart⟩
end Jvm.Pilot.@@N@@
